/-
  decodeUint64 (19) and ZZdecodeUint64 (10) at whatever bytes: 'dec'.
-/
import Derived.Test.Qxb6619351aDec
namespace Go.Proofs.Qxb6619351a
open Go.RowKit Plain

set_option maxRecDepth 100000 in
theorem dec_empty (ao : Option Addr) (c : Nat) (w : World) :
    Calls Try.prog 19 #[.slice ao 0 c] w fun e w' => e = .returned (.agg #[.int .u64 0, .int .i64 0]) ∧ Below w.heap.size w w' := by
  go_enter Try.func19, Try.ntmps19
  go_wp2
  refine bodyPost_ret (v := .agg #[.int .u64 0, .int .i64 0]) ?_ rfl ⟨rfl, ?_⟩
  · simp [results, Try.results19, go_sem]
  · repeat (first | exact Below.refl _ _ | refine Below.drew ?_ | refine Below.alloc ?_ (by simp <;> omega) _)

set_option maxRecDepth 100000 in
theorem dec_short (g o n c : Nat) (b0 : Int) (l0 : 0 ≤ b0) (u0 : b0 ≤ 255) (w : World) (hn : 1 ≤ n) (ha : n < ann b0) (c0 : w.cell? ⟨g, o, none⟩ = some (.int .u8 b0)) :
    Calls Try.prog 19 #[.slice (some ⟨g, o, none⟩) n c] w fun e w' => e = .returned (.agg #[.int .u64 0, .int .i64 0]) ∧ Below w.heap.size w w' := by
  have d0 := fun x => cell_new x c0
  have n0 : 0 < n := by omega
  have hl : (n : Int) < (ann b0 : Int) := by omega
  go_enter Try.func19, Try.ntmps19
  go_wp2_with (go_at_call 16; refine (len_any b0 _ l0 u0).mono ?_; rintro e w' ⟨rfl, rfl⟩)
  refine bodyPost_ret (v := .agg #[.int .u64 0, .int .i64 0]) ?_ rfl ⟨rfl, ?_⟩
  · simp [results, Try.results19, go_sem]
  · repeat (first | exact Below.refl _ _ | refine Below.drew ?_ | refine Below.alloc ?_ (by simp <;> omega) _)

theorem ann_bd (b : Int) (h0 : 0 ≤ b) (h1 : b ≤ 255) : 1 ≤ ann b ∧ ann b ≤ 9 := by
  have := ntz8_le b h0 h1
  unfold ann
  omega

theorem dec_any (g o cap : Nat) (zs : List Int) (w : World) (hb : ∀ z ∈ zs, 0 ≤ z ∧ z ≤ 255) (hc : zs.length ≤ cap) (hm : cap ≤ maxLen)
    (hcell : ∀ i z, zs[i]? = some z → w.cell? ⟨g, o + i, none⟩ = some (.int .u8 z)) :
    Calls Try.prog 19 #[.slice (some ⟨g, o, none⟩) zs.length cap] w fun e w' => e = .returned (.agg #[.int .u64 (dec zs).1, .int .i64 (dec zs).2]) ∧ Below w.heap.size w w' := by
  match zs, hb, hc, hcell with
  | [], _, _, _ => exact dec_empty _ _ _
  | b0 :: r, hb, hc, hcell =>
    obtain ⟨l0, u0⟩ := hb b0 (by simp)
    have c0 : w.cell? ⟨g, o, none⟩ = some (.int .u8 b0) := hcell 0 b0 rfl
    have han := ann_bd b0 l0 u0
    by_cases hlt : (b0 :: r).length < ann b0
    · have e : dec (b0 :: r) = (0, 0) := by simp only [dec]; rw [if_pos hlt]
      rw [e]
      exact dec_short g o _ _ b0 l0 u0 w (by simp) hlt c0
    · have e : dec (b0 :: r) = (val (ann b0) (b0 :: r), ann b0) := by simp only [dec]; rw [if_neg hlt]
      rw [e]
      rcases (show ann b0 = 1 ∨ ann b0 = 2 ∨ ann b0 = 3 ∨ ann b0 = 4 ∨ ann b0 = 5 ∨ ann b0 = 6 ∨ ann b0 = 7 ∨ ann b0 = 8 ∨ ann b0 = 9 by omega) with h | h | h | h | h | h | h | h | h
      · rw [h]
        exact dec1 g o _ _ b0 l0 u0 w (by simp) hc hm h c0
      · rw [h] at hlt ⊢
        match r, hb, hc, hcell, hlt with
        | b1 :: q, hb, hc, hcell, hlt => exact dec2 g o _ _ b0 b1 l0 u0 (hb b1 (by simp)).1 (hb b1 (by simp)).2 w (by simp) hc hm h c0 (hcell 1 b1 rfl)
        |  [], _, _, _, hlt => simp at hlt
      · rw [h] at hlt ⊢
        match r, hb, hc, hcell, hlt with
        | b1 :: b2 :: q, hb, hc, hcell, hlt => exact dec3 g o _ _ b0 b1 b2 l0 u0 (hb b1 (by simp)).1 (hb b1 (by simp)).2 (hb b2 (by simp)).1 (hb b2 (by simp)).2 w (by simp) hc hm h c0 (hcell 1 b1 rfl) (hcell 2 b2 rfl)
        |  [], _, _, _, hlt => simp at hlt
        | b1 :: [], _, _, _, hlt => simp at hlt
      · rw [h] at hlt ⊢
        match r, hb, hc, hcell, hlt with
        | b1 :: b2 :: b3 :: q, hb, hc, hcell, hlt => exact dec4 g o _ _ b0 b1 b2 b3 l0 u0 (hb b1 (by simp)).1 (hb b1 (by simp)).2 (hb b2 (by simp)).1 (hb b2 (by simp)).2 (hb b3 (by simp)).1 (hb b3 (by simp)).2 w (by simp) hc hm h c0 (hcell 1 b1 rfl) (hcell 2 b2 rfl) (hcell 3 b3 rfl)
        |  [], _, _, _, hlt => simp at hlt
        | b1 :: [], _, _, _, hlt => simp at hlt
        | b1 :: b2 :: [], _, _, _, hlt => simp at hlt
      · rw [h] at hlt ⊢
        match r, hb, hc, hcell, hlt with
        | b1 :: b2 :: b3 :: b4 :: q, hb, hc, hcell, hlt => exact dec5 g o _ _ b0 b1 b2 b3 b4 l0 u0 (hb b1 (by simp)).1 (hb b1 (by simp)).2 (hb b2 (by simp)).1 (hb b2 (by simp)).2 (hb b3 (by simp)).1 (hb b3 (by simp)).2 (hb b4 (by simp)).1 (hb b4 (by simp)).2 w (by simp) hc hm h c0 (hcell 1 b1 rfl) (hcell 2 b2 rfl) (hcell 3 b3 rfl) (hcell 4 b4 rfl)
        |  [], _, _, _, hlt => simp at hlt
        | b1 :: [], _, _, _, hlt => simp at hlt
        | b1 :: b2 :: [], _, _, _, hlt => simp at hlt
        | b1 :: b2 :: b3 :: [], _, _, _, hlt => simp at hlt
      · rw [h] at hlt ⊢
        match r, hb, hc, hcell, hlt with
        | b1 :: b2 :: b3 :: b4 :: b5 :: q, hb, hc, hcell, hlt => exact dec6 g o _ _ b0 b1 b2 b3 b4 b5 l0 u0 (hb b1 (by simp)).1 (hb b1 (by simp)).2 (hb b2 (by simp)).1 (hb b2 (by simp)).2 (hb b3 (by simp)).1 (hb b3 (by simp)).2 (hb b4 (by simp)).1 (hb b4 (by simp)).2 (hb b5 (by simp)).1 (hb b5 (by simp)).2 w (by simp) hc hm h c0 (hcell 1 b1 rfl) (hcell 2 b2 rfl) (hcell 3 b3 rfl) (hcell 4 b4 rfl) (hcell 5 b5 rfl)
        |  [], _, _, _, hlt => simp at hlt
        | b1 :: [], _, _, _, hlt => simp at hlt
        | b1 :: b2 :: [], _, _, _, hlt => simp at hlt
        | b1 :: b2 :: b3 :: [], _, _, _, hlt => simp at hlt
        | b1 :: b2 :: b3 :: b4 :: [], _, _, _, hlt => simp at hlt
      · rw [h] at hlt ⊢
        match r, hb, hc, hcell, hlt with
        | b1 :: b2 :: b3 :: b4 :: b5 :: b6 :: q, hb, hc, hcell, hlt => exact dec7 g o _ _ b0 b1 b2 b3 b4 b5 b6 l0 u0 (hb b1 (by simp)).1 (hb b1 (by simp)).2 (hb b2 (by simp)).1 (hb b2 (by simp)).2 (hb b3 (by simp)).1 (hb b3 (by simp)).2 (hb b4 (by simp)).1 (hb b4 (by simp)).2 (hb b5 (by simp)).1 (hb b5 (by simp)).2 (hb b6 (by simp)).1 (hb b6 (by simp)).2 w (by simp) hc hm h c0 (hcell 1 b1 rfl) (hcell 2 b2 rfl) (hcell 3 b3 rfl) (hcell 4 b4 rfl) (hcell 5 b5 rfl) (hcell 6 b6 rfl)
        |  [], _, _, _, hlt => simp at hlt
        | b1 :: [], _, _, _, hlt => simp at hlt
        | b1 :: b2 :: [], _, _, _, hlt => simp at hlt
        | b1 :: b2 :: b3 :: [], _, _, _, hlt => simp at hlt
        | b1 :: b2 :: b3 :: b4 :: [], _, _, _, hlt => simp at hlt
        | b1 :: b2 :: b3 :: b4 :: b5 :: [], _, _, _, hlt => simp at hlt
      · rw [h] at hlt ⊢
        match r, hb, hc, hcell, hlt with
        | b1 :: b2 :: b3 :: b4 :: b5 :: b6 :: b7 :: q, hb, hc, hcell, hlt => exact dec8 g o _ _ b0 b1 b2 b3 b4 b5 b6 b7 l0 u0 (hb b1 (by simp)).1 (hb b1 (by simp)).2 (hb b2 (by simp)).1 (hb b2 (by simp)).2 (hb b3 (by simp)).1 (hb b3 (by simp)).2 (hb b4 (by simp)).1 (hb b4 (by simp)).2 (hb b5 (by simp)).1 (hb b5 (by simp)).2 (hb b6 (by simp)).1 (hb b6 (by simp)).2 (hb b7 (by simp)).1 (hb b7 (by simp)).2 w (by simp) hc hm h c0 (hcell 1 b1 rfl) (hcell 2 b2 rfl) (hcell 3 b3 rfl) (hcell 4 b4 rfl) (hcell 5 b5 rfl) (hcell 6 b6 rfl) (hcell 7 b7 rfl)
        |  [], _, _, _, hlt => simp at hlt
        | b1 :: [], _, _, _, hlt => simp at hlt
        | b1 :: b2 :: [], _, _, _, hlt => simp at hlt
        | b1 :: b2 :: b3 :: [], _, _, _, hlt => simp at hlt
        | b1 :: b2 :: b3 :: b4 :: [], _, _, _, hlt => simp at hlt
        | b1 :: b2 :: b3 :: b4 :: b5 :: [], _, _, _, hlt => simp at hlt
        | b1 :: b2 :: b3 :: b4 :: b5 :: b6 :: [], _, _, _, hlt => simp at hlt
      · rw [h] at hlt ⊢
        match r, hb, hc, hcell, hlt with
        | b1 :: b2 :: b3 :: b4 :: b5 :: b6 :: b7 :: b8 :: q, hb, hc, hcell, hlt => exact dec9 g o _ _ b0 b1 b2 b3 b4 b5 b6 b7 b8 l0 u0 (hb b1 (by simp)).1 (hb b1 (by simp)).2 (hb b2 (by simp)).1 (hb b2 (by simp)).2 (hb b3 (by simp)).1 (hb b3 (by simp)).2 (hb b4 (by simp)).1 (hb b4 (by simp)).2 (hb b5 (by simp)).1 (hb b5 (by simp)).2 (hb b6 (by simp)).1 (hb b6 (by simp)).2 (hb b7 (by simp)).1 (hb b7 (by simp)).2 (hb b8 (by simp)).1 (hb b8 (by simp)).2 w (by simp) hc hm h c0 (hcell 1 b1 rfl) (hcell 2 b2 rfl) (hcell 3 b3 rfl) (hcell 4 b4 rfl) (hcell 5 b5 rfl) (hcell 6 b6 rfl) (hcell 7 b7 rfl) (hcell 8 b8 rfl)
        |  [], _, _, _, hlt => simp at hlt
        | b1 :: [], _, _, _, hlt => simp at hlt
        | b1 :: b2 :: [], _, _, _, hlt => simp at hlt
        | b1 :: b2 :: b3 :: [], _, _, _, hlt => simp at hlt
        | b1 :: b2 :: b3 :: b4 :: [], _, _, _, hlt => simp at hlt
        | b1 :: b2 :: b3 :: b4 :: b5 :: [], _, _, _, hlt => simp at hlt
        | b1 :: b2 :: b3 :: b4 :: b5 :: b6 :: [], _, _, _, hlt => simp at hlt
        | b1 :: b2 :: b3 :: b4 :: b5 :: b6 :: b7 :: [], _, _, _, hlt => simp at hlt

set_option maxRecDepth 100000 in
set_option maxHeartbeats 1000000 in
/-- ZZdecodeUint64: the struct's two fields. -/
theorem zzdec_of (sv : Value) (v k : Int) (w : World)
    (H : Calls Try.prog 19 #[sv] w fun e w' => e = .returned (.agg #[.int .u64 v, .int .i64 k]) ∧ Below w.heap.size w w') :
    Calls Try.prog 10 #[sv] w fun e w' => e = .returned (.tuple #[.int .u64 v, .int .i64 k]) ∧ Below w.heap.size w w' := by
  go_enter Try.func10, Try.ntmps10
  go_wp2_with (go_at_call 19; refine H.mono ?_; rintro e w1 ⟨rfl, hb⟩)
  go_region
  all_goals (try go_wp2)
  all_goals go_ret2
  all_goals exact ⟨rfl, ((hb.alloc hb.size _).drew)⟩

theorem zzdec_any (g o cap : Nat) (zs : List Int) (w : World) (hb : ∀ z ∈ zs, 0 ≤ z ∧ z ≤ 255) (hc : zs.length ≤ cap) (hm : cap ≤ maxLen)
    (hcell : ∀ i z, zs[i]? = some z → w.cell? ⟨g, o + i, none⟩ = some (.int .u8 z)) :
    Calls Try.prog 10 #[.slice (some ⟨g, o, none⟩) zs.length cap] w fun e w' => e = .returned (.tuple #[.int .u64 (dec zs).1, .int .i64 (dec zs).2]) ∧ Below w.heap.size w w' :=
  zzdec_of _ _ _ _ (dec_any g o cap zs w hb hc hm hcell)

end Go.Proofs.Qxb6619351a
