/-
  cloneBytes (7): a fresh copy, without spare room; nil stays nil.
-/
import Derived.Test.Qxb6619351aFin
import Derived.WalkSpells
import Derived.LoopTactic
import Derived.OpenShut
namespace Go.Proofs.Qxb6619351a
open Go.RowKit Plain

/-- A fresh copy of zs, or nil: its base; a row of bytes from block B on. -/
def Tight (B : Nat) (w : World) (ao : Option Addr) (zs : List Int) : Prop :=
  (ao = none ∧ zs = []) ∨ ∃ g, ao = some ⟨g, 0, none⟩ ∧ B ≤ g ∧ g < w.heap.size ∧ ∀ i z, zs[i]? = some z → w.cell? ⟨g, i, none⟩ = some (.int .u8 z)

theorem Tight.below {B : Nat} {w w' : World} {ao : Option Addr} {zs : List Int} (h : Tight B w ao zs) (hb : Below w.heap.size w w') : Tight B w' ao zs := by
  rcases h with h | ⟨g, h1, h2, h3, h4⟩
  · exact .inl h
  · exact .inr ⟨g, h1, h2, Nat.lt_of_lt_of_le h3 hb.size, fun i z hz => (hb.cell (p := ⟨g, i, none⟩) h3).trans (h4 i z hz)⟩

/-- Where there is a byte there is a base. -/
theorem Tight.at {B : Nat} {w : World} {ao : Option Addr} {zs : List Int} (h : Tight B w ao zs) {k : Nat} (hk : k < zs.length) :
    ∃ g, ao = some ⟨g, 0, none⟩ ∧ g < w.heap.size ∧ w.cell? ⟨g, k, none⟩ = some (.int .u8 (zs.getD k 0)) := by
  rcases h with ⟨_, rfl⟩ | ⟨g, h1, h2, h3, h4⟩
  · simp at hk
  · exact ⟨g, h1, h3, h4 k _ (by rw [List.getD_eq_getElem?_getD, List.getElem?_eq_getElem hk]; rfl)⟩

theorem Tight.src {B : Nat} {w : World} {ao : Option Addr} {zs : List Int} (h : Tight B w ao zs) (B' : Nat) : Src B' w (.slice ao zs.length zs.length) zs.length (bcells zs) := by
  rcases h with ⟨rfl, rfl⟩ | ⟨g, rfl, h2, h3, h4⟩
  · exact .inl (World.ownsRow_nil _ _ _ _)
  · refine .inr ⟨⟨g, 0, none⟩, rfl, by simp [bcells], fun j u hu => ?_⟩
    have hadd : (⟨g, 0, none⟩ : Addr).add j = ⟨g, j, none⟩ := by unfold Addr.add; split <;> simp_all
    rw [hadd]
    simp only [bcells, List.getElem?_map, Option.map_eq_some_iff] at hu
    obtain ⟨z, hz, rfl⟩ := hu
    exact h4 j z hz

/-- The copy, k bytes of it laid. -/
def part (zs : List Int) (k : Nat) : List Int := zs.take k ++ List.replicate (zs.length - k) 0
theorem part_len (zs : List Int) (k : Nat) (h : k ≤ zs.length) : (part zs k).length = zs.length := by simp [part]; omega
theorem part_full (zs : List Int) : part zs zs.length = zs := by simp [part]
theorem part_zero (zs : List Int) : part zs 0 = List.replicate zs.length 0 := by simp [part]
theorem part_set (zs : List Int) (k : Nat) (h : k < zs.length) : (part zs k).set k (zs.getD k 0) = part zs (k + 1) := by
  apply List.ext_getElem?
  intro j
  simp only [part, List.getElem?_set, List.getElem?_append, List.length_take, List.length_append, List.length_replicate, List.getElem?_take, List.getElem?_replicate, List.getD_eq_getElem?_getD]
  have hk : zs[k]? = some zs[k] := List.getElem?_eq_getElem h
  have e : min k zs.length = k := by omega
  have e' : min (k + 1) zs.length = k + 1 := by omega
  rw [e, e']
  by_cases h1 : k = j
  · subst h1
    rw [if_pos rfl, if_pos (by omega), if_pos (by omega), if_pos (by omega), hk]
    rfl
  · rw [if_neg h1]
    by_cases h2 : j < k
    · rw [if_pos h2, if_pos h2, if_pos (by omega), if_pos (by omega)]
    · rw [if_neg h2, if_neg (show ¬ j < k + 1 by omega)]
      by_cases h3 : j < zs.length
      · rw [if_pos (by omega), if_pos (by omega)]
      · rw [if_neg (by omega), if_neg (by omega)]
theorem part_at (zs : List Int) (k : Nat) (h : k < zs.length) : (bcells (part zs k))[k]? = some (.int .u8 0) := by
  have e : min k zs.length = k := by omega
  simp only [bcells, part, List.getElem?_map, List.getElem?_append, List.length_take, List.getElem?_replicate, e]
  rw [if_neg (by omega), if_pos (by omega)]
  rfl
theorem bcells_set (zs : List Int) (k : Nat) (z : Int) : (bcells zs).set k (.int .u8 z) = bcells (zs.set k z) := by simp [bcells, List.map_set]

theorem clone_nil (w : World) : Calls Try.prog 7 #[.slice none 0 0] w fun e w' => e = .returned (.slice none 0 0) ∧ w' = w := by
  have hq := fun (w : World) (a : Option Addr) (n c : Nat) => Lib.run_eql_slice_nil (P := Try.prog) w 22 5 a n c 0 0 Try.underlying22
  go_enter Try.func7, Try.ntmps7
  go_wp2
  go_ret
  exact ⟨rfl, rfl⟩

set_option maxRecDepth 100000 in
set_option maxHeartbeats 1000000 in
theorem clone_some (b off n cap : Nat) (zs : List Int) (w : World) (hz : zs.length = n) (hn : n ≤ 1048576) (hcell : ∀ j, j < n → w.cell? ⟨b, off + j, none⟩ = some (.int .u8 (zs.getD j 0))) :
    Calls Try.prog 7 #[.slice (some ⟨b, off, none⟩) n cap] w fun e w' => e = .returned (.slice (some ⟨w.heap.size, 0, none⟩) n n) ∧ w'.ownsRow w.heap.size 5 1 (.slice (some ⟨w.heap.size, 0, none⟩) n n) n (bcells zs) ∧ Below w.heap.size w w' := by
  obtain ⟨i0, hi, hz0, hz1, hz2⟩ := info_parts info5
  have hq := fun (w : World) (a : Option Addr) (n c : Nat) => Lib.run_eql_slice_nil (P := Try.prog) w 22 5 a n c 0 0 Try.underlying22
  go_enter Try.func7, Try.ntmps7
  go_wp2_with (at_make; refine wpList_make_full _ rfl _ _ 22 rfl w.heap.size 5 i0 (.int .u8 0) 1 Try.underlying22 hi hz0 hz1 .i64 .i64 _ _ n rfl rfl rfl rfl (by rw [hz2]; omega) (by unfold maxLen; omega) (Nat.le_refl _) ?_; intro w0 hown0 hgrow0)
  have H0 : w0.ownsRow w.heap.size 5 1 (.slice (some ⟨w.heap.size, 0, none⟩) n n) n (bcells (part zs 0)) := by
    have e : (madeCells (Value.int .u8 0).cells (n * 1)).toList = bcells (part zs 0) := by
      rw [part_zero, hz, Nat.mul_one]
      show (madeCells #[Value.int .u8 0] n).toList = _
      rw [toList_madeCells_one]
      simp [bcells]
    rw [← e]
    exact hown0
  have hb0 : Below w.heap.size w w0 := (Below.refl _ w).grown hgrow0 (Nat.le_refl _) (fun k hk => by cases hk)
  have HZ : Hid (zs.length = n) := hz
  clear hown0 hgrow0 hz
  go_loopw [4] (fun i wr => ∃ k : Nat, k ≤ n ∧ i = .int .i64 k ∧ wr.ownsRow w.heap.size 5 1 (.slice (some ⟨w.heap.size, 0, none⟩) n n) n (bcells (part zs k)) ∧ Below w.heap.size w wr) (fun i _ => n - (intOf i).toNat)
  case atStart => exact ⟨0, Nat.zero_le _, rfl, H0, hb0⟩
  case round =>
    obtain ⟨k, hk, rfl, hown, hnx⟩ := hrel
    by_cases hlt : k < n
    · have c1 := hcell k hlt
      have hcx : wr.cell? ⟨b, off + k, none⟩ = some (.int .u8 (zs.getD k 0)) := (hnx.cell (World.block_lt_of_cell? w _ c1)).trans c1
      have hcy : wr.cell? ⟨w.heap.size, k, none⟩ = some (.int .u8 0) := (hown.cellAt k (by omega)).trans (part_at zs k (by rw [HZ.out]; exact hlt))
      have hfy := hown.frozenAt k
      have R := (hown.stored k (.int .u8 (zs.getD k 0))).1
      rw [bcells_set, part_set zs k (by rw [HZ.out]; exact hlt)] at R
      have RB := hnx.setCell (p := ⟨w.heap.size, k, none⟩) (Nat.le_refl _) (.int .u8 (zs.getD k 0))
      clear hown hnx c1
      go_wp2
      go_roundw
      case rel => exact ⟨k + 1, by omega, by go_num, R, RB⟩
      case measure => simp [intOf]; omega
    · have e : k = n := by omega
      rw [e] at hown
      go_wp2
      go_ret
      refine ⟨rfl, ?_, hnx⟩
      have hf := part_full zs
      rw [HZ.out] at hf
      rw [hf] at hown
      exact hown
set_option maxRecDepth 100000 in
set_option maxHeartbeats 1000000 in
theorem clone_zero (x : Addr) (cap : Nat) (w : World) :
    Calls Try.prog 7 #[.slice (some x) 0 cap] w fun e w' => e = .returned (.slice (some ⟨w.heap.size, 0, none⟩) 0 0) ∧ w.heap.size < w'.heap.size ∧ Below w.heap.size w w' := by
  obtain ⟨i0, hi, hz0, hz1, hz2⟩ := info_parts info5
  have hq := fun (w : World) (a : Option Addr) (n c : Nat) => Lib.run_eql_slice_nil (P := Try.prog) w 22 5 a n c 0 0 Try.underlying22
  go_enter Try.func7, Try.ntmps7
  go_wp2_with (at_make; refine wpList_make_full _ rfl _ _ 22 rfl w.heap.size 5 i0 (.int .u8 0) 1 Try.underlying22 hi hz0 hz1 .i64 .i64 _ _ 0 rfl rfl rfl rfl (by rw [hz2]; omega) (by unfold maxLen; omega) (Nat.le_refl _) ?_; intro w0 hown0 hgrow0)
  have hb0 : Below w.heap.size w w0 := (Below.refl _ w).grown hgrow0 (Nat.le_refl _) (fun k hk => by cases hk)
  have hlt := (hown0.lt w.heap.size rfl).2
  clear hown0 hgrow0
  refine wp_loop_rounds 1 ?_
  rw [rounds_succ]
  go_wp2
  go_ret
  exact ⟨rfl, hlt, hb0⟩

/-- cloneBytes, whatever bytes. -/
theorem clone_any (ao : Option Addr) (cap n : Nat) (zs : List Int) (w : World) (hz : zs.length = n) (hn : n ≤ 1048576)
    (hin : (ao = none ∧ zs = [] ∧ cap = 0) ∨ ∃ x, ao = some x ∧ ∀ i, i < zs.length → w.cell? (x.add i) = some (.int .u8 (zs.getD i 0))) :
    Calls Try.prog 7 #[.slice ao n cap] w fun e w' => ∃ ao', e = .returned (.slice ao' n n) ∧ Tight w.heap.size w' ao' zs ∧ Below w.heap.size w w' := by
  subst hz
  rcases hin with ⟨rfl, rfl, rfl⟩ | ⟨x, rfl, hc⟩
  · refine (clone_nil w).mono ?_
    rintro e w' ⟨rfl, rfl⟩
    exact ⟨none, rfl, .inl ⟨rfl, rfl⟩, Below.refl _ _⟩
  · by_cases hp : 0 < zs.length
    · obtain ⟨b, off, rfl, hc'⟩ := ints_at hc hp
      refine (clone_some b off zs.length cap zs w rfl hn hc').mono ?_
      rintro e w' ⟨rfl, hown, hb⟩
      obtain ⟨g, c, hv, _, _, h1, h2, _, h3⟩ := owned_form hown hp
      simp only [Value.slice.injEq, Option.some.injEq, Addr.mk.injEq, and_true, true_and] at hv
      obtain ⟨rfl, rfl⟩ := hv
      exact ⟨_, rfl, .inr ⟨_, rfl, Nat.le_refl _, h2, h3⟩, hb⟩
    · obtain rfl : zs = [] := List.eq_nil_of_length_eq_zero (by omega)
      refine (clone_zero x cap w).mono ?_
      rintro e w' ⟨rfl, hlt, hb⟩
      exact ⟨_, rfl, .inr ⟨_, rfl, Nat.le_refl _, hlt, fun i z hz => by simp at hz⟩, hb⟩

/-- .. of a copy. -/
theorem clone_tight {B : Nat} (ao : Option Addr) (n : Nat) (zs : List Int) (w : World) (hz : zs.length = n) (hn : n ≤ 1048576) (ht : Tight B w ao zs) :
    Calls Try.prog 7 #[.slice ao n n] w fun e w' => ∃ ao', e = .returned (.slice ao' n n) ∧ Tight w.heap.size w' ao' zs ∧ Below w.heap.size w w' := by
  refine clone_any ao n n zs w hz hn ?_
  rcases ht with ⟨rfl, rfl⟩ | ⟨g, rfl, _, _, h4⟩
  · exact .inl ⟨rfl, rfl, by simpa using hz.symm⟩
  · refine .inr ⟨_, rfl, fun i hi => ?_⟩
    have hadd : (⟨g, 0, none⟩ : Addr).add i = ⟨g, i, none⟩ := by unfold Addr.add; split <;> simp_all
    rw [hadd]
    exact h4 i _ (by rw [List.getD_eq_getElem?_getD, List.getElem?_eq_getElem hi]; rfl)

end Go.Proofs.Qxb6619351a
