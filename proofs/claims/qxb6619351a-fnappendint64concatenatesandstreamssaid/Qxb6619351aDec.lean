/-
  decodeUint64 (19): one walk a length announced.
-/
import Derived.Test.Qxb6619351aRd
namespace Go.Proofs.Qxb6619351a
open Go.RowKit Plain

theorem len_is (x : Int) (w : World) (h0 : 0 ≤ x) (h1 : x ≤ 255) {k : Nat} {v : Int} (h : ann x = k) (e : v = (k : Int)) :
    Calls Try.prog 16 #[.int .u8 x] w fun e w' => e = .returned (.int .i64 v) ∧ w' = w := by
  rw [e, ← h]; exact len_any x w h0 h1

/-- 'y | x' where y lies below 2^i and x is a multiple of it. -/
theorem orlow (i : Nat) (y x : Int) (hy₀ : 0 ≤ y) (hy : y < 2 ^ i) (hy₁ : y < 2 ^ 64) (hx₀ : 0 ≤ x) (hx : x % 2 ^ i = 0) (hx₁ : x < 2 ^ 64) : bits .or .u64 y x = y + x :=
  bits_join_low .u64 64 (by decide) wraps_u64 i y x hy₀ hy hy₁ hx₀ hx hx₁

theorem wrapid (x : Int) (h0 : 0 ≤ x) (h1 : x < 18446744073709551616) : IntKind.u64.wrap x = x := u64_wrap_id x h0 h1

set_option linter.unusedVariables false
theorem val1 (b0 : Int) (l0 : 0 ≤ b0) (u0 : b0 ≤ 255) : b0 / 2 = val 1 [b0] := by
  show _ = Lib.leZ [b0] / 2
  simp only [Lib.leZ]
  omega

theorem val2 (b0 b1 : Int) (l0 : 0 ≤ b0) (u0 : b0 ≤ 255) (l1 : 0 ≤ b1) (u1 : b1 ≤ 255) : bits .or .u64 (b0 / 4) (b1 * 64) = val 2 [b0, b1] := by
  rw [orlow 6 _ _ (by omega) (by omega) (by omega) (by omega) (by omega) (by omega)]
  show _ = Lib.leZ [b0, b1] / 4
  simp only [Lib.leZ]
  omega

/-- 'y | uint64(L) << i', y below 2^i. -/
theorem orshift (i : Nat) (s : Int) (hs : s = 2 ^ i) (y L : Int) (h0 : 0 ≤ y) (h1 : y < s) (h2 : 0 ≤ L) (h3 : L < 18446744073709551616) (h4 : L * s < 18446744073709551616) (h5 : y < 18446744073709551616) :
    bits .or .u64 y (IntKind.u64.wrap (IntKind.u64.wrap L * s)) = y + L * s := by
  subst hs
  have hp : (0 : Int) ≤ 2 ^ i := Int.le_trans h0 (Int.le_of_lt h1)
  have hm : 0 ≤ L * 2 ^ i := Int.mul_nonneg h2 hp
  rw [wrapid L h2 h3, wrapid _ hm h4]
  exact orlow i _ _ h0 h1 h5 hm (Int.mul_emod_left _ _) h4

theorem val3 (b0 b1 b2 : Int) (l0 : 0 ≤ b0) (u0 : b0 ≤ 255) (l1 : 0 ≤ b1) (u1 : b1 ≤ 255) (l2 : 0 ≤ b2) (u2 : b2 ≤ 255) : bits .or .u64 (b0 / 8) (IntKind.u64.wrap (IntKind.u64.wrap (Lib.leZ [b1, b2]) * 32)) = val 3 [b0, b1, b2] := by
  have hL : 0 ≤ Lib.leZ [b1, b2] ∧ Lib.leZ [b1, b2] < 65536 := by simp only [Lib.leZ]; omega
  rw [orshift 5 32 rfl _ _ (by omega) (by omega) (by omega) (by omega) (by omega) (by omega)]
  show _ = Lib.leZ [b0, b1, b2] / 8
  simp only [Lib.leZ]
  omega

theorem val5 (b0 b1 b2 b3 b4 : Int) (l0 : 0 ≤ b0) (u0 : b0 ≤ 255) (l1 : 0 ≤ b1) (u1 : b1 ≤ 255) (l2 : 0 ≤ b2) (u2 : b2 ≤ 255) (l3 : 0 ≤ b3) (u3 : b3 ≤ 255) (l4 : 0 ≤ b4) (u4 : b4 ≤ 255) : bits .or .u64 (b0 / 32) (IntKind.u64.wrap (IntKind.u64.wrap (Lib.leZ [b1, b2, b3, b4]) * 8)) = val 5 [b0, b1, b2, b3, b4] := by
  have hL : 0 ≤ Lib.leZ [b1, b2, b3, b4] ∧ Lib.leZ [b1, b2, b3, b4] < 4294967296 := by simp only [Lib.leZ]; omega
  rw [orshift 3 8 rfl _ _ (by omega) (by omega) (by omega) (by omega) (by omega) (by omega)]
  show _ = Lib.leZ [b0, b1, b2, b3, b4] / 32
  simp only [Lib.leZ]
  omega

theorem val4 (b0 b1 b2 b3 : Int) (l0 : 0 ≤ b0) (u0 : b0 ≤ 255) (l1 : 0 ≤ b1) (u1 : b1 ≤ 255) (l2 : 0 ≤ b2) (u2 : b2 ≤ 255) (l3 : 0 ≤ b3) (u3 : b3 ≤ 255) : bits .or .u64 (bits .or .u64 (b0 / 16) (IntKind.u64.wrap (IntKind.u64.wrap (Lib.leZ [b1, b2]) * 16))) (IntKind.u64.wrap (IntKind.u64.wrap b3 * 1048576)) = val 4 [b0, b1, b2, b3] := by
  have hL : 0 ≤ Lib.leZ [b1, b2] ∧ Lib.leZ [b1, b2] < 65536 := by simp only [Lib.leZ]; omega
  rw [orshift 4 16 rfl (b0 / 16) (Lib.leZ [b1, b2]) (by omega) (by omega) (by omega) (by omega) (by omega) (by omega), orshift 20 1048576 rfl _ b3 (by omega) (by omega) (by omega) (by omega) (by omega) (by omega)]
  show _ = Lib.leZ [b0, b1, b2, b3] / 16
  simp only [Lib.leZ]
  omega

theorem val6 (b0 b1 b2 b3 b4 b5 : Int) (l0 : 0 ≤ b0) (u0 : b0 ≤ 255) (l1 : 0 ≤ b1) (u1 : b1 ≤ 255) (l2 : 0 ≤ b2) (u2 : b2 ≤ 255) (l3 : 0 ≤ b3) (u3 : b3 ≤ 255) (l4 : 0 ≤ b4) (u4 : b4 ≤ 255) (l5 : 0 ≤ b5) (u5 : b5 ≤ 255) : bits .or .u64 (bits .or .u64 (b0 / 64) (IntKind.u64.wrap (IntKind.u64.wrap (Lib.leZ [b1, b2, b3, b4]) * 4))) (IntKind.u64.wrap (IntKind.u64.wrap b5 * 17179869184)) = val 6 [b0, b1, b2, b3, b4, b5] := by
  have hL : 0 ≤ Lib.leZ [b1, b2, b3, b4] ∧ Lib.leZ [b1, b2, b3, b4] < 4294967296 := by simp only [Lib.leZ]; omega
  rw [orshift 2 4 rfl (b0 / 64) (Lib.leZ [b1, b2, b3, b4]) (by omega) (by omega) (by omega) (by omega) (by omega) (by omega), orshift 34 17179869184 rfl _ b5 (by omega) (by omega) (by omega) (by omega) (by omega) (by omega)]
  show _ = Lib.leZ [b0, b1, b2, b3, b4, b5] / 64
  simp only [Lib.leZ]
  omega

theorem val7 (b0 b1 b2 b3 b4 b5 b6 : Int) (l0 : 0 ≤ b0) (u0 : b0 ≤ 255) (l1 : 0 ≤ b1) (u1 : b1 ≤ 255) (l2 : 0 ≤ b2) (u2 : b2 ≤ 255) (l3 : 0 ≤ b3) (u3 : b3 ≤ 255) (l4 : 0 ≤ b4) (u4 : b4 ≤ 255) (l5 : 0 ≤ b5) (u5 : b5 ≤ 255) (l6 : 0 ≤ b6) (u6 : b6 ≤ 255) : bits .or .u64 (bits .or .u64 (b0 / 128) (IntKind.u64.wrap (IntKind.u64.wrap (Lib.leZ [b1, b2, b3, b4]) * 2))) (IntKind.u64.wrap (IntKind.u64.wrap (Lib.leZ [b5, b6]) * 8589934592)) = val 7 [b0, b1, b2, b3, b4, b5, b6] := by
  have hL : 0 ≤ Lib.leZ [b1, b2, b3, b4] ∧ Lib.leZ [b1, b2, b3, b4] < 4294967296 := by simp only [Lib.leZ]; omega
  have hM : 0 ≤ Lib.leZ [b5, b6] ∧ Lib.leZ [b5, b6] < 65536 := by simp only [Lib.leZ]; omega
  rw [orshift 1 2 rfl (b0 / 128) (Lib.leZ [b1, b2, b3, b4]) (by omega) (by omega) (by omega) (by omega) (by omega) (by omega), orshift 33 8589934592 rfl _ (Lib.leZ [b5, b6]) (by omega) (by omega) (by omega) (by omega) (by omega) (by omega)]
  show _ = Lib.leZ [b0, b1, b2, b3, b4, b5, b6] / 128
  simp only [Lib.leZ]
  omega

theorem orsum (i s a b : Nat) (hs : s = 2 ^ i) (hb : b < s) : (a * s) ||| b = a * s + b := by
  subst hs
  rw [Nat.mul_comm, Nat.two_pow_add_eq_or_of_lt hb]

/-- Two words that share a byte, at the same place. -/
theorem orover (y z r : Nat) (hy : y < 16777216) (hz : z < 256) (hr : r < 16777216) : bits .or .u64 ((y + z * 16777216 : Nat) : Int) ((z * 16777216 + r * 4294967296 : Nat) : Int) = ((y + z * 16777216 + r * 4294967296 : Nat) : Int) := by
  rw [(bits_nat .u64 64 (by decide) wraps_u64 _ _ (by omega) (by omega)).2]
  have h1 := orsum 24 16777216 z y rfl hy
  have h2 := orsum 32 4294967296 r (z * 16777216) rfl (by omega)
  have h3 := orsum 32 4294967296 r (z * 16777216 + y) rfl (by omega)
  rw [Nat.add_comm y, ← h1, Nat.add_comm (z * 16777216) (r * 4294967296), ← h2]
  rw [Nat.or_comm (r * 4294967296), ← Nat.or_assoc, Nat.or_assoc (z * 16777216) y, Nat.or_comm y, ← Nat.or_assoc, Nat.or_self, h1, Nat.or_comm, h3]
  omega

theorem val8 (b0 b1 b2 b3 b4 b5 b6 b7 : Int) (l0 : 0 ≤ b0) (u0 : b0 ≤ 255) (l1 : 0 ≤ b1) (u1 : b1 ≤ 255) (l2 : 0 ≤ b2) (u2 : b2 ≤ 255) (l3 : 0 ≤ b3) (u3 : b3 ≤ 255) (l4 : 0 ≤ b4) (u4 : b4 ≤ 255) (l5 : 0 ≤ b5) (u5 : b5 ≤ 255) (l6 : 0 ≤ b6) (u6 : b6 ≤ 255) (l7 : 0 ≤ b7) (u7 : b7 ≤ 255) : bits .or .u64 (IntKind.u64.wrap (Lib.leZ [b1, b2, b3, b4])) (IntKind.u64.wrap (IntKind.u64.wrap (Lib.leZ [b4, b5, b6, b7]) * 16777216)) = val 8 [b0, b1, b2, b3, b4, b5, b6, b7] := by
  have e : Lib.leZ [b1, b2, b3, b4] = b1 + 256 * (b2 + 256 * (b3 + 256 * (b4 + 256 * (0)))) := rfl
  have e' : Lib.leZ [b4, b5, b6, b7] = b4 + 256 * (b5 + 256 * (b6 + 256 * (b7 + 256 * (0)))) := rfl
  rw [e, e', wrapid (b1 + 256 * (b2 + 256 * (b3 + 256 * (b4 + 256 * (0))))) (by omega) (by omega), wrapid (b4 + 256 * (b5 + 256 * (b6 + 256 * (b7 + 256 * (0))))) (by omega) (by omega), wrapid ((b4 + 256 * (b5 + 256 * (b6 + 256 * (b7 + 256 * (0))))) * 16777216) (by omega) (by omega)]
  have h := orover (b1 + 256 * b2 + 65536 * b3).toNat b4.toNat (b5 + 256 * b6 + 65536 * b7).toNat (by omega) (by omega) (by omega)
  have a1 : (((b1 + 256 * b2 + 65536 * b3).toNat + b4.toNat * 16777216 : Nat) : Int) = b1 + 256 * (b2 + 256 * (b3 + 256 * (b4 + 256 * (0)))) := by omega
  have a2 : ((b4.toNat * 16777216 + (b5 + 256 * b6 + 65536 * b7).toNat * 4294967296 : Nat) : Int) = (b4 + 256 * (b5 + 256 * (b6 + 256 * (b7 + 256 * (0))))) * 16777216 := by omega
  rw [a1, a2] at h
  rw [h]
  show _ = Lib.leZ [b0, b1, b2, b3, b4, b5, b6, b7] / 256
  simp only [Lib.leZ]
  omega

theorem val9 (b0 b1 b2 b3 b4 b5 b6 b7 b8 : Int) (l0 : 0 ≤ b0) (u0 : b0 ≤ 255) (l1 : 0 ≤ b1) (u1 : b1 ≤ 255) (l2 : 0 ≤ b2) (u2 : b2 ≤ 255) (l3 : 0 ≤ b3) (u3 : b3 ≤ 255) (l4 : 0 ≤ b4) (u4 : b4 ≤ 255) (l5 : 0 ≤ b5) (u5 : b5 ≤ 255) (l6 : 0 ≤ b6) (u6 : b6 ≤ 255) (l7 : 0 ≤ b7) (u7 : b7 ≤ 255) (l8 : 0 ≤ b8) (u8 : b8 ≤ 255) : Lib.leZ [b1, b2, b3, b4, b5, b6, b7, b8] = val 9 [b0, b1, b2, b3, b4, b5, b6, b7, b8] := by
  rfl

set_option maxRecDepth 100000 in
set_option maxHeartbeats 2000000 in
theorem dec1 (g o n c : Nat) (b0 : Int) (l0 : 0 ≤ b0) (u0 : b0 ≤ 255) (w : World) (hn : 1 ≤ n) (hc : n ≤ c) (hm : c ≤ maxLen) (ha : Hid (ann b0 = 1))
    (c0 : w.cell? ⟨g, o, none⟩ = some (.int .u8 b0)) :
    Calls Try.prog 19 #[.slice (some ⟨g, o, none⟩) n c] w fun e w' => e = .returned (.agg #[.int .u64 (val 1 [b0]), .int .i64 1]) ∧ Below w.heap.size w w' := by
  unfold maxLen at hm
  have d0 := fun x => cell_new x c0
  have f0 := fun x y => cell_new y (d0 x)
  have n0 : 0 < n := by omega
  go_enter Try.func19, Try.ntmps19
  go_wp2_with (go_at_call 16; refine (len_is b0 _ l0 u0 (v := 1) ha.out rfl).mono ?_; rintro e w' ⟨rfl, rfl⟩)
  all_goals
    refine bodyPost_ret (v := .agg #[.int .u64 (val 1 [b0]), .int .i64 1]) ?_ rfl ⟨rfl, ?_⟩
    · simp [results, Try.results19, go_sem]
      exact val1 b0 l0 u0
    · repeat (first | exact Below.refl _ _ | refine Below.drew ?_ | refine Below.alloc ?_ (by simp <;> omega) _)

set_option maxRecDepth 100000 in
set_option maxHeartbeats 2000000 in
theorem dec2 (g o n c : Nat) (b0 b1 : Int) (l0 : 0 ≤ b0) (u0 : b0 ≤ 255) (l1 : 0 ≤ b1) (u1 : b1 ≤ 255) (w : World) (hn : 2 ≤ n) (hc : n ≤ c) (hm : c ≤ maxLen) (ha : Hid (ann b0 = 2))
    (c0 : w.cell? ⟨g, o, none⟩ = some (.int .u8 b0)) (c1 : w.cell? ⟨g, o + 1, none⟩ = some (.int .u8 b1)) :
    Calls Try.prog 19 #[.slice (some ⟨g, o, none⟩) n c] w fun e w' => e = .returned (.agg #[.int .u64 (val 2 [b0, b1]), .int .i64 2]) ∧ Below w.heap.size w w' := by
  unfold maxLen at hm
  have d0 := fun x => cell_new x c0
  have f0 := fun x y => cell_new y (d0 x)
  have d1 := fun x => cell_new x c1
  have f1 := fun x y => cell_new y (d1 x)
  have n0 : 0 < n := by omega
  have n1 : (1 : Int) < (n : Int) := by omega
  go_enter Try.func19, Try.ntmps19
  go_wp2_with (go_at_call 16; refine (len_is b0 _ l0 u0 (v := 2) ha.out rfl).mono ?_; rintro e w' ⟨rfl, rfl⟩)
  all_goals
    refine bodyPost_ret (v := .agg #[.int .u64 (val 2 [b0, b1]), .int .i64 2]) ?_ rfl ⟨rfl, ?_⟩
    · simp [results, Try.results19, go_sem]
      exact val2 b0 b1 l0 u0 l1 u1
    · repeat (first | exact Below.refl _ _ | refine Below.drew ?_ | refine Below.alloc ?_ (by simp <;> omega) _)

set_option maxRecDepth 100000 in
set_option maxHeartbeats 2000000 in
theorem dec3 (g o n c : Nat) (b0 b1 b2 : Int) (l0 : 0 ≤ b0) (u0 : b0 ≤ 255) (l1 : 0 ≤ b1) (u1 : b1 ≤ 255) (l2 : 0 ≤ b2) (u2 : b2 ≤ 255) (w : World) (hn : 3 ≤ n) (hc : n ≤ c) (hm : c ≤ maxLen) (ha : Hid (ann b0 = 3))
    (c0 : w.cell? ⟨g, o, none⟩ = some (.int .u8 b0)) (c1 : w.cell? ⟨g, o + 1, none⟩ = some (.int .u8 b1)) (c2 : w.cell? ⟨g, o + 2, none⟩ = some (.int .u8 b2)) :
    Calls Try.prog 19 #[.slice (some ⟨g, o, none⟩) n c] w fun e w' => e = .returned (.agg #[.int .u64 (val 3 [b0, b1, b2]), .int .i64 3]) ∧ Below w.heap.size w w' := by
  unfold maxLen at hm
  have d0 := fun x => cell_new x c0
  have f0 := fun x y => cell_new y (d0 x)
  have d1 := fun x => cell_new x c1
  have f1 := fun x y => cell_new y (d1 x)
  have d2 := fun x => cell_new x c2
  have f2 := fun x y => cell_new y (d2 x)
  have n0 : 0 < n := by omega
  have m1 : (1 : Int) ≤ (n : Int) := by omega
  have k1 : ¬ c = 1 := by omega
  have nc : (n : Int) ≤ (c : Int) := by omega
  go_enter Try.func19, Try.ntmps19
  go_wp2_with (go_at_call 16; refine (len_is b0 _ l0 u0 (v := 3) ha.out rfl).mono ?_; rintro e w' ⟨rfl, rfl⟩)
  go_region_held3 (fun w' => w'.cell? ⟨g, o, none⟩ = some (.int .u8 b0)) (go_keep)
    (first
      | (go_at_call 24; refine (rd16_any g (o + 1) _ _ b1 b2 l1 u1 l2 u2 _ (by omega) (by first | exact cell_new _ (cell_new _ c1) | exact cell_new _ (cell_new _ (cell_new _ c1))) (by first | exact cell_new _ (cell_new _ c2) | exact cell_new _ (cell_new _ (cell_new _ c2)))).mono ?_; rintro e w' ⟨rfl, rfl⟩))
  all_goals go_wp2
  all_goals
    refine bodyPost_ret (v := .agg #[.int .u64 (val 3 [b0, b1, b2]), .int .i64 3]) ?_ rfl ⟨rfl, ?_⟩
    · simp [results, Try.results19, go_sem]
      exact val3 b0 b1 b2 l0 u0 l1 u1 l2 u2
    · repeat (first | exact Below.refl _ _ | refine Below.drew ?_ | refine Below.alloc ?_ (by simp <;> omega) _)

set_option maxRecDepth 100000 in
set_option maxHeartbeats 2000000 in
theorem dec4 (g o n c : Nat) (b0 b1 b2 b3 : Int) (l0 : 0 ≤ b0) (u0 : b0 ≤ 255) (l1 : 0 ≤ b1) (u1 : b1 ≤ 255) (l2 : 0 ≤ b2) (u2 : b2 ≤ 255) (l3 : 0 ≤ b3) (u3 : b3 ≤ 255) (w : World) (hn : 4 ≤ n) (hc : n ≤ c) (hm : c ≤ maxLen) (ha : Hid (ann b0 = 4))
    (c0 : w.cell? ⟨g, o, none⟩ = some (.int .u8 b0)) (c1 : w.cell? ⟨g, o + 1, none⟩ = some (.int .u8 b1)) (c2 : w.cell? ⟨g, o + 2, none⟩ = some (.int .u8 b2)) (c3 : w.cell? ⟨g, o + 3, none⟩ = some (.int .u8 b3)) :
    Calls Try.prog 19 #[.slice (some ⟨g, o, none⟩) n c] w fun e w' => e = .returned (.agg #[.int .u64 (val 4 [b0, b1, b2, b3]), .int .i64 4]) ∧ Below w.heap.size w w' := by
  unfold maxLen at hm
  have d0 := fun x => cell_new x c0
  have f0 := fun x y => cell_new y (d0 x)
  have d1 := fun x => cell_new x c1
  have f1 := fun x y => cell_new y (d1 x)
  have d2 := fun x => cell_new x c2
  have f2 := fun x y => cell_new y (d2 x)
  have d3 := fun x => cell_new x c3
  have f3 := fun x y => cell_new y (d3 x)
  have n0 : 0 < n := by omega
  have n3 : (3 : Int) < (n : Int) := by omega
  have m1 : (1 : Int) ≤ (n : Int) := by omega
  have k1 : ¬ c = 1 := by omega
  have nc : (n : Int) ≤ (c : Int) := by omega
  go_enter Try.func19, Try.ntmps19
  go_wp2_with (go_at_call 16; refine (len_is b0 _ l0 u0 (v := 4) ha.out rfl).mono ?_; rintro e w' ⟨rfl, rfl⟩)
  go_region_held3 (fun w' => w'.cell? ⟨g, o + 3, none⟩ = some (.int .u8 b3)) (go_keep)
    (first
      | (go_at_call 24; refine (rd16_any g (o + 1) _ _ b1 b2 l1 u1 l2 u2 _ (by omega) (by first | exact cell_new _ (cell_new _ c1) | exact cell_new _ (cell_new _ (cell_new _ c1))) (by first | exact cell_new _ (cell_new _ c2) | exact cell_new _ (cell_new _ (cell_new _ c2)))).mono ?_; rintro e w' ⟨rfl, rfl⟩))
  all_goals go_wp2
  all_goals
    refine bodyPost_ret (v := .agg #[.int .u64 (val 4 [b0, b1, b2, b3]), .int .i64 4]) ?_ rfl ⟨rfl, ?_⟩
    · simp [results, Try.results19, go_sem]
      exact val4 b0 b1 b2 b3 l0 u0 l1 u1 l2 u2 l3 u3
    · repeat (first | exact Below.refl _ _ | refine Below.drew ?_ | refine Below.alloc ?_ (by simp <;> omega) _)

set_option maxRecDepth 100000 in
set_option maxHeartbeats 2000000 in
theorem dec5 (g o n c : Nat) (b0 b1 b2 b3 b4 : Int) (l0 : 0 ≤ b0) (u0 : b0 ≤ 255) (l1 : 0 ≤ b1) (u1 : b1 ≤ 255) (l2 : 0 ≤ b2) (u2 : b2 ≤ 255) (l3 : 0 ≤ b3) (u3 : b3 ≤ 255) (l4 : 0 ≤ b4) (u4 : b4 ≤ 255) (w : World) (hn : 5 ≤ n) (hc : n ≤ c) (hm : c ≤ maxLen) (ha : Hid (ann b0 = 5))
    (c0 : w.cell? ⟨g, o, none⟩ = some (.int .u8 b0)) (c1 : w.cell? ⟨g, o + 1, none⟩ = some (.int .u8 b1)) (c2 : w.cell? ⟨g, o + 2, none⟩ = some (.int .u8 b2)) (c3 : w.cell? ⟨g, o + 3, none⟩ = some (.int .u8 b3)) (c4 : w.cell? ⟨g, o + 4, none⟩ = some (.int .u8 b4)) :
    Calls Try.prog 19 #[.slice (some ⟨g, o, none⟩) n c] w fun e w' => e = .returned (.agg #[.int .u64 (val 5 [b0, b1, b2, b3, b4]), .int .i64 5]) ∧ Below w.heap.size w w' := by
  unfold maxLen at hm
  have d0 := fun x => cell_new x c0
  have f0 := fun x y => cell_new y (d0 x)
  have d1 := fun x => cell_new x c1
  have f1 := fun x y => cell_new y (d1 x)
  have d2 := fun x => cell_new x c2
  have f2 := fun x y => cell_new y (d2 x)
  have d3 := fun x => cell_new x c3
  have f3 := fun x y => cell_new y (d3 x)
  have d4 := fun x => cell_new x c4
  have f4 := fun x y => cell_new y (d4 x)
  have n0 : 0 < n := by omega
  have m1 : (1 : Int) ≤ (n : Int) := by omega
  have k1 : ¬ c = 1 := by omega
  have nc : (n : Int) ≤ (c : Int) := by omega
  go_enter Try.func19, Try.ntmps19
  go_wp2_with (go_at_call 16; refine (len_is b0 _ l0 u0 (v := 5) ha.out rfl).mono ?_; rintro e w' ⟨rfl, rfl⟩)
  go_region_held3 (fun w' => w'.cell? ⟨g, o, none⟩ = some (.int .u8 b0)) (go_keep)
    (first
      | (go_at_call 25; refine (rd32_any g (o + 1) _ _ b1 b2 b3 b4 l1 u1 l2 u2 l3 u3 l4 u4 _ (by omega) (by first | exact cell_new _ (cell_new _ c1) | exact cell_new _ (cell_new _ (cell_new _ c1))) (by first | exact cell_new _ (cell_new _ c2) | exact cell_new _ (cell_new _ (cell_new _ c2))) (by first | exact cell_new _ (cell_new _ c3) | exact cell_new _ (cell_new _ (cell_new _ c3))) (by first | exact cell_new _ (cell_new _ c4) | exact cell_new _ (cell_new _ (cell_new _ c4)))).mono ?_; rintro e w' ⟨rfl, rfl⟩))
  all_goals go_wp2
  all_goals
    refine bodyPost_ret (v := .agg #[.int .u64 (val 5 [b0, b1, b2, b3, b4]), .int .i64 5]) ?_ rfl ⟨rfl, ?_⟩
    · simp [results, Try.results19, go_sem]
      exact val5 b0 b1 b2 b3 b4 l0 u0 l1 u1 l2 u2 l3 u3 l4 u4
    · repeat (first | exact Below.refl _ _ | refine Below.drew ?_ | refine Below.alloc ?_ (by simp <;> omega) _)

set_option maxRecDepth 100000 in
set_option maxHeartbeats 2000000 in
theorem dec6 (g o n c : Nat) (b0 b1 b2 b3 b4 b5 : Int) (l0 : 0 ≤ b0) (u0 : b0 ≤ 255) (l1 : 0 ≤ b1) (u1 : b1 ≤ 255) (l2 : 0 ≤ b2) (u2 : b2 ≤ 255) (l3 : 0 ≤ b3) (u3 : b3 ≤ 255) (l4 : 0 ≤ b4) (u4 : b4 ≤ 255) (l5 : 0 ≤ b5) (u5 : b5 ≤ 255) (w : World) (hn : 6 ≤ n) (hc : n ≤ c) (hm : c ≤ maxLen) (ha : Hid (ann b0 = 6))
    (c0 : w.cell? ⟨g, o, none⟩ = some (.int .u8 b0)) (c1 : w.cell? ⟨g, o + 1, none⟩ = some (.int .u8 b1)) (c2 : w.cell? ⟨g, o + 2, none⟩ = some (.int .u8 b2)) (c3 : w.cell? ⟨g, o + 3, none⟩ = some (.int .u8 b3)) (c4 : w.cell? ⟨g, o + 4, none⟩ = some (.int .u8 b4)) (c5 : w.cell? ⟨g, o + 5, none⟩ = some (.int .u8 b5)) :
    Calls Try.prog 19 #[.slice (some ⟨g, o, none⟩) n c] w fun e w' => e = .returned (.agg #[.int .u64 (val 6 [b0, b1, b2, b3, b4, b5]), .int .i64 6]) ∧ Below w.heap.size w w' := by
  unfold maxLen at hm
  have d0 := fun x => cell_new x c0
  have f0 := fun x y => cell_new y (d0 x)
  have d1 := fun x => cell_new x c1
  have f1 := fun x y => cell_new y (d1 x)
  have d2 := fun x => cell_new x c2
  have f2 := fun x y => cell_new y (d2 x)
  have d3 := fun x => cell_new x c3
  have f3 := fun x y => cell_new y (d3 x)
  have d4 := fun x => cell_new x c4
  have f4 := fun x y => cell_new y (d4 x)
  have d5 := fun x => cell_new x c5
  have f5 := fun x y => cell_new y (d5 x)
  have n0 : 0 < n := by omega
  have n5 : (5 : Int) < (n : Int) := by omega
  have m1 : (1 : Int) ≤ (n : Int) := by omega
  have k1 : ¬ c = 1 := by omega
  have nc : (n : Int) ≤ (c : Int) := by omega
  go_enter Try.func19, Try.ntmps19
  go_wp2_with (go_at_call 16; refine (len_is b0 _ l0 u0 (v := 6) ha.out rfl).mono ?_; rintro e w' ⟨rfl, rfl⟩)
  go_region_held3 (fun w' => w'.cell? ⟨g, o + 5, none⟩ = some (.int .u8 b5)) (go_keep)
    (first
      | (go_at_call 25; refine (rd32_any g (o + 1) _ _ b1 b2 b3 b4 l1 u1 l2 u2 l3 u3 l4 u4 _ (by omega) (by first | exact cell_new _ (cell_new _ c1) | exact cell_new _ (cell_new _ (cell_new _ c1))) (by first | exact cell_new _ (cell_new _ c2) | exact cell_new _ (cell_new _ (cell_new _ c2))) (by first | exact cell_new _ (cell_new _ c3) | exact cell_new _ (cell_new _ (cell_new _ c3))) (by first | exact cell_new _ (cell_new _ c4) | exact cell_new _ (cell_new _ (cell_new _ c4)))).mono ?_; rintro e w' ⟨rfl, rfl⟩))
  all_goals go_wp2
  all_goals
    refine bodyPost_ret (v := .agg #[.int .u64 (val 6 [b0, b1, b2, b3, b4, b5]), .int .i64 6]) ?_ rfl ⟨rfl, ?_⟩
    · simp [results, Try.results19, go_sem]
      exact val6 b0 b1 b2 b3 b4 b5 l0 u0 l1 u1 l2 u2 l3 u3 l4 u4 l5 u5
    · repeat (first | exact Below.refl _ _ | refine Below.drew ?_ | refine Below.alloc ?_ (by simp <;> omega) _)

set_option maxRecDepth 100000 in
set_option maxHeartbeats 2000000 in
theorem dec7 (g o n c : Nat) (b0 b1 b2 b3 b4 b5 b6 : Int) (l0 : 0 ≤ b0) (u0 : b0 ≤ 255) (l1 : 0 ≤ b1) (u1 : b1 ≤ 255) (l2 : 0 ≤ b2) (u2 : b2 ≤ 255) (l3 : 0 ≤ b3) (u3 : b3 ≤ 255) (l4 : 0 ≤ b4) (u4 : b4 ≤ 255) (l5 : 0 ≤ b5) (u5 : b5 ≤ 255) (l6 : 0 ≤ b6) (u6 : b6 ≤ 255) (w : World) (hn : 7 ≤ n) (hc : n ≤ c) (hm : c ≤ maxLen) (ha : Hid (ann b0 = 7))
    (c0 : w.cell? ⟨g, o, none⟩ = some (.int .u8 b0)) (c1 : w.cell? ⟨g, o + 1, none⟩ = some (.int .u8 b1)) (c2 : w.cell? ⟨g, o + 2, none⟩ = some (.int .u8 b2)) (c3 : w.cell? ⟨g, o + 3, none⟩ = some (.int .u8 b3)) (c4 : w.cell? ⟨g, o + 4, none⟩ = some (.int .u8 b4)) (c5 : w.cell? ⟨g, o + 5, none⟩ = some (.int .u8 b5)) (c6 : w.cell? ⟨g, o + 6, none⟩ = some (.int .u8 b6)) :
    Calls Try.prog 19 #[.slice (some ⟨g, o, none⟩) n c] w fun e w' => e = .returned (.agg #[.int .u64 (val 7 [b0, b1, b2, b3, b4, b5, b6]), .int .i64 7]) ∧ Below w.heap.size w w' := by
  unfold maxLen at hm
  have d0 := fun x => cell_new x c0
  have f0 := fun x y => cell_new y (d0 x)
  have d1 := fun x => cell_new x c1
  have f1 := fun x y => cell_new y (d1 x)
  have d2 := fun x => cell_new x c2
  have f2 := fun x y => cell_new y (d2 x)
  have d3 := fun x => cell_new x c3
  have f3 := fun x y => cell_new y (d3 x)
  have d4 := fun x => cell_new x c4
  have f4 := fun x y => cell_new y (d4 x)
  have d5 := fun x => cell_new x c5
  have f5 := fun x y => cell_new y (d5 x)
  have d6 := fun x => cell_new x c6
  have f6 := fun x y => cell_new y (d6 x)
  have n0 : 0 < n := by omega
  have m1 : (1 : Int) ≤ (n : Int) := by omega
  have k1 : ¬ c = 1 := by omega
  have m5 : (5 : Int) ≤ (n : Int) := by omega
  have k5 : ¬ c = 5 := by omega
  have nc : (n : Int) ≤ (c : Int) := by omega
  go_enter Try.func19, Try.ntmps19
  go_wp2_with (go_at_call 16; refine (len_is b0 _ l0 u0 (v := 7) ha.out rfl).mono ?_; rintro e w' ⟨rfl, rfl⟩)
  go_region_held3 (fun w' => w'.cell? ⟨g, o, none⟩ = some (.int .u8 b0)) (go_keep)
    (first
      | (go_at_call 25; refine (rd32_any g (o + 1) _ _ b1 b2 b3 b4 l1 u1 l2 u2 l3 u3 l4 u4 _ (by omega) (by first | exact cell_new _ (cell_new _ c1) | exact cell_new _ (cell_new _ (cell_new _ c1))) (by first | exact cell_new _ (cell_new _ c2) | exact cell_new _ (cell_new _ (cell_new _ c2))) (by first | exact cell_new _ (cell_new _ c3) | exact cell_new _ (cell_new _ (cell_new _ c3))) (by first | exact cell_new _ (cell_new _ c4) | exact cell_new _ (cell_new _ (cell_new _ c4)))).mono ?_; rintro e w' ⟨rfl, rfl⟩)
      | (go_at_call 24; refine (rd16_any g (o + 5) _ _ b5 b6 l5 u5 l6 u6 _ (by omega) (by first | exact cell_new _ (cell_new _ c5) | exact cell_new _ (cell_new _ (cell_new _ c5))) (by first | exact cell_new _ (cell_new _ c6) | exact cell_new _ (cell_new _ (cell_new _ c6)))).mono ?_; rintro e w' ⟨rfl, rfl⟩))
  all_goals go_wp2
  all_goals
    refine bodyPost_ret (v := .agg #[.int .u64 (val 7 [b0, b1, b2, b3, b4, b5, b6]), .int .i64 7]) ?_ rfl ⟨rfl, ?_⟩
    · simp [results, Try.results19, go_sem]
      exact val7 b0 b1 b2 b3 b4 b5 b6 l0 u0 l1 u1 l2 u2 l3 u3 l4 u4 l5 u5 l6 u6
    · repeat (first | exact Below.refl _ _ | refine Below.drew ?_ | refine Below.alloc ?_ (by simp <;> omega) _)

set_option maxRecDepth 100000 in
set_option maxHeartbeats 2000000 in
theorem dec8 (g o n c : Nat) (b0 b1 b2 b3 b4 b5 b6 b7 : Int) (l0 : 0 ≤ b0) (u0 : b0 ≤ 255) (l1 : 0 ≤ b1) (u1 : b1 ≤ 255) (l2 : 0 ≤ b2) (u2 : b2 ≤ 255) (l3 : 0 ≤ b3) (u3 : b3 ≤ 255) (l4 : 0 ≤ b4) (u4 : b4 ≤ 255) (l5 : 0 ≤ b5) (u5 : b5 ≤ 255) (l6 : 0 ≤ b6) (u6 : b6 ≤ 255) (l7 : 0 ≤ b7) (u7 : b7 ≤ 255) (w : World) (hn : 8 ≤ n) (hc : n ≤ c) (hm : c ≤ maxLen) (ha : Hid (ann b0 = 8))
    (c0 : w.cell? ⟨g, o, none⟩ = some (.int .u8 b0)) (c1 : w.cell? ⟨g, o + 1, none⟩ = some (.int .u8 b1)) (c2 : w.cell? ⟨g, o + 2, none⟩ = some (.int .u8 b2)) (c3 : w.cell? ⟨g, o + 3, none⟩ = some (.int .u8 b3)) (c4 : w.cell? ⟨g, o + 4, none⟩ = some (.int .u8 b4)) (c5 : w.cell? ⟨g, o + 5, none⟩ = some (.int .u8 b5)) (c6 : w.cell? ⟨g, o + 6, none⟩ = some (.int .u8 b6)) (c7 : w.cell? ⟨g, o + 7, none⟩ = some (.int .u8 b7)) :
    Calls Try.prog 19 #[.slice (some ⟨g, o, none⟩) n c] w fun e w' => e = .returned (.agg #[.int .u64 (val 8 [b0, b1, b2, b3, b4, b5, b6, b7]), .int .i64 8]) ∧ Below w.heap.size w w' := by
  unfold maxLen at hm
  have d0 := fun x => cell_new x c0
  have f0 := fun x y => cell_new y (d0 x)
  have d1 := fun x => cell_new x c1
  have f1 := fun x y => cell_new y (d1 x)
  have d2 := fun x => cell_new x c2
  have f2 := fun x y => cell_new y (d2 x)
  have d3 := fun x => cell_new x c3
  have f3 := fun x y => cell_new y (d3 x)
  have d4 := fun x => cell_new x c4
  have f4 := fun x y => cell_new y (d4 x)
  have d5 := fun x => cell_new x c5
  have f5 := fun x y => cell_new y (d5 x)
  have d6 := fun x => cell_new x c6
  have f6 := fun x y => cell_new y (d6 x)
  have d7 := fun x => cell_new x c7
  have f7 := fun x y => cell_new y (d7 x)
  have n0 : 0 < n := by omega
  have m1 : (1 : Int) ≤ (n : Int) := by omega
  have k1 : ¬ c = 1 := by omega
  have m4 : (4 : Int) ≤ (n : Int) := by omega
  have k4 : ¬ c = 4 := by omega
  have nc : (n : Int) ≤ (c : Int) := by omega
  go_enter Try.func19, Try.ntmps19
  go_wp2_with (go_at_call 16; refine (len_is b0 _ l0 u0 (v := 8) ha.out rfl).mono ?_; rintro e w' ⟨rfl, rfl⟩)
  go_region_held3 (fun w' => w'.cell? ⟨g, o, none⟩ = some (.int .u8 b0)) (go_keep)
    (first
      | (go_at_call_of 25 (o + (1 : Nat)); refine (rd32_any g (o + 1) _ _ b1 b2 b3 b4 l1 u1 l2 u2 l3 u3 l4 u4 _ (by omega) (by first | exact cell_new _ (cell_new _ c1) | exact cell_new _ (cell_new _ (cell_new _ c1))) (by first | exact cell_new _ (cell_new _ c2) | exact cell_new _ (cell_new _ (cell_new _ c2))) (by first | exact cell_new _ (cell_new _ c3) | exact cell_new _ (cell_new _ (cell_new _ c3))) (by first | exact cell_new _ (cell_new _ c4) | exact cell_new _ (cell_new _ (cell_new _ c4)))).mono ?_; rintro e w' ⟨rfl, rfl⟩)
      | (go_at_call_of 25 (o + (4 : Nat)); refine (rd32_any g (o + 4) _ _ b4 b5 b6 b7 l4 u4 l5 u5 l6 u6 l7 u7 _ (by omega) (by first | exact cell_new _ (cell_new _ c4) | exact cell_new _ (cell_new _ (cell_new _ c4))) (by first | exact cell_new _ (cell_new _ c5) | exact cell_new _ (cell_new _ (cell_new _ c5))) (by first | exact cell_new _ (cell_new _ c6) | exact cell_new _ (cell_new _ (cell_new _ c6))) (by first | exact cell_new _ (cell_new _ c7) | exact cell_new _ (cell_new _ (cell_new _ c7)))).mono ?_; rintro e w' ⟨rfl, rfl⟩))
  all_goals go_wp2
  all_goals
    refine bodyPost_ret (v := .agg #[.int .u64 (val 8 [b0, b1, b2, b3, b4, b5, b6, b7]), .int .i64 8]) ?_ rfl ⟨rfl, ?_⟩
    · simp [results, Try.results19, go_sem]
      exact val8 b0 b1 b2 b3 b4 b5 b6 b7 l0 u0 l1 u1 l2 u2 l3 u3 l4 u4 l5 u5 l6 u6 l7 u7
    · repeat (first | exact Below.refl _ _ | refine Below.drew ?_ | refine Below.alloc ?_ (by simp <;> omega) _)

set_option maxRecDepth 100000 in
set_option maxHeartbeats 2000000 in
theorem dec9 (g o n c : Nat) (b0 b1 b2 b3 b4 b5 b6 b7 b8 : Int) (l0 : 0 ≤ b0) (u0 : b0 ≤ 255) (l1 : 0 ≤ b1) (u1 : b1 ≤ 255) (l2 : 0 ≤ b2) (u2 : b2 ≤ 255) (l3 : 0 ≤ b3) (u3 : b3 ≤ 255) (l4 : 0 ≤ b4) (u4 : b4 ≤ 255) (l5 : 0 ≤ b5) (u5 : b5 ≤ 255) (l6 : 0 ≤ b6) (u6 : b6 ≤ 255) (l7 : 0 ≤ b7) (u7 : b7 ≤ 255) (l8 : 0 ≤ b8) (u8 : b8 ≤ 255) (w : World) (hn : 9 ≤ n) (hc : n ≤ c) (hm : c ≤ maxLen) (ha : Hid (ann b0 = 9))
    (c0 : w.cell? ⟨g, o, none⟩ = some (.int .u8 b0)) (c1 : w.cell? ⟨g, o + 1, none⟩ = some (.int .u8 b1)) (c2 : w.cell? ⟨g, o + 2, none⟩ = some (.int .u8 b2)) (c3 : w.cell? ⟨g, o + 3, none⟩ = some (.int .u8 b3)) (c4 : w.cell? ⟨g, o + 4, none⟩ = some (.int .u8 b4)) (c5 : w.cell? ⟨g, o + 5, none⟩ = some (.int .u8 b5)) (c6 : w.cell? ⟨g, o + 6, none⟩ = some (.int .u8 b6)) (c7 : w.cell? ⟨g, o + 7, none⟩ = some (.int .u8 b7)) (c8 : w.cell? ⟨g, o + 8, none⟩ = some (.int .u8 b8)) :
    Calls Try.prog 19 #[.slice (some ⟨g, o, none⟩) n c] w fun e w' => e = .returned (.agg #[.int .u64 (val 9 [b0, b1, b2, b3, b4, b5, b6, b7, b8]), .int .i64 9]) ∧ Below w.heap.size w w' := by
  unfold maxLen at hm
  have d0 := fun x => cell_new x c0
  have f0 := fun x y => cell_new y (d0 x)
  have d1 := fun x => cell_new x c1
  have f1 := fun x y => cell_new y (d1 x)
  have d2 := fun x => cell_new x c2
  have f2 := fun x y => cell_new y (d2 x)
  have d3 := fun x => cell_new x c3
  have f3 := fun x y => cell_new y (d3 x)
  have d4 := fun x => cell_new x c4
  have f4 := fun x y => cell_new y (d4 x)
  have d5 := fun x => cell_new x c5
  have f5 := fun x y => cell_new y (d5 x)
  have d6 := fun x => cell_new x c6
  have f6 := fun x y => cell_new y (d6 x)
  have d7 := fun x => cell_new x c7
  have f7 := fun x y => cell_new y (d7 x)
  have d8 := fun x => cell_new x c8
  have f8 := fun x y => cell_new y (d8 x)
  have n0 : 0 < n := by omega
  have m1 : (1 : Int) ≤ (n : Int) := by omega
  have k1 : ¬ c = 1 := by omega
  have nc : (n : Int) ≤ (c : Int) := by omega
  go_enter Try.func19, Try.ntmps19
  go_wp2_with (go_at_call 16; refine (len_is b0 _ l0 u0 (v := 9) ha.out rfl).mono ?_; rintro e w' ⟨rfl, rfl⟩)
  go_region_held3 (fun w' => w'.cell? ⟨g, o, none⟩ = some (.int .u8 b0)) (go_keep)
    (first
      | (go_at_call 26; refine (rd64_any g (o + 1) _ _ b1 b2 b3 b4 b5 b6 b7 b8 l1 u1 l2 u2 l3 u3 l4 u4 l5 u5 l6 u6 l7 u7 l8 u8 _ (by omega) (by first | exact cell_new _ (cell_new _ c1) | exact cell_new _ (cell_new _ (cell_new _ c1))) (by first | exact cell_new _ (cell_new _ c2) | exact cell_new _ (cell_new _ (cell_new _ c2))) (by first | exact cell_new _ (cell_new _ c3) | exact cell_new _ (cell_new _ (cell_new _ c3))) (by first | exact cell_new _ (cell_new _ c4) | exact cell_new _ (cell_new _ (cell_new _ c4))) (by first | exact cell_new _ (cell_new _ c5) | exact cell_new _ (cell_new _ (cell_new _ c5))) (by first | exact cell_new _ (cell_new _ c6) | exact cell_new _ (cell_new _ (cell_new _ c6))) (by first | exact cell_new _ (cell_new _ c7) | exact cell_new _ (cell_new _ (cell_new _ c7))) (by first | exact cell_new _ (cell_new _ c8) | exact cell_new _ (cell_new _ (cell_new _ c8)))).mono ?_; rintro e w' ⟨rfl, rfl⟩))
  all_goals go_wp2
  all_goals
    refine bodyPost_ret (v := .agg #[.int .u64 (val 9 [b0, b1, b2, b3, b4, b5, b6, b7, b8]), .int .i64 9]) ?_ rfl ⟨rfl, ?_⟩
    · simp [results, Try.results19, go_sem]
      exact val9 b0 b1 b2 b3 b4 b5 b6 b7 b8 l0 u0 l1 u1 l2 u2 l3 u3 l4 u4 l5 u5 l6 u6 l7 u7 l8 u8
    · repeat (first | exact Below.refl _ _ | refine Below.drew ?_ | refine Below.alloc ?_ (by simp <;> omega) _)

end Go.Proofs.Qxb6619351a
