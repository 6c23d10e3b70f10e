/-
  (time.Time).Add (33) to the zero time, and zzAtB1 (17).
-/
import Derived.Test.Qxb6616919aTime
namespace Go.Proofs.Qxb6616919a
open Go.RowKit

theorem tmod_neg {n : Int} (h : n < 0) : n.tmod 1000000000 = -((-n) % 1000000000) := by
  rw [show n = -(-n) by omega, Int.neg_tmod, Int.tmod_eq_emod_of_nonneg (by omega)]
  simp
theorem tdiv_neg {n : Int} (h : n < 0) : n.tdiv 1000000000 = -((-n) / 1000000000) := by
  rw [show n = -(-n) by omega, Int.neg_tdiv, Int.tdiv_eq_ediv_of_nonneg (by omega)]
  simp

section
variable (n : Int) (w : World)

set_option maxRecDepth 100000 in
set_option maxHeartbeats 1000000 in
theorem add_pos (h0 : 0 ≤ n) (h1 : n ≤ 9223372036854775807) :
    Calls Try.prog 33 #[.agg #[.int .u64 0, .int .i64 0, .pointer none], .int .i64 n] w fun e w' => e = .returned (.agg #[.int .u64 (n % 1000000000), .int .i64 (n / 1000000000), .pointer none]) ∧ Below w.heap.size w w' := by
  have q0 := zero_and
  have q1 := zero_andNot
  have q2 := or_zero (x := n % 1000000000) (by omega) (by omega)
  have q3 := and63 (x := n % 1000000000) (by omega) (by omega)
  have q4 : 0 ≤ n % 1000000000 := by omega
  have q5 : n % 1000000000 < 1000000000 := by omega
  have q6 : 0 ≤ n / 1000000000 := by omega
  have q7 : n / 1000000000 ≤ 9223372036 := by omega
  go_enter Try.func33, Try.ntmps33
  go_wp2_with (first
    | (go_at_call 36; refine (nsec_any (wl := 0) ?_ (by omega) (by omega)).mono ?_; (simp [go_sem]); rintro e w' ⟨rfl, rfl⟩)
    | (go_at_call 41; refine (addSec_any (wl := n % 1000000000) (n / 1000000000) ?_ ?_ ?_ q4 q5 (by omega) (by omega)).mono ?_; (simp [go_sem]); (simp [go_sem]); (simp [go_sem]); rintro e w' ⟨rfl, rfl⟩))
  refine bodyPost_ret (v := .agg #[.int .u64 (n % 1000000000), .int .i64 (n / 1000000000), .pointer none]) ?_ rfl ⟨rfl, ?_⟩
  · simp [results, Try.results33, go_sem]
  · exact ((Below.refl _ _).alloc (Nat.le_refl _) _).alloc (by simp) _

set_option maxRecDepth 100000 in
set_option maxHeartbeats 1000000 in
theorem add_even (r0 : n.tmod 1000000000 = 0) (q6 : -9223372037 ≤ n.tdiv 1000000000) (q7 : n.tdiv 1000000000 ≤ 0) :
    Calls Try.prog 33 #[.agg #[.int .u64 0, .int .i64 0, .pointer none], .int .i64 n] w fun e w' => e = .returned (.agg #[.int .u64 0, .int .i64 (n.tdiv 1000000000), .pointer none]) ∧ Below w.heap.size w w' := by
  have q0 := zero_and
  have q1 := zero_andNot
  have q2 := or_zero (x := 0) (by omega) (by omega)
  have q3 := and63 (x := 0) (by omega) (by omega)
  go_enter Try.func33, Try.ntmps33
  go_wp2_with (first
    | (go_at_call 36; refine (nsec_any (wl := 0) ?_ (by omega) (by omega)).mono ?_; (simp [go_sem]); rintro e w' ⟨rfl, rfl⟩)
    | (go_at_call 41; refine (addSec_any (wl := 0) (n.tdiv 1000000000) ?_ ?_ ?_ (by omega) (by omega) (by omega) (by omega)).mono ?_; (simp [go_sem]); (simp [go_sem]); (simp [go_sem]); rintro e w' ⟨rfl, rfl⟩))
  refine bodyPost_ret (v := .agg #[.int .u64 0, .int .i64 (n.tdiv 1000000000), .pointer none]) ?_ rfl ⟨rfl, ?_⟩
  · simp [results, Try.results33, go_sem]
  · exact ((Below.refl _ _).alloc (Nat.le_refl _) _).alloc (by simp) _

set_option maxRecDepth 100000 in
set_option maxHeartbeats 1000000 in
theorem add_neg (r0 : n.tmod 1000000000 < 0) (r1 : -1000000000 < n.tmod 1000000000) (q6 : -9223372037 ≤ n.tdiv 1000000000) (q7 : n.tdiv 1000000000 ≤ 0) :
    Calls Try.prog 33 #[.agg #[.int .u64 0, .int .i64 0, .pointer none], .int .i64 n] w fun e w' => e = .returned (.agg #[.int .u64 (n.tmod 1000000000 + 1000000000), .int .i64 (n.tdiv 1000000000 - 1), .pointer none]) ∧ Below w.heap.size w w' := by
  have q0 := zero_and
  have q1 := zero_andNot
  have q2 := or_zero (x := n.tmod 1000000000 + 1000000000) (by omega) (by omega)
  have q3 := and63 (x := n.tmod 1000000000 + 1000000000) (by omega) (by omega)
  go_enter Try.func33, Try.ntmps33
  go_wp2_with (first
    | (go_at_call 36; refine (nsec_any (wl := 0) ?_ (by omega) (by omega)).mono ?_; (simp [go_sem]); rintro e w' ⟨rfl, rfl⟩)
    | (go_at_call 41; refine (addSec_any (wl := n.tmod 1000000000 + 1000000000) (n.tdiv 1000000000 - 1) ?_ ?_ ?_ (by omega) (by omega) (by omega) (by omega)).mono ?_; (simp [go_sem]); (simp [go_sem]); (simp [go_sem]); rintro e w' ⟨rfl, rfl⟩))
  refine bodyPost_ret (v := .agg #[.int .u64 (n.tmod 1000000000 + 1000000000), .int .i64 (n.tdiv 1000000000 - 1), .pointer none]) ?_ rfl ⟨rfl, ?_⟩
  · simp [results, Try.results33, go_sem]
  · exact ((Below.refl _ _).alloc (Nat.le_refl _) _).alloc (by simp) _

/-- The zero time, moved by n nanoseconds. -/
theorem add_any (h0 : -9223372036854775808 ≤ n) (h1 : n ≤ 9223372036854775807) :
    Calls Try.prog 33 #[.agg #[.int .u64 0, .int .i64 0, .pointer none], .int .i64 n] w fun e w' => e = .returned (.agg #[.int .u64 (n % 1000000000), .int .i64 (n / 1000000000), .pointer none]) ∧ Below w.heap.size w w' := by
  by_cases hn : 0 ≤ n
  · exact add_pos n w hn h1
  · have m1 := tmod_neg (n := n) (by omega)
    have m2 := tdiv_neg (n := n) (by omega)
    by_cases hr : n.tmod 1000000000 = 0
    · have e := add_even n w hr (by omega) (by omega)
      rw [show n.tdiv 1000000000 = n / 1000000000 by omega, show (0 : Int) = n % 1000000000 by omega] at e
      rw [← show (0 : Int) = n % 1000000000 by omega] at e ⊢
      exact e
    · have e := add_neg n w (by omega) (by omega) (by omega) (by omega)
      rw [show n.tdiv 1000000000 - 1 = n / 1000000000 by omega, show n.tmod 1000000000 + 1000000000 = n % 1000000000 by omega] at e
      exact e

set_option maxRecDepth 100000 in
theorem at_any (h0 : -9223372036854775808 ≤ n) (h1 : n ≤ 9223372036854775807) :
    Calls Try.prog 17 #[.int .i64 n] w fun e w' => e = .returned (.agg #[.int .u64 (n % 1000000000), .int .i64 (n / 1000000000), .pointer none]) ∧ Below w.heap.size w w' := by
  have ha := fun w => add_any n w h0 h1
  go_enter Try.func17, Try.ntmps17
  go_wp2_with (go_at_call 33; refine (ha _).mono ?_; rintro e w1 ⟨rfl, b1⟩; have hz := heap_below b1 (heap_new _ (heap_alloc_new w _)); have z0 := (cell_of_row w1 w.heap.size 0 _ _ _ hz).trans (show _ = some (Value.int .u64 0) from rfl); have z1 := (cell_of_row w1 w.heap.size 1 _ _ _ hz).trans (show _ = some (Value.int .i64 0) from rfl); have z2 := (cell_of_row w1 w.heap.size 2 _ _ _ hz).trans (show _ = some (Value.pointer none) from rfl); have f0 := frozen_row (j := 0) hz; have f1 := frozen_row (j := 1) hz; have f2 := frozen_row (j := 2) hz; have BW : Below w.heap.size w w1 := (((Below.refl _ w).alloc (Nat.le_refl _) _).alloc (by simp) _).trans (b1.mono (by simp; omega)); have HZ : Hid (w1.heap[w.heap.size]? = some (.cells #[.int .u64 0, .int .i64 0, .pointer none] 31 (0, 0))) := hz; clear hz b1)
  refine bodyPost_ret (v := .agg #[.int .u64 (n % 1000000000), .int .i64 (n / 1000000000), .pointer none]) ?_ rfl ⟨rfl, ?_⟩
  · simp [results, Try.results17, go_sem, z0, z1, z2]
  · exact ((BW.setCell (Nat.le_refl _) _).setCell (Nat.le_refl _) _).setCell (Nat.le_refl _) _
end
end Go.Proofs.Qxb6616919a
