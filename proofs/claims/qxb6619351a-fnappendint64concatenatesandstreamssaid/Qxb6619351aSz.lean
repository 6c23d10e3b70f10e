/-
  sizeModel (13), encLen64 (8), SizeUint64 (14), math/bits.Len64 (21).
-/
import Derived.Test.Qxb6619351aRd
import Derived.LoopN
set_option linter.unusedVariables false
namespace Go.Proofs.Qxb6619351a
open Go.RowKit Plain

set_option maxRecDepth 100000 in
set_option maxHeartbeats 1000000 in
theorem model1 (u : Int) (w : World) (h0 : 0 ≤ u) (h1 : u < 128) :
    Calls Try.prog 13 #[.int .u64 u] w fun e w' => e = .returned (.int .i64 1) ∧ w' = w := by
  go_enter Try.func13, Try.ntmps13
  go_wp2
  refine wp_loop_rounds 1 ?_
  rw [rounds_succ]
  go_wp2
  go_ret
  exact ⟨rfl, rfl⟩

set_option maxRecDepth 100000 in
set_option maxHeartbeats 1000000 in
theorem model2 (u : Int) (w : World) (h0 : 128 ≤ u) (h1 : u < 16384) :
    Calls Try.prog 13 #[.int .u64 u] w fun e w' => e = .returned (.int .i64 2) ∧ w' = w := by
  go_enter Try.func13, Try.ntmps13
  go_wp2
  refine wp_loop_rounds 2 ?_
  rw [rounds_succ]
  go_wp2
  rw [rounds_succ]
  go_wp2
  go_ret
  exact ⟨rfl, rfl⟩

set_option maxRecDepth 100000 in
set_option maxHeartbeats 1000000 in
theorem model3 (u : Int) (w : World) (h0 : 16384 ≤ u) (h1 : u < 2097152) :
    Calls Try.prog 13 #[.int .u64 u] w fun e w' => e = .returned (.int .i64 3) ∧ w' = w := by
  go_enter Try.func13, Try.ntmps13
  go_wp2
  refine wp_loop_rounds 3 ?_
  rw [rounds_succ]
  go_wp2
  rw [rounds_succ]
  go_wp2
  rw [rounds_succ]
  go_wp2
  go_ret
  exact ⟨rfl, rfl⟩

set_option maxRecDepth 100000 in
set_option maxHeartbeats 1000000 in
theorem model4 (u : Int) (w : World) (h0 : 2097152 ≤ u) (h1 : u < 268435456) :
    Calls Try.prog 13 #[.int .u64 u] w fun e w' => e = .returned (.int .i64 4) ∧ w' = w := by
  go_enter Try.func13, Try.ntmps13
  go_wp2
  refine wp_loop_rounds 4 ?_
  rw [rounds_succ]
  go_wp2
  rw [rounds_succ]
  go_wp2
  rw [rounds_succ]
  go_wp2
  rw [rounds_succ]
  go_wp2
  go_ret
  exact ⟨rfl, rfl⟩

set_option maxRecDepth 100000 in
set_option maxHeartbeats 1000000 in
theorem model5 (u : Int) (w : World) (h0 : 268435456 ≤ u) (h1 : u < 34359738368) :
    Calls Try.prog 13 #[.int .u64 u] w fun e w' => e = .returned (.int .i64 5) ∧ w' = w := by
  go_enter Try.func13, Try.ntmps13
  go_wp2
  refine wp_loop_rounds 5 ?_
  rw [rounds_succ]
  go_wp2
  rw [rounds_succ]
  go_wp2
  rw [rounds_succ]
  go_wp2
  rw [rounds_succ]
  go_wp2
  rw [rounds_succ]
  go_wp2
  go_ret
  exact ⟨rfl, rfl⟩

set_option maxRecDepth 100000 in
set_option maxHeartbeats 1000000 in
theorem model6 (u : Int) (w : World) (h0 : 34359738368 ≤ u) (h1 : u < 4398046511104) :
    Calls Try.prog 13 #[.int .u64 u] w fun e w' => e = .returned (.int .i64 6) ∧ w' = w := by
  go_enter Try.func13, Try.ntmps13
  go_wp2
  refine wp_loop_rounds 6 ?_
  rw [rounds_succ]
  go_wp2
  rw [rounds_succ]
  go_wp2
  rw [rounds_succ]
  go_wp2
  rw [rounds_succ]
  go_wp2
  rw [rounds_succ]
  go_wp2
  rw [rounds_succ]
  go_wp2
  go_ret
  exact ⟨rfl, rfl⟩

set_option maxRecDepth 100000 in
set_option maxHeartbeats 1000000 in
theorem model7 (u : Int) (w : World) (h0 : 4398046511104 ≤ u) (h1 : u < 562949953421312) :
    Calls Try.prog 13 #[.int .u64 u] w fun e w' => e = .returned (.int .i64 7) ∧ w' = w := by
  go_enter Try.func13, Try.ntmps13
  go_wp2
  refine wp_loop_rounds 7 ?_
  rw [rounds_succ]
  go_wp2
  rw [rounds_succ]
  go_wp2
  rw [rounds_succ]
  go_wp2
  rw [rounds_succ]
  go_wp2
  rw [rounds_succ]
  go_wp2
  rw [rounds_succ]
  go_wp2
  rw [rounds_succ]
  go_wp2
  go_ret
  exact ⟨rfl, rfl⟩

set_option maxRecDepth 100000 in
set_option maxHeartbeats 1000000 in
theorem model8 (u : Int) (w : World) (h0 : 562949953421312 ≤ u) (h1 : u < 72057594037927936) :
    Calls Try.prog 13 #[.int .u64 u] w fun e w' => e = .returned (.int .i64 8) ∧ w' = w := by
  go_enter Try.func13, Try.ntmps13
  go_wp2
  refine wp_loop_rounds 8 ?_
  rw [rounds_succ]
  go_wp2
  rw [rounds_succ]
  go_wp2
  rw [rounds_succ]
  go_wp2
  rw [rounds_succ]
  go_wp2
  rw [rounds_succ]
  go_wp2
  rw [rounds_succ]
  go_wp2
  rw [rounds_succ]
  go_wp2
  rw [rounds_succ]
  go_wp2
  go_ret
  exact ⟨rfl, rfl⟩

set_option maxRecDepth 100000 in
set_option maxHeartbeats 1000000 in
theorem model9 (u : Int) (w : World) (h0 : 72057594037927936 ≤ u) :
    Calls Try.prog 13 #[.int .u64 u] w fun e w' => e = .returned (.int .i64 9) ∧ w' = w := by
  go_enter Try.func13, Try.ntmps13
  go_wp2
  refine wp_loop_rounds 9 ?_
  rw [rounds_succ]
  go_wp2
  rw [rounds_succ]
  go_wp2
  rw [rounds_succ]
  go_wp2
  rw [rounds_succ]
  go_wp2
  rw [rounds_succ]
  go_wp2
  rw [rounds_succ]
  go_wp2
  rw [rounds_succ]
  go_wp2
  rw [rounds_succ]
  go_wp2
  rw [rounds_succ]
  go_wp2
  go_ret
  exact ⟨rfl, rfl⟩

/-- sizeModel. -/
theorem model_any (u : Int) (w : World) (h0 : 0 ≤ u) : Calls Try.prog 13 #[.int .u64 u] w fun e w' => e = .returned (.int .i64 (sz u)) ∧ w' = w := by
  unfold sz
  by_cases c1 : u < 128
  · rw [if_pos c1]; exact model1 u w h0 c1
  rw [if_neg c1]
  by_cases c2 : u < 16384
  · rw [if_pos c2]; exact model2 u w (by omega) c2
  rw [if_neg c2]
  by_cases c3 : u < 2097152
  · rw [if_pos c3]; exact model3 u w (by omega) c3
  rw [if_neg c3]
  by_cases c4 : u < 268435456
  · rw [if_pos c4]; exact model4 u w (by omega) c4
  rw [if_neg c4]
  by_cases c5 : u < 34359738368
  · rw [if_pos c5]; exact model5 u w (by omega) c5
  rw [if_neg c5]
  by_cases c6 : u < 4398046511104
  · rw [if_pos c6]; exact model6 u w (by omega) c6
  rw [if_neg c6]
  by_cases c7 : u < 562949953421312
  · rw [if_pos c7]; exact model7 u w (by omega) c7
  rw [if_neg c7]
  by_cases c8 : u < 72057594037927936
  · rw [if_pos c8]; exact model8 u w (by omega) c8
  rw [if_neg c8]
  exact model9 u w (by omega)

theorem wrap_len (k : Nat) (K : Int) (hK : K = k) (b n : Nat) (hb : b ≤ 8) (hk : k ≤ 56) (hn : n = k + b) : wrap64 (K + wrap64 (b : Int)) = (n : Int) := by
  unfold wrap64
  omega
theorem wrap_len0 (b n : Nat) (hb : b ≤ 8) (hn : n = b) : wrap64 (wrap64 (b : Int)) = (n : Int) := by
  unfold wrap64
  omega

set_option maxRecDepth 100000 in
set_option maxHeartbeats 1000000 in
theorem encl_pos1 (v : Int) (w : World) (h0 : 0 ≤ v) (h1 : v < 64) :
    Calls Try.prog 8 #[.int .i64 v] w fun e w' => e = .returned (.int .i64 1) ∧ w' = w := by
  go_enter Try.func8, Try.ntmps8
  go_wp2
  refine wp_loop_rounds 1 ?_
  rw [rounds_succ]
  go_wp2
  go_ret
  exact ⟨rfl, rfl⟩

set_option maxRecDepth 100000 in
set_option maxHeartbeats 1000000 in
theorem encl_neg1 (v : Int) (w : World) (h0 : -64 ≤ v) (h1 : v < 0) :
    Calls Try.prog 8 #[.int .i64 v] w fun e w' => e = .returned (.int .i64 1) ∧ w' = w := by
  go_enter Try.func8, Try.ntmps8
  go_wp2
  refine wp_loop_rounds 1 ?_
  rw [rounds_succ]
  go_wp2
  go_ret
  exact ⟨rfl, rfl⟩

set_option maxRecDepth 100000 in
set_option maxHeartbeats 1000000 in
theorem encl_pos2 (v : Int) (w : World) (h0 : 64 ≤ v) (h1 : v < 8192) :
    Calls Try.prog 8 #[.int .i64 v] w fun e w' => e = .returned (.int .i64 2) ∧ w' = w := by
  go_enter Try.func8, Try.ntmps8
  go_wp2
  refine wp_loop_rounds 2 ?_
  rw [rounds_succ]
  go_wp2
  rw [rounds_succ]
  go_wp2
  go_ret
  exact ⟨rfl, rfl⟩

set_option maxRecDepth 100000 in
set_option maxHeartbeats 1000000 in
theorem encl_neg2 (v : Int) (w : World) (h0 : -8192 ≤ v) (h1 : v < -64) :
    Calls Try.prog 8 #[.int .i64 v] w fun e w' => e = .returned (.int .i64 2) ∧ w' = w := by
  go_enter Try.func8, Try.ntmps8
  go_wp2
  refine wp_loop_rounds 2 ?_
  rw [rounds_succ]
  go_wp2
  rw [rounds_succ]
  go_wp2
  go_ret
  exact ⟨rfl, rfl⟩

set_option maxRecDepth 100000 in
set_option maxHeartbeats 1000000 in
theorem encl_pos3 (v : Int) (w : World) (h0 : 8192 ≤ v) (h1 : v < 1048576) :
    Calls Try.prog 8 #[.int .i64 v] w fun e w' => e = .returned (.int .i64 3) ∧ w' = w := by
  go_enter Try.func8, Try.ntmps8
  go_wp2
  refine wp_loop_rounds 3 ?_
  rw [rounds_succ]
  go_wp2
  rw [rounds_succ]
  go_wp2
  rw [rounds_succ]
  go_wp2
  go_ret
  exact ⟨rfl, rfl⟩

set_option maxRecDepth 100000 in
set_option maxHeartbeats 1000000 in
theorem encl_neg3 (v : Int) (w : World) (h0 : -1048576 ≤ v) (h1 : v < -8192) :
    Calls Try.prog 8 #[.int .i64 v] w fun e w' => e = .returned (.int .i64 3) ∧ w' = w := by
  go_enter Try.func8, Try.ntmps8
  go_wp2
  refine wp_loop_rounds 3 ?_
  rw [rounds_succ]
  go_wp2
  rw [rounds_succ]
  go_wp2
  rw [rounds_succ]
  go_wp2
  go_ret
  exact ⟨rfl, rfl⟩

set_option maxRecDepth 100000 in
set_option maxHeartbeats 1000000 in
theorem encl_pos4 (v : Int) (w : World) (h0 : 1048576 ≤ v) (h1 : v < 134217728) :
    Calls Try.prog 8 #[.int .i64 v] w fun e w' => e = .returned (.int .i64 4) ∧ w' = w := by
  go_enter Try.func8, Try.ntmps8
  go_wp2
  refine wp_loop_rounds 4 ?_
  rw [rounds_succ]
  go_wp2
  rw [rounds_succ]
  go_wp2
  rw [rounds_succ]
  go_wp2
  rw [rounds_succ]
  go_wp2
  go_ret
  exact ⟨rfl, rfl⟩

set_option maxRecDepth 100000 in
set_option maxHeartbeats 1000000 in
theorem encl_neg4 (v : Int) (w : World) (h0 : -134217728 ≤ v) (h1 : v < -1048576) :
    Calls Try.prog 8 #[.int .i64 v] w fun e w' => e = .returned (.int .i64 4) ∧ w' = w := by
  go_enter Try.func8, Try.ntmps8
  go_wp2
  refine wp_loop_rounds 4 ?_
  rw [rounds_succ]
  go_wp2
  rw [rounds_succ]
  go_wp2
  rw [rounds_succ]
  go_wp2
  rw [rounds_succ]
  go_wp2
  go_ret
  exact ⟨rfl, rfl⟩

set_option maxRecDepth 100000 in
set_option maxHeartbeats 1000000 in
theorem encl_pos5 (v : Int) (w : World) (h0 : 134217728 ≤ v) (h1 : v < 17179869184) :
    Calls Try.prog 8 #[.int .i64 v] w fun e w' => e = .returned (.int .i64 5) ∧ w' = w := by
  go_enter Try.func8, Try.ntmps8
  go_wp2
  refine wp_loop_rounds 5 ?_
  rw [rounds_succ]
  go_wp2
  rw [rounds_succ]
  go_wp2
  rw [rounds_succ]
  go_wp2
  rw [rounds_succ]
  go_wp2
  rw [rounds_succ]
  go_wp2
  go_ret
  exact ⟨rfl, rfl⟩

set_option maxRecDepth 100000 in
set_option maxHeartbeats 1000000 in
theorem encl_neg5 (v : Int) (w : World) (h0 : -17179869184 ≤ v) (h1 : v < -134217728) :
    Calls Try.prog 8 #[.int .i64 v] w fun e w' => e = .returned (.int .i64 5) ∧ w' = w := by
  go_enter Try.func8, Try.ntmps8
  go_wp2
  refine wp_loop_rounds 5 ?_
  rw [rounds_succ]
  go_wp2
  rw [rounds_succ]
  go_wp2
  rw [rounds_succ]
  go_wp2
  rw [rounds_succ]
  go_wp2
  rw [rounds_succ]
  go_wp2
  go_ret
  exact ⟨rfl, rfl⟩

set_option maxRecDepth 100000 in
set_option maxHeartbeats 1000000 in
theorem encl_pos6 (v : Int) (w : World) (h0 : 17179869184 ≤ v) (h1 : v < 2199023255552) :
    Calls Try.prog 8 #[.int .i64 v] w fun e w' => e = .returned (.int .i64 6) ∧ w' = w := by
  go_enter Try.func8, Try.ntmps8
  go_wp2
  refine wp_loop_rounds 6 ?_
  rw [rounds_succ]
  go_wp2
  rw [rounds_succ]
  go_wp2
  rw [rounds_succ]
  go_wp2
  rw [rounds_succ]
  go_wp2
  rw [rounds_succ]
  go_wp2
  rw [rounds_succ]
  go_wp2
  go_ret
  exact ⟨rfl, rfl⟩

set_option maxRecDepth 100000 in
set_option maxHeartbeats 1000000 in
theorem encl_neg6 (v : Int) (w : World) (h0 : -2199023255552 ≤ v) (h1 : v < -17179869184) :
    Calls Try.prog 8 #[.int .i64 v] w fun e w' => e = .returned (.int .i64 6) ∧ w' = w := by
  go_enter Try.func8, Try.ntmps8
  go_wp2
  refine wp_loop_rounds 6 ?_
  rw [rounds_succ]
  go_wp2
  rw [rounds_succ]
  go_wp2
  rw [rounds_succ]
  go_wp2
  rw [rounds_succ]
  go_wp2
  rw [rounds_succ]
  go_wp2
  rw [rounds_succ]
  go_wp2
  go_ret
  exact ⟨rfl, rfl⟩

set_option maxRecDepth 100000 in
set_option maxHeartbeats 1000000 in
theorem encl_pos7 (v : Int) (w : World) (h0 : 2199023255552 ≤ v) (h1 : v < 281474976710656) :
    Calls Try.prog 8 #[.int .i64 v] w fun e w' => e = .returned (.int .i64 7) ∧ w' = w := by
  go_enter Try.func8, Try.ntmps8
  go_wp2
  refine wp_loop_rounds 7 ?_
  rw [rounds_succ]
  go_wp2
  rw [rounds_succ]
  go_wp2
  rw [rounds_succ]
  go_wp2
  rw [rounds_succ]
  go_wp2
  rw [rounds_succ]
  go_wp2
  rw [rounds_succ]
  go_wp2
  rw [rounds_succ]
  go_wp2
  go_ret
  exact ⟨rfl, rfl⟩

set_option maxRecDepth 100000 in
set_option maxHeartbeats 1000000 in
theorem encl_neg7 (v : Int) (w : World) (h0 : -281474976710656 ≤ v) (h1 : v < -2199023255552) :
    Calls Try.prog 8 #[.int .i64 v] w fun e w' => e = .returned (.int .i64 7) ∧ w' = w := by
  go_enter Try.func8, Try.ntmps8
  go_wp2
  refine wp_loop_rounds 7 ?_
  rw [rounds_succ]
  go_wp2
  rw [rounds_succ]
  go_wp2
  rw [rounds_succ]
  go_wp2
  rw [rounds_succ]
  go_wp2
  rw [rounds_succ]
  go_wp2
  rw [rounds_succ]
  go_wp2
  rw [rounds_succ]
  go_wp2
  go_ret
  exact ⟨rfl, rfl⟩

set_option maxRecDepth 100000 in
set_option maxHeartbeats 1000000 in
theorem encl_pos8 (v : Int) (w : World) (h0 : 281474976710656 ≤ v) (h1 : v < 36028797018963968) :
    Calls Try.prog 8 #[.int .i64 v] w fun e w' => e = .returned (.int .i64 8) ∧ w' = w := by
  go_enter Try.func8, Try.ntmps8
  go_wp2
  refine wp_loop_rounds 8 ?_
  rw [rounds_succ]
  go_wp2
  rw [rounds_succ]
  go_wp2
  rw [rounds_succ]
  go_wp2
  rw [rounds_succ]
  go_wp2
  rw [rounds_succ]
  go_wp2
  rw [rounds_succ]
  go_wp2
  rw [rounds_succ]
  go_wp2
  rw [rounds_succ]
  go_wp2
  go_ret
  exact ⟨rfl, rfl⟩

set_option maxRecDepth 100000 in
set_option maxHeartbeats 1000000 in
theorem encl_neg8 (v : Int) (w : World) (h0 : -36028797018963968 ≤ v) (h1 : v < -281474976710656) :
    Calls Try.prog 8 #[.int .i64 v] w fun e w' => e = .returned (.int .i64 8) ∧ w' = w := by
  go_enter Try.func8, Try.ntmps8
  go_wp2
  refine wp_loop_rounds 8 ?_
  rw [rounds_succ]
  go_wp2
  rw [rounds_succ]
  go_wp2
  rw [rounds_succ]
  go_wp2
  rw [rounds_succ]
  go_wp2
  rw [rounds_succ]
  go_wp2
  rw [rounds_succ]
  go_wp2
  rw [rounds_succ]
  go_wp2
  rw [rounds_succ]
  go_wp2
  go_ret
  exact ⟨rfl, rfl⟩

set_option maxRecDepth 100000 in
set_option maxHeartbeats 1000000 in
theorem encl_pos9 (v : Int) (w : World) (h0 : 36028797018963968 ≤ v) (h1 : v ≤ 9223372036854775807) :
    Calls Try.prog 8 #[.int .i64 v] w fun e w' => e = .returned (.int .i64 9) ∧ w' = w := by
  go_enter Try.func8, Try.ntmps8
  go_wp2
  refine wp_loop_rounds 9 ?_
  rw [rounds_succ]
  go_wp2
  rw [rounds_succ]
  go_wp2
  rw [rounds_succ]
  go_wp2
  rw [rounds_succ]
  go_wp2
  rw [rounds_succ]
  go_wp2
  rw [rounds_succ]
  go_wp2
  rw [rounds_succ]
  go_wp2
  rw [rounds_succ]
  go_wp2
  rw [rounds_succ]
  go_wp2
  go_ret
  exact ⟨rfl, rfl⟩

set_option maxRecDepth 100000 in
set_option maxHeartbeats 1000000 in
theorem encl_neg9 (v : Int) (w : World) (h0 : -9223372036854775808 ≤ v) (h1 : v < -36028797018963968) :
    Calls Try.prog 8 #[.int .i64 v] w fun e w' => e = .returned (.int .i64 9) ∧ w' = w := by
  go_enter Try.func8, Try.ntmps8
  go_wp2
  refine wp_loop_rounds 9 ?_
  rw [rounds_succ]
  go_wp2
  rw [rounds_succ]
  go_wp2
  rw [rounds_succ]
  go_wp2
  rw [rounds_succ]
  go_wp2
  rw [rounds_succ]
  go_wp2
  rw [rounds_succ]
  go_wp2
  rw [rounds_succ]
  go_wp2
  rw [rounds_succ]
  go_wp2
  rw [rounds_succ]
  go_wp2
  go_ret
  exact ⟨rfl, rfl⟩

/-- encLen64. -/
theorem encl_any (v : Int) (w : World) (h0 : -9223372036854775808 ≤ v) (h1 : v ≤ 9223372036854775807) : Calls Try.prog 8 #[.int .i64 v] w fun e w' => e = .returned (.int .i64 (sz (zz v))) ∧ w' = w := by
  unfold sz zz
  by_cases hp : 0 ≤ v
  · rw [if_pos hp]
    by_cases c1 : 2 * v < 128
    · rw [if_pos c1]; exact encl_pos1 v w hp (by omega)
    rw [if_neg c1]
    by_cases c2 : 2 * v < 16384
    · rw [if_pos c2]; exact encl_pos2 v w (by omega) (by omega)
    rw [if_neg c2]
    by_cases c3 : 2 * v < 2097152
    · rw [if_pos c3]; exact encl_pos3 v w (by omega) (by omega)
    rw [if_neg c3]
    by_cases c4 : 2 * v < 268435456
    · rw [if_pos c4]; exact encl_pos4 v w (by omega) (by omega)
    rw [if_neg c4]
    by_cases c5 : 2 * v < 34359738368
    · rw [if_pos c5]; exact encl_pos5 v w (by omega) (by omega)
    rw [if_neg c5]
    by_cases c6 : 2 * v < 4398046511104
    · rw [if_pos c6]; exact encl_pos6 v w (by omega) (by omega)
    rw [if_neg c6]
    by_cases c7 : 2 * v < 562949953421312
    · rw [if_pos c7]; exact encl_pos7 v w (by omega) (by omega)
    rw [if_neg c7]
    by_cases c8 : 2 * v < 72057594037927936
    · rw [if_pos c8]; exact encl_pos8 v w (by omega) (by omega)
    rw [if_neg c8]
    exact encl_pos9 v w (by omega) h1
  · rw [if_neg hp]
    by_cases c1 : -2 * v - 1 < 128
    · rw [if_pos c1]; exact encl_neg1 v w (by omega) (by omega)
    rw [if_neg c1]
    by_cases c2 : -2 * v - 1 < 16384
    · rw [if_pos c2]; exact encl_neg2 v w (by omega) (by omega)
    rw [if_neg c2]
    by_cases c3 : -2 * v - 1 < 2097152
    · rw [if_pos c3]; exact encl_neg3 v w (by omega) (by omega)
    rw [if_neg c3]
    by_cases c4 : -2 * v - 1 < 268435456
    · rw [if_pos c4]; exact encl_neg4 v w (by omega) (by omega)
    rw [if_neg c4]
    by_cases c5 : -2 * v - 1 < 34359738368
    · rw [if_pos c5]; exact encl_neg5 v w (by omega) (by omega)
    rw [if_neg c5]
    by_cases c6 : -2 * v - 1 < 4398046511104
    · rw [if_pos c6]; exact encl_neg6 v w (by omega) (by omega)
    rw [if_neg c6]
    by_cases c7 : -2 * v - 1 < 562949953421312
    · rw [if_pos c7]; exact encl_neg7 v w (by omega) (by omega)
    rw [if_neg c7]
    by_cases c8 : -2 * v - 1 < 72057594037927936
    · rw [if_pos c8]; exact encl_neg8 v w (by omega) (by omega)
    rw [if_neg c8]
    exact encl_neg9 v w h0 (by omega)

theorem len64_0_eq (x : Int) (h0 : 0 ≤ x) (h1 : x < 256) : wrap64 (wrap64 (Lib.len8 x)) = (Lib.bitLen x.toNat : Int) := by
  have l := Lib.bitLen_le8' (x) (by omega) (by omega)
  have e : (x).toNat = x.toNat := by omega
  rw [Lib.len8_of (x) (by omega) (by omega)]
  rw [e] at l ⊢
  exact wrap_len0 _ _ l rfl

set_option maxRecDepth 100000 in
set_option maxHeartbeats 1000000 in
theorem len64_0 (x : Int) (w : World) (h0 : 0 ≤ x) (h1 : x < 256) :
    Calls Try.prog 21 #[.int .u64 x] w fun e w' => e = .returned (.int .i64 (Lib.bitLen x.toNat)) ∧ w' = w := by
  have q0 : 0 ≤ x := by omega
  have q1 : x ≤ 255 := by omega
  go_enter Try.func21, Try.ntmps21
  go_wp2
  go_ret
  exact ⟨ret_int (len64_0_eq x h0 h1), rfl⟩

theorem len64_1_eq (x : Int) (h0 : 256 ≤ x) (h1 : x < 65536) : wrap64 (8 + wrap64 (Lib.len8 (x / 256))) = (Lib.bitLen x.toNat : Int) := by
  have l := Lib.bitLen_le8' (x / 256) (by omega) (by omega)
  have e : (x / 256).toNat = x.toNat / 256 := by omega
  rw [Lib.len8_of (x / 256) (by omega) (by omega)]
  rw [e] at l ⊢
  exact wrap_len 8 8 rfl _ _ l (by omega) (Lib.bitLen_shift8 x.toNat (by omega) (by omega))

set_option maxRecDepth 100000 in
set_option maxHeartbeats 1000000 in
theorem len64_1 (x : Int) (w : World) (h0 : 256 ≤ x) (h1 : x < 65536) :
    Calls Try.prog 21 #[.int .u64 x] w fun e w' => e = .returned (.int .i64 (Lib.bitLen x.toNat)) ∧ w' = w := by
  have q0 : 0 ≤ x / 256 := by omega
  have q1 : x / 256 ≤ 255 := by omega
  go_enter Try.func21, Try.ntmps21
  go_wp2
  go_ret
  exact ⟨ret_int (len64_1_eq x h0 h1), rfl⟩

theorem len64_2_eq (x : Int) (h0 : 65536 ≤ x) (h1 : x < 16777216) : wrap64 (16 + wrap64 (Lib.len8 (x / 65536))) = (Lib.bitLen x.toNat : Int) := by
  have l := Lib.bitLen_le8' (x / 65536) (by omega) (by omega)
  have e : (x / 65536).toNat = x.toNat / 65536 := by omega
  rw [Lib.len8_of (x / 65536) (by omega) (by omega)]
  rw [e] at l ⊢
  exact wrap_len 16 16 rfl _ _ l (by omega) (Lib.bitLen_shift16 x.toNat (by omega) (by omega))

set_option maxRecDepth 100000 in
set_option maxHeartbeats 1000000 in
theorem len64_2 (x : Int) (w : World) (h0 : 65536 ≤ x) (h1 : x < 16777216) :
    Calls Try.prog 21 #[.int .u64 x] w fun e w' => e = .returned (.int .i64 (Lib.bitLen x.toNat)) ∧ w' = w := by
  have q0 : 0 ≤ x / 65536 := by omega
  have q1 : x / 65536 ≤ 255 := by omega
  go_enter Try.func21, Try.ntmps21
  go_wp2
  go_ret
  exact ⟨ret_int (len64_2_eq x h0 h1), rfl⟩

theorem len64_3_eq (x : Int) (h0 : 16777216 ≤ x) (h1 : x < 4294967296) : wrap64 (24 + wrap64 (Lib.len8 (x / 65536 / 256))) = (Lib.bitLen x.toNat : Int) := by
  have l := Lib.bitLen_le8' (x / 65536 / 256) (by omega) (by omega)
  have e : (x / 65536 / 256).toNat = x.toNat / 16777216 := by omega
  rw [Lib.len8_of (x / 65536 / 256) (by omega) (by omega)]
  rw [e] at l ⊢
  exact wrap_len 24 24 rfl _ _ l (by omega) (Lib.bitLen_shift24 x.toNat (by omega) (by omega))

set_option maxRecDepth 100000 in
set_option maxHeartbeats 1000000 in
theorem len64_3 (x : Int) (w : World) (h0 : 16777216 ≤ x) (h1 : x < 4294967296) :
    Calls Try.prog 21 #[.int .u64 x] w fun e w' => e = .returned (.int .i64 (Lib.bitLen x.toNat)) ∧ w' = w := by
  have q0 : 0 ≤ x / 65536 / 256 := by omega
  have q1 : x / 65536 / 256 ≤ 255 := by omega
  go_enter Try.func21, Try.ntmps21
  go_wp2
  go_ret
  exact ⟨ret_int (len64_3_eq x h0 h1), rfl⟩

theorem len64_4_eq (x : Int) (h0 : 4294967296 ≤ x) (h1 : x < 1099511627776) : wrap64 (32 + wrap64 (Lib.len8 (x / 4294967296))) = (Lib.bitLen x.toNat : Int) := by
  have l := Lib.bitLen_le8' (x / 4294967296) (by omega) (by omega)
  have e : (x / 4294967296).toNat = x.toNat / 4294967296 := by omega
  rw [Lib.len8_of (x / 4294967296) (by omega) (by omega)]
  rw [e] at l ⊢
  exact wrap_len 32 32 rfl _ _ l (by omega) (Lib.bitLen_shift32 x.toNat (by omega) (by omega))

set_option maxRecDepth 100000 in
set_option maxHeartbeats 1000000 in
theorem len64_4 (x : Int) (w : World) (h0 : 4294967296 ≤ x) (h1 : x < 1099511627776) :
    Calls Try.prog 21 #[.int .u64 x] w fun e w' => e = .returned (.int .i64 (Lib.bitLen x.toNat)) ∧ w' = w := by
  have q0 : 0 ≤ x / 4294967296 := by omega
  have q1 : x / 4294967296 ≤ 255 := by omega
  go_enter Try.func21, Try.ntmps21
  go_wp2
  go_ret
  exact ⟨ret_int (len64_4_eq x h0 h1), rfl⟩

theorem len64_5_eq (x : Int) (h0 : 1099511627776 ≤ x) (h1 : x < 281474976710656) : wrap64 (40 + wrap64 (Lib.len8 (x / 4294967296 / 256))) = (Lib.bitLen x.toNat : Int) := by
  have l := Lib.bitLen_le8' (x / 4294967296 / 256) (by omega) (by omega)
  have e : (x / 4294967296 / 256).toNat = x.toNat / 1099511627776 := by omega
  rw [Lib.len8_of (x / 4294967296 / 256) (by omega) (by omega)]
  rw [e] at l ⊢
  exact wrap_len 40 40 rfl _ _ l (by omega) (Lib.bitLen_shift40 x.toNat (by omega) (by omega))

set_option maxRecDepth 100000 in
set_option maxHeartbeats 1000000 in
theorem len64_5 (x : Int) (w : World) (h0 : 1099511627776 ≤ x) (h1 : x < 281474976710656) :
    Calls Try.prog 21 #[.int .u64 x] w fun e w' => e = .returned (.int .i64 (Lib.bitLen x.toNat)) ∧ w' = w := by
  have q0 : 0 ≤ x / 4294967296 / 256 := by omega
  have q1 : x / 4294967296 / 256 ≤ 255 := by omega
  go_enter Try.func21, Try.ntmps21
  go_wp2
  go_ret
  exact ⟨ret_int (len64_5_eq x h0 h1), rfl⟩

theorem len64_6_eq (x : Int) (h0 : 281474976710656 ≤ x) (h1 : x < 72057594037927936) : wrap64 (48 + wrap64 (Lib.len8 (x / 4294967296 / 65536))) = (Lib.bitLen x.toNat : Int) := by
  have l := Lib.bitLen_le8' (x / 4294967296 / 65536) (by omega) (by omega)
  have e : (x / 4294967296 / 65536).toNat = x.toNat / 281474976710656 := by omega
  rw [Lib.len8_of (x / 4294967296 / 65536) (by omega) (by omega)]
  rw [e] at l ⊢
  exact wrap_len 48 48 rfl _ _ l (by omega) (Lib.bitLen_shift48 x.toNat (by omega) (by omega))

set_option maxRecDepth 100000 in
set_option maxHeartbeats 1000000 in
theorem len64_6 (x : Int) (w : World) (h0 : 281474976710656 ≤ x) (h1 : x < 72057594037927936) :
    Calls Try.prog 21 #[.int .u64 x] w fun e w' => e = .returned (.int .i64 (Lib.bitLen x.toNat)) ∧ w' = w := by
  have q0 : 0 ≤ x / 4294967296 / 65536 := by omega
  have q1 : x / 4294967296 / 65536 ≤ 255 := by omega
  go_enter Try.func21, Try.ntmps21
  go_wp2
  go_ret
  exact ⟨ret_int (len64_6_eq x h0 h1), rfl⟩

theorem len64_7_eq (x : Int) (h0 : 72057594037927936 ≤ x) (h1 : x < 18446744073709551616) : wrap64 (56 + wrap64 (Lib.len8 (x / 4294967296 / 65536 / 256))) = (Lib.bitLen x.toNat : Int) := by
  have l := Lib.bitLen_le8' (x / 4294967296 / 65536 / 256) (by omega) (by omega)
  have e : (x / 4294967296 / 65536 / 256).toNat = x.toNat / 72057594037927936 := by omega
  rw [Lib.len8_of (x / 4294967296 / 65536 / 256) (by omega) (by omega)]
  rw [e] at l ⊢
  exact wrap_len 56 56 rfl _ _ l (by omega) (Lib.bitLen_shift56 x.toNat (by omega) (by omega))

set_option maxRecDepth 100000 in
set_option maxHeartbeats 1000000 in
theorem len64_7 (x : Int) (w : World) (h0 : 72057594037927936 ≤ x) (h1 : x < 18446744073709551616) :
    Calls Try.prog 21 #[.int .u64 x] w fun e w' => e = .returned (.int .i64 (Lib.bitLen x.toNat)) ∧ w' = w := by
  have q0 : 0 ≤ x / 4294967296 / 65536 / 256 := by omega
  have q1 : x / 4294967296 / 65536 / 256 ≤ 255 := by omega
  go_enter Try.func21, Try.ntmps21
  go_wp2
  go_ret
  exact ⟨ret_int (len64_7_eq x h0 h1), rfl⟩

/-- math/bits.Len64. -/
theorem len64_any (x : Int) (w : World) (h0 : 0 ≤ x) (h1 : x < 18446744073709551616) :
    Calls Try.prog 21 #[.int .u64 x] w fun e w' => e = .returned (.int .i64 (Lib.bitLen x.toNat)) ∧ w' = w := by
  by_cases c0 : x < 256
  · exact len64_0 x w h0 c0
  by_cases c1 : x < 65536
  · exact len64_1 x w (by omega) c1
  by_cases c2 : x < 16777216
  · exact len64_2 x w (by omega) c2
  by_cases c3 : x < 4294967296
  · exact len64_3 x w (by omega) c3
  by_cases c4 : x < 1099511627776
  · exact len64_4 x w (by omega) c4
  by_cases c5 : x < 281474976710656
  · exact len64_5 x w (by omega) c5
  by_cases c6 : x < 72057594037927936
  · exact len64_6 x w (by omega) c6
  exact len64_7 x w (by omega) h1

theorem bitLenAux_le : ∀ (f x k : Nat), x < 2 ^ f → (Lib.bitLenAux f x ≤ k ↔ x < 2 ^ k)
  | 0, x, k, h => by
    have : x = 0 := by simpa using h
    subst this
    simp [Lib.bitLenAux, Nat.two_pow_pos]
  | f + 1, x, k, h => by
    unfold Lib.bitLenAux
    by_cases hx : x = 0
    · subst hx
      simp [Nat.two_pow_pos]
    · rw [if_neg hx]
      have hf : x / 2 < 2 ^ f := by rw [Nat.pow_succ] at h; omega
      cases k with
      | zero => simp; omega
      | succ j =>
        have := bitLenAux_le f (x / 2) j hf
        rw [Nat.pow_succ]
        omega

theorem bitLen_le (x k : Nat) (h : x < 18446744073709551616) : Lib.bitLen x ≤ k ↔ x < 2 ^ k := bitLenAux_le 64 x k h

/-- (9 l + 63) / 64 is the length of the shortest form. -/
theorem size_eq (v : Int) (h0 : 0 ≤ v) (h1 : v < 18446744073709551616) (x : Nat) (hx : (x : Int) = v ∨ (x : Int) = v + 1 ∧ v % 2 = 0) (hodd : x % 2 = 1) (hlt : x < 18446744073709551616) :
    (9 * Lib.bitLen x + 63) / 64 = sz v := by
  have a0 := bitLen_le x 0 hlt
  have a64 := bitLen_le x 64 hlt
  have a1 := bitLen_le x 7 hlt
  have a2 := bitLen_le x 14 hlt
  have a3 := bitLen_le x 21 hlt
  have a4 := bitLen_le x 28 hlt
  have a5 := bitLen_le x 35 hlt
  have a6 := bitLen_le x 42 hlt
  have a7 := bitLen_le x 49 hlt
  have a8 := bitLen_le x 56 hlt
  simp only [Nat.reducePow] at a0 a64 a1 a2 a3 a4 a5 a6 a7 a8
  unfold sz
  by_cases c1 : v < 128
  · rw [if_pos c1]; omega
  rw [if_neg c1]
  by_cases c2 : v < 16384
  · rw [if_pos c2]; omega
  rw [if_neg c2]
  by_cases c3 : v < 2097152
  · rw [if_pos c3]; omega
  rw [if_neg c3]
  by_cases c4 : v < 268435456
  · rw [if_pos c4]; omega
  rw [if_neg c4]
  by_cases c5 : v < 34359738368
  · rw [if_pos c5]; omega
  rw [if_neg c5]
  by_cases c6 : v < 4398046511104
  · rw [if_pos c6]; omega
  rw [if_neg c6]
  by_cases c7 : v < 562949953421312
  · rw [if_pos c7]; omega
  rw [if_neg c7]
  by_cases c8 : v < 72057594037927936
  · rw [if_pos c8]; omega
  rw [if_neg c8]
  omega

/-- The number's lowest bit set. -/
theorem or_one (v : Int) (h0 : 0 ≤ v) (h1 : v < 18446744073709551616) : bits .or .u64 v 1 = v / 2 * 2 + 1 := by
  obtain ⟨a, rfl⟩ := Int.eq_ofNat_of_zero_le h0
  have h := (bits_nat .u64 64 (by decide) wraps_u64 a 1 (by omega) (by omega)).2
  rw [show ((1 : Nat) : Int) = 1 from rfl] at h
  rw [h]
  have e : a ||| 1 = a / 2 * 2 + 1 := by
    have h2 := Nat.two_pow_add_eq_or_of_lt (i := 1) (show a % 2 < 2 ^ 1 by omega) (a / 2)
    have h3 := Nat.two_pow_add_eq_or_of_lt (i := 1) (show 1 < 2 ^ 1 by omega) (a / 2)
    have hm : (a % 2) ||| 1 = 1 := by rcases (show a % 2 = 0 ∨ a % 2 = 1 by omega) with h | h <;> rw [h] <;> rfl
    have ha : a = 2 ^ 1 * (a / 2) + a % 2 := by omega
    calc a ||| 1 = ((2 ^ 1 * (a / 2)) ||| (a % 2)) ||| 1 := by rw [← h2, ← ha]
      _ = (2 ^ 1 * (a / 2)) ||| 1 := by rw [Nat.or_assoc, hm]
      _ = a / 2 * 2 + 1 := by rw [← h3]; omega
  rw [e]
  omega

set_option maxRecDepth 100000 in
/-- SizeUint64. -/
theorem size_any (v : Int) (w : World) (h0 : 0 ≤ v) (h1 : v < 18446744073709551616) :
    Calls Try.prog 14 #[.int .u64 v] w fun e w' => e = .returned (.int .i64 (sz v)) ∧ w' = w := by
  have e1 := or_one v h0 h1
  have hs := size_eq v h0 h1 (v / 2 * 2 + 1).toNat (by omega) (by omega) (by omega)
  have hb : Lib.bitLen (v / 2 * 2 + 1).toNat ≤ 64 := (bitLen_le _ 64 (by omega)).2 (by omega)
  have HS : Hid ((9 * Lib.bitLen (v / 2 * 2 + 1).toNat + 63) / 64 = sz v) := hs
  clear hs
  go_enter Try.func14, Try.ntmps14
  go_wp2_with (go_at_call 21; refine (len64_any (v / 2 * 2 + 1) _ (by omega) (by omega)).mono ?_; rintro e w' ⟨rfl, rfl⟩)
  go_ret
  refine ⟨ret_int ?_, rfl⟩
  rw [← HS.out]
  omega

end Go.Proofs.Qxb6619351a
