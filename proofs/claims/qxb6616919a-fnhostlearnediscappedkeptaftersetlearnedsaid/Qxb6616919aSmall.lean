/-
  zzMinDurB1 (13), zzMax3DurB1 (12), (*atomic.Int64).Store (27), Load (40), (Learned).Capped (30).
-/
import Derived.Test.Qxb6616919aLocks
import Derived.WalkKit
import Derived.WalkSpells
import Derived.WalkLawsBesides
import Derived.Laws.LoneSync
namespace Go.Proofs.Qxb6616919a
open Go.RowKit

/-- The ending, said of two equal numbers. -/
theorem ret_int {k : IntKind} {a b : Int} (h : a = b) : Ending.returned (.int k a) = .returned (.int k b) := by rw [h]

def mn (a b : Int) : Int := if a < b then a else b
def mx (a b c : Int) : Int := if c > (if b > a then b else a) then c else (if b > a then b else a)

theorem mn_le {a b : Int} (h : a ≤ b) : mn a b = a := by unfold mn; split <;> omega
theorem mn_gt {a b : Int} (h : b < a) : mn a b = b := by unfold mn; split <;> omega

theorem min_any (a b : Int) (w : World) : Calls Try.prog 13 #[.int .i64 a, .int .i64 b] w fun e w' => e = .returned (.int .i64 (mn a b)) ∧ w = w' := by
  by_cases h : a < b
  · have E : Hid (mn a b = a) := if_pos h
    go_enter Try.func13, Try.ntmps13
    go_wp2
    go_ret
    exact ⟨ret_int E.out.symm, rfl⟩
  · have E : Hid (mn a b = b) := if_neg h
    go_enter Try.func13, Try.ntmps13
    go_wp2
    go_ret
    exact ⟨ret_int E.out.symm, rfl⟩

theorem max_any (a b c : Int) (w : World) : Calls Try.prog 12 #[.int .i64 a, .int .i64 b, .int .i64 c] w fun e w' => e = .returned (.int .i64 (mx a b c)) ∧ w = w' := by
  by_cases h : a < b
  · by_cases h2 : b < c
    · have e0 : mx a b c = c := by unfold mx; split <;> (try split) <;> omega
      have E : Hid (mx a b c = c) := e0
      clear e0
      go_enter Try.func12, Try.ntmps12
      go_wp2
      go_ret
      exact ⟨ret_int E.out.symm, rfl⟩
    · have e0 : mx a b c = b := by unfold mx; split <;> (try split) <;> omega
      have E : Hid (mx a b c = b) := e0
      clear e0
      go_enter Try.func12, Try.ntmps12
      go_wp2
      go_ret
      exact ⟨ret_int E.out.symm, rfl⟩
  · by_cases h2 : a < c
    · have e0 : mx a b c = c := by unfold mx; split <;> (try split) <;> omega
      have E : Hid (mx a b c = c) := e0
      clear e0
      go_enter Try.func12, Try.ntmps12
      go_wp2
      go_ret
      exact ⟨ret_int E.out.symm, rfl⟩
    · have e0 : mx a b c = a := by unfold mx; split <;> (try split) <;> omega
      have E : Hid (mx a b c = a) := e0
      clear e0
      go_enter Try.func12, Try.ntmps12
      go_wp2
      go_ret
      exact ⟨ret_int E.out.symm, rfl⟩

theorem store_any (a : Addr) (u : Value) (c : Int) (w : World) (hc : w.cell? a = some u) (hz : w.frozen? a = false) :
    Calls Try.prog 27 #[.pointer (some a), .int .i64 c] w fun e w' => e = .returned (.tuple #[]) ∧ w.setCell a (.int .i64 c) = w' := by
  have hs := run_call_store (P := Try.prog) (w := w) (k := .i64) (y := c) Try.func37 (by kernel_rfl) rfl (by kernel_rfl) (by kernel_rfl) hc hz
  go_enter Try.func27, Try.ntmps27
  go_wp2
  go_end0
  exact ⟨rfl, rfl⟩

theorem load_any (a : Addr) (c : Int) (w : World) (hc : w.cell? a = some (.int .i64 c)) :
    Calls Try.prog 40 #[.pointer (some a)] w fun e w' => e = .returned (.int .i64 c) ∧ w = w' := by
  have hs := run_call_load (P := Try.prog) Try.func51 (by kernel_rfl) rfl (by kernel_rfl) .i64 (by kernel_rfl) hc
  go_enter Try.func40, Try.ntmps40
  go_wp2
  go_ret
  exact ⟨rfl, rfl⟩

/-- A Learned, as a value. -/
def lrn (ld lf wl ex : Int) : Value := .agg #[.int .i64 ld, .int .i64 lf, .int .u64 wl, .int .i64 ex, .pointer none]

set_option maxRecDepth 100000 in
theorem capped_any (ld lf m wl ex : Int) (w : World) :
    Calls Try.prog 30 #[.agg #[.int .i64 ld, .int .i64 lf, .int .u64 wl, .int .i64 ex, .pointer none], .int .i64 m] w fun e w' => e = .returned (lrn (mn ld m) (mn lf (mn ld m)) wl ex) ∧ Below w.heap.size w w' := by
  by_cases h : ld ≤ m
  · have E1 : Hid (mn ld m = ld) := mn_le h
    by_cases h2 : lf ≤ ld
    · have E2 : Hid (mn lf ld = lf) := mn_le h2
      go_enter Try.func30, Try.ntmps30
      go_wp2
      refine bodyPost_ret (v := .agg #[.int .i64 ld, .int .i64 lf, .int .u64 wl, .int .i64 ex, .pointer none]) ?_ rfl ⟨?_, ?_⟩
      · simp [results, Try.results30, go_sem]
      · unfold lrn; rw [E1.out, E2.out]
      · repeat (first | exact Below.refl _ _ | refine Below.drew ?_ | refine Below.alloc ?_ (by simp <;> omega) _)
    · have E2 : Hid (mn lf ld = ld) := mn_gt (by omega)
      go_enter Try.func30, Try.ntmps30
      go_wp2
      refine bodyPost_ret (v := .agg #[.int .i64 ld, .int .i64 ld, .int .u64 wl, .int .i64 ex, .pointer none]) ?_ rfl ⟨?_, ?_⟩
      · simp [results, Try.results30, go_sem]
      · unfold lrn; rw [E1.out, E2.out]
      · repeat (first | exact Below.refl _ _ | refine Below.drew ?_ | refine Below.alloc ?_ (by simp <;> omega) _)
  · have E1 : Hid (mn ld m = m) := mn_gt (by omega)
    by_cases h2 : lf ≤ m
    · have E2 : Hid (mn lf m = lf) := mn_le h2
      go_enter Try.func30, Try.ntmps30
      go_wp2
      refine bodyPost_ret (v := .agg #[.int .i64 m, .int .i64 lf, .int .u64 wl, .int .i64 ex, .pointer none]) ?_ rfl ⟨?_, ?_⟩
      · simp [results, Try.results30, go_sem]
      · unfold lrn; rw [E1.out, E2.out]
      · repeat (first | exact Below.refl _ _ | refine Below.drew ?_ | refine Below.alloc ?_ (by simp <;> omega) _)
    · have E2 : Hid (mn lf m = m) := mn_gt (by omega)
      go_enter Try.func30, Try.ntmps30
      go_wp2
      refine bodyPost_ret (v := .agg #[.int .i64 m, .int .i64 m, .int .u64 wl, .int .i64 ex, .pointer none]) ?_ rfl ⟨?_, ?_⟩
      · simp [results, Try.results30, go_sem]
      · unfold lrn; rw [E1.out, E2.out]
      · repeat (first | exact Below.refl _ _ | refine Below.drew ?_ | refine Below.alloc ?_ (by simp <;> omega) _)

end Go.Proofs.Qxb6616919a
