/-
  The parts of package time on the road of law 4: nsec (36), sec (35), addSec (41), Add (33), zzAtB1 (17), IsZero (19), Equal (20).
-/
import Derived.Test.Qxb6616919aBytes
import Derived.Laws.BitsAllLaws
import Derived.Below
namespace Go.Proofs.Qxb6616919a
open Go.RowKit

theorem and30 {x : Int} (h0 : 0 ≤ x) (h1 : x < 1073741824) : bits .and .u64 x 1073741823 = x := by
  rw [u64_and x 1073741823 h0 (by omega) (by omega) (by omega)]
  have e : x.toNat &&& (1073741823 : Int).toNat = x.toNat := by
    rw [show (1073741823 : Int).toNat = 2 ^ 30 - 1 from rfl, Nat.and_two_pow_sub_one_eq_mod]
    exact Nat.mod_eq_of_lt (by omega)
  rw [e]; omega
theorem and63 {x : Int} (h0 : 0 ≤ x) (h1 : x < 1073741824) : bits .and .u64 x 9223372036854775808 = 0 := by
  rw [u64_and x 9223372036854775808 h0 (by omega) (by omega) (by omega)]
  rw [show (9223372036854775808 : Int).toNat = 2 ^ 63 from rfl, nat_bit]
  have : x.toNat / 2 ^ 63 = 0 := Nat.div_eq_of_lt (by omega)
  rw [this]; rfl
theorem and_self {x : Int} (h0 : 0 ≤ x) (h1 : x < 1073741824) : bits .and .u64 x x = x := by
  rw [u64_and x x h0 (by omega) h0 (by omega), Nat.and_self]; omega
theorem or_zero {x : Int} (h0 : 0 ≤ x) (h1 : x < 1073741824) : bits .or .u64 0 x = x := by
  rw [u64_or 0 x (by omega) (by omega) h0 (by omega)]
  rw [show (0 : Int).toNat = 0 from rfl, Nat.zero_or]; omega
theorem zero_andNot : bits .andNot .u64 0 1073741823 = 0 := by
  rw [u64_andNot 0 1073741823 (by omega) (by omega) (by omega) (by omega)]; rfl
theorem zero_and : bits .and .u64 0 1073741823 = 0 := and30 (by omega) (by omega)

section
variable {w : World} {b : Nat} {wl ex : Int}

theorem nsec_any (c0 : w.cell? ⟨b, 0, none⟩ = some (.int .u64 wl)) (h0 : 0 ≤ wl) (h1 : wl < 1000000000) :
    Calls Try.prog 36 #[.pointer (some ⟨b, 0, none⟩)] w fun e w' => e = .returned (.int .i32 wl) ∧ w = w' := by
  have e1 := and30 h0 (by omega)
  go_enter Try.func36, Try.ntmps36
  go_wp2
  go_ret
  exact ⟨rfl, rfl⟩

theorem sec_any (c0 : w.cell? ⟨b, 0, none⟩ = some (.int .u64 wl)) (c1 : w.cell? ⟨b, 1, none⟩ = some (.int .i64 ex)) (h0 : 0 ≤ wl) (h1 : wl < 1000000000) :
    Calls Try.prog 35 #[.pointer (some ⟨b, 0, none⟩)] w fun e w' => e = .returned (.int .i64 ex) ∧ w = w' := by
  have e1 := and63 h0 (by omega)
  go_enter Try.func35, Try.ntmps35
  go_wp2
  go_ret
  exact ⟨rfl, rfl⟩

theorem addSec_any (d : Int) (c0 : w.cell? ⟨b, 0, none⟩ = some (.int .u64 wl)) (c1 : w.cell? ⟨b, 1, none⟩ = some (.int .i64 0)) (f1 : w.frozen? ⟨b, 1, none⟩ = false) (h0 : 0 ≤ wl) (h1 : wl < 1000000000) (d0 : -9223372036854775807 ≤ d) (d1 : d ≤ 9223372036854775807) :
    Calls Try.prog 41 #[.pointer (some ⟨b, 0, none⟩), .int .i64 d] w fun e w' => e = .returned (.tuple #[]) ∧ w.setCell ⟨b, 1, none⟩ (.int .i64 d) = w' := by
  have e1 := and63 h0 (by omega)
  by_cases hd : 0 < d
  · go_enter Try.func41, Try.ntmps41
    go_wp2
    go_end0
    exact ⟨rfl, rfl⟩
  · go_enter Try.func41, Try.ntmps41
    go_wp2
    go_end0
    exact ⟨rfl, rfl⟩

theorem isZero_any (w : World) : Calls Try.prog 19 #[.agg #[.int .u64 0, .int .i64 0, .pointer none]] w fun e w' => e = .returned (.bool true) ∧ Below w.heap.size w w' := by
  go_enter Try.func19, Try.ntmps19
  go_wp2
  go_ret
  exact ⟨rfl, (Below.refl _ _).alloc (Nat.le_refl _) _⟩

theorem equal_any (w : World) (wl ex : Int) (h0 : 0 ≤ wl) (h1 : wl < 1000000000) : Calls Try.prog 20 #[.agg #[.int .u64 wl, .int .i64 ex, .pointer none], .agg #[.int .u64 wl, .int .i64 ex, .pointer none]] w fun e w' => e = .returned (.bool true) ∧ Below w.heap.size w w' := by
  have e1 := and63 h0 (by omega)
  have e2 := and_self h0 (by omega)
  go_enter Try.func20, Try.ntmps20
  go_wp2_with (first
    | (go_at_call 35; refine (sec_any (wl := wl) (ex := ex) ?_ ?_ h0 h1).mono ?_; (simp [go_sem]); (simp [go_sem]); rintro e w' ⟨rfl, rfl⟩)
    | (go_at_call 36; refine (nsec_any (wl := wl) ?_ h0 h1).mono ?_; (simp [go_sem]); rintro e w' ⟨rfl, rfl⟩))
  go_ret
  exact ⟨rfl, ((Below.refl _ _).alloc (Nat.le_refl _) _).alloc (by simp) _⟩
end
end Go.Proofs.Qxb6616919a
