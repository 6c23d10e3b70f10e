/-
  The walk of FnPacerSpacingHostsApartLastCrawlDelayWins (3).
-/
import Derived.Test.Qxb6616919aTwo
namespace Go.Proofs.Qxb6616919a
open Go.RowKit

section
variable (a b : ByteArray) (D R M c1 c2 ld : Int) (w : World)

set_option maxRecDepth 100000 in
theorem law3_long (h3 : 1048576 < a.size + b.size) (hm1 : a.size ≤ maxLen) (hm2 : b.size ≤ maxLen) :
    Calls Try.prog 3 #[.string a, .string b, .int .i64 D, .int .i64 R, .int .i64 M, .int .i64 c1, .int .i64 c2, .int .i64 ld] w fun e w' => e = .returned (.bool true) ∧ w = w' := by
  have q := fun w => bytes7_no a b D R M c1 c2 ld w hm1 hm2 h3
  go_enter Try.func3, Try.ntmps3
  go_wp2_with (go_at_call 7; refine (q _).mono ?_; rintro e w' ⟨rfl, rfl⟩)
  go_ret
  exact ⟨rfl, rfl⟩

set_option maxRecDepth 100000 in
theorem law3_mid (h3 : a.size + b.size ≤ 1048576) (h : 524288 < a.size ∨ (a.size ≤ 524288 ∧ 524288 < b.size)) :
    Calls Try.prog 3 #[.string a, .string b, .int .i64 D, .int .i64 R, .int .i64 M, .int .i64 c1, .int .i64 c2, .int .i64 ld] w fun e w' => e = .returned (.bool true) ∧ w = w' := by
  have q := fun w => bytes7_ok a b D R M c1 c2 ld w (by omega) (by omega) h3
  rcases h with h | ⟨h, h'⟩
  · go_enter Try.func3, Try.ntmps3
    go_wp2_with (go_at_call 7; refine (q _).mono ?_; rintro e w' ⟨rfl, rfl⟩)
    go_ret
    exact ⟨rfl, rfl⟩
  · go_enter Try.func3, Try.ntmps3
    go_wp2_with (go_at_call 7; refine (q _).mono ?_; rintro e w' ⟨rfl, rfl⟩)
    go_ret
    exact ⟨rfl, rfl⟩

set_option maxRecDepth 100000 in
theorem law3_same (h : a.size ≤ 524288) (h' : b.size ≤ 524288) (e : a = b) :
    Calls Try.prog 3 #[.string a, .string b, .int .i64 D, .int .i64 R, .int .i64 M, .int .i64 c1, .int .i64 c2, .int .i64 ld] w fun e w' => e = .returned (.bool true) ∧ w = w' := by
  subst e
  have q := fun w => bytes7_ok a a D R M c1 c2 ld w (by omega) (by omega) (by omega)
  go_enter Try.func3, Try.ntmps3
  go_wp2_with (go_at_call 7; refine (q _).mono ?_; rintro e w' ⟨rfl, rfl⟩)
  go_ret
  exact ⟨rfl, rfl⟩

set_option maxRecDepth 100000 in
set_option maxHeartbeats 4000000 in
theorem law3_main (h : a.size ≤ 524288) (h' : b.size ≤ 524288) (ne : a ≠ b) :
    Calls Try.prog 3 #[.string a, .string b, .int .i64 D, .int .i64 R, .int .i64 M, .int .i64 c1, .int .i64 c2, .int .i64 ld] w fun e w' => e = .returned (.bool true) ∧ Below w.heap.size w w' := by
  have q := fun w => bytes7_ok a b D R M c1 c2 ld w (by omega) (by omega) (by omega)
  have ne2 : (a.toList == b.toList) = false := Bool.eq_false_iff.2 fun e => ne (by
    have e' := eq_of_beq e
    rw [ByteArray.toList_eq, ByteArray.toList_eq] at e'
    exact ByteArray.ext (Array.ext' e'))
  go_enter Try.func3, Try.ntmps3
  go_wp2_with (first
    | (go_at_call 7; refine (q _).mono ?_; rintro e w' ⟨rfl, rfl⟩)
    | (go_at_call 8; refine (make_any D R M _).mono ?_; rintro e w1 ⟨pb, x0, x1, x2, mb, rfl, hp, lp, lm, bm⟩)
    | (go_at_call 9; first
        | (refine (lone_crawl hp lm bm a c1).mono ?_; rintro e w2 ⟨rfl, ha, lo⟩; clear hp)
        | (refine (two_crawl tw c2).mono ?_; rintro e w4 ⟨rfl, tw⟩))
    | (go_at_call 10; refine (two_teach lo ne ld).mono ?_; rintro e w3 ⟨rfl, hb, tw⟩)
    | (go_at_call 11; first
        | (refine (two_space_a tw).mono ?_; rintro e w5 ⟨rfl, tw⟩)
        | (refine (two_space_b tw).mono ?_; rintro e w6 ⟨rfl, tw⟩))
    | (go_at_call 13; refine (min_any _ _ _).mono ?_; rintro e w7 ⟨rfl, rfl⟩)
    | (go_at_call 12; refine (max_any _ _ _ _).mono ?_; rintro e w8 ⟨rfl, rfl⟩))
  go_ret
  exact ⟨rfl, tw.bel⟩
end
end Go.Proofs.Qxb6616919a
