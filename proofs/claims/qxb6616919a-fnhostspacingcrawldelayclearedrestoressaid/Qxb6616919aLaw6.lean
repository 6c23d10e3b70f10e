/-
  The walk of FnHostSpacingCrawlDelayClearedRestores (6).
-/
import Derived.Test.Qxb6616919aBytes
import Derived.Below
namespace Go.Proofs.Qxb6616919a
open Go.RowKit

section
variable (name : ByteArray) (D R M ld cd : Int) (w : World)

set_option maxRecDepth 100000 in
theorem law6_long (h : 1048576 < name.size) (hm : name.size ≤ maxLen) :
    Calls Try.prog 6 #[.string name, .int .i64 D, .int .i64 R, .int .i64 M, .int .i64 ld, .int .i64 cd] w fun e w' => e = .returned (.bool true) ∧ w = w' := by
  have q := fun w => bytes23_no name D R M ld cd w h hm
  go_enter Try.func6, Try.ntmps6
  go_wp2_with (go_at_call 23; refine (q _).mono ?_; rintro e w' ⟨rfl, rfl⟩)
  go_ret
  exact ⟨rfl, rfl⟩

set_option maxRecDepth 100000 in
set_option maxHeartbeats 4000000 in
theorem law6_main (h : name.size ≤ 1048576) :
    Calls Try.prog 6 #[.string name, .int .i64 D, .int .i64 R, .int .i64 M, .int .i64 ld, .int .i64 cd] w fun e w' => e = .returned (.bool true) ∧ Below w.heap.size w w' := by
  have q := fun w => bytes23_ok name D R M ld cd w h
  go_enter Try.func6, Try.ntmps6
  go_wp2_with (first
    | (go_at_call 23; refine (q _).mono ?_; rintro e w' ⟨rfl, rfl⟩)
    | (go_at_call 8; refine (make_any D R M _).mono ?_; rintro e w1 ⟨pb, x0, x1, x2, mb, rfl, hp, lp, lm, bm⟩)
    | (go_at_call 15; refine (first_host hp lm bm name).mono ?_; rintro e w2 ⟨hb, rfl, o⟩)
    | (go_at_call 10; refine (one_teach o ld 0 0 0).mono ?_; rintro e w3 ⟨rfl, o, hk⟩)
    | (go_at_call 22; refine (one_zzspace o).mono ?_; rintro e w4 ⟨rfl, o⟩)
    | (go_at_call 9; refine (one_crawl o _).mono ?_; rintro e w5 ⟨rfl, o⟩)
    | (go_at_call 13; refine (min_any _ _ _).mono ?_; rintro e w6 ⟨rfl, rfl⟩)
    | (go_at_call 12; refine (max_any _ _ _ _).mono ?_; rintro e w7 ⟨rfl, rfl⟩))
  go_ret
  exact ⟨rfl, o.bel⟩
end
end Go.Proofs.Qxb6616919a
