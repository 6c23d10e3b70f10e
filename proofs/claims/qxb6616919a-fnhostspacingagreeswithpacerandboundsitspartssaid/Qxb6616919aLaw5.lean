/-
  The walk of FnHostSpacingAgreesWithPacerAndBoundsItsParts (5).
-/
import Derived.Test.Qxb6616919aBytes
import Derived.Below
namespace Go.Proofs.Qxb6616919a
open Go.RowKit

theorem mx_ge1 (a b c : Int) : a ≤ mx a b c := by unfold mx; split <;> (try split) <;> omega
theorem mx_ge2 (a b c : Int) : b ≤ mx a b c := by unfold mx; split <;> (try split) <;> omega
theorem mx_ge3 (a b c : Int) : c ≤ mx a b c := by unfold mx; split <;> (try split) <;> omega

section
variable (name : ByteArray) (D R M cd ld : Int) (w : World)

set_option maxRecDepth 100000 in
theorem law5_long (h : 1048576 < name.size) (hm : name.size ≤ maxLen) :
    Calls Try.prog 5 #[.string name, .int .i64 D, .int .i64 R, .int .i64 M, .int .i64 cd, .int .i64 ld] w fun e w' => e = .returned (.bool true) ∧ w = w' := by
  have q := fun w => bytes21_no name D R M cd ld w h hm
  go_enter Try.func5, Try.ntmps5
  go_wp2_with (go_at_call 21; refine (q _).mono ?_; rintro e w' ⟨rfl, rfl⟩)
  go_ret
  exact ⟨rfl, rfl⟩

set_option maxRecDepth 100000 in
set_option maxHeartbeats 4000000 in
theorem law5_main (h : name.size ≤ 1048576) :
    Calls Try.prog 5 #[.string name, .int .i64 D, .int .i64 R, .int .i64 M, .int .i64 cd, .int .i64 ld] w fun e w' => e = .returned (.bool true) ∧ Below w.heap.size w w' := by
  have q := fun w => bytes21_ok name D R M cd ld w h
  have g1 := mx_ge1 D cd (mn ld M)
  have g2 := mx_ge2 D cd (mn ld M)
  have g3 := mx_ge3 D cd (mn ld M)
  go_enter Try.func5, Try.ntmps5
  go_wp2_with (first
    | (go_at_call 21; refine (q _).mono ?_; rintro e w' ⟨rfl, rfl⟩)
    | (go_at_call 8; refine (make_any D R M _).mono ?_; rintro e w1 ⟨pb, x0, x1, x2, mb, rfl, hp, lp, lm, bm⟩)
    | (go_at_call 15; refine (first_host hp lm bm name).mono ?_; rintro e w2 ⟨hb, rfl, o⟩)
    | (go_at_call 9; refine (one_crawl o _).mono ?_; rintro e w5 ⟨rfl, o⟩)
    | (go_at_call 10; refine (one_teach o ld 0 0 0).mono ?_; rintro e w3 ⟨rfl, o, hk⟩)
    | (go_at_call 22; refine (one_zzspace o).mono ?_; rintro e w4 ⟨rfl, o⟩)
    | (go_at_call 16; refine (one_zzlearned o).mono ?_; rintro e w6 ⟨rfl, o, bl⟩)
    | (go_at_call 13; refine (min_any _ _ _).mono ?_; rintro e w7 ⟨rfl, rfl⟩)
    | (go_at_call 12; refine (max_any _ _ _ _).mono ?_; rintro e w8 ⟨rfl, rfl⟩)
    | (go_at_call 11; refine (one_space (o.below ((Below.refl _ _).alloc (Nat.le_refl _) _))).mono ?_; rintro e w9 ⟨rfl, o⟩))
  go_ret
  exact ⟨rfl, o.bel⟩
end
end Go.Proofs.Qxb6616919a
