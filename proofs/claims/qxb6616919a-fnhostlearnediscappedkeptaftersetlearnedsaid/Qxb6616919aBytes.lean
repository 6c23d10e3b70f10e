/-
  The laws' own size checks (7, 14, 21, 23).
-/
import Derived.Test.Qxb6616919aOne
namespace Go.Proofs.Qxb6616919a
open Go.RowKit

section
variable (a b : ByteArray) (a1 a2 a3 a4 a5 a6 a7 : Int) (w : World)

theorem bytes23_ok (h : a.size ≤ 1048576) : Calls Try.prog 23 #[.string a, .int .i64 a1, .int .i64 a2, .int .i64 a3, .int .i64 a4, .int .i64 a5] w fun e w' => e = .returned (.bool true) ∧ w = w' := by
  go_enter Try.func23, Try.ntmps23
  go_wp2
  go_ret
  exact ⟨rfl, rfl⟩
theorem bytes23_no (h : 1048576 < a.size) (hm : a.size ≤ maxLen) : Calls Try.prog 23 #[.string a, .int .i64 a1, .int .i64 a2, .int .i64 a3, .int .i64 a4, .int .i64 a5] w fun e w' => e = .returned (.bool false) ∧ w = w' := by
  unfold maxLen at hm
  go_enter Try.func23, Try.ntmps23
  go_wp2
  go_ret
  exact ⟨rfl, rfl⟩
theorem bytes21_ok (h : a.size ≤ 1048576) : Calls Try.prog 21 #[.string a, .int .i64 a1, .int .i64 a2, .int .i64 a3, .int .i64 a4, .int .i64 a5] w fun e w' => e = .returned (.bool true) ∧ w = w' := by
  go_enter Try.func21, Try.ntmps21
  go_wp2
  go_ret
  exact ⟨rfl, rfl⟩
theorem bytes21_no (h : 1048576 < a.size) (hm : a.size ≤ maxLen) : Calls Try.prog 21 #[.string a, .int .i64 a1, .int .i64 a2, .int .i64 a3, .int .i64 a4, .int .i64 a5] w fun e w' => e = .returned (.bool false) ∧ w = w' := by
  unfold maxLen at hm
  go_enter Try.func21, Try.ntmps21
  go_wp2
  go_ret
  exact ⟨rfl, rfl⟩
theorem bytes14_ok (h : a.size ≤ 1048576) : Calls Try.prog 14 #[.string a, .int .i64 a1, .int .i64 a2, .int .i64 a3, .int .i64 a4, .int .i64 a5, .int .i64 a6, .int .i32 a7] w fun e w' => e = .returned (.bool true) ∧ w = w' := by
  go_enter Try.func14, Try.ntmps14
  go_wp2
  go_ret
  exact ⟨rfl, rfl⟩
theorem bytes14_no (h : 1048576 < a.size) (hm : a.size ≤ maxLen) : Calls Try.prog 14 #[.string a, .int .i64 a1, .int .i64 a2, .int .i64 a3, .int .i64 a4, .int .i64 a5, .int .i64 a6, .int .i32 a7] w fun e w' => e = .returned (.bool false) ∧ w = w' := by
  unfold maxLen at hm
  go_enter Try.func14, Try.ntmps14
  go_wp2
  go_ret
  exact ⟨rfl, rfl⟩
theorem bytes7_ok (h1 : a.size ≤ 1048576) (h2 : b.size ≤ 1048576) (h3 : a.size + b.size ≤ 1048576) : Calls Try.prog 7 #[.string a, .string b, .int .i64 a1, .int .i64 a2, .int .i64 a3, .int .i64 a4, .int .i64 a5, .int .i64 a6] w fun e w' => e = .returned (.bool true) ∧ w = w' := by
  go_enter Try.func7, Try.ntmps7
  go_wp2
  go_ret
  exact ⟨rfl, rfl⟩
theorem bytes7_no (hm1 : a.size ≤ maxLen) (hm2 : b.size ≤ maxLen) (h3 : 1048576 < a.size + b.size) : Calls Try.prog 7 #[.string a, .string b, .int .i64 a1, .int .i64 a2, .int .i64 a3, .int .i64 a4, .int .i64 a5, .int .i64 a6] w fun e w' => e = .returned (.bool false) ∧ w = w' := by
  unfold maxLen at hm1 hm2
  by_cases h1 : a.size ≤ 1048576
  · by_cases h2 : b.size ≤ 1048576
    · go_enter Try.func7, Try.ntmps7
      go_wp2
      go_ret
      exact ⟨rfl, rfl⟩
    · go_enter Try.func7, Try.ntmps7
      go_wp2
      go_ret
      exact ⟨rfl, rfl⟩
  · go_enter Try.func7, Try.ntmps7
    go_wp2
    go_ret
    exact ⟨rfl, rfl⟩
end
end Go.Proofs.Qxb6616919a
