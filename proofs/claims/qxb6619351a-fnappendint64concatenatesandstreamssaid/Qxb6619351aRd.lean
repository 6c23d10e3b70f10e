/-
  The walks of the library's functions that the seat's roads come to: math/bits.TrailingZeros8 (22), Len64 (21), binary.LittleEndian's Uint16, Uint32, Uint64 (24, 25, 26); and trimint.Len (16).
-/
import Derived.Test.Qxb6619351aLaw
import Derived.Test.Qxb6619351aZig
import Derived.Lib.BitFns
import Derived.Lib.Small
import Derived.Deep.RegionHeld3
namespace Go.Proofs.Qxb6619351a
open Go.RowKit Plain

/-- An old cell in a world with a new block. -/
theorem cell_new {w : World} {a : Addr} {v : Value} (o : Obj) (h : w.cell? a = some v) : (w.alloc o).cell? a = some v :=
  (World.cell?_of_block (w := w) (Below.heap_alloc w o _ (World.block_lt_of_cell? w _ h))).trans h

set_option maxRecDepth 100000 in
theorem tz8_any (x : Int) (w : World) (h0 : 0 ≤ x) (h1 : x ≤ 255) :
    Calls Try.prog 22 #[.int .u8 x] w fun e w' => e = .returned (.int .i64 (Lib.trailingZeros8 x.toNat)) ∧ w' = w := by
  go_enter Try.func22, Try.ntmps22
  go_wp2
  go_ret
  exact ⟨ret_int (by unfold wrap64; exact Lib.ntz8_int x h0 h1), rfl⟩

theorem ntz8_le (x : Int) (h0 : 0 ≤ x) (h1 : x ≤ 255) : Lib.trailingZeros8 x.toNat ≤ 8 := tz_le ⟨x.toNat, by omega⟩

theorem len_any (x : Int) (w : World) (h0 : 0 ≤ x) (h1 : x ≤ 255) :
    Calls Try.prog 16 #[.int .u8 x] w fun e w' => e = .returned (.int .i64 (ann x)) ∧ w' = w := by
  have hl := ntz8_le x h0 h1
  go_enter Try.func16, Try.ntmps16
  go_wp2_with (go_at_call 22; refine (tz8_any x _ h0 h1).mono ?_; rintro e w' ⟨rfl, rfl⟩)
  go_ret
  exact ⟨ret_int (by unfold ann; omega), rfl⟩

set_option maxRecDepth 100000 in
set_option maxHeartbeats 2000000 in
theorem rd16_any (g o n c : Nat) (b0 b1 : Int) (l0 : 0 ≤ b0) (u0 : b0 ≤ 255) (l1 : 0 ≤ b1) (u1 : b1 ≤ 255) (w : World) (hn : 2 ≤ n)
    (c0 : w.cell? ⟨g, o, none⟩ = some (.int .u8 b0)) (c1 : w.cell? ⟨g, o + 1, none⟩ = some (.int .u8 b1)) :
    Calls Try.prog 24 #[.agg #[], .slice (some ⟨g, o, none⟩) n c] w fun e w' => e = .returned (.int .u16 (Lib.leZ [b0, b1])) ∧ w' = (w.alloc (.cells #[] 42)).drew := by
  have n0 : 0 < n := by omega
  have n1 : (1 : Int) < (n : Int) := by omega
  have d0 := cell_new (.cells #[] 42) c0
  have d1 := cell_new (.cells #[] 42) c1
  go_enter Try.func24, Try.ntmps24
  go_wp2
  go_region_held3 (fun w' => w'.cell? ⟨g, o, none⟩ = some (.int .u8 b0) ∧ w'.cell? ⟨g, o + 1, none⟩ = some (.int .u8 b1)) (go_keep) (fail)
  go_wp2
  go_ret
  refine ⟨ret_int ?_, rfl⟩
  simp (disch := omega) only [u16_wrap_id, u16_or8]
  simp only [Lib.leZ]
  omega

set_option maxRecDepth 100000 in
set_option maxHeartbeats 2000000 in
theorem rd32_any (g o n c : Nat) (b0 b1 b2 b3 : Int) (l0 : 0 ≤ b0) (u0 : b0 ≤ 255) (l1 : 0 ≤ b1) (u1 : b1 ≤ 255) (l2 : 0 ≤ b2) (u2 : b2 ≤ 255) (l3 : 0 ≤ b3) (u3 : b3 ≤ 255) (w : World) (hn : 4 ≤ n)
    (c0 : w.cell? ⟨g, o, none⟩ = some (.int .u8 b0)) (c1 : w.cell? ⟨g, o + 1, none⟩ = some (.int .u8 b1)) (c2 : w.cell? ⟨g, o + 2, none⟩ = some (.int .u8 b2)) (c3 : w.cell? ⟨g, o + 3, none⟩ = some (.int .u8 b3)) :
    Calls Try.prog 25 #[.agg #[], .slice (some ⟨g, o, none⟩) n c] w fun e w' => e = .returned (.int .u32 (Lib.leZ [b0, b1, b2, b3])) ∧ w' = (w.alloc (.cells #[] 42)).drew := by
  have n0 : 0 < n := by omega
  have n1 : (1 : Int) < (n : Int) := by omega
  have n2 : (2 : Int) < (n : Int) := by omega
  have n3 : (3 : Int) < (n : Int) := by omega
  have d0 := cell_new (.cells #[] 42) c0
  have d1 := cell_new (.cells #[] 42) c1
  have d2 := cell_new (.cells #[] 42) c2
  have d3 := cell_new (.cells #[] 42) c3
  go_enter Try.func25, Try.ntmps25
  go_wp2
  go_region_held3 (fun w' => w'.cell? ⟨g, o, none⟩ = some (.int .u8 b0) ∧ w'.cell? ⟨g, o + 1, none⟩ = some (.int .u8 b1) ∧ w'.cell? ⟨g, o + 2, none⟩ = some (.int .u8 b2) ∧ w'.cell? ⟨g, o + 3, none⟩ = some (.int .u8 b3)) (go_keep) (fail)
  go_wp2
  go_ret
  refine ⟨ret_int ?_, rfl⟩
  simp (disch := omega) only [u32_wrap_id, u32_or8, u32_or16, u32_or24]
  simp only [Lib.leZ]
  omega

set_option maxRecDepth 100000 in
set_option maxHeartbeats 2000000 in
theorem rd64_any (g o n c : Nat) (b0 b1 b2 b3 b4 b5 b6 b7 : Int) (l0 : 0 ≤ b0) (u0 : b0 ≤ 255) (l1 : 0 ≤ b1) (u1 : b1 ≤ 255) (l2 : 0 ≤ b2) (u2 : b2 ≤ 255) (l3 : 0 ≤ b3) (u3 : b3 ≤ 255) (l4 : 0 ≤ b4) (u4 : b4 ≤ 255) (l5 : 0 ≤ b5) (u5 : b5 ≤ 255) (l6 : 0 ≤ b6) (u6 : b6 ≤ 255) (l7 : 0 ≤ b7) (u7 : b7 ≤ 255) (w : World) (hn : 8 ≤ n)
    (c0 : w.cell? ⟨g, o, none⟩ = some (.int .u8 b0)) (c1 : w.cell? ⟨g, o + 1, none⟩ = some (.int .u8 b1)) (c2 : w.cell? ⟨g, o + 2, none⟩ = some (.int .u8 b2)) (c3 : w.cell? ⟨g, o + 3, none⟩ = some (.int .u8 b3)) (c4 : w.cell? ⟨g, o + 4, none⟩ = some (.int .u8 b4)) (c5 : w.cell? ⟨g, o + 5, none⟩ = some (.int .u8 b5)) (c6 : w.cell? ⟨g, o + 6, none⟩ = some (.int .u8 b6)) (c7 : w.cell? ⟨g, o + 7, none⟩ = some (.int .u8 b7)) :
    Calls Try.prog 26 #[.agg #[], .slice (some ⟨g, o, none⟩) n c] w fun e w' => e = .returned (.int .u64 (Lib.leZ [b0, b1, b2, b3, b4, b5, b6, b7])) ∧ w' = (w.alloc (.cells #[] 42)).drew := by
  have n0 : 0 < n := by omega
  have n1 : (1 : Int) < (n : Int) := by omega
  have n2 : (2 : Int) < (n : Int) := by omega
  have n3 : (3 : Int) < (n : Int) := by omega
  have n4 : (4 : Int) < (n : Int) := by omega
  have n5 : (5 : Int) < (n : Int) := by omega
  have n6 : (6 : Int) < (n : Int) := by omega
  have n7 : (7 : Int) < (n : Int) := by omega
  have d0 := cell_new (.cells #[] 42) c0
  have d1 := cell_new (.cells #[] 42) c1
  have d2 := cell_new (.cells #[] 42) c2
  have d3 := cell_new (.cells #[] 42) c3
  have d4 := cell_new (.cells #[] 42) c4
  have d5 := cell_new (.cells #[] 42) c5
  have d6 := cell_new (.cells #[] 42) c6
  have d7 := cell_new (.cells #[] 42) c7
  go_enter Try.func26, Try.ntmps26
  go_wp2
  go_region_held3 (fun w' => w'.cell? ⟨g, o, none⟩ = some (.int .u8 b0) ∧ w'.cell? ⟨g, o + 1, none⟩ = some (.int .u8 b1) ∧ w'.cell? ⟨g, o + 2, none⟩ = some (.int .u8 b2) ∧ w'.cell? ⟨g, o + 3, none⟩ = some (.int .u8 b3) ∧ w'.cell? ⟨g, o + 4, none⟩ = some (.int .u8 b4) ∧ w'.cell? ⟨g, o + 5, none⟩ = some (.int .u8 b5) ∧ w'.cell? ⟨g, o + 6, none⟩ = some (.int .u8 b6) ∧ w'.cell? ⟨g, o + 7, none⟩ = some (.int .u8 b7)) (go_keep) (fail)
  go_wp2
  go_ret
  refine ⟨ret_int ?_, rfl⟩
  simp (disch := omega) only [u64_wrap_id, u64_or8, u64_or16, u64_or24, u64_or32, u64_or40, u64_or48, u64_or56]
  simp only [Lib.leZ]
  omega

end Go.Proofs.Qxb6619351a
