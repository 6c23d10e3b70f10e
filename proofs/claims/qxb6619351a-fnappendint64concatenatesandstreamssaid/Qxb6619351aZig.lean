/-
  The seat's bit laws; the walks of zigzag, unzigzag.
-/
import Derived.Test.Qxb6619351aProg
import Derived.Test.Qxb6619351aPlain
import Derived.WalkKit
import Derived.Lib.EndianBits
namespace Go.Proofs.Qxb6619351a
open Go.RowKit Plain

/-- The ending, said of two equal numbers. -/
theorem ret_int {k : IntKind} {a b : Int} (h : a = b) : Ending.returned (.int k a) = .returned (.int k b) := by rw [h]

theorem xor0 (k : IntKind) (a : Int) (h : k.wrap ((BitVec.ofInt k.bits a).toNat : Int) = a) : bits .xor k a 0 = a := by
  have : (BitVec.ofInt k.bits a ^^^ BitVec.ofInt k.bits 0) = BitVec.ofInt k.bits a := by simp
  show k.wrap ((BitVec.ofInt k.bits a ^^^ BitVec.ofInt k.bits 0).toNat : Int) = a
  rw [this, h]

theorem ofInt64 (a : Int) : ((BitVec.ofInt 64 a).toNat : Int) = a % 18446744073709551616 := by
  rw [BitVec.toNat_ofInt]
  have : (2 ^ 64 : Nat) = 18446744073709551616 := by decide
  rw [this]
  omega

/-- All ones laid over a: 'not a'. -/
theorem ones64 (a b : Int) (h : BitVec.ofInt 64 b = BitVec.allOnes 64) : (((BitVec.ofInt 64 a ^^^ BitVec.ofInt 64 b).toNat : Nat) : Int) = 18446744073709551615 - a % 18446744073709551616 := by
  rw [h, BitVec.xor_allOnes, BitVec.toNat_not]
  have h1 := ofInt64 a
  have h2 := (BitVec.ofInt 64 a).isLt
  have : (2 ^ 64 : Nat) = 18446744073709551616 := by decide
  rw [this] at h2 ⊢
  omega

theorem zz_bits (v : Int) (h0 : -9223372036854775808 ≤ v) (h1 : v ≤ 9223372036854775807) :
    bits .xor .u64 (IntKind.u64.wrap (wrap64 (v * 2))) (IntKind.u64.wrap (v / 9223372036854775808)) = zz v := by
  unfold wrap64 zz
  rw [IntKind.wrap_u64, IntKind.wrap_u64]
  split
  · have e1 : v / 9223372036854775808 % 18446744073709551616 = 0 := by omega
    rw [e1, xor0 .u64 _ (by show IntKind.u64.wrap ((BitVec.ofInt 64 _).toNat : Int) = _; rw [ofInt64, IntKind.wrap_u64]; omega)]
    omega
  · have e1 : v / 9223372036854775808 % 18446744073709551616 = 18446744073709551615 := by omega
    rw [e1]
    show IntKind.u64.wrap (((BitVec.ofInt 64 _ ^^^ BitVec.ofInt 64 18446744073709551615).toNat : Nat) : Int) = _
    rw [ones64 _ _ (by decide), IntKind.wrap_u64]
    omega

theorem and1 (u : Int) (h0 : 0 ≤ u) (h1 : u < 18446744073709551616) : bits .and .u64 u 1 = u % 2 := by
  have := bits_mask .u64 64 (by decide) wraps_u64 1 (by decide) u h0 h1
  simpa using this

theorem unzz_bits (u : Int) (h0 : 0 ≤ u) (h1 : u < 18446744073709551616) :
    bits .xor .i64 (u / 2) (wrap64 (-wrap64 (bits .and .u64 u 1))) = unzz u := by
  rw [and1 u h0 h1]
  unfold wrap64 unzz
  split
  · rename_i e
    rw [e]
    show bits .xor .i64 (u / 2) 0 = _
    rw [xor0 .i64 _ (by show IntKind.i64.wrap ((BitVec.ofInt 64 _).toNat : Int) = _; rw [ofInt64, IntKind.wrap_i64]; omega)]
  · have e : u % 2 = 1 := by omega
    rw [e]
    show IntKind.i64.wrap (((BitVec.ofInt 64 _ ^^^ BitVec.ofInt 64 (-1)).toNat : Nat) : Int) = _
    rw [ones64 _ _ (by decide), IntKind.wrap_i64]
    omega

theorem zig_any (v : Int) (w : World) (h0 : -9223372036854775808 ≤ v) (h1 : v ≤ 9223372036854775807) :
    Calls Try.prog 18 #[.int .i64 v] w fun e w' => e = .returned (.int .u64 (zz v)) ∧ w' = w := by
  go_enter Try.func18, Try.ntmps18
  go_wp2
  go_ret
  exact ⟨ret_int (zz_bits v h0 h1), rfl⟩

theorem unzig_any (u : Int) (w : World) (h0 : 0 ≤ u) (h1 : u < 18446744073709551616) :
    Calls Try.prog 20 #[.int .u64 u] w fun e w' => e = .returned (.int .i64 (unzz u)) ∧ w' = w := by
  go_enter Try.func20, Try.ntmps20
  go_wp2
  go_ret
  exact ⟨ret_int (unzz_bits u h0 h1), rfl⟩

theorem zzunzig_any (u : Int) (w : World) (h0 : 0 ≤ u) (h1 : u < 18446744073709551616) :
    Calls Try.prog 11 #[.int .u64 u] w fun e w' => e = .returned (.int .i64 (unzz u)) ∧ w' = w := by
  go_enter Try.func11, Try.ntmps11
  go_wp2_with (go_at_call 20; refine (unzig_any _ _ h0 h1).mono ?_; rintro e w' ⟨rfl, rfl⟩)
  go_ret
  exact ⟨rfl, rfl⟩
end Go.Proofs.Qxb6619351a
