/-
  The walks of binary.LittleEndian.AppendUint64 (number 23), appendUint64 (17), ZZappendUint64 (15), AppendInt64 (9): onto a slice that is 'Src'.
-/
import Derived.Test.Qxb6619351aLaw
import Derived.Test.Qxb6619351aZig
import Derived.Deep.RegionHeld3
namespace Go.Proofs.Qxb6619351a
open Go.RowKit Plain

/-- 'x | y' where x is a multiple of 2^i and y lies below it: the sum. -/
theorem or64 (i : Nat) (x y : Int) (hx₀ : 0 ≤ x) (hx : x % 2 ^ i = 0) (hx₁ : x < 2 ^ 64) (hy₀ : 0 ≤ y) (hy : y < 2 ^ i) (hy₁ : y < 2 ^ 64) : bits .or .u64 x y = x + y :=
  bits_join .u64 64 (by decide) wraps_u64 i x y hx₀ hx hx₁ hy₀ hy hy₁

/-- A row of bytes, said otherwise. -/
theorem own_eq {w : World} {B n m : Nat} {v : Value} {xs l : List Value} {zs : List Int} (h : w.ownsRow B 5 1 v (n + m) (xs ++ l)) (e : l = bcells zs) : w.ownsRow B 5 1 v (n + m) (xs ++ bcells zs) := by rw [← e]; exact h

theorem byts1_cells (x : Int) (h0 : 0 ≤ x) (h1 : x < 256) : [Value.int .u8 (x)] = bcells (byts 1 x) := by
  simp only [bcells, byts, List.map_cons, List.map_nil, List.cons.injEq, Value.int.injEq, true_and, and_true]
  omega

theorem byts2_cells (x : Int) (h0 : 0 ≤ x) (h1 : x < 65536) : [Value.int .u8 (x % 256), Value.int .u8 (x / 256)] = bcells (byts 2 x) := by
  simp only [bcells, byts, List.map_cons, List.map_nil, List.cons.injEq, Value.int.injEq, true_and, and_true]
  omega

theorem byts3_cells (x : Int) (h0 : 0 ≤ x) (h1 : x < 16777216) : [Value.int .u8 (x % 256), Value.int .u8 (x / 256 % 256), Value.int .u8 (x / 65536)] = bcells (byts 3 x) := by
  simp only [bcells, byts, List.map_cons, List.map_nil, List.cons.injEq, Value.int.injEq, true_and, and_true]
  omega

theorem byts4_cells (x : Int) (h0 : 0 ≤ x) (h1 : x < 4294967296) : [Value.int .u8 (x % 256), Value.int .u8 (x / 256 % 256), Value.int .u8 (x / 65536 % 256), Value.int .u8 (x / 16777216)] = bcells (byts 4 x) := by
  simp only [bcells, byts, List.map_cons, List.map_nil, List.cons.injEq, Value.int.injEq, true_and, and_true]
  omega

theorem byts5_cells (x : Int) (h0 : 0 ≤ x) (h1 : x < 1099511627776) : [Value.int .u8 (x % 256), Value.int .u8 (x / 256 % 256), Value.int .u8 (x / 65536 % 256), Value.int .u8 (x / 16777216 % 256), Value.int .u8 (x / 4294967296)] = bcells (byts 5 x) := by
  simp only [bcells, byts, List.map_cons, List.map_nil, List.cons.injEq, Value.int.injEq, true_and, and_true]
  omega

theorem byts6_cells (x : Int) (h0 : 0 ≤ x) (h1 : x < 281474976710656) : [Value.int .u8 (x % 256), Value.int .u8 (x / 256 % 256), Value.int .u8 (x / 65536 % 256), Value.int .u8 (x / 16777216 % 256), Value.int .u8 (x / 4294967296 % 256), Value.int .u8 (x / 1099511627776)] = bcells (byts 6 x) := by
  simp only [bcells, byts, List.map_cons, List.map_nil, List.cons.injEq, Value.int.injEq, true_and, and_true]
  omega

theorem byts7_cells (x : Int) (h0 : 0 ≤ x) (h1 : x < 72057594037927936) : [Value.int .u8 (x % 256), Value.int .u8 (x / 256 % 256), Value.int .u8 (x / 65536 % 256), Value.int .u8 (x / 16777216 % 256), Value.int .u8 (x / 4294967296 % 256), Value.int .u8 (x / 1099511627776 % 256), Value.int .u8 (x / 281474976710656)] = bcells (byts 7 x) := by
  simp only [bcells, byts, List.map_cons, List.map_nil, List.cons.injEq, Value.int.injEq, true_and, and_true]
  omega

theorem byts8_cells (x : Int) (h0 : 0 ≤ x) (h1 : x < 18446744073709551616) : [Value.int .u8 (x % 256), Value.int .u8 (x / 256 % 256), Value.int .u8 (x / 65536 % 256), Value.int .u8 (x / 16777216 % 256), Value.int .u8 (x / 4294967296 % 256), Value.int .u8 (x / 1099511627776 % 256), Value.int .u8 (x / 281474976710656 % 256), Value.int .u8 (x / 72057594037927936)] = bcells (byts 8 x) := by
  simp only [bcells, byts, List.map_cons, List.map_nil, List.cons.injEq, Value.int.injEq, true_and, and_true]
  omega

set_option maxRecDepth 100000 in
set_option maxHeartbeats 1000000 in
theorem app1 (B n : Nat) (u : Int) (sv : Value) (xs : List Value) (w : World) (h0 : 0 ≤ u) (h1 : u < 128) (hsrc : Src B w sv n xs) (hBw : B ≤ w.heap.size) (hlim : n + 9 ≤ 140737488355328) :
    Calls Try.prog 17 #[sv, .int .u64 u] w fun e w' => ∃ v', e = .returned v' ∧ w'.ownsRow B 5 1 v' (n + 1) (xs ++ bcells (byts 1 (u * 2 + 1))) ∧ Below B w w' := by
  have e1 : bits .or .u64 (u * 2) 1 = u * 2 + 1 := or64 1 _ _ (by omega) (by omega) (by omega) (by omega) (by omega) (by omega)
  go_enter Try.func17, Try.ntmps17
  go_wp2_with (at_builtin; refine wpList_append_src _ rfl _ _ rfl B sv n xs rfl (hsrc.alloc _) ⟨w.heap.size, 0, none⟩ 1 1 [Value.int .u8 ((u * 2 + 1))] rfl rfl (World.news_of_block (cs := #[Value.int .u8 ((u * 2 + 1))]) (t := 5) (fr := (0, 0)) (heap_alloc_new w _)) (by simp [Value.oneCell']) (by omega) (by omega) (by simp; omega) ?_; intro v' w2 hown hb)
  go_wp2
  go_ret
  exact ⟨v', rfl, own_eq hown (byts1_cells _ (by omega) (by omega)), ((Below.refl B w).alloc hBw _).trans hb⟩

set_option maxRecDepth 100000 in
set_option maxHeartbeats 1000000 in
theorem app2 (B n : Nat) (u : Int) (sv : Value) (xs : List Value) (w : World) (h0 : 128 ≤ u) (h1 : u < 16384) (hsrc : Src B w sv n xs) (hBw : B ≤ w.heap.size) (hlim : n + 9 ≤ 140737488355328) :
    Calls Try.prog 17 #[sv, .int .u64 u] w fun e w' => ∃ v', e = .returned v' ∧ w'.ownsRow B 5 1 v' (n + 2) (xs ++ bcells (byts 2 (u * 4 + 2))) ∧ Below B w w' := by
  have e1 : bits .or .u64 (u * 4) 2 = u * 4 + 2 := or64 2 _ _ (by omega) (by omega) (by omega) (by omega) (by omega) (by omega)
  go_enter Try.func17, Try.ntmps17
  go_wp2_with (at_builtin; refine wpList_append_src _ rfl _ _ rfl B sv n xs rfl (hsrc.alloc _) ⟨w.heap.size, 0, none⟩ 2 2 [Value.int .u8 ((u * 4 + 2) % 256), Value.int .u8 ((u * 4 + 2) / 256)] rfl rfl (World.news_of_block (cs := #[Value.int .u8 ((u * 4 + 2) % 256), Value.int .u8 ((u * 4 + 2) / 256)]) (t := 5) (fr := (0, 0)) (heap_alloc_new w _)) (by simp [Value.oneCell']) (by omega) (by omega) (by simp; omega) ?_; intro v' w2 hown hb)
  go_wp2
  go_ret
  exact ⟨v', rfl, own_eq hown (byts2_cells _ (by omega) (by omega)), ((Below.refl B w).alloc hBw _).trans hb⟩

set_option maxRecDepth 100000 in
set_option maxHeartbeats 1000000 in
theorem app3 (B n : Nat) (u : Int) (sv : Value) (xs : List Value) (w : World) (h0 : 16384 ≤ u) (h1 : u < 2097152) (hsrc : Src B w sv n xs) (hBw : B ≤ w.heap.size) (hlim : n + 9 ≤ 140737488355328) :
    Calls Try.prog 17 #[sv, .int .u64 u] w fun e w' => ∃ v', e = .returned v' ∧ w'.ownsRow B 5 1 v' (n + 3) (xs ++ bcells (byts 3 (u * 8 + 4))) ∧ Below B w w' := by
  have e1 : bits .or .u64 (u * 8) 4 = u * 8 + 4 := or64 3 _ _ (by omega) (by omega) (by omega) (by omega) (by omega) (by omega)
  go_enter Try.func17, Try.ntmps17
  go_wp2_with (at_builtin; refine wpList_append_src _ rfl _ _ rfl B sv n xs rfl (hsrc.alloc _) ⟨w.heap.size, 0, none⟩ 3 3 [Value.int .u8 ((u * 8 + 4) % 256), Value.int .u8 ((u * 8 + 4) / 256 % 256), Value.int .u8 ((u * 8 + 4) / 65536)] rfl rfl (World.news_of_block (cs := #[Value.int .u8 ((u * 8 + 4) % 256), Value.int .u8 ((u * 8 + 4) / 256 % 256), Value.int .u8 ((u * 8 + 4) / 65536)]) (t := 5) (fr := (0, 0)) (heap_alloc_new w _)) (by simp [Value.oneCell']) (by omega) (by omega) (by simp; omega) ?_; intro v' w2 hown hb)
  go_wp2
  go_ret
  exact ⟨v', rfl, own_eq hown (byts3_cells _ (by omega) (by omega)), ((Below.refl B w).alloc hBw _).trans hb⟩

set_option maxRecDepth 100000 in
set_option maxHeartbeats 1000000 in
theorem app4 (B n : Nat) (u : Int) (sv : Value) (xs : List Value) (w : World) (h0 : 2097152 ≤ u) (h1 : u < 268435456) (hsrc : Src B w sv n xs) (hBw : B ≤ w.heap.size) (hlim : n + 9 ≤ 140737488355328) :
    Calls Try.prog 17 #[sv, .int .u64 u] w fun e w' => ∃ v', e = .returned v' ∧ w'.ownsRow B 5 1 v' (n + 4) (xs ++ bcells (byts 4 (u * 16 + 8))) ∧ Below B w w' := by
  have e1 : bits .or .u64 (u * 16) 8 = u * 16 + 8 := or64 4 _ _ (by omega) (by omega) (by omega) (by omega) (by omega) (by omega)
  go_enter Try.func17, Try.ntmps17
  go_wp2_with (at_builtin; refine wpList_append_src _ rfl _ _ rfl B sv n xs rfl (hsrc.alloc _) ⟨w.heap.size, 0, none⟩ 4 4 [Value.int .u8 ((u * 16 + 8) % 256), Value.int .u8 ((u * 16 + 8) / 256 % 256), Value.int .u8 ((u * 16 + 8) / 65536 % 256), Value.int .u8 ((u * 16 + 8) / 16777216)] rfl rfl (World.news_of_block (cs := #[Value.int .u8 ((u * 16 + 8) % 256), Value.int .u8 ((u * 16 + 8) / 256 % 256), Value.int .u8 ((u * 16 + 8) / 65536 % 256), Value.int .u8 ((u * 16 + 8) / 16777216)]) (t := 5) (fr := (0, 0)) (heap_alloc_new w _)) (by simp [Value.oneCell']) (by omega) (by omega) (by simp; omega) ?_; intro v' w2 hown hb)
  go_wp2
  go_ret
  exact ⟨v', rfl, own_eq hown (byts4_cells _ (by omega) (by omega)), ((Below.refl B w).alloc hBw _).trans hb⟩

set_option maxRecDepth 100000 in
set_option maxHeartbeats 1000000 in
theorem app5 (B n : Nat) (u : Int) (sv : Value) (xs : List Value) (w : World) (h0 : 268435456 ≤ u) (h1 : u < 34359738368) (hsrc : Src B w sv n xs) (hBw : B ≤ w.heap.size) (hlim : n + 9 ≤ 140737488355328) :
    Calls Try.prog 17 #[sv, .int .u64 u] w fun e w' => ∃ v', e = .returned v' ∧ w'.ownsRow B 5 1 v' (n + 5) (xs ++ bcells (byts 5 (u * 32 + 16))) ∧ Below B w w' := by
  have e1 : bits .or .u64 (u * 32) 16 = u * 32 + 16 := or64 5 _ _ (by omega) (by omega) (by omega) (by omega) (by omega) (by omega)
  go_enter Try.func17, Try.ntmps17
  go_wp2_with (at_builtin; refine wpList_append_src _ rfl _ _ rfl B sv n xs rfl (hsrc.alloc _) ⟨w.heap.size, 0, none⟩ 5 5 [Value.int .u8 ((u * 32 + 16) % 256), Value.int .u8 ((u * 32 + 16) / 256 % 256), Value.int .u8 ((u * 32 + 16) / 65536 % 256), Value.int .u8 ((u * 32 + 16) / 16777216 % 256), Value.int .u8 ((u * 32 + 16) / 4294967296)] rfl rfl (World.news_of_block (cs := #[Value.int .u8 ((u * 32 + 16) % 256), Value.int .u8 ((u * 32 + 16) / 256 % 256), Value.int .u8 ((u * 32 + 16) / 65536 % 256), Value.int .u8 ((u * 32 + 16) / 16777216 % 256), Value.int .u8 ((u * 32 + 16) / 4294967296)]) (t := 5) (fr := (0, 0)) (heap_alloc_new w _)) (by simp [Value.oneCell']) (by omega) (by omega) (by simp; omega) ?_; intro v' w2 hown hb)
  go_wp2
  go_ret
  exact ⟨v', rfl, own_eq hown (byts5_cells _ (by omega) (by omega)), ((Below.refl B w).alloc hBw _).trans hb⟩

set_option maxRecDepth 100000 in
set_option maxHeartbeats 1000000 in
theorem app6 (B n : Nat) (u : Int) (sv : Value) (xs : List Value) (w : World) (h0 : 34359738368 ≤ u) (h1 : u < 4398046511104) (hsrc : Src B w sv n xs) (hBw : B ≤ w.heap.size) (hlim : n + 9 ≤ 140737488355328) :
    Calls Try.prog 17 #[sv, .int .u64 u] w fun e w' => ∃ v', e = .returned v' ∧ w'.ownsRow B 5 1 v' (n + 6) (xs ++ bcells (byts 6 (u * 64 + 32))) ∧ Below B w w' := by
  have e1 : bits .or .u64 (u * 64) 32 = u * 64 + 32 := or64 6 _ _ (by omega) (by omega) (by omega) (by omega) (by omega) (by omega)
  go_enter Try.func17, Try.ntmps17
  go_wp2_with (at_builtin; refine wpList_append_src _ rfl _ _ rfl B sv n xs rfl (hsrc.alloc _) ⟨w.heap.size, 0, none⟩ 6 6 [Value.int .u8 ((u * 64 + 32) % 256), Value.int .u8 ((u * 64 + 32) / 256 % 256), Value.int .u8 ((u * 64 + 32) / 65536 % 256), Value.int .u8 ((u * 64 + 32) / 16777216 % 256), Value.int .u8 ((u * 64 + 32) / 4294967296 % 256), Value.int .u8 ((u * 64 + 32) / 1099511627776)] rfl rfl (World.news_of_block (cs := #[Value.int .u8 ((u * 64 + 32) % 256), Value.int .u8 ((u * 64 + 32) / 256 % 256), Value.int .u8 ((u * 64 + 32) / 65536 % 256), Value.int .u8 ((u * 64 + 32) / 16777216 % 256), Value.int .u8 ((u * 64 + 32) / 4294967296 % 256), Value.int .u8 ((u * 64 + 32) / 1099511627776)]) (t := 5) (fr := (0, 0)) (heap_alloc_new w _)) (by simp [Value.oneCell']) (by omega) (by omega) (by simp; omega) ?_; intro v' w2 hown hb)
  go_wp2
  go_ret
  exact ⟨v', rfl, own_eq hown (byts6_cells _ (by omega) (by omega)), ((Below.refl B w).alloc hBw _).trans hb⟩

set_option maxRecDepth 100000 in
set_option maxHeartbeats 1000000 in
theorem app7 (B n : Nat) (u : Int) (sv : Value) (xs : List Value) (w : World) (h0 : 4398046511104 ≤ u) (h1 : u < 562949953421312) (hsrc : Src B w sv n xs) (hBw : B ≤ w.heap.size) (hlim : n + 9 ≤ 140737488355328) :
    Calls Try.prog 17 #[sv, .int .u64 u] w fun e w' => ∃ v', e = .returned v' ∧ w'.ownsRow B 5 1 v' (n + 7) (xs ++ bcells (byts 7 (u * 128 + 64))) ∧ Below B w w' := by
  have e1 : bits .or .u64 (u * 128) 64 = u * 128 + 64 := or64 7 _ _ (by omega) (by omega) (by omega) (by omega) (by omega) (by omega)
  go_enter Try.func17, Try.ntmps17
  go_wp2_with (at_builtin; refine wpList_append_src _ rfl _ _ rfl B sv n xs rfl (hsrc.alloc _) ⟨w.heap.size, 0, none⟩ 7 7 [Value.int .u8 ((u * 128 + 64) % 256), Value.int .u8 ((u * 128 + 64) / 256 % 256), Value.int .u8 ((u * 128 + 64) / 65536 % 256), Value.int .u8 ((u * 128 + 64) / 16777216 % 256), Value.int .u8 ((u * 128 + 64) / 4294967296 % 256), Value.int .u8 ((u * 128 + 64) / 1099511627776 % 256), Value.int .u8 ((u * 128 + 64) / 281474976710656)] rfl rfl (World.news_of_block (cs := #[Value.int .u8 ((u * 128 + 64) % 256), Value.int .u8 ((u * 128 + 64) / 256 % 256), Value.int .u8 ((u * 128 + 64) / 65536 % 256), Value.int .u8 ((u * 128 + 64) / 16777216 % 256), Value.int .u8 ((u * 128 + 64) / 4294967296 % 256), Value.int .u8 ((u * 128 + 64) / 1099511627776 % 256), Value.int .u8 ((u * 128 + 64) / 281474976710656)]) (t := 5) (fr := (0, 0)) (heap_alloc_new w _)) (by simp [Value.oneCell']) (by omega) (by omega) (by simp; omega) ?_; intro v' w2 hown hb)
  go_wp2
  go_ret
  exact ⟨v', rfl, own_eq hown (byts7_cells _ (by omega) (by omega)), ((Below.refl B w).alloc hBw _).trans hb⟩

theorem cells42 : Try.prog.cellsOf 42 = 0 := by kernel_rfl

set_option maxRecDepth 100000 in
set_option maxHeartbeats 1000000 in
/-- binary.LittleEndian.AppendUint64. -/
theorem le64_any (B n : Nat) (v : Int) (sv : Value) (xs : List Value) (w : World) (h0 : 0 ≤ v) (h1 : v < 18446744073709551616) (hsrc : Src B w sv n xs) (hBw : B ≤ w.heap.size) (hlim : n + 8 ≤ 140737488355328) :
    Calls Try.prog 23 #[.agg #[], sv, .int .u64 v] w fun e w' => ∃ v', e = .returned v' ∧ w'.ownsRow B 5 1 v' (n + 8) (xs ++ bcells (byts 8 v)) ∧ Below B w w' := by
  go_enter Try.func23, Try.ntmps23
  go_wp2_with (at_builtin; refine wpList_append_src _ rfl _ _ rfl B sv n xs rfl ((hsrc.alloc _).alloc _) ⟨w.heap.size + 1, 0, none⟩ 8 8 [Value.int .u8 (v % 256), Value.int .u8 (v / 256 % 256), Value.int .u8 (v / 65536 % 256), Value.int .u8 (v / 16777216 % 256), Value.int .u8 (v / 4294967296 % 256), Value.int .u8 (v / 1099511627776 % 256), Value.int .u8 (v / 281474976710656 % 256), Value.int .u8 (v / 72057594037927936)] rfl rfl ?c1 ?c2 ?c3 ?c4 ?c5 ?_)
  case c1 => exact World.news_of_block (cs := #[Value.int .u8 (v % 256), Value.int .u8 (v / 256 % 256), Value.int .u8 (v / 65536 % 256), Value.int .u8 (v / 16777216 % 256), Value.int .u8 (v / 4294967296 % 256), Value.int .u8 (v / 1099511627776 % 256), Value.int .u8 (v / 281474976710656 % 256), Value.int .u8 (v / 72057594037927936)]) (t := 5) (fr := (0, 0)) (by simpa using heap_alloc_new (w.alloc _) _)
  case c2 => simp [Value.oneCell']
  case c3 => omega
  case c4 => omega
  case c5 => simp; omega
  intro v' w2 hown hb
  go_wp2
  go_ret
  exact ⟨v', rfl, own_eq hown (byts8_cells _ (by omega) (by omega)), (((Below.refl B w).alloc hBw _).alloc (by simp; omega) _).trans hb⟩

end Go.Proofs.Qxb6619351a
