import Derived.Test.Qxb6619351aApp
namespace Go.Proofs.Qxb6619351a
open Go.RowKit Plain

set_option maxRecDepth 100000 in
set_option maxHeartbeats 1000000 in
theorem app8 (B n : Nat) (u : Int) (sv : Value) (xs : List Value) (w : World) (h0 : 562949953421312 ≤ u) (h1 : u < 72057594037927936) (hsrc : Src B w sv n xs) (hBw : B ≤ w.heap.size) (hlim : n + 9 ≤ 140737488355328) :
    Calls Try.prog 17 #[sv, .int .u64 u] w fun e w' => ∃ v', e = .returned v' ∧ w'.ownsRow B 5 1 v' (n + 8) (xs ++ bcells (byts 8 (u * 256 + 128))) ∧ Below B w w' := by
  have e1 : bits .or .u64 (u * 256) 128 = u * 256 + 128 := or64 8 _ _ (by omega) (by omega) (by omega) (by omega) (by omega) (by omega)
  go_enter Try.func17, Try.ntmps17
  go_wp2_with (go_at_call 23; refine (le64_any B n _ sv xs _ (by omega) (by omega) hsrc hBw (by omega)).mono ?_; rintro e w' ⟨v', rfl, hown, hb⟩)
  go_ret
  exact ⟨v', rfl, hown, hb⟩

set_option maxRecDepth 100000 in
set_option maxHeartbeats 1000000 in
theorem app9 (B n : Nat) (u : Int) (sv : Value) (xs : List Value) (w : World) (h0 : 72057594037927936 ≤ u) (h1 : u < 18446744073709551616) (hsrc : Src B w sv n xs) (hBw : B ≤ w.heap.size) (hlim : n + 9 ≤ 140737488355328) :
    Calls Try.prog 17 #[sv, .int .u64 u] w fun e w' => ∃ v', e = .returned v' ∧ w'.ownsRow B 5 1 v' (n + 9) (xs ++ bcells (0 :: byts 8 u)) ∧ Below B w w' := by
  go_enter Try.func17, Try.ntmps17
  go_wp2_with fail
  go_region_held3 (fun _ => True) (trivial)
    (first
      | (go_at_call 23; have hsz : B ≤ w1.heap.size := Nat.le_trans (by simp; omega) hb.size; refine (le64_any B (n + 1) u v0 _ w1 (by omega) h1 (.inl hown) hsz (by omega)).mono ?_; rintro e w' ⟨v', rfl, hown', hb'⟩)
      | (refine step_append_src _ (by rfl) _ _ (by rfl) B sv n xs (by rfl) ((hsrc.alloc _).drew) ⟨w.heap.size, 0, none⟩ 1 1 [Value.int .u8 0] (by rfl) (by rfl) (World.news_of_block (cs := #[Value.int .u8 0]) (t := 5) (fr := (0, 0)) (heap_alloc_new w _)) (by simp [Value.oneCell']) (by omega) (by omega) (by simp; omega) ?_; intro v0 w1 hown hb))
  go_wp2
  go_ret
  refine ⟨v', rfl, ?_, (((Below.refl B w).alloc hBw _).drew.trans hb).trans hb'⟩
  have e : (xs ++ [Value.int .u8 0]) ++ bcells (byts 8 u) = xs ++ bcells (0 :: byts 8 u) := by simp [bcells]
  rw [← e]
  exact hown'
/-- appendUint64, whatever the number. -/
theorem app_any (B n : Nat) (u : Int) (sv : Value) (xs : List Value) (w : World) (h0 : 0 ≤ u) (h1 : u < 18446744073709551616) (hsrc : Src B w sv n xs) (hBw : B ≤ w.heap.size) (hlim : n + 9 ≤ 140737488355328) :
    Calls Try.prog 17 #[sv, .int .u64 u] w fun e w' => ∃ v', e = .returned v' ∧ w'.ownsRow B 5 1 v' (n + sz u) (xs ++ bcells (enc u)) ∧ Below B w w' := by
  unfold sz enc
  by_cases c1 : u < 128
  · rw [if_pos c1, if_pos c1]; exact app1 B n u sv xs w h0 c1 hsrc hBw hlim
  rw [if_neg c1, if_neg c1]
  by_cases c2 : u < 16384
  · rw [if_pos c2, if_pos c2]; exact app2 B n u sv xs w (by omega) c2 hsrc hBw hlim
  rw [if_neg c2, if_neg c2]
  by_cases c3 : u < 2097152
  · rw [if_pos c3, if_pos c3]; exact app3 B n u sv xs w (by omega) c3 hsrc hBw hlim
  rw [if_neg c3, if_neg c3]
  by_cases c4 : u < 268435456
  · rw [if_pos c4, if_pos c4]; exact app4 B n u sv xs w (by omega) c4 hsrc hBw hlim
  rw [if_neg c4, if_neg c4]
  by_cases c5 : u < 34359738368
  · rw [if_pos c5, if_pos c5]; exact app5 B n u sv xs w (by omega) c5 hsrc hBw hlim
  rw [if_neg c5, if_neg c5]
  by_cases c6 : u < 4398046511104
  · rw [if_pos c6, if_pos c6]; exact app6 B n u sv xs w (by omega) c6 hsrc hBw hlim
  rw [if_neg c6, if_neg c6]
  by_cases c7 : u < 562949953421312
  · rw [if_pos c7, if_pos c7]; exact app7 B n u sv xs w (by omega) c7 hsrc hBw hlim
  rw [if_neg c7, if_neg c7]
  by_cases c8 : u < 72057594037927936
  · rw [if_pos c8, if_pos c8]; exact app8 B n u sv xs w (by omega) c8 hsrc hBw hlim
  rw [if_neg c8, if_neg c8]
  exact app9 B n u sv xs w (by omega) h1 hsrc hBw hlim

/-- ZZappendUint64. -/
theorem zzapp_any (B n : Nat) (u : Int) (sv : Value) (xs : List Value) (w : World) (h0 : 0 ≤ u) (h1 : u < 18446744073709551616) (hsrc : Src B w sv n xs) (hBw : B ≤ w.heap.size) (hlim : n + 9 ≤ 140737488355328) :
    Calls Try.prog 15 #[sv, .int .u64 u] w fun e w' => ∃ v', e = .returned v' ∧ w'.ownsRow B 5 1 v' (n + sz u) (xs ++ bcells (enc u)) ∧ Below B w w' := by
  go_enter Try.func15, Try.ntmps15
  go_wp2_with (go_at_call 17; refine (app_any B n u sv xs _ h0 h1 hsrc hBw hlim).mono ?_; rintro e w' ⟨v', rfl, hown, hb⟩)
  go_ret
  exact ⟨v', rfl, hown, hb⟩

/-- AppendInt64. -/
theorem appInt_any (B n : Nat) (v : Int) (sv : Value) (xs : List Value) (w : World) (h0 : -9223372036854775808 ≤ v) (h1 : v ≤ 9223372036854775807) (hsrc : Src B w sv n xs) (hBw : B ≤ w.heap.size) (hlim : n + 9 ≤ 140737488355328) :
    Calls Try.prog 9 #[sv, .int .i64 v] w fun e w' => ∃ v', e = .returned v' ∧ w'.ownsRow B 5 1 v' (n + sz (zz v)) (xs ++ bcells (enc (zz v))) ∧ Below B w w' := by
  have hz := zz_bd v h0 h1
  go_enter Try.func9, Try.ntmps9
  go_wp2_with (first | (go_at_call 18; refine (zig_any v _ h0 h1).mono ?_; rintro e w' ⟨rfl, rfl⟩) | (go_at_call 17; refine (app_any B n (zz v) sv xs _ hz.1 hz.2 hsrc hBw hlim).mono ?_; rintro e w' ⟨v', rfl, hown, hb⟩))
  go_ret
  exact ⟨v', rfl, hown, hb⟩

end Go.Proofs.Qxb6619351a
