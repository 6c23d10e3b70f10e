/-
  The walk of FnAppendInt64KeepsPrefixAndRoundTripsShortest (3).
-/
import Derived.Test.Qxb6619351aClone
import Derived.BigQuiet
import Derived.Deep.QuietTactic
namespace Go.Proofs.Qxb6619351a
open Go.RowKit Plain

theorem take_snoc (zs : List Int) (k : Nat) (h : k < zs.length) : zs.take k ++ [zs.getD k 0] = zs.take (k + 1) := by
  rw [List.take_succ_eq_append_getElem h, List.getD_eq_getElem?_getD, List.getElem?_eq_getElem h]
  rfl
theorem getD_at (zs : List Int) (k : Nat) (h : k < zs.length) : zs[k]? = some (zs.getD k 0) := by
  rw [List.getD_eq_getElem?_getD, List.getElem?_eq_getElem h]; rfl
/-- One byte more. -/
theorem own_snoc {w : World} {B k c : Nat} {v : Value} {a zs : List Int} (j : Nat) (hj : j < zs.length) (h : w.ownsRow B 5 1 v c (bcells (a ++ zs.take j) ++ [.int .u8 (zs.getD j 0)])) (hc : c = k) : w.ownsRow B 5 1 v k (bcells (a ++ zs.take (j + 1))) := by
  subst hc
  have e : bcells (a ++ zs.take j) ++ [.int .u8 (zs.getD j 0)] = bcells (a ++ zs.take (j + 1)) := by
    rw [← take_snoc zs j hj, ← List.append_assoc]
    simp [bcells]
  rw [← e]; exact h

/-- Do the lengths sum to at most 2^20? -/
def zb (a b : Nat) : Bool := decide (a + b ≤ 1048576)

theorem zb3_any (a0 a2 : Option Addr) (n c m d : Nat) (v : Int) (w : World) (hn : n ≤ maxLen) (hm : m ≤ maxLen) :
    Calls Try.prog 6 #[.slice a0 n c, .int .i64 v, .slice a2 m d] w fun e w' => e = .returned (.bool (zb n m)) ∧ w' = w := by
  unfold maxLen at hn hm
  unfold zb
  by_cases h1 : n ≤ 1048576
  · by_cases h2 : m ≤ 1048576
    · by_cases h3 : n + m ≤ 1048576
      · have e : decide (n + m ≤ 1048576) = true := decide_eq_true h3
        have E : Hid (decide (n + m ≤ 1048576) = true) := e
        clear e
        go_enter Try.func6, Try.ntmps6
        go_wp2
        go_ret
        exact ⟨by rw [E.out]; rfl, rfl⟩
      · have e : decide (n + m ≤ 1048576) = false := decide_eq_false h3
        have E : Hid (decide (n + m ≤ 1048576) = false) := e
        clear e
        go_enter Try.func6, Try.ntmps6
        go_wp2
        go_ret
        exact ⟨by rw [E.out]; rfl, rfl⟩
    · have E : Hid (decide (n + m ≤ 1048576) = false) := decide_eq_false (by omega)
      go_enter Try.func6, Try.ntmps6
      go_wp2
      go_ret
      exact ⟨by rw [E.out]; rfl, rfl⟩
  · have E : Hid (decide (n + m ≤ 1048576) = false) := decide_eq_false (by omega)
    go_enter Try.func6, Try.ntmps6
    go_wp2
    go_ret
    exact ⟨by rw [E.out]; rfl, rfl⟩

set_option maxRecDepth 100000 in
/-- Too long: it answers true at once. -/
theorem keeps_long (a0 a2 : Option Addr) (n c m d : Nat) (v : Int) (w : World) (hn : n ≤ maxLen) (hm : m ≤ maxLen) (h : 65536 < n ∨ 65536 < m) :
    Calls Try.prog 3 #[.slice a0 n c, .int .i64 v, .slice a2 m d] w fun e w' => e = .returned (.bool true) ∧ w' = w := by
  have hn' := hn
  have hm' := hm
  unfold maxLen at hn' hm'
  have hq := zb3_any a0 a2 n c m d v
  by_cases hz : zb n m = true
  · rw [hz] at hq
    by_cases h1 : 65536 < n
    · go_enter Try.func3, Try.ntmps3
      go_wp2_with (go_at_call 6; refine (hq _ hn hm).mono ?_; rintro e w' ⟨rfl, rfl⟩)
      go_ret
      exact ⟨rfl, rfl⟩
    · have h2 : 65536 < m := by omega
      go_enter Try.func3, Try.ntmps3
      go_wp2_with (go_at_call 6; refine (hq _ hn hm).mono ?_; rintro e w' ⟨rfl, rfl⟩)
      go_ret
      exact ⟨rfl, rfl⟩
  · have hz' : zb n m = false := by simpa using hz
    rw [hz'] at hq
    go_enter Try.func3, Try.ntmps3
    go_wp2_with (go_at_call 6; refine (hq _ hn hm).mono ?_; rintro e w' ⟨rfl, rfl⟩)
    go_ret
    exact ⟨rfl, rfl⟩

set_option maxRecDepth 100000 in
set_option maxHeartbeats 2000000 in
theorem keeps_main (a0 a2 : Option Addr) (n c m d : Nat) (v : Int) (ds js : List Int) (w : World) (hv0 : -9223372036854775808 ≤ v) (hv1 : v ≤ 9223372036854775807) (hn : n ≤ 65536) (hm : m ≤ 65536)
    (hds : ds.length = n) (hjs : js.length = m) (hjb : ∀ z ∈ js, 0 ≤ z ∧ z ≤ 255)
    (hin : (a0 = none ∧ ds = [] ∧ c = 0) ∨ ∃ x, a0 = some x ∧ ∀ i, i < ds.length → w.cell? (x.add i) = some (.int .u8 (ds.getD i 0)))
    (hjn : (a2 = none ∧ js = [] ∧ d = 0) ∨ ∃ x, a2 = some x ∧ ∀ i, i < js.length → w.cell? (x.add i) = some (.int .u8 (js.getD i 0))) :
    Calls Try.prog 3 #[.slice a0 n c, .int .i64 v, .slice a2 m d] w fun e w' => e = .returned (.bool true) ∧ Below w.heap.size w w' := by
  have hq := zb3_any a0 a2 n c m d v w (by unfold maxLen; omega) (by unfold maxLen; omega)
  have hz : zb n m = true := decide_eq_true (by omega)
  rw [hz] at hq
  have hsp := sz_pos (zz v)
  have HD : Hid (ds.length = n) := hds
  have HJ : Hid (js.length = m) := hjs
  have c1 := clone_any a0 c n ds w hds (by omega) hin
  clear hz hds hjs
  go_enter Try.func3, Try.ntmps3
  go_wp2_with (go_at_call 6; refine hq.mono ?_; rintro e w' ⟨rfl, hw⟩; have hw2 := hw.symm; subst hw2; clear hw)
  refine c1.mono ?_
  rintro e w1 ⟨ao1, rfl, t1, b1⟩
  have hjn1 : (a2 = none ∧ js = [] ∧ d = 0) ∨ ∃ x, a2 = some x ∧ ∀ i, i < js.length → w1.cell? (x.add i) = some (.int .u8 (js.getD i 0)) := by
    rcases hjn with h | ⟨x, hx, hc⟩
    · exact .inl h
    · exact .inr ⟨x, hx, fun i hi => (b1.cell (World.block_lt_of_cell? w _ (hc i hi))).trans (hc i hi)⟩
  clear hjn hin c1 hq
  go_wp2_with fail
  refine (clone_any a2 d m js w1 HJ.out (by omega) hjn1).mono ?_
  rintro e w2 ⟨ao2, rfl, t2, b2⟩
  clear hjn1
  have t1' := t1.below b2
  clear t1
  go_wp2_with fail
  refine (clone_tight ao1 n ds w2 HD.out (by omega) t1').mono ?_
  rintro e w3 ⟨ao3, rfl, t3, b3⟩
  have T1 := t1'.below b3
  have T2 := t2.below b3
  have TS := T1.src w3.heap.size
  rw [HD.out] at TS
  clear t1' t2
  go_wp2_with (first
    | (go_at_call 8; refine (encl_any v _ hv0 hv1).mono ?_; rintro e w' ⟨rfl, hw⟩; have hw2 := hw.symm; subst hw2; clear hw)
    | (go_at_call 9; refine (appInt_any _ n v _ _ _ hv0 hv1 TS (Nat.le_refl _) (by omega)).mono ?_; rintro e w4 ⟨v4, rfl, hown4, b4⟩; rw [← bcells_append] at hown4; obtain ⟨g, cap, hv4, hc1, hc2, hg1, hg2, hlen, hcell⟩ := owned_form hown4 (by omega); rw [hv4]; clear hv4 hown4 TS))
  obtain ⟨i0, hi, hz0, hz1, hz2⟩ := info_parts info5
  have T2' := T2.below b4
  have T3 := t3.below b4
  have B4 : Below w.heap.size w w4 := ((b1.trans (b2.mono b1.size)).trans (b3.mono (Nat.le_trans b1.size b2.size))).trans (b4.mono (Nat.le_trans b1.size (Nat.le_trans b2.size b3.size)))
  have hEl := enc_len (zz v)
  have HE : Hid ((enc (zz v)).length = sz (zz v)) := hEl
  clear T1 T2 t3 b1 b2 b3 b4 hEl hg1 hlen
  go_loopw [10] (fun i wr => ∃ k : Nat, k ≤ n ∧ i = .int .i64 k ∧ Below w4.heap.size w4 wr) (fun i _ => n - (intOf i).toNat)
  case atStart => exact ⟨0, Nat.zero_le _, rfl, Below.refl _ _⟩
  case round =>
    obtain ⟨k, hk, rfl, hnx⟩ := hrel
    by_cases hlt : k < n
    · obtain ⟨g3, rfl, hg3, hc3⟩ := T3.at (k := k) (by rw [HD.out]; exact hlt)
      have q1 : wr.cell? ⟨g3, k, none⟩ = some (.int .u8 (ds.getD k 0)) := (hnx.cell (p := ⟨g3, k, none⟩) hg3).trans hc3
      have q2 : wr.cell? ⟨g, k, none⟩ = some (.int .u8 (ds.getD k 0)) := (hnx.cell (p := ⟨g, k, none⟩) hg2).trans (hcell k _ (by rw [List.getElem?_append_left (by rw [HD.out]; exact hlt)]; exact getD_at ds k (by rw [HD.out]; exact hlt)))
      have q3 : (k : Int) < (n : Int) := by omega
      have q4 : (k : Int) < (n : Int) + (sz (zz v) : Int) := by omega
      have q5 : (0 : Int) ≤ (k : Int) := by omega
      clear hc3 T2' T3 B4 hcell
      go_wp2
      go_region
      all_goals go_wp2
      all_goals go_roundw
      case rel => exact ⟨k + 1, by omega, by go_num, hnx.drew⟩
      case measure => simp [intOf]; omega
    · obtain ⟨wm, rfl⟩ : ∃ wm : World, wm = wr := ⟨_, rfl⟩
      have T2m := T2'.below hnx
      have hcm : ∀ i z, (ds ++ enc (zz v))[i]? = some z → wm.cell? ⟨g, i, none⟩ = some (.int .u8 z) := fun i z hz => (hnx.cell (p := ⟨g, i, none⟩) hg2).trans (hcell i z hz)
      have hgm : g < wm.heap.size := Nat.lt_of_lt_of_le hg2 hnx.size
      have Bm : Below w.heap.size w wm := B4.trans (hnx.mono B4.size)
      clear T2' T3 hcell B4 hg2 hnx hk
      go_wp2_with (at_make; refine wpList_make_own _ rfl _ _ 22 rfl wm.heap.size 5 i0 (.int .u8 0) 1 Try.underlying22 hi hz0 hz1 .i64 .i64 _ (sz (zz v) + m) rfl rfl (by omega) (by rw [hz2]; omega) (by unfold maxLen; omega) (Nat.le_refl _) ?_; intro w6 hown6 hgrow6)
      have Bl6 : Below wm.heap.size wm w6 := (Below.refl _ wm).grown hgrow6 (Nat.le_refl _) (fun k hk => by cases hk)
      clear hgrow6
      go_loopw [11, 12] (fun s i wr => ∃ k : Nat, k ≤ sz (zz v) ∧ i = .int .i64 ((n + k : Nat) : Int) ∧ s = .slice (some ⟨wm.heap.size, 0, none⟩) k (sz (zz v) + m) ∧ wr.ownsRow wm.heap.size 5 1 (.slice (some ⟨wm.heap.size, 0, none⟩) k (sz (zz v) + m)) k (bcells ([] ++ (enc (zz v)).take k)) ∧ Below wm.heap.size wm wr) (fun _ i _ => n + sz (zz v) - (intOf i).toNat)
      case atStart => exact ⟨0, Nat.zero_le _, rfl, rfl, hown6, Bl6⟩
      case round =>
        obtain ⟨k, hk, rfl, rfl, hown, hnx⟩ := hrel
        clear hown6 Bl6
        by_cases hlt : k < sz (zz v)
        · have q1 : wr.cell? ⟨g, n + k, none⟩ = some (.int .u8 ((enc (zz v)).getD k 0)) := (hnx.cell (p := ⟨g, n + k, none⟩) hgm).trans (hcm (n + k) _ (by rw [List.getElem?_append_right (by rw [HD.out]; omega), HD.out, Nat.add_sub_cancel_left]; exact getD_at _ k (by rw [HE.out]; exact hlt)))
          have q3 : ((n + k : Nat) : Int) < (n : Int) + (sz (zz v) : Int) := by omega
          have q4 : n + k < n + sz (zz v) := by omega
          have hs := hnx.size
          go_wp2_with (at_builtin; refine wpList_append_fits _ rfl _ _ 22 rfl wm.heap.size 5 i0 1 Try.underlying22 hi hz1 wm.heap.size k (sz (zz v) + m) _ rfl (hown.alloc _) ⟨wr.heap.size, 0, none⟩ 1 1 [.int .u8 ((enc (zz v)).getD k 0)] rfl rfl (World.news_of_block (cs := #[.int .u8 ((enc (zz v)).getD k 0)]) (t := 5) (fr := (0, 0)) (heap_alloc_new wr _)) (by simp [Value.oneCell']) (by omega) ?_; intro w7 hown7 hgrow7)
          have R := own_snoc k (by rw [HE.out]; exact hlt) hown7 rfl
          have RB := (hnx.alloc hs (.cells #[.int .u8 ((enc (zz v)).getD k 0)] 5)).grown hgrow7 (by simp; omega) (fun k hk => by cases hk; exact Nat.le_refl _)
          clear hown7 hgrow7 hown hnx q1
          go_wp2
          go_roundw
          case rel => exact ⟨k + 1, by omega, by go_num, rfl, R, RB⟩
          case measure => simp [intOf]; omega
        · obtain rfl : k = sz (zz v) := by omega
          obtain ⟨wn, rfl⟩ : ∃ wn : World, wn = wr := ⟨_, rfl⟩
          have ownN : wn.ownsRow wm.heap.size 5 1 (.slice (some ⟨wm.heap.size, 0, none⟩) (sz (zz v)) (sz (zz v) + m)) (sz (zz v)) (bcells (enc (zz v) ++ js.take 0)) := by
            have e : [] ++ (enc (zz v)).take (sz (zz v)) = enc (zz v) ++ js.take 0 := by rw [← enc_len]; simp
            rw [← e]; exact hown
          clear hown
          go_wp2
          go_loopw [11, 13] (fun s i wr => ∃ j : Nat, j ≤ m ∧ i = .int .i64 j ∧ s = .slice (some ⟨wm.heap.size, 0, none⟩) (sz (zz v) + j) (sz (zz v) + m) ∧ wr.ownsRow wm.heap.size 5 1 (.slice (some ⟨wm.heap.size, 0, none⟩) (sz (zz v) + j) (sz (zz v) + m)) (sz (zz v) + j) (bcells (enc (zz v) ++ js.take j)) ∧ Below wm.heap.size wm wr) (fun _ i _ => m - (intOf i).toNat)
          case atStart => exact ⟨0, Nat.zero_le _, rfl, rfl, ownN, hnx⟩
          case round =>
            obtain ⟨j, hj, rfl, rfl, hown, hny⟩ := hrel
            clear ownN hnx
            by_cases hjt : j < m
            · obtain ⟨g2, rfl, hg2, hc2⟩ := T2m.at (k := j) (by rw [HJ.out]; exact hjt)
              have q1 : wr.cell? ⟨g2, j, none⟩ = some (.int .u8 (js.getD j 0)) := (hny.cell (p := ⟨g2, j, none⟩) hg2).trans hc2
              have q3 : (j : Int) < (m : Int) := by omega
              have hs := hny.size
              go_wp2_with (at_builtin; refine wpList_append_fits _ rfl _ _ 22 rfl wm.heap.size 5 i0 1 Try.underlying22 hi hz1 wm.heap.size (sz (zz v) + j) (sz (zz v) + m) _ rfl (hown.alloc _) ⟨wr.heap.size, 0, none⟩ 1 1 [.int .u8 (js.getD j 0)] rfl rfl (World.news_of_block (cs := #[.int .u8 (js.getD j 0)]) (t := 5) (fr := (0, 0)) (heap_alloc_new wr _)) (by simp [Value.oneCell']) (by omega) ?_; intro w7 hown7 hgrow7)
              have R := own_snoc j (by rw [HJ.out]; exact hjt) hown7 (k := sz (zz v) + (j + 1)) (by omega)
              have RB := (hny.alloc hs (.cells #[.int .u8 (js.getD j 0)] 5)).grown hgrow7 (by simp; omega) (fun k hk => by cases hk; exact Nat.le_refl _)
              clear hown7 hgrow7 hown hny q1
              go_wp2
              go_roundw
              case rel => (repeat apply Exists.intro); exact ⟨⟨j + 1, by omega, by go_num, rfl, R, RB⟩, rfl⟩
              case measure => simp [intOf]; omega
            · obtain rfl : j = m := by omega
              obtain ⟨gs, cs, hv, _, _, hgs, hgl, _, hcs⟩ := owned_form hown (by omega)
              simp only [Value.slice.injEq, Option.some.injEq, Addr.mk.injEq, and_true, true_and] at hv
              obtain ⟨rfl, rfl⟩ := hv
              have hcs2 : ∀ i z, (enc (zz v) ++ js)[i]? = some z → wr.cell? ⟨wm.heap.size, i, none⟩ = some (.int .u8 z) := by
                have e : js.take j = js := by rw [← HJ.out]; simp
                rw [e] at hcs; exact hcs
              have hzb := zz_bd v hv0 hv1
              have p1 : (0 : Int) ≤ (sz (zz v) : Int) - 1 := by omega
              have p2 : (sz (zz v) : Int) - 1 ≤ (sz (zz v) : Int) + (j : Int) := by omega
              clear hcs hown T2m hcm
              have d1 := zzdec_full wm.heap.size 0 (sz (zz v) + j) (sz (zz v) + j) (zz v) js wr hzb.1 hzb.2 hjb (by rw [HJ.out]) (Nat.le_refl _) (by unfold maxLen; omega) (by simpa using hcs2)
              go_wp2_with fail
              refine d1.mono ?_
              rintro e w8 ⟨rfl, hb8⟩
              clear d1
              have hgw : wm.heap.size < wr.heap.size := hgl
              have hcs3 : ∀ i z, (enc (zz v))[i]? = some z → w8.cell? ⟨wm.heap.size, i, none⟩ = some (.int .u8 z) := fun i z hz => (hb8.cell (p := ⟨wm.heap.size, i, none⟩) hgw).trans (hcs2 i z (by rw [List.getElem?_append_left (List.getElem?_eq_some_iff.1 hz).1]; exact hz))
              have d2 := zzdec_cut wm.heap.size 0 (sz (zz v) - 1) (sz (zz v) + j) (zz v) w8 rfl (by omega) (by unfold maxLen; omega) (by simpa using hcs3)
              have d3 := zzunzig_any (zz v) w8 hzb.1 hzb.2
              rw [unzz_zz] at d3
              have BF : Below w.heap.size w w8 := (Bm.trans (hny.mono Bm.size)).trans (hb8.mono (Nat.le_trans Bm.size hny.size))
              clear hcs2 hcs3 hny hb8 Bm
              go_wp2_with (go_at_call 11; refine d3.mono ?_; rintro e w' ⟨rfl, hw⟩; have hw2 := hw.symm; subst hw2; clear hw)
              refine d2.mono ?_
              rintro e w9 ⟨rfl, hb9⟩
              clear d2 d3
              go_wp2
              go_ret
              exact ⟨rfl, BF.trans (hb9.mono BF.size)⟩

/-- The law's walk, whatever the input. -/
theorem keeps_any (a0 a2 : Option Addr) (n c m d : Nat) (v : Int) (ds js : List Int) (w : World) (hv0 : -9223372036854775808 ≤ v) (hv1 : v ≤ 9223372036854775807) (hn : n ≤ maxLen) (hm : m ≤ maxLen)
    (hds : ds.length = n) (hjs : js.length = m) (hjb : ∀ z ∈ js, 0 ≤ z ∧ z ≤ 255)
    (hin : (a0 = none ∧ ds = [] ∧ c = 0) ∨ ∃ x, a0 = some x ∧ ∀ i, i < ds.length → w.cell? (x.add i) = some (.int .u8 (ds.getD i 0)))
    (hjn : (a2 = none ∧ js = [] ∧ d = 0) ∨ ∃ x, a2 = some x ∧ ∀ i, i < js.length → w.cell? (x.add i) = some (.int .u8 (js.getD i 0))) :
    Calls Try.prog 3 #[.slice a0 n c, .int .i64 v, .slice a2 m d] w fun e w' => e = .returned (.bool true) ∧ Below w.heap.size w w' := by
  by_cases h : 65536 < n ∨ 65536 < m
  · refine (keeps_long a0 a2 n c m d v w hn hm h).mono ?_
    rintro e w' ⟨rfl, hw⟩
    rw [hw]
    exact ⟨rfl, Below.refl _ _⟩
  · exact keeps_main a0 a2 n c m d v ds js w hv0 hv1 (by omega) (by omega) hds hjs hjb hin hjn

end Go.Proofs.Qxb6619351a
