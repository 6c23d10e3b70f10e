/-
  The walk of FnAppendInt64ConcatenatesAndStreams (4).
-/
import Derived.Test.Qxb6619351aKeeps
namespace Go.Proofs.Qxb6619351a
open Go.RowKit Plain

theorem zb4_any (a0 : Option Addr) (n c : Nat) (a b : Int) (w : World) (hn : n ≤ maxLen) :
    Calls Try.prog 12 #[.slice a0 n c, .int .i64 a, .int .i64 b] w fun e w' => e = .returned (.bool (zb n 0)) ∧ w' = w := by
  unfold maxLen at hn
  unfold zb
  by_cases h1 : n ≤ 1048576
  · have E : Hid (decide (n + 0 ≤ 1048576) = true) := decide_eq_true h1
    go_enter Try.func12, Try.ntmps12
    go_wp2
    go_ret
    exact ⟨by rw [E.out]; rfl, rfl⟩
  · have E : Hid (decide (n + 0 ≤ 1048576) = false) := decide_eq_false h1
    go_enter Try.func12, Try.ntmps12
    go_wp2
    go_ret
    exact ⟨by rw [E.out]; rfl, rfl⟩

set_option maxRecDepth 100000 in
/-- Too long: it answers true at once. -/
theorem concat_long (a0 : Option Addr) (n c : Nat) (a b : Int) (w : World) (hn : n ≤ maxLen) (h : 65536 < n) :
    Calls Try.prog 4 #[.slice a0 n c, .int .i64 a, .int .i64 b] w fun e w' => e = .returned (.bool true) ∧ w' = w := by
  have hn' := hn
  unfold maxLen at hn'
  have hq := zb4_any a0 n c a b
  by_cases hz : zb n 0 = true
  · rw [hz] at hq
    go_enter Try.func4, Try.ntmps4
    go_wp2_with (go_at_call 12; refine (hq _ hn).mono ?_; rintro e w' ⟨rfl, rfl⟩)
    go_ret
    exact ⟨rfl, rfl⟩
  · have hz' : zb n 0 = false := by simpa using hz
    rw [hz'] at hq
    go_enter Try.func4, Try.ntmps4
    go_wp2_with (go_at_call 12; refine (hq _ hn).mono ?_; rintro e w' ⟨rfl, rfl⟩)
    go_ret
    exact ⟨rfl, rfl⟩

set_option maxRecDepth 100000 in
set_option maxHeartbeats 4000000 in
theorem concat_main (a0 : Option Addr) (n c : Nat) (a b : Int) (ds : List Int) (w : World) (ha0 : -9223372036854775808 ≤ a) (ha1 : a ≤ 9223372036854775807) (hb0 : -9223372036854775808 ≤ b) (hb1 : b ≤ 9223372036854775807) (hn : n ≤ 65536)
    (hds : ds.length = n)
    (hin : (a0 = none ∧ ds = [] ∧ c = 0) ∨ ∃ x, a0 = some x ∧ ∀ i, i < ds.length → w.cell? (x.add i) = some (.int .u8 (ds.getD i 0))) :
    Calls Try.prog 4 #[.slice a0 n c, .int .i64 a, .int .i64 b] w fun e w' => e = .returned (.bool true) ∧ Below w.heap.size w w' := by
  have hq := zb4_any a0 n c a b w (by unfold maxLen; omega)
  have hz : zb n 0 = true := decide_eq_true (by omega)
  rw [hz] at hq
  have hsa := sz_pos (zz a)
  have hsb := sz_pos (zz b)
  have HD : Hid (ds.length = n) := hds
  have c1 := clone_any a0 c n ds w hds (by omega) hin
  clear hz hds
  go_enter Try.func4, Try.ntmps4
  go_wp2_with (go_at_call 12; refine hq.mono ?_; rintro e w' ⟨rfl, hw⟩; have hw2 := hw.symm; subst hw2; clear hw)
  refine c1.mono ?_
  rintro e w1 ⟨ao1, rfl, t1, b1⟩
  clear hin c1 hq
  go_wp2_with fail
  refine (clone_tight ao1 n ds w1 HD.out (by omega) t1).mono ?_
  rintro e w2 ⟨ao3, rfl, t3, b2⟩
  have T1 := t1.below b2
  clear t1
  go_wp2_with fail
  refine (appInt_nil a w2 ha0 ha1).mono ?_
  rintro e w3 ⟨ga, capa, rfl, xa1, xa2, xa3, xa4, xa5, b3⟩
  go_wp2_with fail
  refine (appInt_nil b w3 hb0 hb1).mono ?_
  rintro e w4 ⟨gb, capb, rfl, xb1, xb2, xb3, xb4, xb5, b4⟩
  have T1' := (T1.below b3).below b4
  have T3 := (t3.below b3).below b4
  have ca : ∀ i z, (enc (zz a))[i]? = some z → w4.cell? ⟨ga, i, none⟩ = some (.int .u8 z) := fun i z hz => (b4.cell (p := ⟨ga, i, none⟩) xa4).trans (xa5 i z hz)
  have ha4 : ga < w4.heap.size := Nat.lt_of_lt_of_le xa4 b4.size
  have B4 : Below w.heap.size w w4 := ((b1.trans (b2.mono b1.size)).trans (b3.mono (Nat.le_trans b1.size b2.size))).trans (b4.mono (Nat.le_trans b1.size (Nat.le_trans b2.size b3.size)))
  have TS := T1'.src w4.heap.size
  rw [HD.out] at TS
  have e1 := encl_any a w4 ha0 ha1
  have e2 := encl_any b w4 hb0 hb1
  clear T1 t3 b1 b2 b3 b4 xa4 xa5 T1'
  go_wp2_with fail
  refine e1.mono ?_
  rintro e w' ⟨rfl, hw⟩
  have hw2 := hw.symm
  subst hw2
  clear hw e1
  go_wp2_with fail
  refine e2.mono ?_
  rintro e w' ⟨rfl, hw⟩
  have hw2 := hw.symm
  subst hw2
  clear hw e2
  go_wp2_with fail
  refine (appInt_any w4.heap.size n a _ _ w4 ha0 ha1 TS (Nat.le_refl _) (by omega)).mono ?_
  rintro e w5 ⟨v5, rfl, hown5, b5⟩
  clear TS
  go_wp2_with fail
  refine (appInt_any w4.heap.size (n + sz (zz a)) b v5 _ w5 hb0 hb1 (.inl hown5) b5.size (by omega)).mono ?_
  rintro e w6 ⟨v6, rfl, hown6, b6⟩
  rw [← bcells_append, ← bcells_append] at hown6
  obtain ⟨g, cap, hv6, hc1, hc2, hg1, hg2, hlen, hcell⟩ := owned_form hown6 (by omega)
  rw [hv6]
  clear hv6 hown6 hown5
  have B6 : Below w4.heap.size w4 w6 := b5.trans b6
  have BW : Below w.heap.size w w6 := B4.trans (B6.mono B4.size)
  have hs6 := B6.size
  have HA : Hid ((enc (zz a)).length = sz (zz a)) := enc_len _
  have HB : Hid ((enc (zz b)).length = sz (zz b)) := enc_len _
  have hcd : ∀ i z, ds[i]? = some z → w6.cell? ⟨g, i, none⟩ = some (.int .u8 z) := fun i z hz => hcell i z (by rw [List.append_assoc, List.getElem?_append_left (List.getElem?_eq_some_iff.1 hz).1]; exact hz)
  have hce : ∀ i z, (enc (zz a) ++ enc (zz b))[i]? = some z → w6.cell? ⟨g, n + i, none⟩ = some (.int .u8 z) := fun i z hz => hcell (n + i) z (by rw [List.append_assoc, List.getElem?_append_right (by rw [HD.out]; omega), HD.out, Nat.add_sub_cancel_left]; exact hz)
  have hcf : ∀ i z, (enc (zz b))[i]? = some z → w6.cell? ⟨g, n + sz (zz a) + i, none⟩ = some (.int .u8 z) := fun i z hz => hcell (n + sz (zz a) + i) z (by rw [List.getElem?_append_right (by rw [List.length_append, HD.out, HA.out]; omega), List.length_append, HD.out, HA.out, Nat.add_sub_cancel_left]; exact hz)
  have T3' : ∀ k, k < ds.length → ∃ g3, ao3 = some ⟨g3, 0, none⟩ ∧ g3 < w4.heap.size ∧ w6.cell? ⟨g3, k, none⟩ = some (.int .u8 (ds.getD k 0)) := fun k hk => by
    obtain ⟨g3, h1, h2, h3⟩ := T3.at hk
    exact ⟨g3, h1, h2, (B6.cell (p := ⟨g3, k, none⟩) h2).trans h3⟩
  have cA : ∀ i z, (enc (zz a))[i]? = some z → w6.cell? ⟨ga, i, none⟩ = some (.int .u8 z) := fun i z hz => (B6.cell (p := ⟨ga, i, none⟩) ha4).trans (ca i z hz)
  have cB : ∀ i z, (enc (zz b))[i]? = some z → w6.cell? ⟨gb, i, none⟩ = some (.int .u8 z) := fun i z hz => (B6.cell (p := ⟨gb, i, none⟩) xb4).trans (xb5 i z hz)
  have la : ga < w6.heap.size := by omega
  have lb : gb < w6.heap.size := by omega
  have hza := zz_bd a ha0 ha1
  have hzb := zz_bd b hb0 hb1
  clear T3 ca ha4 xb4 xb5 xa3 xb3 hcell B4 b5 b6 B6 hg1 hlen
  go_wp2_with fail
  go_loopw [11] (fun i wr => ∃ k : Nat, k ≤ n ∧ i = .int .i64 k ∧ Below w6.heap.size w6 wr) (fun i _ => n - (intOf i).toNat)
  case atStart => exact ⟨0, Nat.zero_le _, rfl, Below.refl _ _⟩
  case round =>
    obtain ⟨k, hk, rfl, hnx⟩ := hrel
    by_cases hlt : k < n
    · obtain ⟨g3, rfl, hg3, hc3⟩ := T3' k (by rw [HD.out]; exact hlt)
      have q1 : wr.cell? ⟨g3, k, none⟩ = some (.int .u8 (ds.getD k 0)) := (hnx.cell (p := ⟨g3, k, none⟩) (by show g3 < _; omega)).trans hc3
      have q2 : wr.cell? ⟨g, k, none⟩ = some (.int .u8 (ds.getD k 0)) := (hnx.cell (p := ⟨g, k, none⟩) hg2).trans (hcd k _ (getD_at ds k (by rw [HD.out]; exact hlt)))
      have q3 : (k : Int) < (n : Int) := by omega
      have q4 : (k : Int) < (n : Int) + (sz (zz a) : Int) + (sz (zz b) : Int) := by omega
      have q5 : (0 : Int) ≤ (k : Int) := by omega
      clear hc3 T3' hcd hce hcf cA cB BW
      go_wp2
      go_region
      all_goals go_wp2
      all_goals go_roundw
      case rel => exact ⟨k + 1, by omega, by go_num, hnx.drew⟩
      case measure => simp [intOf]; omega
    · obtain ⟨wm, rfl⟩ : ∃ wm : World, wm = wr := ⟨_, rfl⟩
      clear T3' hcd
      go_wp2
      clear hk hlt
      go_loopw [12] (fun i wr => ∃ k : Nat, k ≤ sz (zz a) ∧ i = .int .i64 k ∧ Below w6.heap.size w6 wr) (fun i _ => sz (zz a) - (intOf i).toNat)
      case atStart => exact ⟨0, Nat.zero_le _, rfl, hnx⟩
      case round =>
        clear hnx
        obtain ⟨k, hk, rfl, hny⟩ := hrel
        by_cases hlt : k < sz (zz a)
        · have q1 : wr.cell? ⟨ga, k, none⟩ = some (.int .u8 ((enc (zz a)).getD k 0)) := (hny.cell (p := ⟨ga, k, none⟩) la).trans (cA k _ (getD_at _ k (by rw [HA.out]; exact hlt)))
          have q2 : wr.cell? ⟨g, n + k, none⟩ = some (.int .u8 ((enc (zz a)).getD k 0)) := (hny.cell (p := ⟨g, n + k, none⟩) hg2).trans (hce k _ (by rw [List.getElem?_append_left (by rw [HA.out]; exact hlt)]; exact getD_at _ k (by rw [HA.out]; exact hlt)))
          have q3 : (k : Int) < (sz (zz a) : Int) := by omega
          have q4 : (n : Int) + (k : Int) < (n : Int) + (sz (zz a) : Int) + (sz (zz b) : Int) := by omega
          have q5 : (0 : Int) ≤ (k : Int) := by omega
          have q6 : (0 : Int) ≤ (n : Int) + (k : Int) := by omega
          clear hce hcf cA cB BW
          go_wp2
          go_region
          all_goals go_wp2
          all_goals go_roundw
          case rel => exact ⟨k + 1, by omega, by go_num, hny.drew⟩
          case measure => simp [intOf]; omega
        · obtain ⟨wn, rfl⟩ : ∃ wn : World, wn = wr := ⟨_, rfl⟩
          go_wp2
          clear hk hlt
          go_loopw [13] (fun i wr => ∃ k : Nat, k ≤ sz (zz b) ∧ i = .int .i64 k ∧ Below w6.heap.size w6 wr) (fun i _ => sz (zz b) - (intOf i).toNat)
          case atStart => exact ⟨0, Nat.zero_le _, rfl, hny⟩
          case round =>
            clear hny
            obtain ⟨k, hk, rfl, hnz⟩ := hrel
            by_cases hlt : k < sz (zz b)
            · have q1 : wr.cell? ⟨gb, k, none⟩ = some (.int .u8 ((enc (zz b)).getD k 0)) := (hnz.cell (p := ⟨gb, k, none⟩) lb).trans (cB k _ (getD_at _ k (by rw [HB.out]; exact hlt)))
              have q2 : wr.cell? ⟨g, n + sz (zz a) + k, none⟩ = some (.int .u8 ((enc (zz b)).getD k 0)) := (hnz.cell (p := ⟨g, n + sz (zz a) + k, none⟩) hg2).trans (hcf k _ (getD_at _ k (by rw [HB.out]; exact hlt)))
              have q3 : (k : Int) < (sz (zz b) : Int) := by omega
              have q4 : (n : Int) + (sz (zz a) : Int) + (k : Int) < (n : Int) + (sz (zz a) : Int) + (sz (zz b) : Int) := by omega
              have q5 : (0 : Int) ≤ (k : Int) := by omega
              have q6 : (0 : Int) ≤ (n : Int) + (sz (zz a) : Int) + (k : Int) := by omega
              clear hce hcf cA cB BW
              go_wp2
              go_region
              all_goals go_wp2
              all_goals go_roundw
              case rel => exact ⟨k + 1, by omega, by go_num, hnz.drew⟩
              case measure => simp [intOf]; omega
            · have k1 : ¬ cap = n := by omega
              have k2 : ¬ cap = n + sz (zz a) := by omega
              have m1 : (n : Int) ≤ (n : Int) + (sz (zz a) : Int) + (sz (zz b) : Int) := by omega
              have m2 : (n : Int) + (sz (zz a) : Int) ≤ (n : Int) + (sz (zz a) : Int) + (sz (zz b) : Int) := by omega
              have m3 : (n : Int) + (sz (zz a) : Int) + (sz (zz b) : Int) ≤ (cap : Int) := by omega
              have f1 := zzdec_full g n (n + sz (zz a) + sz (zz b) - n) (cap - n) (zz a) (enc (zz b)) wr hza.1 hza.2 (enc_byte _) (by rw [HB.out]; omega) (by omega) (by omega) (fun i z hz => (hnz.cell (p := ⟨g, n + i, none⟩) hg2).trans (hce i z hz))
              go_wp2_with fail
              refine f1.mono ?_
              rintro e w8 ⟨rfl, hb8⟩
              have g1 := zzunzig_any (zz a) w8 hza.1 hza.2
              rw [unzz_zz] at g1
              have f2 := zzdec_full g (n + sz (zz a)) (sz (zz b)) (cap - (n + sz (zz a))) (zz b) [] w8 hzb.1 hzb.2 (by simp) (by simp) (by omega) (by omega) (by
                intro i z hz
                rw [List.append_nil] at hz
                have h1 : wr.cell? ⟨g, n + sz (zz a) + i, none⟩ = some (.int .u8 z) := (hnz.cell (p := ⟨g, n + sz (zz a) + i, none⟩) hg2).trans (hcf i z hz)
                exact (hb8.cell (p := ⟨g, n + sz (zz a) + i, none⟩) (World.block_lt_of_cell? wr _ h1)).trans h1)
              have B8 : Below w.heap.size w w8 := (BW.trans (hnz.mono BW.size)).trans (hb8.mono (Nat.le_trans BW.size hnz.size))
              clear f1 hce hcf cA cB BW hnz hb8
              go_wp2_with (go_at_call 11; refine g1.mono ?_; rintro e w' ⟨rfl, hw⟩; have hw2 := hw.symm; subst hw2; clear hw)
              refine f2.mono ?_
              rintro e w9 ⟨rfl, hb9⟩
              have g2 := zzunzig_any (zz b) w9 hzb.1 hzb.2
              rw [unzz_zz] at g2
              clear f2 g1
              go_wp2_with (go_at_call 11; refine g2.mono ?_; rintro e w' ⟨rfl, hw⟩; have hw2 := hw.symm; subst hw2; clear hw)
              go_ret
              exact ⟨rfl, B8.trans (hb9.mono B8.size)⟩

/-- The law's walk, whatever the input. -/
theorem concat_any (a0 : Option Addr) (n c : Nat) (a b : Int) (ds : List Int) (w : World) (ha0 : -9223372036854775808 ≤ a) (ha1 : a ≤ 9223372036854775807) (hb0 : -9223372036854775808 ≤ b) (hb1 : b ≤ 9223372036854775807) (hn : n ≤ maxLen)
    (hds : ds.length = n)
    (hin : (a0 = none ∧ ds = [] ∧ c = 0) ∨ ∃ x, a0 = some x ∧ ∀ i, i < ds.length → w.cell? (x.add i) = some (.int .u8 (ds.getD i 0))) :
    Calls Try.prog 4 #[.slice a0 n c, .int .i64 a, .int .i64 b] w fun e w' => e = .returned (.bool true) ∧ Below w.heap.size w w' := by
  by_cases h : 65536 < n
  · refine (concat_long a0 n c a b w hn h).mono ?_
    rintro e w' ⟨rfl, hw⟩
    rw [hw]
    exact ⟨rfl, Below.refl _ _⟩
  · exact concat_main a0 n c a b ds w ha0 ha1 hb0 hb1 (by omega) hds hin

end Go.Proofs.Qxb6619351a
