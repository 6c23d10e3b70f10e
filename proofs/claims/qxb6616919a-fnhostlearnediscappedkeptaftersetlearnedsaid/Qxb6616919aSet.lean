/-
  What stands on (*Pacer).host: ZZHost (15), SetCrawlDelay (9), Spacing (11), SetLearned (10), Learned (18): each over whatever is known of the call of host.
-/
import Derived.Test.Qxb6616919aMake
import Derived.Deep.RegionWith
namespace Go.Proofs.Qxb6616919a
open Go.RowKit Go.MuLone

/-- What is known of a world in which a box x and a host's block hb have been written over, cell by cell. -/
structure Ch (hb x : Nat) (cs : Array Value) (t : TypeId) (w W : World) : Prop where
  h : W.heap[hb]? = some (.cells cs t (0, 0))
  o : ∀ k, k ≠ hb → k ≠ x → W.heap[k]? = w.heap[k]?
  size : W.heap.size = w.heap.size
  os : W.os = w.os
  tape : W.tape = w.tape
  output : W.output = w.output

section
variable {hb x : Nat} {cs : Array Value} {t : TypeId} {w W : World}
theorem Ch.start (h : w.heap[hb]? = some (.cells cs t (0, 0))) : Ch hb x cs t w w := ⟨h, fun _ _ _ => rfl, rfl, rfl, rfl, rfl⟩
theorem Ch.box (h : Ch hb x cs t w W) (ne : x ≠ hb) (j : Nat) (v : Value) : Ch hb x cs t w (W.setCell ⟨x, j, none⟩ v) :=
  ⟨heap_other _ h.h (fun e => ne e.symm), fun k h1 h2 => (Below.heap_setCell _ _ _ _ h2).trans (h.o k h1 h2), (size_setCell _ _ _).trans h.size, h.os, h.tape, h.output⟩
theorem Ch.host (h : Ch hb x cs t w W) (j : Nat) (v : Value) : Ch hb x (cs.setIfInBounds j v) t w (W.setCell ⟨hb, j, none⟩ v) :=
  ⟨heap_setCell_same _ hb j _ _ v h.h, fun k h1 h2 => (Below.heap_setCell _ _ _ _ h1).trans (h.o k h1 h2), (size_setCell _ _ _).trans h.size, h.os, h.tape, h.output⟩
end

theorem taught_lock (ch : Nat) (D R M c0 kd kf wl ex dl ld lf wl' ex' : Int) : ((((((((((hostCells ch D R M c0 kd kf wl ex dl).setIfInBounds 6 (.int .i32 1)).setIfInBounds 8 (.int .i64 (mn ld M))).setIfInBounds 9 (.int .i64 (mn lf (mn ld M)))).setIfInBounds 10 (.int .u64 wl')).setIfInBounds 11 (.int .i64 ex')).setIfInBounds 12 (.pointer none)).setIfInBounds 13 (.int .i64 (mn ld M))).setIfInBounds 14 (.int .i64 0)).setIfInBounds 15 (.int .i64 0))[6]? = some (.int .i32 1) := by kernel_rfl
theorem taught_cells (ch : Nat) (D R M c0 kd kf wl ex dl ld lf wl' ex' : Int) : ((((((((((hostCells ch D R M c0 kd kf wl ex dl).setIfInBounds 6 (.int .i32 1)).setIfInBounds 8 (.int .i64 (mn ld M))).setIfInBounds 9 (.int .i64 (mn lf (mn ld M)))).setIfInBounds 10 (.int .u64 wl')).setIfInBounds 11 (.int .i64 ex')).setIfInBounds 12 (.pointer none)).setIfInBounds 13 (.int .i64 (mn ld M))).setIfInBounds 14 (.int .i64 0)).setIfInBounds 15 (.int .i64 0)).setIfInBounds 6 (.int .i32 0) = hostCells ch D R M c0 (mn ld M) (mn lf (mn ld M)) wl' ex' (mn ld M) := by kernel_rfl
theorem undrew {B : Nat} {W w3 : World} (h : Below B W.drew w3) : Below B W w3 := ⟨h.os, h.tape, h.output, h.size, h.block⟩

/-- The door of SetLearned: the lock is given back. -/
theorem teach_end {w w1 w3 W : World} {hb ch : Nat} {D R M c0 kd kf wl ex dl ld lf wl' ex' : Int} {T : World → Nat → Nat → Prop} (tm : Array Value) (ht : T w1 hb ch)
    (b3 : Below (w1.setCell ⟨hb, 6, none⟩ (.int .i32 1)).heap.size (w1.setCell ⟨hb, 6, none⟩ (.int .i32 1)) w3)
    (TW : Ch hb w.heap.size ((((((((((hostCells ch D R M c0 kd kf wl ex dl).setIfInBounds 6 (.int .i32 1)).setIfInBounds 8 (.int .i64 (mn ld M))).setIfInBounds 9 (.int .i64 (mn lf (mn ld M)))).setIfInBounds 10 (.int .u64 wl')).setIfInBounds 11 (.int .i64 ex')).setIfInBounds 12 (.pointer none)).setIfInBounds 13 (.int .i64 (mn ld M))).setIfInBounds 14 (.int .i64 0)).setIfInBounds 15 (.int .i64 0)) 68 w3 W) :
    bodyPostD Try.prog Try.f10 (fun e w' => e = .returned (.tuple #[]) ∧ ∃ w1 hb ch, T w1 hb ch ∧ isHost w' hb ch D R M c0 (mn ld M) (mn lf (mn ld M)) wl' ex' (mn ld M) ∧ w1.heap.size ≤ w'.heap.size ∧
      (w'.os = w1.os ∧ w'.tape = w1.tape ∧ w'.output = w1.output) ∧ ∀ k, k < w1.heap.size → k ≠ hb → k ≠ w.heap.size → w'.heap[k]? = w1.heap[k]?) .normal
      { tmps := tm, defers := [{ target := .fn (.func 29) #[], args := #[.pointer (some ⟨hb, 6, none⟩)] }] } W := by
  refine leaves_cons (f := 29) (args := #[.pointer (some ⟨hb, 6, none⟩)]) (by simp) (by simp [go_sem]) ?_
  refine (unlock_deferred muLib ⟨hb, 6, none⟩ .returning W ((cell_of_row _ hb 6 _ _ _ TW.h).trans (taught_lock ch D R M c0 kd kf wl ex dl ld lf wl' ex')) (frozen_row TW.h)).mono ?_
  rintro e u' w'' ⟨rfl, rfl, rfl⟩
  have hs := b3.size
  have hn := heap_setCell_same W hb 6 _ _ (.int .i32 0) TW.h
  rw [taught_cells] at hn
  refine ⟨_, results_none rfl _ _ _, rfl, w1, hb, ch, ht, hn, ?_, ⟨TW.os.trans b3.os, TW.tape.trans b3.tape, TW.output.trans b3.output⟩, fun k hk h1 h2 => ?_⟩
  · rw [size_setCell] at hs ⊢
    rw [TW.size]
    exact hs
  · rw [Below.heap_setCell _ _ _ _ h1, TW.o k h1 h2]
    exact (b3.block k (by rw [size_setCell]; exact hk)).trans (Below.heap_setCell _ _ _ _ h1)

section
variable {w : World} {pv : Value} {name : ByteArray} {D R M c0 kd kf wl ex dl : Int} {T : World → Nat → Nat → Prop}

/-- What is known of the call of host. -/
def HostCall (w : World) (pv : Value) (name : ByteArray) (D R M c0 kd kf wl ex dl : Int) (T : World → Nat → Nat → Prop) : Prop :=
  Calls Try.prog 26 #[pv, .string name] w fun e w1 => ∃ hb ch, e = .returned (.pointer (some ⟨hb, 0, none⟩)) ∧ isHost w1 hb ch D R M c0 kd kf wl ex dl ∧ T w1 hb ch

theorem zzhost_of (hc : HostCall w pv name D R M c0 kd kf wl ex dl T) :
    Calls Try.prog 15 #[pv, .string name] w fun e w1 => ∃ hb ch, e = .returned (.pointer (some ⟨hb, 0, none⟩)) ∧ isHost w1 hb ch D R M c0 kd kf wl ex dl ∧ T w1 hb ch := by
  unfold HostCall at hc
  go_enter Try.func15, Try.ntmps15
  go_wp2_with fail
  refine hc.mono ?_
  rintro e w1 ⟨hb, ch, rfl, hh, ht⟩
  go_wp2
  go_ret
  exact ⟨hb, ch, rfl, hh, ht⟩

set_option maxRecDepth 100000 in
theorem crawl_of (c : Int) (hc : HostCall w pv name D R M c0 kd kf wl ex dl T) :
    Calls Try.prog 9 #[pv, .string name, .int .i64 c] w fun e w' => e = .returned (.tuple #[]) ∧ ∃ w1 hb ch, T w1 hb ch ∧ isHost w' hb ch D R M c kd kf wl ex dl ∧ But hb w1 w' := by
  unfold HostCall at hc
  go_enter Try.func9, Try.ntmps9
  go_wp2_with fail
  refine hc.mono ?_
  rintro e w1 ⟨hb, ch, rfl, hh, ht⟩
  have c4 : w1.cell? ⟨hb, 4, none⟩ = some (.int .i64 c0) := (cell_of_row w1 hb 4 _ _ _ hh).trans rfl
  have f4 : w1.frozen? ⟨hb, 4, none⟩ = false := frozen_row hh
  have R1 := heap_setCell_same w1 hb 4 _ _ (.int .i64 c) hh
  have HH : Hid (isHost w1 hb ch D R M c0 kd kf wl ex dl) := hh
  clear hc hh
  go_wp2_with (go_at_call 27; refine (store_any ⟨hb, 4, none⟩ _ c _ c4 f4).mono ?_; rintro e w' ⟨rfl, rfl⟩)
  go_end0
  exact ⟨rfl, w1, hb, ch, ht, R1, rfl, rfl, rfl, by rw [size_setCell]; exact Nat.le_refl _, fun k _ hk => Below.heap_setCell _ _ _ _ hk⟩

set_option maxRecDepth 100000 in
theorem space_of (hc : HostCall w pv name D R M c0 kd kf wl ex dl T) :
    Calls Try.prog 11 #[pv, .string name] w fun e w' => e = .returned (.int .i64 (mx D c0 dl)) ∧ ∃ w1 hb ch, T w1 hb ch ∧ isHost w1 hb ch D R M c0 kd kf wl ex dl ∧ Below w1.heap.size w1 w' := by
  unfold HostCall at hc
  go_enter Try.func11, Try.ntmps11
  go_wp2_with fail
  refine hc.mono ?_
  rintro e w1 ⟨hb, ch, rfl, hh, ht⟩
  have HH : Hid (isHost w1 hb ch D R M c0 kd kf wl ex dl) := hh
  clear hc hh
  go_wp2_with (go_at_call 31; refine (spacing_any HH.out).mono ?_; rintro e w' ⟨rfl, hb'⟩)
  go_ret
  exact ⟨rfl, w1, hb, ch, ht, HH.out, hb'⟩

set_option maxRecDepth 100000 in
set_option maxHeartbeats 2000000 in
theorem teach_of (ld lf wl' ex' : Int) (hc : HostCall (w.alloc (.cells #[.int .i64 ld, .int .i64 lf, .int .u64 wl', .int .i64 ex', .pointer none] 33)) pv name D R M c0 kd kf wl ex dl T)
    (hT : ∀ w1 hb ch, T w1 hb ch → w1.heap[w.heap.size]? = some (.cells #[.int .i64 ld, .int .i64 lf, .int .u64 wl', .int .i64 ex', .pointer none] 33 (0, 0))) :
    Calls Try.prog 10 #[pv, .string name, .agg #[.int .i64 ld, .int .i64 lf, .int .u64 wl', .int .i64 ex', .pointer none]] w fun e w' => e = .returned (.tuple #[]) ∧ ∃ w1 hb ch, T w1 hb ch ∧ isHost w' hb ch D R M c0 (mn ld M) (mn lf (mn ld M)) wl' ex' (mn ld M) ∧ w1.heap.size ≤ w'.heap.size ∧
      (w'.os = w1.os ∧ w'.tape = w1.tape ∧ w'.output = w1.output) ∧ ∀ k, k < w1.heap.size → k ≠ hb → k ≠ w.heap.size → w'.heap[k]? = w1.heap[k]? := by
  have H := muLib
  unfold HostCall at hc
  go_enter_defers Try.func10, Try.ntmps10
  go_wp2_with fail
  refine hc.mono ?_
  rintro e w1 ⟨hb, ch, rfl, hh, ht⟩
  have hx := hT w1 hb ch ht
  have c6 : w1.cell? ⟨hb, 6, none⟩ = some (.int .i32 0) := (cell_of_row w1 hb 6 _ _ _ hh).trans rfl
  have f6 : w1.frozen? ⟨hb, 6, none⟩ = false := frozen_row hh
  have ne : w.heap.size ≠ hb := fun e => by have h1 := hx; rw [e, hh] at h1; simp [hostCells] at h1
  have lt := lt_row hh
  have HH : Hid (isHost w1 hb ch D R M c0 kd kf wl ex dl) := hh
  have HX : Hid (w1.heap[w.heap.size]? = some (.cells #[.int .i64 ld, .int .i64 lf, .int .u64 wl', .int .i64 ex', .pointer none] 33 (0, 0))) := hx
  clear hc hh hT hx
  go_wp2_with (go_at_call 28; refine (lock_free H ⟨hb, 6, none⟩ _ c6 f6).mono ?_; rintro e w' ⟨rfl, hw⟩; subst hw)
  have g5 := heap_other (a := ⟨hb, 6, none⟩) (.int .i32 1) HX.out ne
  have gh := heap_setCell_same w1 hb 6 _ _ (.int .i32 1) HH.out
  have x0 := (cell_of_row _ w.heap.size 0 _ _ _ g5).trans (show _ = some (Value.int .i64 ld) from rfl)
  have x1 := (cell_of_row _ w.heap.size 1 _ _ _ g5).trans (show _ = some (Value.int .i64 lf) from rfl)
  have x2 := (cell_of_row _ w.heap.size 2 _ _ _ g5).trans (show _ = some (Value.int .u64 wl') from rfl)
  have x3 := (cell_of_row _ w.heap.size 3 _ _ _ g5).trans (show _ = some (Value.int .i64 ex') from rfl)
  have x4 := (cell_of_row _ w.heap.size 4 _ _ _ g5).trans (show _ = some (Value.pointer none) from rfl)
  have y3 := (cell_of_row _ hb 3 _ _ _ gh).trans (show _ = some (Value.int .i64 M) from rfl)
  have G5 : Hid ((w1.setCell ⟨hb, 6, none⟩ (.int .i32 1)).heap[w.heap.size]? = some (.cells #[.int .i64 ld, .int .i64 lf, .int .u64 wl', .int .i64 ex', .pointer none] 33 (0, 0))) := g5
  have GH : Hid ((w1.setCell ⟨hb, 6, none⟩ (.int .i32 1)).heap[hb]? = some (.cells ((hostCells ch D R M c0 kd kf wl ex dl).setIfInBounds 6 (.int .i32 1)) 68 (0, 0))) := gh
  clear g5 gh
  refine wp_region_noPanic ?_
  go_region_with (go_at_call 30; refine (capped_any ld lf M wl' ex' _).mono ?_; rintro e w3 ⟨rfl, b3⟩; unfold lrn; have z5 := heap_below b3 G5.out; have q0 := (cell_of_row w3 w.heap.size 0 _ _ _ z5).trans (show _ = some (Value.int .i64 ld) from rfl); have r0 := frozen_row (j := 0) z5; have q1 := (cell_of_row w3 w.heap.size 1 _ _ _ z5).trans (show _ = some (Value.int .i64 lf) from rfl); have r1 := frozen_row (j := 1) z5; have q2 := (cell_of_row w3 w.heap.size 2 _ _ _ z5).trans (show _ = some (Value.int .u64 wl') from rfl); have r2 := frozen_row (j := 2) z5; have q3 := (cell_of_row w3 w.heap.size 3 _ _ _ z5).trans (show _ = some (Value.int .i64 ex') from rfl); have r3 := frozen_row (j := 3) z5; have q4 := (cell_of_row w3 w.heap.size 4 _ _ _ z5).trans (show _ = some (Value.pointer none) from rfl); have r4 := frozen_row (j := 4) z5; have Z5 : Hid (w3.heap[w.heap.size]? = some (.cells #[.int .i64 ld, .int .i64 lf, .int .u64 wl', .int .i64 ex', .pointer none] 33 (0, 0))) := z5; clear z5)
  all_goals refine NoPanic.normal ?_
  all_goals
    have zh := heap_below b3 GH.out
    have p8 := (cell_of_row w3 hb 8 _ _ _ zh).trans (show _ = some (Value.int .i64 kd) from rfl)
    have t8 := frozen_row (j := 8) zh
    have p9 := (cell_of_row w3 hb 9 _ _ _ zh).trans (show _ = some (Value.int .i64 kf) from rfl)
    have t9 := frozen_row (j := 9) zh
    have p10 := (cell_of_row w3 hb 10 _ _ _ zh).trans (show _ = some (Value.int .u64 wl) from rfl)
    have t10 := frozen_row (j := 10) zh
    have p11 := (cell_of_row w3 hb 11 _ _ _ zh).trans (show _ = some (Value.int .i64 ex) from rfl)
    have t11 := frozen_row (j := 11) zh
    have p12 := (cell_of_row w3 hb 12 _ _ _ zh).trans (show _ = some (Value.pointer none) from rfl)
    have t12 := frozen_row (j := 12) zh
    have p13 := (cell_of_row w3 hb 13 _ _ _ zh).trans (show _ = some (Value.int .i64 dl) from rfl)
    have t13 := frozen_row (j := 13) zh
    have p14 := (cell_of_row w3 hb 14 _ _ _ zh).trans (show _ = some (Value.int .i64 0) from rfl)
    have t14 := frozen_row (j := 14) zh
    have p15 := (cell_of_row w3 hb 15 _ _ _ zh).trans (show _ = some (Value.int .i64 0) from rfl)
    have t15 := frozen_row (j := 15) zh
    have p6 := (cell_of_row w3 hb 6 _ _ _ zh).trans (show _ = some (Value.int .i32 1) from rfl)
    have t6 := frozen_row (j := 6) zh
    have ZH : Hid (w3.heap[hb]? = some (.cells ((hostCells ch D R M c0 kd kf wl ex dl).setIfInBounds 6 (.int .i32 1)) 68 (0, 0))) := zh
    have ne2 : ¬ hb = w.heap.size := fun e => ne e.symm
    clear zh x0 x1 x2 x3 x4 y3 c6 f6
    go_wp2
  all_goals
    exact teach_end _ ht (undrew b3) ((((((((((((((Ch.start ZH.out).box ne 0 (.int .i64 (mn ld M))).box ne 1 (.int .i64 (mn lf (mn ld M)))).box ne 2 (.int .u64 wl')).box ne 3 (.int .i64 ex')).box ne 4 (.pointer none)).host 8 (.int .i64 (mn ld M))).host 9 (.int .i64 (mn lf (mn ld M)))).host 10 (.int .u64 wl')).host 11 (.int .i64 ex')).host 12 (.pointer none)).host 13 (.int .i64 (mn ld M))).host 14 (.int .i64 0)).host 15 (.int .i64 0))
end
end Go.Proofs.Qxb6616919a
