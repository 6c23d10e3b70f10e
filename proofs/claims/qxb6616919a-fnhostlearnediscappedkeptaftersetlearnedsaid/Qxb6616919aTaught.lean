/-
  (*Pacer).Learned (18).
-/
import Derived.Test.Qxb6616919aBytes
import Derived.Below
namespace Go.Proofs.Qxb6616919a
open Go.RowKit Go.MuLone

theorem locked_lock (ch : Nat) (D R M c0 kd kf wl ex dl : Int) : ((hostCells ch D R M c0 kd kf wl ex dl).setIfInBounds 6 (.int .i32 1))[6]? = some (.int .i32 1) := by kernel_rfl
theorem locked_cells (ch : Nat) (D R M c0 kd kf wl ex dl : Int) : ((hostCells ch D R M c0 kd kf wl ex dl).setIfInBounds 6 (.int .i32 1)).setIfInBounds 6 (.int .i32 0) = hostCells ch D R M c0 kd kf wl ex dl := by kernel_rfl

theorem plearned_below {w w1 W : World} {h1 ch : Nat} {D R M c0 kd kf wl ex dl : Int} (HB : Below w.heap.size w w1) (HH : isHost w1 h1 ch D R M c0 kd kf wl ex dl)
    (TW : Ch h1 w.heap.size ((hostCells ch D R M c0 kd kf wl ex dl).setIfInBounds 6 (.int .i32 1)) 68 (w1.setCell ⟨h1, 6, none⟩ (.int .i32 1)) W) : Below w.heap.size w (W.setCell ⟨h1, 6, none⟩ (.int .i32 0)) := by
  have s1 := HB.size
  have s2 := TW.size
  have hn := heap_setCell_same _ h1 6 _ _ (.int .i32 0) TW.h
  rw [locked_cells] at hn
  refine ⟨TW.os.trans HB.os, TW.tape.trans HB.tape, TW.output.trans HB.output, ?_, fun k hk => ?_⟩
  · rw [size_setCell, s2, size_setCell]; exact s1
  · by_cases hkb : k = h1
    · subst hkb
      exact hn.trans (HH.symm.trans (HB.block k hk))
    · rw [Below.heap_setCell _ _ _ _ hkb, TW.o k hkb (by omega), Below.heap_setCell _ _ _ _ hkb]
      exact HB.block k hk

section
variable {w : World} {pv : Value} {name : ByteArray} {hb ch : Nat} {D R M c0 kd kf wl ex dl : Int}

set_option maxRecDepth 100000 in
set_option maxHeartbeats 2000000 in
theorem plearned_of (hc : HostCall (w.alloc (.cells #[.int .i64 0, .int .i64 0, .int .u64 0, .int .i64 0, .pointer none] 33)) pv name D R M c0 kd kf wl ex dl (fun w1 h1 c1 => h1 = hb ∧ c1 = ch ∧ Below (w.alloc (.cells #[.int .i64 0, .int .i64 0, .int .u64 0, .int .i64 0, .pointer none] 33)).heap.size (w.alloc (.cells #[.int .i64 0, .int .i64 0, .int .u64 0, .int .i64 0, .pointer none] 33)) w1)) :
    Calls Try.prog 18 #[pv, .string name] w fun e w' => e = .returned (.agg #[.int .i64 kd, .int .i64 kf, .int .u64 wl, .int .i64 ex, .pointer none]) ∧ Below w.heap.size w w' := by
  have H := muLib
  unfold HostCall at hc
  go_enter_defers Try.func18, Try.ntmps18
  go_wp2_with fail
  refine hc.mono ?_
  rintro e w1 ⟨h1, c1, rfl, hh, rfl, rfl, b1⟩
  have hx := heap_below b1 (heap_alloc_new w _)
  have BW : Below w.heap.size w w1 := ((Below.refl _ w).alloc (Nat.le_refl _) _).trans (b1.mono (by simp))
  have ne : w.heap.size ≠ h1 := fun e => by have h2 := hx; rw [e, hh] at h2; simp [hostCells] at h2
  have ne2 : ¬ h1 = w.heap.size := fun e => ne e.symm
  have c6 : w1.cell? ⟨h1, 6, none⟩ = some (.int .i32 0) := (cell_of_row w1 h1 6 _ _ _ hh).trans rfl
  have f6 : w1.frozen? ⟨h1, 6, none⟩ = false := frozen_row hh
  have HH : Hid (isHost w1 h1 c1 D R M c0 kd kf wl ex dl) := hh
  have HX : Hid (w1.heap[w.heap.size]? = some (.cells #[.int .i64 0, .int .i64 0, .int .u64 0, .int .i64 0, .pointer none] 33 (0, 0))) := hx
  have HB : Hid (Below w.heap.size w w1) := BW
  clear hc hh hx BW b1
  go_wp2_with (go_at_call 28; refine (lock_free H ⟨h1, 6, none⟩ _ c6 f6).mono ?_; rintro e w' ⟨rfl, hw⟩; subst hw; have g5 := heap_other (a := ⟨h1, 6, none⟩) (.int .i32 1) HX.out ne; have gh := heap_setCell_same w1 h1 6 _ _ (.int .i32 1) HH.out; have x0 := (cell_of_row _ w.heap.size 0 _ _ _ g5).trans (show _ = some (Value.int .i64 0) from rfl); have x1 := (cell_of_row _ w.heap.size 1 _ _ _ g5).trans (show _ = some (Value.int .i64 0) from rfl); have x2 := (cell_of_row _ w.heap.size 2 _ _ _ g5).trans (show _ = some (Value.int .u64 0) from rfl); have x3 := (cell_of_row _ w.heap.size 3 _ _ _ g5).trans (show _ = some (Value.int .i64 0) from rfl); have x4 := (cell_of_row _ w.heap.size 4 _ _ _ g5).trans (show _ = some (Value.pointer none) from rfl); have r0 := frozen_row (j := 0) g5; have r1 := frozen_row (j := 1) g5; have r2 := frozen_row (j := 2) g5; have r3 := frozen_row (j := 3) g5; have r4 := frozen_row (j := 4) g5; have y8 := (cell_of_row _ h1 8 _ _ _ gh).trans (show _ = some (Value.int .i64 kd) from rfl); have y9 := (cell_of_row _ h1 9 _ _ _ gh).trans (show _ = some (Value.int .i64 kf) from rfl); have y10 := (cell_of_row _ h1 10 _ _ _ gh).trans (show _ = some (Value.int .u64 wl) from rfl); have y11 := (cell_of_row _ h1 11 _ _ _ gh).trans (show _ = some (Value.int .i64 ex) from rfl); have y12 := (cell_of_row _ h1 12 _ _ _ gh).trans (show _ = some (Value.pointer none) from rfl); have y6 := (cell_of_row _ h1 6 _ _ _ gh).trans (show _ = some (Value.int .i32 1) from rfl); have GH : Hid ((w1.setCell ⟨h1, 6, none⟩ (.int .i32 1)).heap[h1]? = some (.cells ((hostCells c1 D R M c0 kd kf wl ex dl).setIfInBounds 6 (.int .i32 1)) 68 (0, 0))) := gh; have G5 : Hid ((w1.setCell ⟨h1, 6, none⟩ (.int .i32 1)).heap[w.heap.size]? = some (.cells #[.int .i64 0, .int .i64 0, .int .u64 0, .int .i64 0, .pointer none] 33 (0, 0))) := g5; clear gh g5)
  refine leaves_cons (f := 29) (args := #[.pointer (some ⟨h1, 6, none⟩)]) (by simp) (by simp [go_sem]) ?_
  have TW := (((((Ch.start (x := w.heap.size) GH.out).box ne 0 (.int .i64 kd)).box ne 1 (.int .i64 kf)).box ne 2 (.int .u64 wl)).box ne 3 (.int .i64 ex)).box ne 4 (.pointer none)
  have XW := heap_setCell_same _ w.heap.size 4 _ _ (.pointer none) (heap_setCell_same _ w.heap.size 3 _ _ (.int .i64 ex) (heap_setCell_same _ w.heap.size 2 _ _ (.int .u64 wl) (heap_setCell_same _ w.heap.size 1 _ _ (.int .i64 kf) (heap_setCell_same _ w.heap.size 0 _ _ (.int .i64 kd) G5.out))))
  refine (unlock_deferred H ⟨h1, 6, none⟩ .returning _ ((cell_of_row _ h1 6 _ _ _ TW.h).trans (locked_lock c1 D R M c0 kd kf wl ex dl)) (frozen_row TW.h)).mono ?_
  rintro e u' w'' ⟨rfl, rfl, hw⟩
  have hX := heap_other (a := ⟨h1, 6, none⟩) (.int .i32 0) XW ne
  rw [← hw] at hX
  have z0 := (cell_of_row w'' w.heap.size 0 _ _ _ hX).trans (show _ = some (Value.int .i64 kd) from by kernel_rfl)
  have z1 := (cell_of_row w'' w.heap.size 1 _ _ _ hX).trans (show _ = some (Value.int .i64 kf) from by kernel_rfl)
  have z2 := (cell_of_row w'' w.heap.size 2 _ _ _ hX).trans (show _ = some (Value.int .u64 wl) from by kernel_rfl)
  have z3 := (cell_of_row w'' w.heap.size 3 _ _ _ hX).trans (show _ = some (Value.int .i64 ex) from by kernel_rfl)
  have z4 := (cell_of_row w'' w.heap.size 4 _ _ _ hX).trans (show _ = some (Value.pointer none) from by kernel_rfl)
  refine ⟨.agg #[.int .i64 kd, .int .i64 kf, .int .u64 wl, .int .i64 ex, .pointer none], ?_, rfl, ?_⟩
  · clear hw hX TW XW
    simp [results, Try.results18, go_sem, z0, z1, z2, z3, z4]
  · rw [hw]
    exact plearned_below HB.out HH.out TW
end

theorem one_plearned {w w0 : World} {pb hb : Nat} {name : ByteArray} {D R M c kd kf wl ex dl : Int} (h : One w0 w pb hb name D R M c kd kf wl ex dl) :
    Calls Try.prog 18 #[.pointer (some ⟨pb, 0, none⟩), .string name] w fun e w' => e = .returned (.agg #[.int .i64 kd, .int .i64 kf, .int .u64 wl, .int .i64 ex, .pointer none]) ∧ One w0 w' pb hb name D R M c kd kf wl ex dl ∧ Below w.heap.size w w' := by
  have h0 := h
  obtain ⟨⟨x0, x1, x2, mb, ch, clock, i, es, hp, hf, hh⟩, bel, lb⟩ := h
  have b0 : Below w.heap.size w (w.alloc (.cells #[.int .i64 0, .int .i64 0, .int .u64 0, .int .i64 0, .pointer none] 33)) := (Below.refl _ w).alloc (Nat.le_refl _) _
  refine (plearned_of (old_call (hp.below b0) hf (heap_below b0 hh))).mono ?_
  rintro e w' ⟨rfl, b⟩
  exact ⟨rfl, h0.below b, b⟩
end Go.Proofs.Qxb6616919a
