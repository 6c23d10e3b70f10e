/-
  One host in memory: (*host).learned (32), ZZHostLearned (16), (*host).spacing (31), ZZHostSpacing (22).
-/
import Derived.Test.Qxb6616919aSmall
import Derived.Laws.Rows
import Derived.Defers
import Derived.Deep.RegionHeld3
namespace Go.Proofs.Qxb6616919a
open Go.RowKit Go.MuLone

/-- A host's sixteen cells: its turn, its pace, its crawl delay, its starts, its lock (free), what its answers taught. -/
def hostCells (ch : Nat) (D R M c kd kf wl ex dl : Int) : Array Value :=
  #[.chan (some ch), .int .i64 D, .int .i64 R, .int .i64 M, .int .i64 c, .slice none 0 0, .int .i32 0, .int .u32 0, .int .i64 kd, .int .i64 kf, .int .u64 wl, .int .i64 ex, .pointer none, .int .i64 dl, .int .i64 0, .int .i64 0]

def isHost (w : World) (hb ch : Nat) (D R M c kd kf wl ex dl : Int) : Prop := w.heap[hb]? = some (.cells (hostCells ch D R M c kd kf wl ex dl) 68 (0, 0))

/-- An old cell in a world with a new block. -/
theorem cell_new {w : World} {a : Addr} {v : Value} (o : Obj) (h : w.cell? a = some v) : (w.alloc o).cell? a = some v :=
  (World.cell?_of_block (w := w) (Below.heap_alloc w o _ (World.block_lt_of_cell? w _ h))).trans h

theorem frozen_new {w : World} {a : Addr} (o : Obj) (h : a.block < w.heap.size) (hf : w.frozen? a = false) : (w.alloc o).frozen? a = false :=
  (World.frozen?_of_block (w := w) (Below.heap_alloc w o _ h)).trans hf

theorem frozen_row {w : World} {b j : Nat} {cs : Array Value} {t : TypeId} (hg : w.heap[b]? = some (.cells cs t (0, 0))) : w.frozen? ⟨b, j, none⟩ = false := by
  simp [World.frozen?, hg]

theorem lt_row {w : World} {b : Nat} {o : Obj} (hg : w.heap[b]? = some o) : b < w.heap.size := (Array.getElem?_eq_some_iff.1 hg).1

theorem size_setCell (w : World) (a : Addr) (v : Value) : (w.setCell a v).heap.size = w.heap.size := by simp [World.setCell]

/-- A lock taken, the world grown, the lock given back: of what was there nothing has turned. -/
theorem relock {w W : World} {b o : Nat} {cs : Array Value} {t : TypeId} (hg : w.heap[b]? = some (.cells cs t (0, 0))) (hc : cs[o]? = some (.int .i32 0)) (h : Below w.heap.size (w.setCell ⟨b, o, none⟩ (.int .i32 1)) W) :
    Below w.heap.size w (W.setCell ⟨b, o, none⟩ (.int .i32 0)) := by
  have hb := lt_row hg
  have h1 := heap_setCell_same w b o cs t (.int .i32 1) hg
  have h2 : W.heap[b]? = some (.cells (cs.setIfInBounds o (.int .i32 1)) t (0, 0)) := (h.block b hb).trans h1
  have h3 := heap_setCell_same W b o _ t (.int .i32 0) h2
  refine ⟨h.os, h.tape, h.output, by have := h.size; rw [size_setCell] at this; rw [size_setCell]; exact this, fun k hk => ?_⟩
  by_cases hkb : k = b
  · subst hkb
    rw [h3, hg]
    have : (cs.setIfInBounds o (.int .i32 1)).setIfInBounds o (.int .i32 0) = cs := by
      apply Array.ext_getElem?
      intro i
      simp only [Array.getElem?_setIfInBounds, Array.size_setIfInBounds]
      by_cases hi : o = i
      · subst hi
        have hlt : o < cs.size := (Array.getElem?_eq_some_iff.1 hc).1
        rw [if_pos rfl, if_pos hlt, hc]
      · rw [if_neg hi, if_neg hi]
    rw [this]
  · rw [Below.heap_setCell _ _ _ _ hkb, h.block k hk, Below.heap_setCell _ _ _ _ hkb]

theorem heap_new {w : World} {b : Nat} {x : Obj} (o : Obj) (h : w.heap[b]? = some x) : (w.alloc o).heap[b]? = some x := (Below.heap_alloc w o b (lt_row h)).trans h
theorem heap_below {w w' : World} {b : Nat} {x : Obj} (hb : Below w.heap.size w w') (h : w.heap[b]? = some x) : w'.heap[b]? = some x := (hb.block b (lt_row h)).trans h

section
variable {w : World} {hb ch : Nat} {D R M c kd kf wl ex dl : Int}

set_option maxRecDepth 100000 in
set_option maxHeartbeats 1000000 in
theorem learned_any (hh : isHost w hb ch D R M c kd kf wl ex dl) :
    Calls Try.prog 32 #[.pointer (some ⟨hb, 0, none⟩)] w fun e w' => e = .returned (.tuple #[.int .i64 dl, .agg #[.int .u64 wl, .int .i64 ex, .pointer none]]) ∧ Below w.heap.size w w' := by
  have H := muLib
  have lt := lt_row hh
  have h6 : w.cell? ⟨hb, 6, none⟩ = some (.int .i32 0) := (cell_of_row w hb 6 _ _ _ hh).trans rfl
  have h10 : w.cell? ⟨hb, 10, none⟩ = some (.int .u64 wl) := (cell_of_row w hb 10 _ _ _ hh).trans rfl
  have h11 : w.cell? ⟨hb, 11, none⟩ = some (.int .i64 ex) := (cell_of_row w hb 11 _ _ _ hh).trans rfl
  have h12 : w.cell? ⟨hb, 12, none⟩ = some (.pointer none) := (cell_of_row w hb 12 _ _ _ hh).trans rfl
  have h13 : w.cell? ⟨hb, 13, none⟩ = some (.int .i64 dl) := (cell_of_row w hb 13 _ _ _ hh).trans rfl
  have f6 : w.frozen? ⟨hb, 6, none⟩ = false := frozen_row hh
  have k10 := fun o => cell_new o ((World.cell?_setCell_other w ⟨hb, 6, none⟩ ⟨hb, 10, none⟩ (.int .i32 1) (by simp)).trans h10)
  have k11 := fun o => cell_new o ((World.cell?_setCell_other w ⟨hb, 6, none⟩ ⟨hb, 11, none⟩ (.int .i32 1) (by simp)).trans h11)
  have k12 := fun o => cell_new o ((World.cell?_setCell_other w ⟨hb, 6, none⟩ ⟨hb, 12, none⟩ (.int .i32 1) (by simp)).trans h12)
  have k13 := fun o => cell_new o ((World.cell?_setCell_other w ⟨hb, 6, none⟩ ⟨hb, 13, none⟩ (.int .i32 1) (by simp)).trans h13)
  have HH : Hid (isHost w hb ch D R M c kd kf wl ex dl) := hh
  clear hh
  go_enter_defers Try.func32, Try.ntmps32
  go_wp2_with (go_at_call 28; refine (lock_free H ⟨hb, 6, none⟩ _ (cell_new _ h6) (frozen_new _ lt f6)).mono ?_; rintro e w' ⟨rfl, rfl⟩)
  go_region_held3 (fun w' => w'.cell? ⟨hb, 10, none⟩ = some (.int .u64 wl) ∧ w'.cell? ⟨hb, 11, none⟩ = some (.int .i64 ex) ∧ w'.cell? ⟨hb, 12, none⟩ = some (.pointer none) ∧ w'.cell? ⟨hb, 13, none⟩ = some (.int .i64 dl)) (go_keep) (fail)
  go_wp2
  refine leaves_cons (f := 29) (args := #[.pointer (some ⟨hb, 6, none⟩)]) (by simp) (by simp [go_sem]) ?_
  refine (unlock_deferred H ⟨hb, 6, none⟩ .returning _ ?_ ?_).mono ?_
  · exact cell_new _ (World.cell?_setCell_same w ⟨hb, 6, none⟩ (.int .i32 1) h6)
  · exact frozen_new _ (by simp; exact lt) (by simp [f6])
  rintro e u' w'' ⟨rfl, rfl, rfl⟩
  refine ⟨.tuple #[.int .i64 dl, .agg #[.int .u64 wl, .int .i64 ex, .pointer none]], ?_, rfl, ?_⟩
  · simp [results, Try.results32, go_sem]
  · exact relock HH.out rfl (((Below.refl _ _).alloc (by rw [size_setCell]; exact Nat.le_refl _) _).drew)

set_option maxRecDepth 100000 in
set_option maxHeartbeats 1000000 in
theorem zzlearned_any (hh : isHost w hb ch D R M c kd kf wl ex dl) :
    Calls Try.prog 16 #[.pointer (some ⟨hb, 0, none⟩)] w fun e w' => e = .returned (.tuple #[.int .i64 dl, .agg #[.int .u64 wl, .int .i64 ex, .pointer none]]) ∧ Below w.heap.size w w' := by
  have hl := learned_any (heap_new (.cells #[.int .u64 0, .int .i64 0, .pointer none] 31) hh : isHost (w.alloc (.cells #[.int .u64 0, .int .i64 0, .pointer none] 31)) hb ch D R M c kd kf wl ex dl)
  clear hh
  go_enter Try.func16, Try.ntmps16
  go_wp2_with fail
  refine hl.mono ?_
  rintro e w1 ⟨rfl, b1⟩
  clear hl
  have hz := heap_below b1 (heap_alloc_new w _)
  have z0 := (cell_of_row w1 w.heap.size 0 _ _ _ hz).trans (show _ = some (Value.int .u64 0) from rfl)
  have z1 := (cell_of_row w1 w.heap.size 1 _ _ _ hz).trans (show _ = some (Value.int .i64 0) from rfl)
  have z2 := (cell_of_row w1 w.heap.size 2 _ _ _ hz).trans (show _ = some (Value.pointer none) from rfl)
  have f0 := frozen_row (j := 0) hz
  have f1 := frozen_row (j := 1) hz
  have f2 := frozen_row (j := 2) hz
  have BW : Below w.heap.size w w1 := ((Below.refl _ w).alloc (Nat.le_refl _) _).trans (b1.mono (by simp))
  have HZ : Hid (w1.heap[w.heap.size]? = some (.cells #[.int .u64 0, .int .i64 0, .pointer none] 31 (0, 0))) := hz
  clear hz b1
  go_wp2
  refine bodyPost_ret (v := .tuple #[.int .i64 dl, .agg #[.int .u64 wl, .int .i64 ex, .pointer none]]) ?_ rfl ⟨rfl, ?_⟩
  · simp [results, Try.results16, go_sem, z0, z1, z2]
  · exact ((BW.setCell (Nat.le_refl _) _).setCell (Nat.le_refl _) _).setCell (Nat.le_refl _) _

set_option maxRecDepth 100000 in
set_option maxHeartbeats 1000000 in
theorem spacing_any (hh : isHost w hb ch D R M c kd kf wl ex dl) :
    Calls Try.prog 31 #[.pointer (some ⟨hb, 0, none⟩)] w fun e w' => e = .returned (.int .i64 (mx D c dl)) ∧ Below w.heap.size w w' := by
  have HH : Hid (isHost w hb ch D R M c kd kf wl ex dl) := hh
  clear hh
  go_enter Try.func31, Try.ntmps31
  go_wp2_with (go_at_call 32; refine (learned_any HH.out).mono ?_; rintro e w1 ⟨rfl, b1⟩)
  have h1 := heap_below b1 HH.out
  have k1 := fun o => cell_new o ((cell_of_row w1 hb 1 _ _ _ h1).trans (show _ = some (Value.int .i64 D) from rfl))
  have k4 := fun o => cell_new o ((cell_of_row w1 hb 4 _ _ _ h1).trans (show _ = some (Value.int .i64 c) from rfl))
  clear h1
  go_region_held3 (fun w' => w'.cell? ⟨hb, 1, none⟩ = some (.int .i64 D) ∧ w'.cell? ⟨hb, 4, none⟩ = some (.int .i64 c)) (go_keep)
    (first | (go_at_call 40; refine (load_any ⟨hb, 4, none⟩ c _ ?_).mono ?_; (exact k4 _); rintro e w' ⟨rfl, rfl⟩))
  all_goals go_wp2
  all_goals go_ret
  all_goals
    refine ⟨ret_int (by unfold mx; split <;> (try split) <;> omega), ?_⟩
    exact (b1.alloc b1.size _).drew

set_option maxRecDepth 100000 in
theorem zzspacing_any (hh : isHost w hb ch D R M c kd kf wl ex dl) :
    Calls Try.prog 22 #[.pointer (some ⟨hb, 0, none⟩)] w fun e w' => e = .returned (.int .i64 (mx D c dl)) ∧ Below w.heap.size w w' := by
  have HH : Hid (isHost w hb ch D R M c kd kf wl ex dl) := hh
  clear hh
  go_enter Try.func22, Try.ntmps22
  go_wp2_with (go_at_call 31; refine (spacing_any HH.out).mono ?_; rintro e w1 ⟨rfl, b1⟩)
  go_ret
  exact ⟨rfl, b1⟩
end
end Go.Proofs.Qxb6616919a
