/-
  The Pacer in memory: ZZNewFixed (8), its closure (25), (*Pacer).host (26) where the host is there already.
-/
import Derived.Test.Qxb6616919aMaps
import Derived.Test.Qxb6616919aSend
namespace Go.Proofs.Qxb6616919a
open Go.RowKit Go.MuLone

/-- The closure that ZZNewFixed hands to New: over its three boxes. -/
def paceFn (x0 x1 x2 : Nat) : Value := .func (.func 25) #[] #[.pointer (some ⟨x0, 0, none⟩), .pointer (some ⟨x1, 0, none⟩), .pointer (some ⟨x2, 0, none⟩)]
def pacerCells (x0 x1 x2 mb : Nat) : Array Value := #[paceFn x0 x1 x2, .int .i64 60000000000, .int .i32 0, .int .u32 0, .map (some mb)]

/-- The Pacer's block, its three boxes, its map. -/
structure IsPacer (w : World) (pb x0 x1 x2 mb : Nat) (D R M : Int) (es : Array MapEntry) (clock : Nat) : Prop where
  p : w.heap[pb]? = some (.cells (pacerCells x0 x1 x2 mb) 79 (0, 0))
  d : w.heap[x0]? = some (.cells #[.int .i64 D] 22 (0, 0))
  r : w.heap[x1]? = some (.cells #[.int .i64 R] 3 (0, 0))
  m : w.heap[x2]? = some (.cells #[.int .i64 M] 22 (0, 0))
  h : w.heap[mb]? = some (.map es clock)

theorem IsPacer.below {w w' : World} {pb x0 x1 x2 mb : Nat} {D R M : Int} {es : Array MapEntry} {clock : Nat} (h : IsPacer w pb x0 x1 x2 mb D R M es clock) (hb : Below w.heap.size w w') : IsPacer w' pb x0 x1 x2 mb D R M es clock :=
  ⟨heap_below hb h.p, heap_below hb h.d, heap_below hb h.r, heap_below hb h.m, heap_below hb h.h⟩

theorem heap_other {w : World} {a : Addr} {k : Nat} {x : Obj} (v : Value) (h : w.heap[k]? = some x) (hne : k ≠ a.block) : (w.setCell a v).heap[k]? = some x := (Below.heap_setCell _ _ _ _ hne).trans h

section
variable {w : World} {pb x0 x1 x2 mb clock : Nat} {D R M : Int} {es : Array MapEntry}

theorem IsPacer.ne (h : IsPacer w pb x0 x1 x2 mb D R M es clock) : mb ≠ pb ∧ x0 ≠ pb ∧ x1 ≠ pb ∧ x2 ≠ pb := by
  have hp := h.p
  refine ⟨fun e => ?_, fun e => ?_, fun e => ?_, fun e => ?_⟩
  · have := h.h; rw [e, hp] at this; cases this
  · have := h.d; rw [e, hp] at this; simp [pacerCells] at this
  · have := h.r; rw [e, hp] at this; simp [pacerCells] at this
  · have := h.m; rw [e, hp] at this; simp [pacerCells] at this

set_option maxRecDepth 100000 in
set_option maxHeartbeats 1000000 in
/-- host, where the name is among the map's keys. -/
theorem host_old {name : ByteArray} {i hb : Nat} (hp : IsPacer w pb x0 x1 x2 mb D R M es clock) (hf : hit es name = some (some (i, .pointer (some ⟨hb, 0, none⟩)))) :
    Calls Try.prog 26 #[.pointer (some ⟨pb, 0, none⟩), .string name] w fun e w' => e = .returned (.pointer (some ⟨hb, 0, none⟩)) ∧ Below w.heap.size w w' := by
  have H := muLib
  have lt := lt_row hp.p
  have h2 : w.cell? ⟨pb, 2, none⟩ = some (.int .i32 0) := (cell_of_row w pb 2 _ _ _ hp.p).trans rfl
  have h4 : w.cell? ⟨pb, 4, none⟩ = some (.map (some mb)) := (cell_of_row w pb 4 _ _ _ hp.p).trans rfl
  have f2 : w.frozen? ⟨pb, 2, none⟩ = false := frozen_row hp.p
  have k4 := (World.cell?_setCell_other w ⟨pb, 2, none⟩ ⟨pb, 4, none⟩ (.int .i32 1) (by simp)).trans h4
  have hl := run_look_hit (heap_other (a := ⟨pb, 2, none⟩) (.int .i32 1) hp.h hp.ne.1) hf
  have HP : Hid (IsPacer w pb x0 x1 x2 mb D R M es clock) := hp
  clear hp hf
  go_enter_defers Try.func26, Try.ntmps26
  go_wp2_with (go_at_call 28; refine (lock_free H ⟨pb, 2, none⟩ _ h2 f2).mono ?_; rintro e w' ⟨rfl, rfl⟩)
  refine leaves_cons (f := 29) (args := #[.pointer (some ⟨pb, 2, none⟩)]) (by simp) (by simp [go_sem]) ?_
  refine (unlock_deferred H ⟨pb, 2, none⟩ .returning _ ?_ ?_).mono ?_
  · exact World.cell?_setCell_same w ⟨pb, 2, none⟩ (.int .i32 1) h2
  · simp [f2]
  rintro e u' w'' ⟨rfl, rfl, rfl⟩
  exact ⟨_, results_tmp rfl _ _ _, rfl, relock HP.out.p rfl (Below.refl _ _)⟩
end

set_option maxRecDepth 100000 in
set_option maxHeartbeats 1000000 in
/-- The closure: the pace that was fixed. -/
theorem pace_any {w : World} {x0 x1 x2 : Nat} {D R M : Int} (name : ByteArray) (h0 : w.cell? ⟨x0, 0, none⟩ = some (.int .i64 D)) (h1 : w.cell? ⟨x1, 0, none⟩ = some (.int .i64 R)) (h2 : w.cell? ⟨x2, 0, none⟩ = some (.int .i64 M)) :
    Calls Try.prog 25 #[.string name, .pointer (some ⟨x0, 0, none⟩), .pointer (some ⟨x1, 0, none⟩), .pointer (some ⟨x2, 0, none⟩)] w fun e w' => e = .returned (.agg #[.int .i64 D, .int .i64 R, .int .i64 M]) ∧ w.alloc (.cells #[.int .i64 D, .int .i64 R, .int .i64 M] 50) = w' := by
  have k0 := fun o => cell_new o h0
  have k1 := fun o => cell_new o h1
  have k2 := fun o => cell_new o h2
  go_enter Try.func25, Try.ntmps25
  go_wp2
  refine bodyPost_ret (v := .agg #[.int .i64 D, .int .i64 R, .int .i64 M]) ?_ rfl ⟨rfl, rfl⟩
  simp [results, Try.results25, go_sem]

set_option maxRecDepth 100000 in
set_option maxHeartbeats 1000000 in
theorem new_any (D R M : Int) (w : World) :
    Calls Try.prog 8 #[.int .i64 D, .int .i64 R, .int .i64 M] w fun e w' => ∃ pb x0 x1 x2 mb, e = .returned (.pointer (some ⟨pb, 0, none⟩)) ∧ IsPacer w' pb x0 x1 x2 mb D R M #[] 0 ∧ w.heap.size ≤ pb ∧ w.heap.size ≤ mb ∧ Below w.heap.size w w' := by
  have hmm := @run_makeMap Try.prog
  go_enter Try.func8, Try.ntmps8
  go_wp2
  go_ret
  have n0 := heap_alloc_new w (.cells #[.int .i64 D] 22)
  have n1 : ((w.alloc (.cells #[.int .i64 D] 22)).alloc (.cells #[.int .i64 R] 3)).heap[w.heap.size + 1]? = some (.cells #[.int .i64 R] 3 (0, 0)) := by simpa using heap_alloc_new (w.alloc (.cells #[.int .i64 D] 22)) (.cells #[.int .i64 R] 3)
  have n2 : (((w.alloc (.cells #[.int .i64 D] 22)).alloc (.cells #[.int .i64 R] 3)).alloc (.cells #[.int .i64 M] 22)).heap[w.heap.size + 1 + 1]? = some (.cells #[.int .i64 M] 22 (0, 0)) := by simpa using heap_alloc_new ((w.alloc (.cells #[.int .i64 D] 22)).alloc (.cells #[.int .i64 R] 3)) (.cells #[.int .i64 M] 22)
  have n3 : ((((w.alloc (.cells #[.int .i64 D] 22)).alloc (.cells #[.int .i64 R] 3)).alloc (.cells #[.int .i64 M] 22)).alloc (.map #[] 0)).heap[w.heap.size + 1 + 1 + 1]? = some (.map #[] 0) := by simpa using heap_alloc_new (((w.alloc (.cells #[.int .i64 D] 22)).alloc (.cells #[.int .i64 R] 3)).alloc (.cells #[.int .i64 M] 22)) (.map #[] 0)
  have n4 := heap_alloc_new ((((w.alloc (.cells #[.int .i64 D] 22)).alloc (.cells #[.int .i64 R] 3)).alloc (.cells #[.int .i64 M] 22)).alloc (.map #[] 0)) (.cells (pacerCells w.heap.size (w.heap.size + 1) (w.heap.size + 1 + 1) (w.heap.size + 1 + 1 + 1)) 79)
  simp only [World.size_alloc] at n4
  refine ⟨w.heap.size + 1 + 1 + 1 + 1, w.heap.size, w.heap.size + 1, w.heap.size + 1 + 1, w.heap.size + 1 + 1 + 1, rfl, ⟨n4, heap_new _ (heap_new _ (heap_new _ (heap_new _ n0))), heap_new _ (heap_new _ (heap_new _ n1)), heap_new _ (heap_new _ n2), heap_new _ n3⟩, by omega, by omega, ?_⟩
  repeat (first | exact Below.refl _ _ | refine Below.drew ?_ | refine Below.alloc ?_ (by simp <;> omega) _)
end Go.Proofs.Qxb6616919a
