/-
  The walk of FnHostLearnedIsCappedKeptAfterSetLearned (4).
-/
import Derived.Test.Qxb6616919aAdd
import Derived.Test.Qxb6616919aTaught
namespace Go.Proofs.Qxb6616919a
open Go.RowKit

/-- The law's size check, its last argument an int64. -/
theorem bytes14_fits (a : ByteArray) (a1 a2 a3 a4 a5 a6 a7 : Int) (w : World) (h : a.size ≤ 1048576) : Calls Try.prog 14 #[.string a, .int .i64 a1, .int .i64 a2, .int .i64 a3, .int .i64 a4, .int .i64 a5, .int .i64 a6, .int .i64 a7] w fun e w' => e = .returned (.bool true) ∧ w = w' := by
  go_enter Try.func14, Try.ntmps14
  go_wp2
  go_ret
  exact ⟨rfl, rfl⟩
theorem bytes14_long (a : ByteArray) (a1 a2 a3 a4 a5 a6 a7 : Int) (w : World) (h : 1048576 < a.size) (hm : a.size ≤ maxLen) : Calls Try.prog 14 #[.string a, .int .i64 a1, .int .i64 a2, .int .i64 a3, .int .i64 a4, .int .i64 a5, .int .i64 a6, .int .i64 a7] w fun e w' => e = .returned (.bool false) ∧ w = w' := by
  unfold maxLen at hm
  go_enter Try.func14, Try.ntmps14
  go_wp2
  go_ret
  exact ⟨rfl, rfl⟩

/-- A time in its block. -/
def isTime (w : World) (b : Nat) (wl ex : Int) : Prop := w.heap[b]? = some (.cells #[.int .u64 wl, .int .i64 ex, .pointer none] 31 (0, 0))
/-- What a host was taught, in its block. -/
def isTaught (w : World) (b : Nat) (kd kf wl ex : Int) : Prop := w.heap[b]? = some (.cells #[.int .i64 kd, .int .i64 kf, .int .u64 wl, .int .i64 ex, .pointer none] 33 (0, 0))

section
variable {w w' w0 : World} {b pb hb : Nat} {name : ByteArray} {D R M c kd kf wl ex dl : Int}
theorem isTime.made (w : World) (wl ex : Int) : isTime (w.alloc (.cells #[.int .u64 wl, .int .i64 ex, .pointer none] 31)) w.heap.size wl ex := heap_alloc_new w _
theorem isTime.new (h : isTime w b wl ex) (o : Obj) : isTime (w.alloc o) b wl ex := heap_new o h
theorem isTime.below (h : isTime w b wl ex) (k : Below w.heap.size w w') : isTime w' b wl ex := heap_below k h
theorem isTime.but (h : isTime w b wl ex) (ne : b ≠ hb) (k : ∀ k, k < w.heap.size → k ≠ hb → w'.heap[k]? = w.heap[k]?) : isTime w' b wl ex := (k b (lt_row h) ne).trans h
theorem isTime.c0 (h : isTime w b wl ex) : w.cell? ⟨b, 0, none⟩ = some (.int .u64 wl) := (cell_of_row w b 0 _ _ _ h).trans rfl
theorem isTime.c1 (h : isTime w b wl ex) : w.cell? ⟨b, 1, none⟩ = some (.int .i64 ex) := (cell_of_row w b 1 _ _ _ h).trans rfl
theorem isTime.c2 (h : isTime w b wl ex) : w.cell? ⟨b, 2, none⟩ = some (.pointer none) := (cell_of_row w b 2 _ _ _ h).trans rfl
theorem isTaught.made (w : World) (kd kf wl ex : Int) : isTaught (w.alloc (.cells #[.int .i64 kd, .int .i64 kf, .int .u64 wl, .int .i64 ex, .pointer none] 33)) w.heap.size kd kf wl ex := heap_alloc_new w _
theorem isTaught.new (h : isTaught w b kd kf wl ex) (o : Obj) : isTaught (w.alloc o) b kd kf wl ex := heap_new o h
theorem isTaught.below (h : isTaught w b kd kf wl ex) (k : Below w.heap.size w w') : isTaught w' b kd kf wl ex := heap_below k h
theorem isTaught.c0 (h : isTaught w b kd kf wl ex) : w.cell? ⟨b, 0, none⟩ = some (.int .i64 kd) := (cell_of_row w b 0 _ _ _ h).trans rfl
theorem isTaught.c2 (h : isTaught w b kd kf wl ex) : w.cell? ⟨b, 2, none⟩ = some (.int .u64 wl) := (cell_of_row w b 2 _ _ _ h).trans rfl
theorem isTaught.c3 (h : isTaught w b kd kf wl ex) : w.cell? ⟨b, 3, none⟩ = some (.int .i64 ex) := (cell_of_row w b 3 _ _ _ h).trans rfl
theorem isTaught.c4 (h : isTaught w b kd kf wl ex) : w.cell? ⟨b, 4, none⟩ = some (.pointer none) := (cell_of_row w b 4 _ _ _ h).trans rfl

theorem One.lt (h : One w0 w pb hb name D R M c kd kf wl ex dl) : hb < w.heap.size := by
  obtain ⟨⟨x0, x1, x2, mb, ch, clock, i, es, hp, hf, hh⟩, bel, lb⟩ := h
  exact lt_row hh
theorem One.new (h : One w0 w pb hb name D R M c kd kf wl ex dl) (o : Obj) : One w0 (w.alloc o) pb hb name D R M c kd kf wl ex dl := h.below ((Below.refl _ _).alloc (Nat.le_refl _) _)

theorem one_crawl_kept (h : One w0 w pb hb name D R M c kd kf wl ex dl) (c' : Int) :
    Calls Try.prog 9 #[.pointer (some ⟨pb, 0, none⟩), .string name, .int .i64 c'] w fun e w' => e = .returned (.tuple #[]) ∧ One w0 w' pb hb name D R M c' kd kf wl ex dl ∧ ∀ k, k < w.heap.size → k ≠ hb → w'.heap[k]? = w.heap[k]? := by
  obtain ⟨⟨x0, x1, x2, mb, ch, clock, i, es, hp, hf, hh⟩, bel, lb⟩ := h
  refine (crawl_of c' (old_call hp hf hh)).mono ?_
  rintro e w' ⟨rfl, w1, h1, c1, ⟨rfl, rfl, b⟩, hh', bu⟩
  have hp1 := hp.below b
  have b1 : Below w0.heap.size w0 w1 := bel.trans (b.mono bel.size)
  exact ⟨rfl, ⟨⟨x0, x1, x2, mb, _, clock, i, es, hp1.kept (hp1.ne_host (heap_below b hh)) bu.block, hf, hh'⟩, b1.trans (bu.below lb b1.size), lb⟩, fun k h1 h2 => (bu.block k (Nat.lt_of_lt_of_le h1 b.size) h2).trans (b.block k h1)⟩
end

section
variable (name : ByteArray) (D R M cd ld lf n : Int) (w : World)

set_option maxRecDepth 100000 in
theorem law4_long (h : 1048576 < name.size) (hm : name.size ≤ maxLen) :
    Calls Try.prog 4 #[.string name, .int .i64 D, .int .i64 R, .int .i64 M, .int .i64 cd, .int .i64 ld, .int .i64 lf, .int .i64 n] w fun e w' => e = .returned (.bool true) ∧ w = w' := by
  have q := fun w => bytes14_long name D R M cd ld lf n w h hm
  go_enter Try.func4, Try.ntmps4
  go_wp2_with (go_at_call 14; refine (q _).mono ?_; rintro e w' ⟨rfl, rfl⟩)
  go_ret
  exact ⟨rfl, rfl⟩

set_option maxRecDepth 100000 in
set_option maxHeartbeats 4000000 in
theorem law4_main (h : name.size ≤ 1048576) (h0 : -9223372036854775808 ≤ n) (h1 : n ≤ 9223372036854775807) :
    Calls Try.prog 4 #[.string name, .int .i64 D, .int .i64 R, .int .i64 M, .int .i64 cd, .int .i64 ld, .int .i64 lf, .int .i64 n] w fun e w' => e = .returned (.bool true) ∧ Below w.heap.size w w' := by
  have q := fun w => bytes14_fits name D R M cd ld lf n w h
  have at' := fun w => at_any n w h0 h1
  have eq' := fun w => equal_any w (n % 1000000000) (n / 1000000000) (by omega) (by omega)
  clear h0 h1
  go_enter Try.func4, Try.ntmps4
  go_wp2_with (first
    | (go_at_call 14; refine (q _).mono ?_; rintro e w' ⟨rfl, rfl⟩)
    | (go_at_call 8; refine (make_any D R M _).mono ?_; rintro e w1 ⟨pb, x0, x1, x2, mb, rfl, hp, lp, lm, bm⟩)
    | (go_at_call 15; refine (first_host hp lm bm name).mono ?_; rintro e w2 ⟨hb, rfl, o⟩; clear hp lp lm bm)
    | (go_at_call 16; refine (one_zzlearned (o : One w _ pb hb name D R M 0 0 0 0 0 0)).mono ?_; rintro e w6 ⟨rfl, o, bl⟩; clear bl)
    | (go_at_call 9; refine (one_crawl_kept (o.new _) cd).mono ?_; rintro e w7 ⟨rfl, o7, k7⟩; have hA : isTime w7 w6.heap.size 0 0 := (isTime.made w6 0 0).but (Nat.ne_of_gt o.lt) k7; have ne := Nat.ne_of_gt o.lt; clear k7; replace o := o7; clear o7)
    | (go_at_call 17; refine (at' w7).mono ?_; rintro e w8 ⟨rfl, b8⟩; replace o := o.below b8; replace hA := hA.below b8; clear b8)
    | (go_at_call 10; refine (one_teach o ld lf (n % 1000000000) (n / 1000000000)).mono ?_; rintro e w9 ⟨rfl, o9, k9⟩; replace o := o9; replace hA := hA.but ne k9; clear o9 k9)
    | (go_at_call 16; refine (one_zzlearned o).mono ?_; rintro e w10 ⟨rfl, o10, b10⟩; replace o := o10; replace hA := hA.below b10; clear o10 b10)
    | (go_at_call 18; refine (one_plearned (o.new _)).mono ?_; rintro e w11 ⟨rfl, o11, b11⟩; replace o := o11; replace hA := (hA.new _).below b11; have hB := (isTime.made w10 (n % 1000000000) (n / 1000000000)).below b11; clear o11 b11)
    | (go_at_call 13; refine (min_any _ _ _).mono ?_; rintro e w' ⟨rfl, rfl⟩)
    | (go_at_call 17; refine (at' _).mono ?_; rintro e w12 ⟨rfl, b12⟩; replace o := (o.new _).below b12; replace hA := (hA.new _).below b12; replace hB := (hB.new _).below b12; have hC := (isTaught.made w11 (mn ld M) (mn lf (mn ld M)) (n % 1000000000) (n / 1000000000)).below b12; clear b12; have a0 := fun o => (hA.new o).c0; have a1 := fun o => (hA.new o).c1; have a2 := fun o => (hA.new o).c2)
    | (go_at_call 19; refine (isZero_any _).mono ?_; rintro e w13 ⟨rfl, b13⟩; replace o := (o.new _).below b13; clear a0 a1 a2 hA; replace hB := (hB.new _).below b13; replace hC := (hC.new _).below b13; have hE := (isTime.made w12 (n % 1000000000) (n / 1000000000)).below b13; clear b13; have e0 := hE.c0; have e1 := hE.c1; have e2 := hE.c2; have b0 := hB.c0; have b1 := hB.c1; have b2 := hB.c2)
    | (go_at_call 20; refine (eq' _).mono ?_; rintro e w14 ⟨rfl, b14⟩; replace o := o.below b14; (try clear e0 e1 e2 b0 b1 b2 hE); replace hB := hB.below b14; replace hC := hC.below b14; clear b14; have b0 := hB.c0; have b1 := hB.c1; have b2 := hB.c2; have c0 := hC.c0; have c2 := hC.c2; have c3 := hC.c3; have c4 := hC.c4))
  go_ret
  exact ⟨rfl, o.bel⟩
end
end Go.Proofs.Qxb6616919a
