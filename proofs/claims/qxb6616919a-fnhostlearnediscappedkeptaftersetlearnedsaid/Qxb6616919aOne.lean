/-
  A Pacer and one of its hosts, through a law's calls.
-/
import Derived.Test.Qxb6616919aSet
namespace Go.Proofs.Qxb6616919a
open Go.RowKit Go.MuLone

section
variable {w w' w0 : World} {pb x0 x1 x2 mb hb ch clock i : Nat} {D R M c kd kf wl ex dl : Int} {es : Array MapEntry} {name : ByteArray}

theorem IsPacer.ne_host (h : IsPacer w pb x0 x1 x2 mb D R M es clock) (hh : isHost w hb ch D R M c kd kf wl ex dl) : pb ≠ hb ∧ x0 ≠ hb ∧ x1 ≠ hb ∧ x2 ≠ hb ∧ mb ≠ hb := by
  unfold isHost at hh
  refine ⟨fun e => ?_, fun e => ?_, fun e => ?_, fun e => ?_, fun e => ?_⟩
  · have := h.p; rw [e, hh] at this; simp at this
  · have := h.d; rw [e, hh] at this; simp at this
  · have := h.r; rw [e, hh] at this; simp at this
  · have := h.m; rw [e, hh] at this; simp at this
  · have := h.h; rw [e, hh] at this; simp at this

/-- The Pacer's blocks, where all blocks but one that is none of them are as they were. -/
theorem IsPacer.kept (h : IsPacer w pb x0 x1 x2 mb D R M es clock) (hne : pb ≠ hb ∧ x0 ≠ hb ∧ x1 ≠ hb ∧ x2 ≠ hb ∧ mb ≠ hb) (hk : ∀ k, k < w.heap.size → k ≠ hb → w'.heap[k]? = w.heap[k]?) : IsPacer w' pb x0 x1 x2 mb D R M es clock :=
  ⟨(hk _ (lt_row h.p) hne.1).trans h.p, (hk _ (lt_row h.d) hne.2.1).trans h.d, (hk _ (lt_row h.r) hne.2.2.1).trans h.r, (hk _ (lt_row h.m) hne.2.2.2.1).trans h.m, (hk _ (lt_row h.h) hne.2.2.2.2).trans h.h⟩

theorem old_call (hp : IsPacer w pb x0 x1 x2 mb D R M es clock) (hf : hit es name = some (some (i, .pointer (some ⟨hb, 0, none⟩)))) (hh : isHost w hb ch D R M c kd kf wl ex dl) :
    HostCall w (.pointer (some ⟨pb, 0, none⟩)) name D R M c kd kf wl ex dl (fun w1 h1 c1 => h1 = hb ∧ c1 = ch ∧ Below w.heap.size w w1) := by
  refine (host_old hp hf).mono ?_
  rintro e w1 ⟨rfl, b⟩
  exact ⟨hb, ch, rfl, heap_below b hh, rfl, rfl, b⟩

theorem new_call (hp : IsPacer w pb x0 x1 x2 mb D R M es clock) (hf : hit es name = some none) :
    HostCall w (.pointer (some ⟨pb, 0, none⟩)) name D R M 0 0 0 0 0 0 (fun w1 h1 _ => w.heap.size ≤ h1 ∧ IsPacer w1 pb x0 x1 x2 mb D R M (es.push { key := .string name, val := .pointer (some ⟨h1, 0, none⟩), born := clock }) (clock + 1) ∧ But mb w w1) := by
  refine (host_new hp hf).mono ?_
  rintro e w1 ⟨h1, c1, rfl, l, hh, hp1, b⟩
  exact ⟨h1, c1, rfl, hh, l, hp1, b⟩
end

/-- A Pacer with a host of that name, laid since w0. -/
structure One (w0 w : World) (pb hb : Nat) (name : ByteArray) (D R M c kd kf wl ex dl : Int) : Prop where
  all : ∃ x0 x1 x2 mb ch clock i es, IsPacer w pb x0 x1 x2 mb D R M es clock ∧ hit es name = some (some (i, .pointer (some ⟨hb, 0, none⟩))) ∧ isHost w hb ch D R M c kd kf wl ex dl
  bel : Below w0.heap.size w0 w
  lb : w0.heap.size ≤ hb

section
variable {w w' w0 : World} {pb hb : Nat} {D R M c kd kf wl ex dl : Int} {name : ByteArray}

theorem One.below (h : One w0 w pb hb name D R M c kd kf wl ex dl) (b : Below w.heap.size w w') : One w0 w' pb hb name D R M c kd kf wl ex dl := by
  obtain ⟨⟨x0, x1, x2, mb, ch, clock, i, es, hp, hf, hh⟩, bel, lb⟩ := h
  exact ⟨⟨x0, x1, x2, mb, ch, clock, i, es, hp.below b, hf, heap_below b hh⟩, bel.trans (b.mono bel.size), lb⟩

theorem hit_push_self (es : Array MapEntry) (s : ByteArray) (v : Value) (n : Nat) (h : hit es s = some none) : hit (es.push { key := .string s, val := v, born := n }) s = some (some (es.size, v)) := by
  unfold hit at h ⊢
  rw [Array.toList_push]
  have key : ∀ (l : List MapEntry) (j : Nat), Instr.findNow .string (.string s) l j = some none → Instr.findNow .string (.string s) (l ++ [{ key := .string s, val := v, born := n }]) j = some (some (j + l.length, v)) := by
    intro l
    induction l with
    | nil =>
      intro j _
      have hs : (s == s) = true := (MapKept.bytes_beq s s).2 rfl
      simp [Instr.findNow, Instr.sameNow, hs]
    | cons e l ih =>
      intro j hj
      simp only [Instr.findNow, List.cons_append] at hj ⊢
      split at hj
      · cases hj
      · rename_i heq
        rw [ih (j + 1) hj]
        simp only [List.length_cons]
        rw [show j + 1 + l.length = j + (l.length + 1) by omega]
      · cases hj
  have := key es.toList 0 h
  simpa using this

/-- The Pacer made. -/
theorem make_any (D R M : Int) (w : World) :
    Calls Try.prog 8 #[.int .i64 D, .int .i64 R, .int .i64 M] w fun e w' => ∃ pb x0 x1 x2 mb, e = .returned (.pointer (some ⟨pb, 0, none⟩)) ∧ IsPacer w' pb x0 x1 x2 mb D R M #[] 0 ∧ w.heap.size ≤ pb ∧ w.heap.size ≤ mb ∧ Below w.heap.size w w' := new_any D R M w

theorem hit_empty (s : ByteArray) : hit #[] s = some none := rfl

/-- Its first host made. -/
theorem first_host {x0 x1 x2 mb : Nat} (hp : IsPacer w pb x0 x1 x2 mb D R M #[] 0) (lm : w0.heap.size ≤ mb) (b : Below w0.heap.size w0 w) (name : ByteArray) :
    Calls Try.prog 15 #[.pointer (some ⟨pb, 0, none⟩), .string name] w fun e w' => ∃ hb, e = .returned (.pointer (some ⟨hb, 0, none⟩)) ∧ One w0 w' pb hb name D R M 0 0 0 0 0 0 := by
  refine (zzhost_of (new_call hp (hit_empty name))).mono ?_
  rintro e w1 ⟨hb, ch, rfl, hh, l, hp1, bu⟩
  refine ⟨hb, rfl, ⟨x0, x1, x2, mb, ch, _, _, _, hp1, hit_push_self _ _ _ _ (hit_empty name), hh⟩, b.trans (bu.below lm b.size), Nat.le_trans b.size l⟩

theorem one_crawl (h : One w0 w pb hb name D R M c kd kf wl ex dl) (c' : Int) :
    Calls Try.prog 9 #[.pointer (some ⟨pb, 0, none⟩), .string name, .int .i64 c'] w fun e w' => e = .returned (.tuple #[]) ∧ One w0 w' pb hb name D R M c' kd kf wl ex dl := by
  obtain ⟨⟨x0, x1, x2, mb, ch, clock, i, es, hp, hf, hh⟩, bel, lb⟩ := h
  refine (crawl_of c' (old_call hp hf hh)).mono ?_
  rintro e w' ⟨rfl, w1, h1, c1, ⟨rfl, rfl, b⟩, hh', bu⟩
  have hp1 := hp.below b
  have b1 : Below w0.heap.size w0 w1 := bel.trans (b.mono bel.size)
  exact ⟨rfl, ⟨x0, x1, x2, mb, _, clock, i, es, hp1.kept (hp1.ne_host (heap_below b hh)) bu.block, hf, hh'⟩, b1.trans (bu.below lb b1.size), lb⟩

theorem one_space (h : One w0 w pb hb name D R M c kd kf wl ex dl) :
    Calls Try.prog 11 #[.pointer (some ⟨pb, 0, none⟩), .string name] w fun e w' => e = .returned (.int .i64 (mx D c dl)) ∧ One w0 w' pb hb name D R M c kd kf wl ex dl := by
  have h0 := h
  obtain ⟨⟨x0, x1, x2, mb, ch, clock, i, es, hp, hf, hh⟩, bel, lb⟩ := h
  refine (space_of (old_call hp hf hh)).mono ?_
  rintro e w' ⟨rfl, w1, h1, c1, ⟨rfl, rfl, b⟩, _, b'⟩
  exact ⟨rfl, (h0.below b).below b'⟩

theorem one_zzspace (h : One w0 w pb hb name D R M c kd kf wl ex dl) :
    Calls Try.prog 22 #[.pointer (some ⟨hb, 0, none⟩)] w fun e w' => e = .returned (.int .i64 (mx D c dl)) ∧ One w0 w' pb hb name D R M c kd kf wl ex dl := by
  have h0 := h
  obtain ⟨⟨x0, x1, x2, mb, ch, clock, i, es, hp, hf, hh⟩, bel, lb⟩ := h
  refine (zzspacing_any hh).mono ?_
  rintro e w' ⟨rfl, b⟩
  exact ⟨rfl, h0.below b⟩

theorem one_zzlearned (h : One w0 w pb hb name D R M c kd kf wl ex dl) :
    Calls Try.prog 16 #[.pointer (some ⟨hb, 0, none⟩)] w fun e w' => e = .returned (.tuple #[.int .i64 dl, .agg #[.int .u64 wl, .int .i64 ex, .pointer none]]) ∧ One w0 w' pb hb name D R M c kd kf wl ex dl ∧ Below w.heap.size w w' := by
  have h0 := h
  obtain ⟨⟨x0, x1, x2, mb, ch, clock, i, es, hp, hf, hh⟩, bel, lb⟩ := h
  refine (zzlearned_any hh).mono ?_
  rintro e w' ⟨rfl, b⟩
  exact ⟨rfl, h0.below b, b⟩

theorem one_teach (h : One w0 w pb hb name D R M c kd kf wl ex dl) (ld lf wl' ex' : Int) :
    Calls Try.prog 10 #[.pointer (some ⟨pb, 0, none⟩), .string name, .agg #[.int .i64 ld, .int .i64 lf, .int .u64 wl', .int .i64 ex', .pointer none]] w fun e w' => e = .returned (.tuple #[]) ∧ One w0 w' pb hb name D R M c (mn ld M) (mn lf (mn ld M)) wl' ex' (mn ld M) ∧ ∀ k, k < w.heap.size → k ≠ hb → w'.heap[k]? = w.heap[k]? := by
  obtain ⟨⟨x0, x1, x2, mb, ch, clock, i, es, hp, hf, hh⟩, bel, lb⟩ := h
  have b0 : Below w.heap.size w (w.alloc (.cells #[.int .i64 ld, .int .i64 lf, .int .u64 wl', .int .i64 ex', .pointer none] 33)) := (Below.refl _ w).alloc (Nat.le_refl _) _
  refine (teach_of ld lf wl' ex' (old_call (hp.below b0) hf (heap_below b0 hh)) ?_).mono ?_
  · rintro w1 h1 c1 ⟨_, _, b⟩
    exact heap_below b (heap_alloc_new w _)
  · rintro e w' ⟨rfl, w1, h1, c1, ⟨rfl, rfl, b⟩, hh', hs, ho, hk⟩
    have b1 : Below w.heap.size w w1 := b0.trans (b.mono (by simp))
    have hp1 := hp.below b1
    have hl := lt_row hh
    have hk' : ∀ k, k < w.heap.size → k ≠ h1 → w'.heap[k]? = w.heap[k]? := fun k h2 h3 => (hk k (Nat.lt_of_lt_of_le h2 b1.size) h3 (by omega)).trans (b1.block k h2)
    refine ⟨rfl, ⟨⟨x0, x1, x2, mb, _, clock, i, es, hp.kept (hp.ne_host hh) hk', hf, hh'⟩, ?_, lb⟩, hk'⟩
    have s1 := b1.size
    have s2 := bel.size
    refine ⟨ho.1.trans (b1.os.trans bel.os), ho.2.1.trans (b1.tape.trans bel.tape), ho.2.2.trans (b1.output.trans bel.output), by omega, fun k hkk => (hk' k (by omega) (by omega)).trans (bel.block k hkk)⟩
end
end Go.Proofs.Qxb6616919a
