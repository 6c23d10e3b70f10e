/-
  A Pacer and two of its hosts.
-/
import Derived.Test.Qxb6616919aBytes
import Derived.Below
namespace Go.Proofs.Qxb6616919a
open Go.RowKit Go.MuLone

/-- The one entry is another name's. -/
theorem hit_other (s t : ByteArray) (v : Value) (n : Nat) (ne : s ≠ t) : hit ((#[] : Array MapEntry).push { key := .string s, val := v, born := n }) t = some none := by
  have h2 : (t == s) = false := Bool.eq_false_iff.2 fun h => ne ((MapKept.bytes_beq t s).1 h).symm
  simp [hit, Instr.findNow, Instr.sameNow, h2]

theorem hit_push_old (es : Array MapEntry) (s : ByteArray) (e : MapEntry) (p : Nat × Value) (h : hit es s = some (some p)) : hit (es.push e) s = some (some p) := by
  unfold hit at h ⊢
  rw [Array.toList_push]
  have key : ∀ (l : List MapEntry) (j : Nat), Instr.findNow .string (.string s) l j = some (some p) → Instr.findNow .string (.string s) (l ++ [e]) j = some (some p) := by
    intro l
    induction l with
    | nil => intro j hj; cases hj
    | cons x l ih =>
      intro j hj
      simp only [Instr.findNow, List.cons_append] at hj ⊢
      split at hj
      · exact hj
      · exact ih (j + 1) hj
      · cases hj
  exact key es.toList 0 h

/-- A Pacer with a first host of that name and none else. -/
structure Lone (w0 w : World) (pb hb mb : Nat) (name : ByteArray) (D R M c : Int) : Prop where
  all : ∃ x0 x1 x2 ch clock, IsPacer w pb x0 x1 x2 mb D R M ((#[] : Array MapEntry).push { key := .string name, val := .pointer (some ⟨hb, 0, none⟩), born := 0 }) clock ∧ isHost w hb ch D R M c 0 0 0 0 0
  bel : Below w0.heap.size w0 w
  lb : w0.heap.size ≤ hb
  lm : w0.heap.size ≤ mb

/-- A Pacer with two hosts, one with a crawl-delay, one with a learned delay. -/
structure Two (w0 w : World) (pb ha hb : Nat) (a b : ByteArray) (D R M c d : Int) : Prop where
  all : ∃ x0 x1 x2 mb cha chb clock i j es, IsPacer w pb x0 x1 x2 mb D R M es clock ∧ hit es a = some (some (i, .pointer (some ⟨ha, 0, none⟩))) ∧ hit es b = some (some (j, .pointer (some ⟨hb, 0, none⟩))) ∧
    isHost w ha cha D R M c 0 0 0 0 0 ∧ isHost w hb chb D R M 0 d (mn 0 d) 0 0 d
  ne : hb ≠ ha
  bel : Below w0.heap.size w0 w
  la : w0.heap.size ≤ ha
  lb : w0.heap.size ≤ hb

section
variable {w w' w0 : World} {pb ha hb mb : Nat} {D R M c d : Int} {a b : ByteArray}

theorem Two.below (h : Two w0 w pb ha hb a b D R M c d) (be : Below w.heap.size w w') : Two w0 w' pb ha hb a b D R M c d := by
  obtain ⟨⟨x0, x1, x2, mb, cha, chb, clock, i, j, es, hp, hfa, hfb, hha, hhb⟩, ne, bel, la, lb⟩ := h
  exact ⟨⟨x0, x1, x2, mb, cha, chb, clock, i, j, es, hp.below be, hfa, hfb, heap_below be hha, heap_below be hhb⟩, ne, bel.trans (be.mono bel.size), la, lb⟩

theorem lone_crawl {x0 x1 x2 : Nat} (hp : IsPacer w pb x0 x1 x2 mb D R M #[] 0) (lm : w0.heap.size ≤ mb) (be : Below w0.heap.size w0 w) (a : ByteArray) (c : Int) :
    Calls Try.prog 9 #[.pointer (some ⟨pb, 0, none⟩), .string a, .int .i64 c] w fun e w' => e = .returned (.tuple #[]) ∧ ∃ ha, Lone w0 w' pb ha mb a D R M c := by
  refine (crawl_of c (new_call hp (hit_empty a))).mono ?_
  rintro e w' ⟨rfl, w1, h1, c1, ⟨l, hp1, bu1⟩, hh', bu⟩
  have s1 := be.size
  have s2 := bu1.size
  have n1 : mb ≠ h1 := fun e => by have := lt_row hp.h; omega
  have n2 : pb ≠ h1 := fun e => by have := lt_row hp.p; omega
  have n3 : x0 ≠ h1 := fun e => by have := lt_row hp.d; omega
  have n4 : x1 ≠ h1 := fun e => by have := lt_row hp.r; omega
  have n5 : x2 ≠ h1 := fun e => by have := lt_row hp.m; omega
  refine ⟨rfl, h1, ⟨x0, x1, x2, c1, _, hp1.kept ⟨n2, n3, n4, n5, n1⟩ bu.block, hh'⟩, ?_, by omega, lm⟩
  exact (be.trans (bu1.below lm s1)).trans (bu.below (by omega) (by omega))

theorem two_teach (h : Lone w0 w pb ha mb a D R M c) (ne : a ≠ b) (ld : Int) :
    Calls Try.prog 10 #[.pointer (some ⟨pb, 0, none⟩), .string b, .agg #[.int .i64 ld, .int .i64 0, .int .u64 0, .int .i64 0, .pointer none]] w fun e w' => e = .returned (.tuple #[]) ∧ ∃ hb, Two w0 w' pb ha hb a b D R M c (mn ld M) := by
  obtain ⟨⟨x0, x1, x2, ch, clock, hp, hh⟩, bel, la, lm⟩ := h
  have b0 : Below w.heap.size w (w.alloc (.cells #[.int .i64 ld, .int .i64 0, .int .u64 0, .int .i64 0, .pointer none] 33)) := (Below.refl _ w).alloc (Nat.le_refl _) _
  have k0 : (w.alloc (.cells #[.int .i64 ld, .int .i64 0, .int .u64 0, .int .i64 0, .pointer none] 33)).heap.size = w.heap.size + 1 := by simp
  have lh := lt_row hh
  have lmb := lt_row hp.h
  have nm := (hp.ne_host hh).2.2.2.2
  refine (teach_of ld 0 0 0 (new_call (hp.below b0) (hit_other a b _ _ ne)) ?_).mono ?_
  · rintro w1 h1 c1 ⟨_, _, bu⟩
    exact (bu.block _ (by omega) (by omega)).trans (heap_alloc_new w _)
  · rintro e w' ⟨rfl, w1, h1, c1, ⟨l, hp1, bu⟩, hh', hs, ho, hk⟩
    have s1 := bu.size
    have s0 := bel.size
    have kb : ∀ k, k < w.heap.size → k ≠ mb → w'.heap[k]? = w.heap[k]? := fun k q1 q2 => ((hk k (by omega) (by omega) (by omega)).trans (bu.block k (by omega) q2)).trans (b0.block k q1)
    have n1 : mb ≠ h1 := fun e => by omega
    have n2 : pb ≠ h1 := fun e => by have := lt_row hp.p; omega
    have n3 : x0 ≠ h1 := fun e => by have := lt_row hp.d; omega
    have n4 : x1 ≠ h1 := fun e => by have := lt_row hp.r; omega
    have n5 : x2 ≠ h1 := fun e => by have := lt_row hp.m; omega
    have u0 := lt_row hp.p
    have u1 := lt_row hp.d
    have u2 := lt_row hp.r
    have u3 := lt_row hp.m
    have hp2 : IsPacer w' pb x0 x1 x2 mb D R M _ _ :=
      ⟨(hk _ (by omega) n2 (by omega)).trans hp1.p, (hk _ (by omega) n3 (by omega)).trans hp1.d, (hk _ (by omega) n4 (by omega)).trans hp1.r, (hk _ (by omega) n5 (by omega)).trans hp1.m, (hk _ (by omega) n1 (by omega)).trans hp1.h⟩
    refine ⟨rfl, h1, ⟨x0, x1, x2, mb, ch, c1, _, _, _, _, hp2, hit_push_old _ _ _ _ (hit_push_self _ _ _ _ (hit_empty a)), hit_push_self _ _ _ _ (hit_other a b _ _ ne), (kb ha lh (fun e => nm e.symm)).trans hh, hh'⟩, by omega, ?_, la, by omega⟩
    exact ⟨ho.1.trans (bu.os.trans bel.os), ho.2.1.trans (bu.tape.trans bel.tape), ho.2.2.trans (bu.output.trans bel.output), by omega, fun k hkk => (kb k (by omega) (by omega)).trans (bel.block k hkk)⟩

theorem two_crawl (h : Two w0 w pb ha hb a b D R M c d) (c' : Int) :
    Calls Try.prog 9 #[.pointer (some ⟨pb, 0, none⟩), .string a, .int .i64 c'] w fun e w' => e = .returned (.tuple #[]) ∧ Two w0 w' pb ha hb a b D R M c' d := by
  obtain ⟨⟨x0, x1, x2, mb, cha, chb, clock, i, j, es, hp, hfa, hfb, hha, hhb⟩, ne, bel, la, lb⟩ := h
  refine (crawl_of c' (old_call hp hfa hha)).mono ?_
  rintro e w' ⟨rfl, w1, h1, c1, ⟨rfl, rfl, be⟩, hh', bu⟩
  have hp1 := hp.below be
  have b1 : Below w0.heap.size w0 w1 := bel.trans (be.mono bel.size)
  have hhb1 := heap_below be hhb
  exact ⟨rfl, ⟨x0, x1, x2, mb, _, chb, clock, i, j, es, hp1.kept (hp1.ne_host (heap_below be hha)) bu.block, hfa, hfb, hh', (bu.block hb (lt_row hhb1) ne).trans hhb1⟩, ne, b1.trans (bu.below la b1.size), la, lb⟩

theorem two_space_a (h : Two w0 w pb ha hb a b D R M c d) :
    Calls Try.prog 11 #[.pointer (some ⟨pb, 0, none⟩), .string a] w fun e w' => e = .returned (.int .i64 (mx D c 0)) ∧ Two w0 w' pb ha hb a b D R M c d := by
  have h0 := h
  obtain ⟨⟨x0, x1, x2, mb, cha, chb, clock, i, j, es, hp, hfa, hfb, hha, hhb⟩, ne, bel, la, lb⟩ := h
  refine (space_of (old_call hp hfa hha)).mono ?_
  rintro e w' ⟨rfl, w1, h1, c1, ⟨rfl, rfl, be⟩, _, b'⟩
  exact ⟨rfl, (h0.below be).below b'⟩

theorem two_space_b (h : Two w0 w pb ha hb a b D R M c d) :
    Calls Try.prog 11 #[.pointer (some ⟨pb, 0, none⟩), .string b] w fun e w' => e = .returned (.int .i64 (mx D 0 d)) ∧ Two w0 w' pb ha hb a b D R M c d := by
  have h0 := h
  obtain ⟨⟨x0, x1, x2, mb, cha, chb, clock, i, j, es, hp, hfa, hfb, hha, hhb⟩, ne, bel, la, lb⟩ := h
  refine (space_of (old_call hp hfb hhb)).mono ?_
  rintro e w' ⟨rfl, w1, h1, c1, ⟨rfl, rfl, be⟩, _, b'⟩
  exact ⟨rfl, (h0.below be).below b'⟩
end
end Go.Proofs.Qxb6616919a
