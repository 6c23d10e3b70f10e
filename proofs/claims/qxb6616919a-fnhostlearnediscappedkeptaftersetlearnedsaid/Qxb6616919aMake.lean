/-
  (*Pacer).host (26) where the host is made: a channel with a token, a block of sixteen cells, an entry of the map.
-/
import Derived.Test.Qxb6616919aPacer
import Derived.Deep.DeepCutAuto
namespace Go.Proofs.Qxb6616919a
open Go.RowKit Go.MuLone Go.Conc

theorem bytes53 : ∃ i, Try.prog.info? 53 = some i ∧ i.bytes = 0 := by
  have h : (Try.prog.info? 53).map (·.bytes) = some 0 := by kernel_rfl
  obtain ⟨i, hi, hb⟩ := Option.map_eq_some_iff.1 h
  exact ⟨i, hi, hb⟩
theorem mk1 (w : World) : (Instr.makeChan 52 (.int .i64 1)).run Try.prog w = .ok (.chan (some w.heap.size)) (w.alloc (.chan 1 #[] false 0 0 false)) := by
  obtain ⟨i, hi, hb⟩ := bytes53
  simpa using run_makeChan (P := Try.prog) (w := w) Try.underlying52 hi .i64 1 (by omega) (by rw [hb]; omega)

theorem cell_drew {w : World} {a : Addr} {v : Value} (h : w.cell? a = some v) : w.drew.cell? a = some v := h

/-- Three new blocks. -/
theorem three_new {W : World} {n : Nat} (A B C : Obj) (hn : W.heap.size = n) : (((W.alloc A).alloc B).alloc C).drew.heap[n]? = some A ∧ (((W.alloc A).alloc B).alloc C).drew.heap[n + 1]? = some B ∧ (((W.alloc A).alloc B).alloc C).drew.heap[n + 1 + 1]? = some C := by
  subst hn
  have hb := heap_alloc_new (W.alloc A) B
  have hc := heap_alloc_new ((W.alloc A).alloc B) C
  simp only [World.size_alloc] at hb hc
  exact ⟨heap_new _ (heap_new _ (heap_alloc_new W A)), heap_new _ hb, hc⟩
theorem three_below {W : World} {n : Nat} (A B C : Obj) (hn : W.heap.size = n) : Below n W (((W.alloc A).alloc B).alloc C).drew := by
  subst hn
  exact ((((Below.refl _ W).alloc (Nat.le_refl _) _).alloc (by simp) _).alloc (by simp; omega) _).drew

/-- w' is w with new blocks, and with writes to block m alone. -/
structure But (m : Nat) (w w' : World) : Prop where
  os : w'.os = w.os
  tape : w'.tape = w.tape
  output : w'.output = w.output
  size : w.heap.size ≤ w'.heap.size
  block : ∀ k, k < w.heap.size → k ≠ m → w'.heap[k]? = w.heap[k]?

theorem But.below {m B : Nat} {w w' : World} (h : But m w w') (h1 : B ≤ m) (h2 : B ≤ w.heap.size) : Below B w w' := ⟨h.os, h.tape, h.output, h.size, fun k hk => h.block k (by omega) (by omega)⟩

/-- A lock given back: its block is as it was ahead of the taking. -/
theorem relock_block {W : World} {b o : Nat} {cs : Array Value} {t : TypeId} (hc : cs[o]? = some (.int .i32 0)) (h : W.heap[b]? = some (.cells (cs.setIfInBounds o (.int .i32 1)) t (0, 0))) :
    (W.setCell ⟨b, o, none⟩ (.int .i32 0)).heap[b]? = some (.cells cs t (0, 0)) := by
  rw [heap_setCell_same W b o _ t (.int .i32 0) h]
  have : (cs.setIfInBounds o (.int .i32 1)).setIfInBounds o (.int .i32 0) = cs := by
    apply Array.ext_getElem?
    intro i
    simp only [Array.getElem?_setIfInBounds, Array.size_setIfInBounds]
    by_cases hi : o = i
    · subst hi
      have hlt : o < cs.size := (Array.getElem?_eq_some_iff.1 hc).1
      rw [if_pos rfl, if_pos hlt, hc]
    · rw [if_neg hi, if_neg hi]
  rw [this]

section
variable {w : World} {pb x0 x1 x2 mb clock : Nat} {D R M : Int} {es : Array MapEntry}

set_option maxRecDepth 100000 in
set_option maxHeartbeats 2000000 in
/-- host, where the name is not among the map's keys. -/
theorem host_new {name : ByteArray} (hp : IsPacer w pb x0 x1 x2 mb D R M es clock) (hf : hit es name = some none) :
    Calls Try.prog 26 #[.pointer (some ⟨pb, 0, none⟩), .string name] w fun e w' => ∃ hb ch, e = .returned (.pointer (some ⟨hb, 0, none⟩)) ∧ w.heap.size ≤ hb ∧ isHost w' hb ch D R M 0 0 0 0 0 0 ∧
      IsPacer w' pb x0 x1 x2 mb D R M (es.push { key := .string name, val := .pointer (some ⟨hb, 0, none⟩), born := clock }) (clock + 1) ∧ But mb w w' := by
  have H := muLib
  have lt := lt_row hp.p
  have h2 : w.cell? ⟨pb, 2, none⟩ = some (.int .i32 0) := (cell_of_row w pb 2 _ _ _ hp.p).trans rfl
  have h4 : w.cell? ⟨pb, 4, none⟩ = some (.map (some mb)) := (cell_of_row w pb 4 _ _ _ hp.p).trans rfl
  have h0 : w.cell? ⟨pb, 0, none⟩ = some (paceFn x0 x1 x2) := (cell_of_row w pb 0 _ _ _ hp.p).trans rfl
  have f2 : w.frozen? ⟨pb, 2, none⟩ = false := frozen_row hp.p
  have k4 := (World.cell?_setCell_other w ⟨pb, 2, none⟩ ⟨pb, 4, none⟩ (.int .i32 1) (by simp)).trans h4
  have k0 := (World.cell?_setCell_other w ⟨pb, 2, none⟩ ⟨pb, 0, none⟩ (.int .i32 1) (by simp)).trans h0
  have kd := (cell_of_row _ x0 0 _ _ _ (heap_other (a := ⟨pb, 2, none⟩) (.int .i32 1) hp.d hp.ne.2.1)).trans (show _ = some (Value.int .i64 D) from rfl)
  have kr := (cell_of_row _ x1 0 _ _ _ (heap_other (a := ⟨pb, 2, none⟩) (.int .i32 1) hp.r hp.ne.2.2.1)).trans (show _ = some (Value.int .i64 R) from rfl)
  have km := (cell_of_row _ x2 0 _ _ _ (heap_other (a := ⟨pb, 2, none⟩) (.int .i32 1) hp.m hp.ne.2.2.2)).trans (show _ = some (Value.int .i64 M) from rfl)
  unfold paceFn at k0
  have k01 := fun o1 => cell_new o1 k0
  have k02 := fun o1 o2 => cell_new o2 (k01 o1)
  have k03 := fun o1 o2 o3 => cell_new o3 (k02 o1 o2)
  have kd1 := fun o1 => cell_new o1 kd
  have kd2 := fun o1 o2 => cell_new o2 (kd1 o1)
  have kd3 := fun o1 o2 o3 => cell_new o3 (kd2 o1 o2)
  have kr1 := fun o1 => cell_new o1 kr
  have kr2 := fun o1 o2 => cell_new o2 (kr1 o1)
  have kr3 := fun o1 o2 o3 => cell_new o3 (kr2 o1 o2)
  have km1 := fun o1 => cell_new o1 km
  have km2 := fun o1 o2 => cell_new o2 (km1 o1)
  have km3 := fun o1 o2 o3 => cell_new o3 (km2 o1 o2)
  have hl := run_look_miss (heap_other (a := ⟨pb, 2, none⟩) (.int .i32 1) hp.h hp.ne.1) hf
  have hmk := mk1
  have HP : Hid (IsPacer w pb x0 x1 x2 mb D R M es clock) := hp
  have HF : Hid (hit es name = some none) := hf
  clear hp hf h0
  go_enter_defers Try.func26, Try.ntmps26
  go_upto_region 5 with (go_at_call 28; refine (lock_free H ⟨pb, 2, none⟩ _ h2 f2).mono ?_; rintro e w' ⟨rfl, rfl⟩)
  go_cut [5] from 25 to 33 (fun h wc => ∃ hb ch : Nat, h = .pointer (some ⟨hb, 0, none⟩) ∧ w.heap.size ≤ hb ∧ w.heap.size ≤ ch ∧ ch ≠ hb ∧ wc.heap[hb]? = some (.cells (hostCells ch D R M 0 0 0 0 0 0) 68 (0, 0)) ∧ wc.heap[ch]? = some (.chan 1 #[] false 0 0 false) ∧ Below w.heap.size (w.setCell ⟨pb, 2, none⟩ (.int .i32 1)) wc)
  case first =>
    go_region_held3 (fun w' => w'.cell? ⟨pb, 0, none⟩ = some (.func (.func 25) #[] #[.pointer (some ⟨x0, 0, none⟩), .pointer (some ⟨x1, 0, none⟩), .pointer (some ⟨x2, 0, none⟩)]) ∧ w'.cell? ⟨x0, 0, none⟩ = some (.int .i64 D) ∧ w'.cell? ⟨x1, 0, none⟩ = some (.int .i64 R) ∧ w'.cell? ⟨x2, 0, none⟩ = some (.int .i64 M))
      (go_keep)
      (first | (go_at_call 25; refine (pace_any (D := D) (R := R) (M := M) name ?_ ?_ ?_).mono ?_; (first | exact kd | exact cell_new _ kd); (first | exact kr | exact cell_new _ kr); (first | exact km | exact cell_new _ km); rintro e w' ⟨rfl, rfl⟩))
    · go_wp2_with fail
      go_meet
      exact ⟨w.heap.size + 1 + 1, w.heap.size, rfl, by omega, by omega, by omega, (three_new _ _ _ (size_setCell _ _ _)).2.2, (three_new _ _ _ (size_setCell _ _ _)).1, three_below _ _ _ (size_setCell _ _ _)⟩
    · go_wp2_with fail
      go_meet
      exact ⟨w.heap.size + 1 + 1, w.heap.size + 1, rfl, by omega, by omega, by omega, (three_new _ _ _ (size_setCell _ _ _)).2.2, (three_new _ _ _ (size_setCell _ _ _)).2.1, three_below _ _ _ (size_setCell _ _ _)⟩
  case rest =>
    obtain ⟨hb, ch, rfl, l1, l2, l3, e1, e2, bc⟩ := hcut
    go_upto_region 6 with fail
    have c0 : wc.cell? ⟨hb, 0, none⟩ = some (.chan (some ch)) := (cell_of_row wc hb 0 _ _ _ e1).trans rfl
    refine wp_of_ops ?_
    show OpsWp _ _ _ [0, 1, 2, 3, 4, 5] _ _
    refine ops_value (v := .pointer (some ⟨hb, 0, none⟩)) (w' := wc) rfl rfl (by simp [go_sem]) ?_
    refine ops_value (v := .pointer (some ⟨hb, 0, none⟩)) (w' := wc) rfl rfl (by simp [go_sem]) ?_
    refine ops_value (v := .pointer (some ⟨hb, 0, none⟩)) (w' := wc) rfl rfl (by simp [go_sem]) ?_
    refine ops_value (v := .chan (some ch)) (w' := wc) rfl rfl (by simp [go_sem, c0]) ?_
    refine ops_value (v := .agg #[]) (w' := wc) rfl rfl (by simp [go_sem]) ?_
    refine ops_send (c := ch) (v := .agg #[]) (z := .tuple #[]) rfl rfl (by simp [execOp, Conc.scase, Act.eval, Act.put]) e2 (by decide) ?_
    refine ops_nil ?_
    have hp := HP.out
    have hch : ∀ k, k ≠ ch → (wc.setChan ch 1 #[.agg #[]] false 1 0 false).heap[k]? = wc.heap[k]? := fun k hk => by
      simp only [World.setChan]; rw [Array.getElem?_setIfInBounds_ne (by omega)]
    have hsz : (wc.setChan ch 1 #[.agg #[]] false 1 0 false).heap.size = wc.heap.size := by simp [World.setChan]
    have hos : (wc.setChan ch 1 #[.agg #[]] false 1 0 false).os = wc.os ∧ (wc.setChan ch 1 #[.agg #[]] false 1 0 false).tape = wc.tape ∧ (wc.setChan ch 1 #[.agg #[]] false 1 0 false).output = wc.output := ⟨rfl, rfl, rfl⟩
    have ltm := lt_row hp.h
    show Exit.then _ _ .normal _ (wc.setChan ch 1 #[.agg #[]] false 1 0 false)
    generalize hwd : wc.setChan ch 1 #[.agg #[]] false 1 0 false = wd at hch hsz hos ⊢
    have hd : ∀ k, k < w.heap.size → wd.heap[k]? = (w.setCell ⟨pb, 2, none⟩ (.int .i32 1)).heap[k]? := fun k hk => (hch k (by omega)).trans (bc.block k hk)
    have dm : wd.heap[mb]? = some (.map es clock) := (hd mb ltm).trans (heap_other (a := ⟨pb, 2, none⟩) (.int .i32 1) hp.h hp.ne.1)
    have dpb := (hd pb lt).trans (heap_setCell_same w pb 2 _ _ (.int .i32 1) hp.p)
    have dh : wd.heap[hb]? = some (.cells (hostCells ch D R M 0 0 0 0 0 0) 68 (0, 0)) := (hch hb (by omega)).trans e1
    have d4 : wd.cell? ⟨pb, 4, none⟩ = some (.map (some mb)) := (cell_of_row wd pb 4 _ _ _ dpb).trans rfl
    obtain ⟨we, hup, em, eo, es1, es2⟩ : ∃ we, (Instr.mapUpdate 77 (.map (some mb)) (.string name) (.pointer (some ⟨hb, 0, none⟩))).run Try.prog wd = .ok () we ∧ we.heap[mb]? = some (.map (es.push { key := .string name, val := .pointer (some ⟨hb, 0, none⟩), born := clock }) (clock + 1)) ∧ (∀ k, k ≠ mb → we.heap[k]? = wd.heap[k]?) ∧ we.heap.size = wd.heap.size ∧ (we.os = wd.os ∧ we.tape = wd.tape ∧ we.output = wd.output) :=
      ⟨_, run_put_miss dm HF.out, (MapKept.heap_set dm).1, fun k hk => (MapKept.heap_set dm).2 k hk, by simp, rfl, rfl, rfl⟩
    have epb := (eo pb (fun e => hp.ne.1 e.symm)).trans dpb
    have c2 : we.cell? ⟨pb, 2, none⟩ = some (.int .i32 1) := (cell_of_row we pb 2 _ _ _ epb).trans rfl
    have fz2 : we.frozen? ⟨pb, 2, none⟩ = false := frozen_row epb
    clear hl hmk k0 kd kr km k01 k02 k03 kd1 kd2 kd3 kr1 kr2 kr3 km1 km2 km3 k4 c0
    go_wp2
    refine leaves_cons (f := 29) (args := #[.pointer (some ⟨pb, 2, none⟩)]) (by simp) (by simp [go_sem]) ?_
    refine (unlock_deferred H ⟨pb, 2, none⟩ .returning _ c2 fz2).mono ?_
    rintro e u' w'' ⟨rfl, rfl, rfl⟩
    have ob : ∀ k x, we.heap[k]? = some x → k ≠ pb → (we.setCell ⟨pb, 2, none⟩ (.int .i32 0)).heap[k]? = some x := fun k x h hk => heap_other _ h hk
    have old : ∀ k x, w.heap[k]? = some x → k ≠ pb → k ≠ mb → (we.setCell ⟨pb, 2, none⟩ (.int .i32 0)).heap[k]? = some x := fun k x h hk hm =>
      ob k x ((eo k hm).trans ((hd k (lt_row h)).trans (heap_other (a := ⟨pb, 2, none⟩) _ h hk))) hk
    have rp := relock_block (cs := pacerCells x0 x1 x2 mb) rfl epb
    refine ⟨_, results_tmp rfl _ _ _, hb, ch, rfl, l1, ob hb _ ((eo hb (by omega)).trans dh) (by omega), ⟨rp, ?_, ?_, ?_, ob mb _ em hp.ne.1⟩, ?_⟩
    · refine old x0 _ hp.d hp.ne.2.1 (fun e => ?_)
      have := hp.d; rw [e, hp.h] at this; cases this
    · refine old x1 _ hp.r hp.ne.2.2.1 (fun e => ?_)
      have := hp.r; rw [e, hp.h] at this; cases this
    · refine old x2 _ hp.m hp.ne.2.2.2 (fun e => ?_)
      have := hp.m; rw [e, hp.h] at this; cases this
    · refine ⟨es2.1.trans (hos.1.trans bc.os), es2.2.1.trans (hos.2.1.trans bc.tape), es2.2.2.trans (hos.2.2.trans bc.output), ?_, fun k hk hm => ?_⟩
      · have := bc.size
        rw [size_setCell] at this ⊢
        omega
      · by_cases hkp : k = pb
        · subst hkp
          exact rp.trans hp.p.symm
        · rw [Below.heap_setCell _ _ _ _ hkp, eo k hm, hd k hk, Below.heap_setCell _ _ _ _ hkp]
end
end Go.Proofs.Qxb6616919a
