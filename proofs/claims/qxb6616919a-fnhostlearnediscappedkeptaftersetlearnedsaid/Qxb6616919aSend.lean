/-
  A region that is run in its text's order and holds a send into a buffer with room: ONE goroutine. ('Code.wp' is said of the machine's own steps; the walk's list of operations has no word for a communication: so such a region is walked here, operation by operation.)
-/
import Derived.Conc.LoneCalls
import Derived.Calls
namespace Go.Proofs.Qxb6616919a
open Go.Conc

/-- What is asked of a region's operations that are still to come. -/
def OpsWp (P : Program) (ops : Array Oper) (Q : Exit → Act → World → Prop) (l : List Nat) (a : Act) (w : World) : Prop :=
  ∀ (b : Frame) (k : List Item) (cs : List Frame), ∃ e a' w', Q e a' w' ∧ Arrives P (lone (b.at a (.inRegion ops l :: k)) cs w) b k cs e a' w'

section
variable {P : Program} {ops : Array Oper} {Q : Exit → Act → World → Prop} {a : Act} {w : World}

theorem wp_of_ops {id : Nat} (h : OpsWp P ops Q (List.range ops.size) a w) : (Code.region id ops false).wp P Q a w := by
  intro b k cs
  obtain ⟨e, a', w', hq, harr⟩ := h b k cs
  exact ⟨e, a', w', hq, .of_steps (.one step_region) harr⟩

theorem ops_nil (h : Q .normal a w) : OpsWp P ops Q [] a w := fun _ _ _ => ⟨.normal, a, w, h, .one step_region_end⟩

theorem ops_value {i : Nat} {rest : List Nat} {o : Oper} {v : Value} {w' : World} (ho : ops[i]? = some o) (hw : Region.wanted o (yielded ops a.tmps) = true)
    (hr : (execOp a.eval o).run P w = .ok (.value v) w') (h : OpsWp P ops Q rest (a.put o.dst v) w') : OpsWp P ops Q (i :: rest) a w := by
  intro b k cs
  obtain ⟨e, a', w'', hq, harr⟩ := h b k cs
  have hg := stepG_op (P := P) (b := b) (k := k) (cs := cs) (w := w) (rest := rest) ho hw
  have hfin : (b.at a (.inRegion ops (i :: rest) :: k)).finish v = b.at (a.put o.dst v) (.inRegion ops rest :: k) := by
    rw [Frame.finish_at, ho]; rfl
  refine ⟨e, a', w'', hq, .of_steps (.one (step_lone_go ?_)) harr⟩
  rw [hg, ← hfin]
  simp [stepG.apply, hr]

theorem ops_skip {i : Nat} {rest : List Nat} {o : Oper} {w' : World} (ho : ops[i]? = some o) (hw : Region.wanted o (yielded ops a.tmps) = true)
    (hr : (execOp a.eval o).run P w = .ok .skip w') (h : OpsWp P ops Q rest (a.put o.dst undef) w') : OpsWp P ops Q (i :: rest) a w := by
  intro b k cs
  obtain ⟨e, a', w'', hq, harr⟩ := h b k cs
  have hg := stepG_op (P := P) (b := b) (k := k) (cs := cs) (w := w) (rest := rest) ho hw
  have hfin : (b.at a (.inRegion ops (i :: rest) :: k)).finish undef = b.at (a.put o.dst undef) (.inRegion ops rest :: k) := by
    rw [Frame.finish_at, ho]; rfl
  refine ⟨e, a', w'', hq, .of_steps (.one (step_lone_go ?_)) harr⟩
  rw [hg, ← hfin]
  simp [stepG.apply, hr]

/-- A send into a buffer with room: it goes on at once; the channel holds one value more. -/
theorem ops_send {i : Nat} {rest : List Nat} {o : Oper} {c cap s r : Nat} {buf : Array Value} {v z : Value} {tm : Bool} (ho : ops[i]? = some o) (hw : Region.wanted o (yielded ops a.tmps) = true)
    (hr : (execOp a.eval o).run P w = .ok (.comm #[scase c v z] true .send) w) (hc : w.heap[c]? = some (.chan cap buf false s r tm)) (hroom : buf.size < cap)
    (h : OpsWp P ops Q rest (a.put o.dst undef) (w.setChan c cap (buf.push v) false (s + 1) r tm)) : OpsWp P ops Q (i :: rest) a w := by
  intro b k cs
  obtain ⟨e, a', w'', hq, harr⟩ := h b k cs
  have hfin : (b.at a (.inRegion ops (i :: rest) :: k)).finish undef = b.at (a.put o.dst undef) (.inRegion ops rest :: k) := by
    rw [Frame.finish_at, ho]; rfl
  have hg : ∃ es, stepG P true (G (b.at a (.inRegion ops (i :: rest) :: k)) cs) w = .comm (G (b.at a (.inRegion ops (i :: rest) :: k)) cs) #[scase c v z] true .send w es := by
    by_cases hk : b.kind = .early
    · refine ⟨seen P b.fn #[], ?_⟩
      rw [stepG_oper ho hw]
      simp [stepG.apply, hr, G, Frame.at, hk, GStep.after]
    · exact ⟨_, stepG_comm ho hw hk hr⟩
  obtain ⟨es, hg⟩ := hg
  refine ⟨e, a', w'', hq, .of_steps (.one ?_) harr⟩
  have := step_lone_send_room hg hc hroom
  rw [hfin] at this
  exact this
end
end Go.Proofs.Qxb6616919a
