/-
  'append' onto a slice of bytes that is nil, the call's own, or without spare room: ONE law for the three ('Src').
-/
import Derived.Test.Qxb6619351aProg
import Derived.WalkKit
import Derived.OwnWalk
import Derived.ArgAppend
import Derived.Deep.AppendLies
import Derived.KernelRfl
namespace Go.Proofs.Qxb6619351a
open Go.RowKit

theorem info5 : (Try.prog.info? 5).map (fun i => (i.zero, i.size, i.bytes)) = some (some (.int .u8 0), 1, 1) := by kernel_rfl

/-- A slice of n bytes, its cells xs: the call's own from block B on (nil among them), or whatever memory, without spare room. -/
def Src (B : Nat) (w : World) (v : Value) (n : Nat) (xs : List Value) : Prop :=
  w.ownsRow B 5 1 v n xs ∨ ∃ g : Addr, v = .slice (some g) n n ∧ xs.length = n ∧ ∀ j u, xs[j]? = some u → w.cell? (g.add j) = some u

theorem ownsRow_mono {w : World} {B B' : Nat} {e : TypeId} {size : Nat} {v : Value} {n : Nat} {xs : List Value} (h : w.ownsRow B e size v n xs) (hB : B' ≤ B) : w.ownsRow B' e size v n xs := by
  refine ⟨h.1, ?_⟩
  rcases h.2 with h2 | ⟨g, cap, cur, hv, hg, r⟩
  · exact .inl h2
  · exact .inr ⟨g, cap, cur, hv, Nat.le_trans hB hg, r⟩

/-- What is owned stays owned where all blocks of which it may be are as they were. -/
theorem ownsRow_block {w w' : World} {B : Nat} {e : TypeId} {size : Nat} {v : Value} {n : Nat} {xs : List Value} (h : w.ownsRow B e size v n xs) (hk : ∀ k, k < w.heap.size → w'.heap[k]? = w.heap[k]?) : w'.ownsRow B e size v n xs := by
  refine ⟨h.1, ?_⟩
  rcases h.2 with h2 | ⟨g, cap, cur, hv, hg, hh, r⟩
  · exact .inl h2
  · refine .inr ⟨g, cap, cur, hv, hg, ?_, r⟩
    rw [hk g (Array.getElem?_eq_some_iff.1 hh).1]; exact hh

theorem ownsRow_below {w w' : World} {B : Nat} {e : TypeId} {size : Nat} {v : Value} {n : Nat} {xs : List Value} (h : w.ownsRow B e size v n xs) (hb : Below w.heap.size w w') : w'.ownsRow B e size v n xs :=
  ownsRow_block h hb.block

theorem Src.alloc {B : Nat} {w : World} {v : Value} {n : Nat} {xs : List Value} (h : Src B w v n xs) (o : Obj) : Src B (w.alloc o) v n xs := by
  rcases h with h | ⟨g, hv, hl, hc⟩
  · exact .inl (h.alloc o)
  · exact .inr ⟨g, hv, hl, fun j u hu => by
      have := hc j u hu
      exact (World.cell?_of_block (w := w) (Below.heap_alloc w o _ (World.block_lt_of_cell? w _ this))).trans this⟩

theorem Src.drew {B : Nat} {w : World} {v : Value} {n : Nat} {xs : List Value} (h : Src B w v n xs) : Src B w.drew v n xs := h

theorem Src.len {B : Nat} {w : World} {v : Value} {n : Nat} {xs : List Value} (h : Src B w v n xs) : xs.length = n := by
  rcases h with h | ⟨g, hv, hl, hc⟩
  · simpa using h.1
  · exact hl

section
variable (w : World)

theorem run_append_src (ty : TypeId) (B : Nat) (v : Value) (n : Nat) (xs : List Value) (hsrc : Src B w v n xs)
    (ad : Addr) (m c : Nat) (news : List Value) (hl : news.length = m) (hnews : ∀ j u, news[j]? = some u → w.cell? (ad.add j) = some u) (h1 : ∀ u ∈ news, u.oneCell' = true)
    (hm : 0 < m) (hlim : n + m ≤ 140737488355328) (hbase : B ≤ w.heap.size) :
    ∃ v' w', (Builtin.append_ #[22, 22] ty #[v, .slice (some ad) m c]).run Try.prog w = .ok v' w' ∧ w'.ownsRow B 5 1 v' (n + m) (xs ++ news) ∧ Below B w w' := by
  obtain ⟨i0, hi, hz0, hz1, hz2⟩ := info_parts info5
  rcases hsrc with hown | ⟨g, rfl, hlen, hc⟩
  · obtain ⟨v', w', hr, h2, h3, _⟩ := run_append_own (P := Try.prog) w B 22 ty 5 i0 _ 1 1 Try.underlying22 hi hz0 hz1 hz2 rfl (by decide) v n xs hown ad m c news (by omega) hnews h1 (by unfold maxLen; omega) (by omega) hbase
    exact ⟨v', w', hr, h2, (Below.refl B w).grown h3 hbase (fun k hk => (hown.lt k hk).1)⟩
  · obtain ⟨v', w', hr, h2, h3⟩ := run_append_arg_grows (P := Try.prog) w 22 ty 5 i0 _ 1 1 Try.underlying22 hi hz0 hz1 hz2 rfl (by decide) g n n xs (by omega) hc ad m c news (by omega) hnews (by omega) (by unfold maxLen; omega) (by omega)
    exact ⟨v', w', hr, ownsRow_mono h2 hbase, (Below.refl B w).grown h3 hbase (fun k hk => by cases hk)⟩

theorem wp_append_src {o : Oper} {a : Act} {K : Act → World → Prop} {Q : Exit → Act → World → Prop} (s x : Operand)
    (ho : o.op = .call { callee := .builtin .append, args := #[s, x], argTypes := #[22, 22] })
    (B : Nat) (v : Value) (n : Nat) (xs : List Value) (hs : a.eval s = v) (hsrc : Src B w v n xs)
    (ad : Addr) (m c : Nat) (news : List Value) (hx : a.eval x = .slice (some ad) m c) (hl : news.length = m) (hnews : ∀ j u, news[j]? = some u → w.cell? (ad.add j) = some u) (h1 : ∀ u ∈ news, u.oneCell' = true)
    (hm : 0 < m) (hlim : n + m ≤ 140737488355328) (hbase : B ≤ w.heap.size)
    (h : ∀ v' w', w'.ownsRow B 5 1 v' (n + m) (xs ++ news) → Below B w w' → K (a.put o.dst v') w') : o.wp Try.prog a w K Q := by
  obtain ⟨v', w', hr, h2, h3⟩ := run_append_src w o.type B v n xs hsrc ad m c news hl hnews h1 hm hlim hbase
  unfold Oper.wp execOp
  simp only [ho, resolve, invoke, builtin, Sem.run_bind, Sem.run_pure, Result.andThen_ok, List.map_toArray, List.map_cons, List.map_nil, hs, hx, hr]
  exact h v' w' h2 h3

theorem wpList_append_src {ops : Array Oper} {rest : List Oper} {o : Oper} {a : Act} {Q : Exit → Act → World → Prop} (hgd : o.guard = none) (s x : Operand)
    (ho : o.op = .call { callee := .builtin .append, args := #[s, x], argTypes := #[22, 22] })
    (B : Nat) (v : Value) (n : Nat) (xs : List Value) (hs : a.eval s = v) (hsrc : Src B w v n xs)
    (ad : Addr) (m c : Nat) (news : List Value) (hx : a.eval x = .slice (some ad) m c) (hl : news.length = m) (hnews : ∀ j u, news[j]? = some u → w.cell? (ad.add j) = some u) (h1 : ∀ u ∈ news, u.oneCell' = true)
    (hm : 0 < m) (hlim : n + m ≤ 140737488355328) (hbase : B ≤ w.heap.size)
    (h : ∀ v' w', w'.ownsRow B 5 1 v' (n + m) (xs ++ news) → Below B w w' → wpList Try.prog ops Q rest (a.put o.dst v') w') : wpList Try.prog ops Q (o :: rest) a w :=
  wpList_plain hgd fun _ hK => wp_append_src w s x ho B v n xs hs hsrc ad m c news hx hl hnews h1 hm hlim hbase fun v' w' h2 h3 => hK _ _ (h v' w' h2 h3)

theorem step_append_src {ops : Array Oper} {o : Oper} {a : Act} {K : Act → World → Prop} {Q : Exit → Act → World → Prop} {E : Prop} (hgd : o.guard = none) (s x : Operand)
    (ho : o.op = .call { callee := .builtin .append, args := #[s, x], argTypes := #[22, 22] })
    (B : Nat) (v : Value) (n : Nat) (xs : List Value) (hs : a.eval s = v) (hsrc : Src B w v n xs)
    (ad : Addr) (m c : Nat) (news : List Value) (hx : a.eval x = .slice (some ad) m c) (hl : news.length = m) (hnews : ∀ j u, news[j]? = some u → w.cell? (ad.add j) = some u) (h1 : ∀ u ∈ news, u.oneCell' = true)
    (hm : 0 < m) (hlim : n + m ≤ 140737488355328) (hbase : B ≤ w.heap.size)
    (h : ∀ v' w', w'.ownsRow B 5 1 v' (n + m) (xs ++ news) → Below B w w' → K (a.put o.dst v') w') :
    if Region.wanted o (yielded ops a.tmps) = true then Oper.wp Try.prog o a w K Q else E := by
  have hw : Region.wanted o (yielded ops a.tmps) = true := by simp [Region.wanted, hgd]
  rw [if_pos hw]
  exact wp_append_src w s x ho B v n xs hs hsrc ad m c news hx hl hnews h1 hm hlim hbase h
end

/-- Numbers as cells of bytes. -/
def bcells (zs : List Int) : List Value := zs.map (Value.int .u8)
theorem bcells_one (zs : List Int) : ∀ u ∈ bcells zs, u.oneCell' = true := by
  intro u hu
  simp only [bcells, List.mem_map] at hu
  obtain ⟨z, _, rfl⟩ := hu
  rfl
theorem bcells_append (a b : List Int) : bcells (a ++ b) = bcells a ++ bcells b := by simp [bcells]
theorem bcells_len (a : List Int) : (bcells a).length = a.length := by simp [bcells]

end Go.Proofs.Qxb6619351a
