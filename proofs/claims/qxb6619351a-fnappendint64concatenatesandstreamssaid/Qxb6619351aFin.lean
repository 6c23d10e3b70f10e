/-
  The contracts in the forms that the laws' walks want: the value written out, its cells told.
-/
import Derived.Test.Qxb6619351aApp2
import Derived.Test.Qxb6619351aDec2
import Derived.Test.Qxb6619351aSz
namespace Go.Proofs.Qxb6619351a
open Go.RowKit Plain

/-- Behind an append of at least one byte: the value written out, its cells. -/
theorem owned_form {w : World} {B n : Nat} {v : Value} {zs : List Int} (h : w.ownsRow B 5 1 v n (bcells zs)) (hn : 0 < n) :
    ∃ g cap, v = .slice (some ⟨g, 0, none⟩) n cap ∧ n ≤ cap ∧ cap ≤ maxLen ∧ B ≤ g ∧ g < w.heap.size ∧ zs.length = n ∧ ∀ i z, zs[i]? = some z → w.cell? ⟨g, i, none⟩ = some (.int .u8 z) := by
  have hl := h.1
  rcases h.2 with ⟨_, h0⟩ | ⟨g, cap, cur, hv, hb, hg, h1, h2, h3, h4⟩
  · omega
  · refine ⟨g, cap, hv, h1, h2, hb, (Array.getElem?_eq_some_iff.1 hg).1, by simpa [bcells] using hl, fun i z hz => ?_⟩
    have := h.cells (g := g) (by rw [hv]; rfl) i (.int .u8 z) (by simp [bcells, hz])
    have hadd : (⟨g, 0, none⟩ : Addr).add i = ⟨g, i, none⟩ := by unfold Addr.add; split <;> simp_all
    rwa [hadd] at this

/-- ZZappendUint64 onto nil. -/
theorem zzapp_nil (u : Int) (w : World) (h0 : 0 ≤ u) (h1 : u < 18446744073709551616) :
    Calls Try.prog 15 #[.slice none 0 0, .int .u64 u] w fun e w' => ∃ g cap, e = .returned (.slice (some ⟨g, 0, none⟩) (sz u) cap) ∧ sz u ≤ cap ∧ cap ≤ maxLen ∧ w.heap.size ≤ g ∧ g < w'.heap.size ∧
      (∀ i z, (enc u)[i]? = some z → w'.cell? ⟨g, i, none⟩ = some (.int .u8 z)) ∧ Below w.heap.size w w' := by
  have hp := sz_pos u
  refine (zzapp_any w.heap.size 0 u _ [] w h0 h1 (.inl (World.ownsRow_nil _ _ _ _)) (Nat.le_refl _) (by omega)).mono ?_
  rintro e w' ⟨v', rfl, hown, hb⟩
  rw [Nat.zero_add, List.nil_append] at hown
  obtain ⟨g, cap, rfl, a1, a2, a3, a4, _, a6⟩ := owned_form hown (by omega)
  exact ⟨g, cap, rfl, a1, a2, a3, a4, a6, hb⟩

/-- AppendInt64 onto nil. -/
theorem appInt_nil (v : Int) (w : World) (h0 : -9223372036854775808 ≤ v) (h1 : v ≤ 9223372036854775807) :
    Calls Try.prog 9 #[.slice none 0 0, .int .i64 v] w fun e w' => ∃ g cap, e = .returned (.slice (some ⟨g, 0, none⟩) (sz (zz v)) cap) ∧ sz (zz v) ≤ cap ∧ cap ≤ maxLen ∧ w.heap.size ≤ g ∧ g < w'.heap.size ∧
      (∀ i z, (enc (zz v))[i]? = some z → w'.cell? ⟨g, i, none⟩ = some (.int .u8 z)) ∧ Below w.heap.size w w' := by
  have hp := sz_pos (zz v)
  refine (appInt_any w.heap.size 0 v _ [] w h0 h1 (.inl (World.ownsRow_nil _ _ _ _)) (Nat.le_refl _) (by omega)).mono ?_
  rintro e w' ⟨v', rfl, hown, hb⟩
  rw [Nat.zero_add, List.nil_append] at hown
  obtain ⟨g, cap, rfl, a1, a2, a3, a4, _, a6⟩ := owned_form hown (by omega)
  exact ⟨g, cap, rfl, a1, a2, a3, a4, a6, hb⟩

/-- ZZdecodeUint64 at a shortest form, whatever follows it. -/
theorem zzdec_full (g o n cap : Nat) (u : Int) (r : List Int) (w : World) (h0 : 0 ≤ u) (h1 : u < 18446744073709551616) (hr : ∀ z ∈ r, 0 ≤ z ∧ z ≤ 255) (hn : n = sz u + r.length) (hc : n ≤ cap) (hm : cap ≤ maxLen)
    (hcell : ∀ i z, (enc u ++ r)[i]? = some z → w.cell? ⟨g, o + i, none⟩ = some (.int .u8 z)) :
    Calls Try.prog 10 #[.slice (some ⟨g, o, none⟩) n cap] w fun e w' => e = .returned (.tuple #[.int .u64 u, .int .i64 (sz u)]) ∧ Below w.heap.size w w' := by
  have hl : (enc u ++ r).length = n := by rw [List.length_append, enc_len, hn]
  have := zzdec_any g o cap (enc u ++ r) w (fun z hz => (List.mem_append.1 hz).elim (enc_byte u z) (hr z)) (by omega) hm hcell
  rw [hl, dec_enc u h0 h1 r] at this
  exact this

/-- .. cut by one. -/
theorem zzdec_cut (g o n cap : Nat) (u : Int) (w : World) (hn : n = sz u - 1) (hc : n ≤ cap) (hm : cap ≤ maxLen)
    (hcell : ∀ i z, (enc u)[i]? = some z → w.cell? ⟨g, o + i, none⟩ = some (.int .u8 z)) :
    Calls Try.prog 10 #[.slice (some ⟨g, o, none⟩) n cap] w fun e w' => e = .returned (.tuple #[.int .u64 0, .int .i64 0]) ∧ Below w.heap.size w w' := by
  have hp := sz_pos u
  have hl : ((enc u).take (sz u - 1)).length = n := by rw [List.length_take, enc_len]; omega
  have := zzdec_any g o cap ((enc u).take (sz u - 1)) w (fun z hz => enc_byte u z (List.mem_of_mem_take hz)) (by omega) hm (fun i z hz => hcell i z (by
    rw [List.getElem?_take] at hz
    split at hz
    · exact hz
    · cases hz))
  rw [hl, dec_cut u] at this
  exact this

end Go.Proofs.Qxb6619351a
