/-
  THE PROOF OF 'Rows.FnSizeUint64IsLengthOfShortestFormSaid': the walk, and the guide's frame at this function's number and types.
-/
import Derived.Test.Qxb6619351aRows
import Derived.Test.Qxb6619351aFin
import Derived.WalkKit
import Derived.ProofKit
import Derived.OpenShut
import Derived.ShutString
import Derived.ChangeOld
import Derived.Below
namespace Go.Proofs.Qxb6619351a.fnSizeUint64IsLengthOfShortestForm
open Go.ChangeShapes Go.WideShapes Go.ChangeAt Go.RowKit
open Go.ChangeMaps (open_string shut_string)
open Go.Proofs.Qxb6619351a.Plain
set_option linter.unusedVariables false

theorem own : ownKnob Try.prog.godebug = none := by kernel_rfl

set_option maxRecDepth 100000 in
set_option maxHeartbeats 1000000 in
theorem walk0 (u : Int) (h0 : 0 ≤ u) (h1 : u < 18446744073709551616) (w : World) :
    Calls Try.prog 5 #[.int .u64 u] w fun e w' => e = .returned (.bool true) ∧ Below w.heap.size w w' := by
  obtain ⟨b, r, he, ha⟩ := enc_head u
  have hbb := enc_byte u b (by rw [he]; simp)
  have hp := sz_pos u
  have hp0 : 0 < sz u := by omega
  have HA : Hid (ann b = sz u) := ha
  have HE : Hid (enc u = b :: r) := he
  clear ha he
  go_enter Try.func5, Try.ntmps5
  go_wp2_with (first
    | (go_at_call 13; refine (model_any u _ h0).mono ?_; rintro e w' ⟨rfl, rfl⟩)
    | (go_at_call 14; refine (size_any u _ h0 h1).mono ?_; rintro e w' ⟨rfl, rfl⟩)
    | (go_at_call 15; refine (zzapp_nil u _ h0 h1).mono ?_; rintro e w1 ⟨g, cap, rfl, hc, hm, hg, hgl, hcell, hb⟩; have c0 := hcell 0 b (by rw [HE.out]; rfl))
    | (go_at_call 16; refine (len_is b _ hbb.1 hbb.2 HA.out rfl).mono ?_; rintro e w' ⟨rfl, rfl⟩)
    | (go_at_call 10; refine (zzdec_full g 0 (sz u) cap u [] _ h0 h1 (by simp) (by simp) hc hm (by simpa using hcell)).mono ?_; rintro e w2 ⟨rfl, hb2⟩))
  go_ret
  exact ⟨rfl, hb.trans (hb2.mono hb.size)⟩

/-! ### THE WALK -/
theorem walk (a0 : Int) (w0 : (Lit.int .u64 a0).wf = true) (w : World) :
    Calls Try.prog 5 #[.int .u64 a0] w fun e w' => e = .returned (.bool true) ∧ Below w.heap.size w w' := by
  have hb := bounds_u64 w0
  exact walk0 a0 (by omega) (by omega) w

/-! ### THE ROW's STEP -/
set_option maxRecDepth 100000 in
theorem lifted (os : Os) (started : os.Started) (H : Type) (enc : TypeId × Value → H) :
    ReturnsInHanded {} Try.checked os 5 .any (Rows.fnSizeUint64IsLengthOfShortestFormSpec.pre6 enc Try.prog Try.f5 Rows.fnSizeUint64IsLengthOfShortestFormRow.domain false) (Rows.fnSizeUint64IsLengthOfShortestFormSpec.post enc Try.prog Try.f5 false true false false) := by
  refine returnsInHanded_of_change (C := Try.checked) own started (by kernel_rfl) Try.func5
    (ChangeSpec.witness6 (enc := enc) (C := Try.checked) false ⟨#[], #[.int .u64 0], []⟩ 8 (by kernel_rfl) (by kernel_rfl) (by kernel_rfl) (by kernel_rfl)) ?_
  intro W base args ds gs before hval0 hW hcnd _
  have hval : ∀ (j : Nat) t v, Try.f5.params[j]? = some t → args[j]? = some v → Value.okWide Try.prog W .any base t v := hval0
  have hW' := hW
  obtain ⟨p, q, hA0, hV, rfl, hfz, hnd⟩ := hW
  have hA : DataW.TrodAll enc Try.prog W 0 (fun _ => true) true Try.f5.params.toList args.toList ds p := hA0
  rw [Try.params5] at hA hval
  obtain ⟨v0, vs0, d0, ds0, p0, q0, hargs, rfl, rfl, h0, r0⟩ := trodAll_cons hA
  obtain ⟨rfl, rfl, rfl⟩ := trodAll_nil r0
  obtain rfl : args = #[v0] := by cases args; simp_all
  obtain ⟨rfl, rfl⟩ := trodVars_none hV
  obtain ⟨a0, rfl, rfl, rfl, w0⟩ := open_int Try.underlying27 (hval 0 27 v0 rfl rfl) h0
  clear hA0 hval0
  refine (walk a0 w0 W).mono fun e W' ⟨he, bel⟩ => ?_
  subst he
  exact ⟨_, rfl, _, _, _, [], _, [], hW', trodAll_mk1 (shut_bool Try.underlying4 _), (trodAll_cons_mk (shut_int Try.underlying27 w0) trodAll_mk0), rfl, bel.frame _, fun h => by cases h⟩

theorem over : Rows.fnSizeUint64IsLengthOfShortestFormRow.holds Try.pinned (OpenSpec.ofChange Rows.fnSizeUint64IsLengthOfShortestFormSpec) :=
  OpenClaim.holds_of_wide 5 Try.f5 rfl rfl rfl rfl rfl rfl rfl ⟨rfl, rfl, rfl, rfl, rfl⟩ rfl rfl rfl rfl rfl (by kernel_rfl) Try.func5 (by kernel_rfl)
    (of_decide_eq_true (by kernel_rfl)) (by unfold Func.isWrapper; first | (rw [if_pos (by decide +kernel)]; kernel_rfl) | (rw [if_neg (by decide +kernel)]; exact ⟨rfl, rfl⟩))
    (fun os started H enc _ => lifted os started H enc)

/-- ████ THE STATEMENT ████ -/
theorem proved : Rows.FnSizeUint64IsLengthOfShortestFormSaid :=
  over
#print axioms proved
end Go.Proofs.Qxb6619351a.fnSizeUint64IsLengthOfShortestForm
