/- FnIntact: for every input the law returns true, and its arguments read behind the call as they read before. No condition on the input. -/
import Derived.Test.YtapnmgkpljlgmaaHMIn
import Derived.Test.YtapnmgkpljlgmaaG19
set_option linter.unusedVariables false
set_option linter.unusedSimpArgs false
namespace Go.Proofs.Ytapnmgkpljlgmaa
open Go.ChangeShapes Go.WideShapes Go.ChangeAt Go.RowKit
set_option maxRecDepth 100000 in
theorem fnIntactLifted (os : Os) (started : os.Started) (H : Type) (enc : TypeId × Value → H) :
    ReturnsInHanded {} Try.checked os 13 .any (Rows.fnIntactSpec.pre6 enc Try.prog Try.f13 Rows.fnIntactRow.domain false) (Rows.fnIntactSpec.post enc Try.prog Try.f13 false true false false) := by
  refine returnsInHanded_of_change (C := Try.checked) knob started (by kernel_rfl) Try.func13
    (ChangeSpec.witness6 (enc := enc) (C := Try.checked) false ⟨#[], #[.int .i64 0, .slice none 0 0], []⟩ 8 (by kernel_rfl) (by kernel_rfl) (by kernel_rfl) (by kernel_rfl)) ?_
  intro W base args ds gs before hval0 hW hcnd _
  have hval : ∀ (j : Nat) t v, Try.f13.params[j]? = some t → args[j]? = some v → Value.okWide Try.prog W .any base t v := hval0
  have hW' := hW
  obtain ⟨p, q, hA0, hV, rfl, hfz, hnd⟩ := hW
  have hA : DataW.TrodAll enc Try.prog W 0 (fun _ => true) true Try.f13.params.toList args.toList ds p := hA0
  rw [Try.params13] at hA hval
  obtain ⟨v0, vs0, d0, ds0, p0, q0, hargs, rfl, rfl, h0, r0⟩ := trodAll_cons hA
  obtain ⟨v1, vs1, d1, ds1, p1, q1, rfl, rfl, rfl, h1, r1⟩ := trodAll_cons r0
  obtain ⟨rfl, rfl, rfl⟩ := trodAll_nil r1
  obtain rfl : args = #[v0, v1] := by cases args; simp_all
  obtain ⟨rfl, rfl⟩ := trodVars_none hV
  obtain ⟨a0, rfl, rfl, rfl, w0⟩ := open_int Try.underlying3 (hval 0 3 v0 rfl rfl) h0
  obtain ⟨A1, n1, c1, g1, rfl, hn1, hg1, hR1⟩ := open_slc (by omega) Try.underlying34 (by kernel_rfl) elem_istep h1 (okWide_slice Try.underlying34 (hval 1 34 v1 rfl rfl))
  obtain ⟨l1, hl1⟩ := list3 hg1 n1
  rw [hl1] at hR1
  clear hA0 hval0
  refine (FnIntact_c hR1 hn1).mono fun e W' k => ?_
  obtain ⟨rfl, hF⟩ := k
  exact ⟨_, rfl, post_new (pa := [] ++ (p1 ++ ([]))) (pv := []) hW' (fun _ _ _ => trodAll_cons_mk (shut_bool Try.underlying4 _) trodAll_mk0) (fun sp hs => (trodAll_cons_mk (shut_int Try.underlying3 w0) (trodAll_cons_mk (slice_up Try.underlying34 flat_step (pos_of (by kernel_rfl : Try.prog.cellsOf 47 = 3)) hF.below h1 sp fun x hx => hs x (by simp [hx])) trodAll_mk0))) (fun _ _ => rfl) (by simp) hF.below (ok_one (by kernel_rfl) rfl (okWide_bool_mk Try.underlying4 _))⟩
theorem fnIntactNm : Try.pinned.checked.prog.funcNamed Rows.fnIntactRow.func = some 13 := by kernel_rfl
theorem fnIntactJf : joinedFacts Try.pinned.checked.prog 13 Try.f13 Rows.fnIntactSpec Rows.fnIntactRow = true :=
  joined_of (by kernel_rfl) (by kernel_rfl) (by kernel_rfl) (by kernel_rfl) (by kernel_rfl) (by kernel_rfl) (by kernel_rfl) (by kernel_rfl) (by kernel_rfl) (by kernel_rfl) (by kernel_rfl) (by kernel_rfl) (by kernel_rfl) (by kernel_rfl) (by kernel_rfl) (by kernel_rfl) (by kernel_rfl) (by kernel_rfl) (by kernel_rfl) (by kernel_rfl) (by kernel_rfl) (by kernel_rfl) (by kernel_rfl) (by kernel_rfl) (by kernel_rfl) (by kernel_rfl) (by kernel_rfl) (by kernel_rfl) (by kernel_rfl) may_enter lifts_final make_cut rfl rfl
theorem fnIntactIn : Try.f13.isInstance Try.pinned.checked.prog Rows.fnIntactRow.origin Rows.fnIntactRow.targs := of_decide_eq_true (by kernel_rfl)
theorem fnIntactWr : Try.f13.isWrapper Try.pinned.checked.prog Rows.fnIntactRow.wrapper Rows.fnIntactRow.mainSum := by unfold Func.isWrapper; first | (rw [if_pos (by decide +kernel)]; kernel_rfl) | (rw [if_neg (by decide +kernel)]; exact ⟨rfl, rfl⟩)
theorem fnIntactOver : Rows.fnIntactRow.holds Try.pinned (OpenSpec.ofChange Rows.fnIntactSpec) :=
  OpenClaim.holds_of_wide 13 Try.f13 rfl rfl rfl rfl rfl rfl rfl ⟨rfl, rfl, rfl, rfl, rfl⟩ rfl rfl rfl rfl rfl fnIntactNm Try.func13 fnIntactJf fnIntactIn fnIntactWr
    (fun os started H enc _ => fnIntactLifted os started H enc)
/-- The statement. -/
theorem fnIntactProved : Rows.FnIntactSaid := fnIntactOver
#print axioms fnIntactProved
end Go.Proofs.Ytapnmgkpljlgmaa
