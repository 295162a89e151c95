/- FnNumbers: for every input the law returns true, and its arguments read behind the call as they read before. No condition on the input. -/
import Derived.Test.YtapnmgkpljlgmaaHMNu
import Derived.Test.YtapnmgkpljlgmaaG19
set_option linter.unusedVariables false
set_option linter.unusedSimpArgs false
namespace Go.Proofs.Ytapnmgkpljlgmaa
open Go.ChangeShapes Go.WideShapes Go.ChangeAt Go.RowKit
set_option maxRecDepth 100000 in
theorem fnNumbersLifted (os : Os) (started : os.Started) (H : Type) (enc : TypeId × Value → H) :
    ReturnsInHanded {} Try.checked os 19 .any (Rows.fnNumbersSpec.pre6 enc Try.prog Try.f19 Rows.fnNumbersRow.domain false) (Rows.fnNumbersSpec.post enc Try.prog Try.f19 false true false false) := by
  refine returnsInHanded_of_change (C := Try.checked) knob started (by kernel_rfl) Try.func19
    (ChangeSpec.witness6 (enc := enc) (C := Try.checked) false ⟨#[], #[.slice none 0 0, .slice none 0 0], []⟩ 8 (by kernel_rfl) (by kernel_rfl) (by kernel_rfl) (by kernel_rfl)) ?_
  intro W base args ds gs before hval0 hW hcnd _
  have hval : ∀ (j : Nat) t v, Try.f19.params[j]? = some t → args[j]? = some v → Value.okWide Try.prog W .any base t v := hval0
  have hW' := hW
  obtain ⟨p, q, hA0, hV, rfl, hfz, hnd⟩ := hW
  have hA : DataW.TrodAll enc Try.prog W 0 (fun _ => true) true Try.f19.params.toList args.toList ds p := hA0
  rw [Try.params19] at hA hval
  obtain ⟨v0, vs0, d0, ds0, p0, q0, hargs, rfl, rfl, h0, r0⟩ := trodAll_cons hA
  obtain ⟨v1, vs1, d1, ds1, p1, q1, rfl, rfl, rfl, h1, r1⟩ := trodAll_cons r0
  obtain ⟨rfl, rfl, rfl⟩ := trodAll_nil r1
  obtain rfl : args = #[v0, v1] := by cases args; simp_all
  obtain ⟨rfl, rfl⟩ := trodVars_none hV
  obtain ⟨A0, n0, c0, g0, rfl, hn0, hg0, hR0⟩ := open_slc (by omega) Try.underlying52 (by kernel_rfl) (elem_int Try.underlying3) h0 (okWide_slice Try.underlying52 (hval 0 52 v0 rfl rfl))
  obtain ⟨l0, hl0⟩ := list1 hg0 n0
  rw [hl0] at hR0
  obtain ⟨A1, n1, c1, g1, rfl, hn1, hg1, hR1⟩ := open_slc (by omega) Try.underlying34 (by kernel_rfl) elem_istep h1 (okWide_slice Try.underlying34 (hval 1 34 v1 rfl rfl))
  obtain ⟨l1, hl1⟩ := list3 hg1 n1
  rw [hl1] at hR1
  clear hA0 hval0
  refine (FnNumbers_c hR0 hn0 hR1 hn1).mono fun e W' k => ?_
  obtain ⟨rfl, hF⟩ := k
  exact ⟨_, rfl, post_new (pa := p0 ++ (p1 ++ ([]))) (pv := []) hW' (fun _ _ _ => trodAll_cons_mk (shut_bool Try.underlying4 _) trodAll_mk0) (fun sp hs => (trodAll_cons_mk (slice_up Try.underlying52 flat_intT (pos_of (by kernel_rfl : Try.prog.cellsOf 3 = 1)) hF.below h0 sp fun x hx => hs x (by simp [hx])) (trodAll_cons_mk (slice_up Try.underlying34 flat_step (pos_of (by kernel_rfl : Try.prog.cellsOf 47 = 3)) hF.below h1 sp fun x hx => hs x (by simp [hx])) trodAll_mk0))) (fun _ _ => rfl) (by simp) hF.below (ok_one (by kernel_rfl) rfl (okWide_bool_mk Try.underlying4 _))⟩
theorem fnNumbersNm : Try.pinned.checked.prog.funcNamed Rows.fnNumbersRow.func = some 19 := by kernel_rfl
theorem fnNumbersJf : joinedFacts Try.pinned.checked.prog 19 Try.f19 Rows.fnNumbersSpec Rows.fnNumbersRow = true :=
  joined_of (by kernel_rfl) (by kernel_rfl) (by kernel_rfl) (by kernel_rfl) (by kernel_rfl) (by kernel_rfl) (by kernel_rfl) (by kernel_rfl) (by kernel_rfl) (by kernel_rfl) (by kernel_rfl) (by kernel_rfl) (by kernel_rfl) (by kernel_rfl) (by kernel_rfl) (by kernel_rfl) (by kernel_rfl) (by kernel_rfl) (by kernel_rfl) (by kernel_rfl) (by kernel_rfl) (by kernel_rfl) (by kernel_rfl) (by kernel_rfl) (by kernel_rfl) (by kernel_rfl) (by kernel_rfl) (by kernel_rfl) (by kernel_rfl) may_enter lifts_final make_cut rfl rfl
theorem fnNumbersIn : Try.f19.isInstance Try.pinned.checked.prog Rows.fnNumbersRow.origin Rows.fnNumbersRow.targs := of_decide_eq_true (by kernel_rfl)
theorem fnNumbersWr : Try.f19.isWrapper Try.pinned.checked.prog Rows.fnNumbersRow.wrapper Rows.fnNumbersRow.mainSum := by unfold Func.isWrapper; first | (rw [if_pos (by decide +kernel)]; kernel_rfl) | (rw [if_neg (by decide +kernel)]; exact ⟨rfl, rfl⟩)
theorem fnNumbersOver : Rows.fnNumbersRow.holds Try.pinned (OpenSpec.ofChange Rows.fnNumbersSpec) :=
  OpenClaim.holds_of_wide 19 Try.f19 rfl rfl rfl rfl rfl rfl rfl ⟨rfl, rfl, rfl, rfl, rfl⟩ rfl rfl rfl rfl rfl fnNumbersNm Try.func19 fnNumbersJf fnNumbersIn fnNumbersWr
    (fun os started H enc _ => fnNumbersLifted os started H enc)
/-- The statement. -/
theorem fnNumbersProved : Rows.FnNumbersSaid := fnNumbersOver
#print axioms fnNumbersProved
end Go.Proofs.Ytapnmgkpljlgmaa
