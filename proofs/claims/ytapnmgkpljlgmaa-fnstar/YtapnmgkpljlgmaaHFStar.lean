/- FnStar: for every input the law returns true, and its arguments read behind the call as they read before. No condition on the input. -/
import Derived.Test.YtapnmgkpljlgmaaHMSr
import Derived.Test.YtapnmgkpljlgmaaG19
set_option linter.unusedVariables false
set_option linter.unusedSimpArgs false
namespace Go.Proofs.Ytapnmgkpljlgmaa
open Go.ChangeShapes Go.WideShapes Go.ChangeAt Go.RowKit
set_option maxRecDepth 100000 in
theorem fnStarLifted (os : Os) (started : os.Started) (H : Type) (enc : TypeId × Value → H) :
    ReturnsInHanded {} Try.checked os 26 .any (Rows.fnStarSpec.pre6 enc Try.prog Try.f26 Rows.fnStarRow.domain false) (Rows.fnStarSpec.post enc Try.prog Try.f26 false true false false) := by
  refine returnsInHanded_of_change (C := Try.checked) knob started (by kernel_rfl) Try.func26
    (ChangeSpec.witness6 (enc := enc) (C := Try.checked) false ⟨#[], #[.int .i64 0, .slice none 0 0, .bool false], []⟩ 8 (by kernel_rfl) (by kernel_rfl) (by kernel_rfl) (by kernel_rfl)) ?_
  intro W base args ds gs before hval0 hW hcnd _
  have hval : ∀ (j : Nat) t v, Try.f26.params[j]? = some t → args[j]? = some v → Value.okWide Try.prog W .any base t v := hval0
  have hW' := hW
  obtain ⟨p, q, hA0, hV, rfl, hfz, hnd⟩ := hW
  have hA : DataW.TrodAll enc Try.prog W 0 (fun _ => true) true Try.f26.params.toList args.toList ds p := hA0
  rw [Try.params26] at hA hval
  obtain ⟨v0, vs0, d0, ds0, p0, q0, hargs, rfl, rfl, h0, r0⟩ := trodAll_cons hA
  obtain ⟨v1, vs1, d1, ds1, p1, q1, rfl, rfl, rfl, h1, r1⟩ := trodAll_cons r0
  obtain ⟨v2, vs2, d2, ds2, p2, q2, rfl, rfl, rfl, h2, r2⟩ := trodAll_cons r1
  obtain ⟨rfl, rfl, rfl⟩ := trodAll_nil r2
  obtain rfl : args = #[v0, v1, v2] := by cases args; simp_all
  obtain ⟨rfl, rfl⟩ := trodVars_none hV
  obtain ⟨a0, rfl, rfl, rfl, w0⟩ := open_int Try.underlying3 (hval 0 3 v0 rfl rfl) h0
  obtain ⟨A1, n1, c1, g1, rfl, hn1, hg1, hR1⟩ := open_slc (by omega) Try.underlying52 (by kernel_rfl) (elem_int Try.underlying3) h1 (okWide_slice Try.underlying52 (hval 1 52 v1 rfl rfl))
  obtain ⟨l1, hl1⟩ := list1 hg1 n1
  rw [hl1] at hR1
  obtain ⟨a2, rfl, rfl, rfl⟩ := open_bool Try.underlying4 (hval 2 4 v2 rfl rfl) h2
  clear hA0 hval0
  refine (FnStar_c hR1 hn1 (slc_cap Try.underlying52 h1)).mono fun e W' k => ?_
  obtain ⟨rfl, hF⟩ := k
  exact ⟨_, rfl, post_new (pa := [] ++ (p1 ++ ([] ++ ([])))) (pv := []) hW' (fun _ _ _ => trodAll_cons_mk (shut_bool Try.underlying4 _) trodAll_mk0) (fun sp hs => (trodAll_cons_mk (shut_int Try.underlying3 w0) (trodAll_cons_mk (slice_up Try.underlying52 flat_intT (pos_of (by kernel_rfl : Try.prog.cellsOf 3 = 1)) hF.below h1 sp fun x hx => hs x (by simp [hx])) (trodAll_cons_mk (shut_bool Try.underlying4 _) trodAll_mk0)))) (fun _ _ => rfl) (by simp) hF.below (ok_one (by kernel_rfl) rfl (okWide_bool_mk Try.underlying4 _))⟩
theorem fnStarNm : Try.pinned.checked.prog.funcNamed Rows.fnStarRow.func = some 26 := by kernel_rfl
theorem fnStarJf : joinedFacts Try.pinned.checked.prog 26 Try.f26 Rows.fnStarSpec Rows.fnStarRow = true :=
  joined_of (by kernel_rfl) (by kernel_rfl) (by kernel_rfl) (by kernel_rfl) (by kernel_rfl) (by kernel_rfl) (by kernel_rfl) (by kernel_rfl) (by kernel_rfl) (by kernel_rfl) (by kernel_rfl) (by kernel_rfl) (by kernel_rfl) (by kernel_rfl) (by kernel_rfl) (by kernel_rfl) (by kernel_rfl) (by kernel_rfl) (by kernel_rfl) (by kernel_rfl) (by kernel_rfl) (by kernel_rfl) (by kernel_rfl) (by kernel_rfl) (by kernel_rfl) (by kernel_rfl) (by kernel_rfl) (by kernel_rfl) (by kernel_rfl) may_enter lifts_final make_cut rfl rfl
theorem fnStarIn : Try.f26.isInstance Try.pinned.checked.prog Rows.fnStarRow.origin Rows.fnStarRow.targs := of_decide_eq_true (by kernel_rfl)
theorem fnStarWr : Try.f26.isWrapper Try.pinned.checked.prog Rows.fnStarRow.wrapper Rows.fnStarRow.mainSum := by unfold Func.isWrapper; first | (rw [if_pos (by decide +kernel)]; kernel_rfl) | (rw [if_neg (by decide +kernel)]; exact ⟨rfl, rfl⟩)
theorem fnStarOver : Rows.fnStarRow.holds Try.pinned (OpenSpec.ofChange Rows.fnStarSpec) :=
  OpenClaim.holds_of_wide 26 Try.f26 rfl rfl rfl rfl rfl rfl rfl ⟨rfl, rfl, rfl, rfl, rfl⟩ rfl rfl rfl rfl rfl fnStarNm Try.func26 fnStarJf fnStarIn fnStarWr
    (fun os started H enc _ => fnStarLifted os started H enc)
/-- The statement. -/
theorem fnStarProved : Rows.FnStarSaid := fnStarOver
#print axioms fnStarProved
end Go.Proofs.Ytapnmgkpljlgmaa
