/- FnStrictly: for every input the law returns true, and its arguments read behind the call as they read before. No condition on the input. -/
import Derived.Test.YtapnmgkpljlgmaaHMSy
import Derived.Test.YtapnmgkpljlgmaaG19
set_option linter.unusedVariables false
set_option linter.unusedSimpArgs false
namespace Go.Proofs.Ytapnmgkpljlgmaa
open Go.ChangeShapes Go.WideShapes Go.ChangeAt Go.RowKit
set_option maxRecDepth 100000 in
theorem fnStrictlyLifted (os : Os) (started : os.Started) (H : Type) (enc : TypeId × Value → H) :
    ReturnsInHanded {} Try.checked os 28 .any (Rows.fnStrictlySpec.pre6 enc Try.prog Try.f28 Rows.fnStrictlyRow.domain false) (Rows.fnStrictlySpec.post enc Try.prog Try.f28 false true false false) := by
  refine returnsInHanded_of_change (C := Try.checked) knob started (by kernel_rfl) Try.func28
    (ChangeSpec.witness6 (enc := enc) (C := Try.checked) false ⟨#[], #[.int .i64 0, .slice none 0 0, .int .i64 0, .int .i64 0], []⟩ 8 (by kernel_rfl) (by kernel_rfl) (by kernel_rfl) (by kernel_rfl)) ?_
  intro W base args ds gs before hval0 hW hcnd _
  have hval : ∀ (j : Nat) t v, Try.f28.params[j]? = some t → args[j]? = some v → Value.okWide Try.prog W .any base t v := hval0
  have hW' := hW
  obtain ⟨p, q, hA0, hV, rfl, hfz, hnd⟩ := hW
  have hA : DataW.TrodAll enc Try.prog W 0 (fun _ => true) true Try.f28.params.toList args.toList ds p := hA0
  rw [Try.params28] at hA hval
  obtain ⟨v0, vs0, d0, ds0, p0, q0, hargs, rfl, rfl, h0, r0⟩ := trodAll_cons hA
  obtain ⟨v1, vs1, d1, ds1, p1, q1, rfl, rfl, rfl, h1, r1⟩ := trodAll_cons r0
  obtain ⟨v2, vs2, d2, ds2, p2, q2, rfl, rfl, rfl, h2, r2⟩ := trodAll_cons r1
  obtain ⟨v3, vs3, d3, ds3, p3, q3, rfl, rfl, rfl, h3, r3⟩ := trodAll_cons r2
  obtain ⟨rfl, rfl, rfl⟩ := trodAll_nil r3
  obtain rfl : args = #[v0, v1, v2, v3] := by cases args; simp_all
  obtain ⟨rfl, rfl⟩ := trodVars_none hV
  obtain ⟨a0, rfl, rfl, rfl, w0⟩ := open_int Try.underlying3 (hval 0 3 v0 rfl rfl) h0
  obtain ⟨A1, n1, c1, g1, rfl, hn1, hg1, hR1⟩ := open_slc (by omega) Try.underlying34 (by kernel_rfl) elem_istep h1 (okWide_slice Try.underlying34 (hval 1 34 v1 rfl rfl))
  obtain ⟨l1, hl1⟩ := list3 hg1 n1
  rw [hl1] at hR1
  obtain ⟨a2, rfl, rfl, rfl, w2⟩ := open_int Try.underlying3 (hval 2 3 v2 rfl rfl) h2
  obtain ⟨a3, rfl, rfl, rfl, w3⟩ := open_int Try.underlying3 (hval 3 3 v3 rfl rfl) h3
  clear hA0 hval0
  refine (FnStrictly_c hR1 hn1).mono fun e W' k => ?_
  obtain ⟨rfl, hF⟩ := k
  exact ⟨_, rfl, post_new (pa := [] ++ (p1 ++ ([] ++ ([] ++ ([]))))) (pv := []) hW' (fun _ _ _ => trodAll_cons_mk (shut_bool Try.underlying4 _) trodAll_mk0) (fun sp hs => (trodAll_cons_mk (shut_int Try.underlying3 w0) (trodAll_cons_mk (slice_up Try.underlying34 flat_step (pos_of (by kernel_rfl : Try.prog.cellsOf 47 = 3)) hF.below h1 sp fun x hx => hs x (by simp [hx])) (trodAll_cons_mk (shut_int Try.underlying3 w2) (trodAll_cons_mk (shut_int Try.underlying3 w3) trodAll_mk0))))) (fun _ _ => rfl) (by simp) hF.below (ok_one (by kernel_rfl) rfl (okWide_bool_mk Try.underlying4 _))⟩
theorem fnStrictlyNm : Try.pinned.checked.prog.funcNamed Rows.fnStrictlyRow.func = some 28 := by kernel_rfl
theorem fnStrictlyJf : joinedFacts Try.pinned.checked.prog 28 Try.f28 Rows.fnStrictlySpec Rows.fnStrictlyRow = true :=
  joined_of (by kernel_rfl) (by kernel_rfl) (by kernel_rfl) (by kernel_rfl) (by kernel_rfl) (by kernel_rfl) (by kernel_rfl) (by kernel_rfl) (by kernel_rfl) (by kernel_rfl) (by kernel_rfl) (by kernel_rfl) (by kernel_rfl) (by kernel_rfl) (by kernel_rfl) (by kernel_rfl) (by kernel_rfl) (by kernel_rfl) (by kernel_rfl) (by kernel_rfl) (by kernel_rfl) (by kernel_rfl) (by kernel_rfl) (by kernel_rfl) (by kernel_rfl) (by kernel_rfl) (by kernel_rfl) (by kernel_rfl) (by kernel_rfl) may_enter lifts_final make_cut rfl rfl
theorem fnStrictlyIn : Try.f28.isInstance Try.pinned.checked.prog Rows.fnStrictlyRow.origin Rows.fnStrictlyRow.targs := of_decide_eq_true (by kernel_rfl)
theorem fnStrictlyWr : Try.f28.isWrapper Try.pinned.checked.prog Rows.fnStrictlyRow.wrapper Rows.fnStrictlyRow.mainSum := by unfold Func.isWrapper; first | (rw [if_pos (by decide +kernel)]; kernel_rfl) | (rw [if_neg (by decide +kernel)]; exact ⟨rfl, rfl⟩)
theorem fnStrictlyOver : Rows.fnStrictlyRow.holds Try.pinned (OpenSpec.ofChange Rows.fnStrictlySpec) :=
  OpenClaim.holds_of_wide 28 Try.f28 rfl rfl rfl rfl rfl rfl rfl ⟨rfl, rfl, rfl, rfl, rfl⟩ rfl rfl rfl rfl rfl fnStrictlyNm Try.func28 fnStrictlyJf fnStrictlyIn fnStrictlyWr
    (fun os started H enc _ => fnStrictlyLifted os started H enc)
/-- The statement. -/
theorem fnStrictlyProved : Rows.FnStrictlySaid := fnStrictlyOver
#print axioms fnStrictlyProved
end Go.Proofs.Ytapnmgkpljlgmaa
