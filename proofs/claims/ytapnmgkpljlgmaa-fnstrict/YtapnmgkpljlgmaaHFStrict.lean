/- FnStrict: for every input the law returns true, and its arguments read behind the call as they read before. No condition on the input. -/
import Derived.Test.YtapnmgkpljlgmaaHMSt
import Derived.Test.YtapnmgkpljlgmaaG19
set_option linter.unusedVariables false
set_option linter.unusedSimpArgs false
namespace Go.Proofs.Ytapnmgkpljlgmaa
open Go.ChangeShapes Go.WideShapes Go.ChangeAt Go.RowKit
set_option maxRecDepth 100000 in
theorem fnStrictLifted (os : Os) (started : os.Started) (H : Type) (enc : TypeId × Value → H) :
    ReturnsInHanded {} Try.checked os 27 .any (Rows.fnStrictSpec.pre6 enc Try.prog Try.f27 Rows.fnStrictRow.domain false) (Rows.fnStrictSpec.post enc Try.prog Try.f27 false true false false) := by
  refine returnsInHanded_of_change (C := Try.checked) knob started (by kernel_rfl) Try.func27
    (ChangeSpec.witness6 (enc := enc) (C := Try.checked) false ⟨#[], #[.int .i64 0, .int .i64 0, .int .i64 0, .slice none 0 0], []⟩ 8 (by kernel_rfl) (by kernel_rfl) (by kernel_rfl) (by kernel_rfl)) ?_
  intro W base args ds gs before hval0 hW hcnd _
  have hval : ∀ (j : Nat) t v, Try.f27.params[j]? = some t → args[j]? = some v → Value.okWide Try.prog W .any base t v := hval0
  have hW' := hW
  obtain ⟨p, q, hA0, hV, rfl, hfz, hnd⟩ := hW
  have hA : DataW.TrodAll enc Try.prog W 0 (fun _ => true) true Try.f27.params.toList args.toList ds p := hA0
  rw [Try.params27] at hA hval
  obtain ⟨v0, vs0, d0, ds0, p0, q0, hargs, rfl, rfl, h0, r0⟩ := trodAll_cons hA
  obtain ⟨v1, vs1, d1, ds1, p1, q1, rfl, rfl, rfl, h1, r1⟩ := trodAll_cons r0
  obtain ⟨v2, vs2, d2, ds2, p2, q2, rfl, rfl, rfl, h2, r2⟩ := trodAll_cons r1
  obtain ⟨v3, vs3, d3, ds3, p3, q3, rfl, rfl, rfl, h3, r3⟩ := trodAll_cons r2
  obtain ⟨rfl, rfl, rfl⟩ := trodAll_nil r3
  obtain rfl : args = #[v0, v1, v2, v3] := by cases args; simp_all
  obtain ⟨rfl, rfl⟩ := trodVars_none hV
  obtain ⟨a0, rfl, rfl, rfl, w0⟩ := open_int Try.underlying3 (hval 0 3 v0 rfl rfl) h0
  obtain ⟨a1, rfl, rfl, rfl, w1⟩ := open_int Try.underlying3 (hval 1 3 v1 rfl rfl) h1
  obtain ⟨a2, rfl, rfl, rfl, w2⟩ := open_int Try.underlying3 (hval 2 3 v2 rfl rfl) h2
  obtain ⟨A3, n3, c3, g3, rfl, hn3, hg3, hR3⟩ := open_slc (by omega) Try.underlying34 (by kernel_rfl) elem_istep h3 (okWide_slice Try.underlying34 (hval 3 34 v3 rfl rfl))
  obtain ⟨l3, hl3⟩ := list3 hg3 n3
  rw [hl3] at hR3
  clear hA0 hval0
  refine (FnStrict_c hR3 hn3).mono fun e W' k => ?_
  obtain ⟨rfl, hF⟩ := k
  exact ⟨_, rfl, post_new (pa := [] ++ ([] ++ ([] ++ (p3 ++ ([]))))) (pv := []) hW' (fun _ _ _ => trodAll_cons_mk (shut_bool Try.underlying4 _) trodAll_mk0) (fun sp hs => (trodAll_cons_mk (shut_int Try.underlying3 w0) (trodAll_cons_mk (shut_int Try.underlying3 w1) (trodAll_cons_mk (shut_int Try.underlying3 w2) (trodAll_cons_mk (slice_up Try.underlying34 flat_step (pos_of (by kernel_rfl : Try.prog.cellsOf 47 = 3)) hF.below h3 sp fun x hx => hs x (by simp [hx])) trodAll_mk0))))) (fun _ _ => rfl) (by simp) hF.below (ok_one (by kernel_rfl) rfl (okWide_bool_mk Try.underlying4 _))⟩
theorem fnStrictNm : Try.pinned.checked.prog.funcNamed Rows.fnStrictRow.func = some 27 := by kernel_rfl
theorem fnStrictJf : joinedFacts Try.pinned.checked.prog 27 Try.f27 Rows.fnStrictSpec Rows.fnStrictRow = true :=
  joined_of (by kernel_rfl) (by kernel_rfl) (by kernel_rfl) (by kernel_rfl) (by kernel_rfl) (by kernel_rfl) (by kernel_rfl) (by kernel_rfl) (by kernel_rfl) (by kernel_rfl) (by kernel_rfl) (by kernel_rfl) (by kernel_rfl) (by kernel_rfl) (by kernel_rfl) (by kernel_rfl) (by kernel_rfl) (by kernel_rfl) (by kernel_rfl) (by kernel_rfl) (by kernel_rfl) (by kernel_rfl) (by kernel_rfl) (by kernel_rfl) (by kernel_rfl) (by kernel_rfl) (by kernel_rfl) (by kernel_rfl) (by kernel_rfl) may_enter lifts_final make_cut rfl rfl
theorem fnStrictIn : Try.f27.isInstance Try.pinned.checked.prog Rows.fnStrictRow.origin Rows.fnStrictRow.targs := of_decide_eq_true (by kernel_rfl)
theorem fnStrictWr : Try.f27.isWrapper Try.pinned.checked.prog Rows.fnStrictRow.wrapper Rows.fnStrictRow.mainSum := by unfold Func.isWrapper; first | (rw [if_pos (by decide +kernel)]; kernel_rfl) | (rw [if_neg (by decide +kernel)]; exact ⟨rfl, rfl⟩)
theorem fnStrictOver : Rows.fnStrictRow.holds Try.pinned (OpenSpec.ofChange Rows.fnStrictSpec) :=
  OpenClaim.holds_of_wide 27 Try.f27 rfl rfl rfl rfl rfl rfl rfl ⟨rfl, rfl, rfl, rfl, rfl⟩ rfl rfl rfl rfl rfl fnStrictNm Try.func27 fnStrictJf fnStrictIn fnStrictWr
    (fun os started H enc _ => fnStrictLifted os started H enc)
/-- The statement. -/
theorem fnStrictProved : Rows.FnStrictSaid := fnStrictOver
#print axioms fnStrictProved
end Go.Proofs.Ytapnmgkpljlgmaa
