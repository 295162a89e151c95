/- FnRing: for every input the law returns true, and its arguments read behind the call as they read before. No condition on the input. -/
import Derived.Test.YtapnmgkpljlgmaaHMRi
import Derived.Test.YtapnmgkpljlgmaaG19
set_option linter.unusedVariables false
set_option linter.unusedSimpArgs false
namespace Go.Proofs.Ytapnmgkpljlgmaa
open Go.ChangeShapes Go.WideShapes Go.ChangeAt Go.RowKit
set_option maxRecDepth 100000 in
theorem fnRingLifted (os : Os) (started : os.Started) (H : Type) (enc : TypeId × Value → H) :
    ReturnsInHanded {} Try.checked os 22 .any (Rows.fnRingSpec.pre6 enc Try.prog Try.f22 Rows.fnRingRow.domain false) (Rows.fnRingSpec.post enc Try.prog Try.f22 false true false false) := by
  refine returnsInHanded_of_change (C := Try.checked) knob started (by kernel_rfl) Try.func22
    (ChangeSpec.witness6 (enc := enc) (C := Try.checked) false ⟨#[], #[.int .i64 0, .slice none 0 0, .int .i64 0], []⟩ 8 (by kernel_rfl) (by kernel_rfl) (by kernel_rfl) (by kernel_rfl)) ?_
  intro W base args ds gs before hval0 hW hcnd _
  have hval : ∀ (j : Nat) t v, Try.f22.params[j]? = some t → args[j]? = some v → Value.okWide Try.prog W .any base t v := hval0
  have hW' := hW
  obtain ⟨p, q, hA0, hV, rfl, hfz, hnd⟩ := hW
  have hA : DataW.TrodAll enc Try.prog W 0 (fun _ => true) true Try.f22.params.toList args.toList ds p := hA0
  rw [Try.params22] at hA hval
  obtain ⟨v0, vs0, d0, ds0, p0, q0, hargs, rfl, rfl, h0, r0⟩ := trodAll_cons hA
  obtain ⟨v1, vs1, d1, ds1, p1, q1, rfl, rfl, rfl, h1, r1⟩ := trodAll_cons r0
  obtain ⟨v2, vs2, d2, ds2, p2, q2, rfl, rfl, rfl, h2, r2⟩ := trodAll_cons r1
  obtain ⟨rfl, rfl, rfl⟩ := trodAll_nil r2
  obtain rfl : args = #[v0, v1, v2] := by cases args; simp_all
  obtain ⟨rfl, rfl⟩ := trodVars_none hV
  obtain ⟨a0, rfl, rfl, rfl, w0⟩ := open_int Try.underlying3 (hval 0 3 v0 rfl rfl) h0
  obtain ⟨A1, n1, c1, g1, rfl, hn1, hg1, hR1⟩ := open_slc (by omega) Try.underlying52 (by kernel_rfl) (elem_int Try.underlying3) h1 (okWide_slice Try.underlying52 (hval 1 52 v1 rfl rfl))
  obtain ⟨l1, hl1⟩ := list1 hg1 n1
  rw [hl1] at hR1
  obtain ⟨a2, rfl, rfl, rfl, w2⟩ := open_int Try.underlying3 (hval 2 3 v2 rfl rfl) h2
  clear hA0 hval0
  refine (FnRing_c hR1 hn1 (slc_cap Try.underlying52 h1)).mono fun e W' k => ?_
  obtain ⟨rfl, hF⟩ := k
  exact ⟨_, rfl, post_new (pa := [] ++ (p1 ++ ([] ++ ([])))) (pv := []) hW' (fun _ _ _ => trodAll_cons_mk (shut_bool Try.underlying4 _) trodAll_mk0) (fun sp hs => (trodAll_cons_mk (shut_int Try.underlying3 w0) (trodAll_cons_mk (slice_up Try.underlying52 flat_intT (pos_of (by kernel_rfl : Try.prog.cellsOf 3 = 1)) hF.below h1 sp fun x hx => hs x (by simp [hx])) (trodAll_cons_mk (shut_int Try.underlying3 w2) trodAll_mk0)))) (fun _ _ => rfl) (by simp) hF.below (ok_one (by kernel_rfl) rfl (okWide_bool_mk Try.underlying4 _))⟩
theorem fnRingNm : Try.pinned.checked.prog.funcNamed Rows.fnRingRow.func = some 22 := by kernel_rfl
theorem fnRingJf : joinedFacts Try.pinned.checked.prog 22 Try.f22 Rows.fnRingSpec Rows.fnRingRow = true :=
  joined_of (by kernel_rfl) (by kernel_rfl) (by kernel_rfl) (by kernel_rfl) (by kernel_rfl) (by kernel_rfl) (by kernel_rfl) (by kernel_rfl) (by kernel_rfl) (by kernel_rfl) (by kernel_rfl) (by kernel_rfl) (by kernel_rfl) (by kernel_rfl) (by kernel_rfl) (by kernel_rfl) (by kernel_rfl) (by kernel_rfl) (by kernel_rfl) (by kernel_rfl) (by kernel_rfl) (by kernel_rfl) (by kernel_rfl) (by kernel_rfl) (by kernel_rfl) (by kernel_rfl) (by kernel_rfl) (by kernel_rfl) (by kernel_rfl) may_enter lifts_final make_cut rfl rfl
theorem fnRingIn : Try.f22.isInstance Try.pinned.checked.prog Rows.fnRingRow.origin Rows.fnRingRow.targs := of_decide_eq_true (by kernel_rfl)
theorem fnRingWr : Try.f22.isWrapper Try.pinned.checked.prog Rows.fnRingRow.wrapper Rows.fnRingRow.mainSum := by unfold Func.isWrapper; first | (rw [if_pos (by decide +kernel)]; kernel_rfl) | (rw [if_neg (by decide +kernel)]; exact ⟨rfl, rfl⟩)
theorem fnRingOver : Rows.fnRingRow.holds Try.pinned (OpenSpec.ofChange Rows.fnRingSpec) :=
  OpenClaim.holds_of_wide 22 Try.f22 rfl rfl rfl rfl rfl rfl rfl ⟨rfl, rfl, rfl, rfl, rfl⟩ rfl rfl rfl rfl rfl fnRingNm Try.func22 fnRingJf fnRingIn fnRingWr
    (fun os started H enc _ => fnRingLifted os started H enc)
/-- The statement. -/
theorem fnRingProved : Rows.FnRingSaid := fnRingOver
#print axioms fnRingProved
end Go.Proofs.Ytapnmgkpljlgmaa
