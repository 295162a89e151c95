/- Ordered, OrderedOrEqual, Equal, NonEqual. -/
import Derived.Test.YtapnmgkpljlgmaaG06
set_option linter.unusedVariables false
set_option linter.unusedSimpArgs false
namespace Go.Proofs.Ytapnmgkpljlgmaa
open Go.RowKit

def PS.both (S : PS) (x y : Nat) : Bool := S.vl x != 0 && S.vl y != 0
noncomputable def PS.qOrd (S : PS) (x y : Nat) : Bool := S.both x y && (S.vl x != S.vl y && reachB S.nd (S.vl x) (S.vl y) true)
noncomputable def PS.qLe (S : PS) (x y : Nat) : Bool := S.both x y && (S.vl x == S.vl y || reachB S.nd (S.vl x) (S.vl y) false)
def PS.qEq (S : PS) (x y : Nat) : Bool := S.both x y && S.vl x == S.vl y
noncomputable def PS.qNe (S : PS) (x y : Nat) : Bool := S.both x y && (S.ne (S.vl x) (S.vl y) || (S.qOrd x y || S.qOrd y x))
theorem both_x {S : PS} {x y : Nat} (h : S.vl x = 0) : S.both x y = false := by simp [PS.both, h]
theorem both_y {S : PS} {x y : Nat} (h : S.vl y = 0) : S.both x y = false := by simp [PS.both, h]
theorem both_t {S : PS} {x y : Nat} (hx : S.vl x ≠ 0) (hy : S.vl y ≠ 0) : S.both x y = true := by simp [PS.both, hx, hy]
theorem neq_false {a b : Nat} (h : a = b) : ((a : Int) != (b : Int)) = false := by subst h; simp
theorem neq_true {a b : Nat} (h : a ≠ b) : ((a : Int) != (b : Int)) = true := by simp; omega
theorem eqq_true {a b : Nat} (h : a = b) : ((a : Int) == (b : Int)) = true := by subst h; simp
theorem eqq_false {a b : Nat} (h : a ≠ b) : ((a : Int) == (b : Int)) = false := by rw [beq_eq_false_iff_ne]; omega

set_option maxRecDepth 3000 in
set_option maxHeartbeats 1000000 in
theorem Ordered_c {w : World} {p : Nat} {S : PS} {L : Lay} (h : Rep w p S L) (wf : WF1 S) {a1 a2 x y : Nat} (h1 : IsV w L a1 x) (h2 : IsV w L a2 y) (hxy : x ≠ y) :
    Calls Try.prog 94 #[.pointer (some ⟨p, 0, none⟩), .pointer (some ⟨a1, 0, none⟩), .pointer (some ⟨a2, 0, none⟩)] w (Look w (.bool (S.qOrd x y))) := by
  have hc1 := h1.cell
  have hc2 := h2.cell
  have hid := eqq_false hxy
  have H0 := Lib.hid (And.intro h (And.intro wf (And.intro h1 (And.intro h2 hxy))))
  clear h wf h1 h2 hxy
  by_cases hx : S.vl x = 0
  · have HX := Lib.hid hx
    clear hx
    by_cases hy : S.vl y = 0
    · have HY := Lib.hid hy
      clear hy
      go_enter Try.func94, Try.ntmps94
      go_wp2
      go_quiet (fail)
      have F1 := Lib.hid (Fr.drewN w nq Nix)
      have H1 := Lib.hid (And.intro (H0.out.1.nix F1.out) (Ext.nix (L := L) F1.out))
      generalize w.drewN nq = w1 at *
      clear hc1 hc2
      go_wp2_with fail
      refine (lookup_none H1.out.1 (H0.out.2.2.1.ext H1.out.2) HX.out).mono ?_
      rintro e w2 ⟨rfl, hF⟩
      have H2 := Lib.hid (And.intro (H1.out.1.nix hF) (H1.out.2.trans (Ext.nix (L := L) hF)))
      have F2 := Lib.hid (F1.out.trans hF fun _ e => .inl e)
      clear hF
      go_wp2_with fail
      refine (lookup_none H2.out.1 (H0.out.2.2.2.1.ext H2.out.2) HY.out).mono ?_
      rintro e w3 ⟨rfl, hF⟩
      have H3 := Lib.hid (And.intro (H2.out.1.nix hF) (H2.out.2.trans (Ext.nix (L := L) hF)))
      have F3 := Lib.hid (F2.out.trans hF fun _ e => .inl e)
      clear hF
      go_wp2
      go_ret
      exact ⟨ret_bool (by simp [PS.qOrd, both_x HX.out]), F3.out⟩
    · have HY := Lib.hid hy
      clear hy
      go_enter Try.func94, Try.ntmps94
      go_wp2
      go_quiet (fail)
      have F1 := Lib.hid (Fr.drewN w nq Nix)
      have H1 := Lib.hid (And.intro (H0.out.1.nix F1.out) (Ext.nix (L := L) F1.out))
      generalize w.drewN nq = w1 at *
      clear hc1 hc2
      go_wp2_with fail
      refine (lookup_none H1.out.1 (H0.out.2.2.1.ext H1.out.2) HX.out).mono ?_
      rintro e w2 ⟨rfl, hF⟩
      have H2 := Lib.hid (And.intro (H1.out.1.nix hF) (H1.out.2.trans (Ext.nix (L := L) hF)))
      have F2 := Lib.hid (F1.out.trans hF fun _ e => .inl e)
      clear hF
      go_wp2_with fail
      refine (lookup_some H2.out.1 (H0.out.2.2.2.1.ext H2.out.2) rfl HY.out).mono ?_
      rintro e w3 ⟨rfl, hF⟩
      have H3 := Lib.hid (And.intro (H2.out.1.nix hF) (H2.out.2.trans (Ext.nix (L := L) hF)))
      have F3 := Lib.hid (F2.out.trans hF fun _ e => .inl e)
      clear hF
      go_wp2
      go_ret
      exact ⟨ret_bool (by simp [PS.qOrd, both_x HX.out]), F3.out⟩
  · have HX := Lib.hid hx
    clear hx
    by_cases hy : S.vl y = 0
    · have HY := Lib.hid hy
      clear hy
      go_enter Try.func94, Try.ntmps94
      go_wp2
      go_quiet (fail)
      have F1 := Lib.hid (Fr.drewN w nq Nix)
      have H1 := Lib.hid (And.intro (H0.out.1.nix F1.out) (Ext.nix (L := L) F1.out))
      generalize w.drewN nq = w1 at *
      clear hc1 hc2
      go_wp2_with fail
      refine (lookup_some H1.out.1 (H0.out.2.2.1.ext H1.out.2) rfl HX.out).mono ?_
      rintro e w2 ⟨rfl, hF⟩
      have H2 := Lib.hid (And.intro (H1.out.1.nix hF) (H1.out.2.trans (Ext.nix (L := L) hF)))
      have F2 := Lib.hid (F1.out.trans hF fun _ e => .inl e)
      clear hF
      go_wp2_with fail
      refine (lookup_none H2.out.1 (H0.out.2.2.2.1.ext H2.out.2) HY.out).mono ?_
      rintro e w3 ⟨rfl, hF⟩
      have H3 := Lib.hid (And.intro (H2.out.1.nix hF) (H2.out.2.trans (Ext.nix (L := L) hF)))
      have F3 := Lib.hid (F2.out.trans hF fun _ e => .inl e)
      clear hF
      go_wp2
      go_ret
      exact ⟨ret_bool (by simp [PS.qOrd, both_y HY.out]), F3.out⟩
    · have HY := Lib.hid hy
      clear hy
      by_cases he : S.vl x = S.vl y
      · have hb := neq_false he
        have HE := Lib.hid he
        clear he
        go_enter Try.func94, Try.ntmps94
        go_wp2
        go_quiet (fail)
        have F1 := Lib.hid (Fr.drewN w nq Nix)
        have H1 := Lib.hid (And.intro (H0.out.1.nix F1.out) (Ext.nix (L := L) F1.out))
        generalize w.drewN nq = w1 at *
        clear hc1 hc2
        go_wp2_with fail
        refine (lookup_some H1.out.1 (H0.out.2.2.1.ext H1.out.2) rfl HX.out).mono ?_
        rintro e w2 ⟨rfl, hF⟩
        have H2 := Lib.hid (And.intro (H1.out.1.nix hF) (H1.out.2.trans (Ext.nix (L := L) hF)))
        have F2 := Lib.hid (F1.out.trans hF fun _ e => .inl e)
        clear hF
        go_wp2_with fail
        refine (lookup_some H2.out.1 (H0.out.2.2.2.1.ext H2.out.2) rfl HY.out).mono ?_
        rintro e w3 ⟨rfl, hF⟩
        have H3 := Lib.hid (And.intro (H2.out.1.nix hF) (H2.out.2.trans (Ext.nix (L := L) hF)))
        have F3 := Lib.hid (F2.out.trans hF fun _ e => .inl e)
        clear hF
        go_wp2
        go_ret
        exact ⟨ret_bool (by simp [PS.qOrd, HE.out]), F3.out⟩
      · have hb := neq_true he
        have HE := Lib.hid he
        clear he
        obtain ⟨t, ht⟩ : ∃ t, reachB S.nd (S.vl x) (S.vl y) true = t := ⟨_, rfl⟩
        have HT := Lib.hid ht
        clear ht
        go_enter Try.func94, Try.ntmps94
        go_wp2
        go_quiet (fail)
        have F1 := Lib.hid (Fr.drewN w nq Nix)
        have H1 := Lib.hid (And.intro (H0.out.1.nix F1.out) (Ext.nix (L := L) F1.out))
        generalize w.drewN nq = w1 at *
        clear hc1 hc2
        go_wp2_with fail
        refine (lookup_some H1.out.1 (H0.out.2.2.1.ext H1.out.2) rfl HX.out).mono ?_
        rintro e w2 ⟨rfl, hF⟩
        have H2 := Lib.hid (And.intro (H1.out.1.nix hF) (H1.out.2.trans (Ext.nix (L := L) hF)))
        have F2 := Lib.hid (F1.out.trans hF fun _ e => .inl e)
        clear hF
        go_wp2_with fail
        refine (lookup_some H2.out.1 (H0.out.2.2.2.1.ext H2.out.2) rfl HY.out).mono ?_
        rintro e w3 ⟨rfl, hF⟩
        have H3 := Lib.hid (And.intro (H2.out.1.nix hF) (H2.out.2.trans (Ext.nix (L := L) hF)))
        have F3 := Lib.hid (F2.out.trans hF fun _ e => .inl e)
        clear hF
        go_wp2_with fail
        have hre := reaches_c H3.out.1 H0.out.2.1.toWF0 (S.vl x) (S.vl y) true (H0.out.2.1.va x)
        rw [HT.out] at hre
        refine hre.mono ?_
        clear hre
        rintro e w4 ⟨rfl, hF⟩
        have F4 := Lib.hid (F3.out.trans hF fun _ e => .inl e)
        clear hF
        go_wp2
        go_ret
        exact ⟨ret_bool (by simp [PS.qOrd, HE.out, both_t HX.out HY.out, HT.out]), F4.out⟩

set_option maxRecDepth 3000 in
set_option maxHeartbeats 1000000 in
theorem OrderedOrEqual_c {w : World} {p : Nat} {S : PS} {L : Lay} (h : Rep w p S L) (wf : WF1 S) {a1 a2 x y : Nat} (h1 : IsV w L a1 x) (h2 : IsV w L a2 y) (hxy : x ≠ y) :
    Calls Try.prog 96 #[.pointer (some ⟨p, 0, none⟩), .pointer (some ⟨a1, 0, none⟩), .pointer (some ⟨a2, 0, none⟩)] w (Look w (.bool (S.qLe x y))) := by
  have hc1 := h1.cell
  have hc2 := h2.cell
  have hid := eqq_false hxy
  have H0 := Lib.hid (And.intro h (And.intro wf (And.intro h1 (And.intro h2 hxy))))
  clear h wf h1 h2 hxy
  by_cases hx : S.vl x = 0
  · have HX := Lib.hid hx
    clear hx
    by_cases hy : S.vl y = 0
    · have HY := Lib.hid hy
      clear hy
      go_enter Try.func96, Try.ntmps96
      go_wp2
      go_quiet (fail)
      have F1 := Lib.hid (Fr.drewN w nq Nix)
      have H1 := Lib.hid (And.intro (H0.out.1.nix F1.out) (Ext.nix (L := L) F1.out))
      generalize w.drewN nq = w1 at *
      clear hc1 hc2
      go_wp2_with fail
      refine (lookup_none H1.out.1 (H0.out.2.2.1.ext H1.out.2) HX.out).mono ?_
      rintro e w2 ⟨rfl, hF⟩
      have H2 := Lib.hid (And.intro (H1.out.1.nix hF) (H1.out.2.trans (Ext.nix (L := L) hF)))
      have F2 := Lib.hid (F1.out.trans hF fun _ e => .inl e)
      clear hF
      go_wp2_with fail
      refine (lookup_none H2.out.1 (H0.out.2.2.2.1.ext H2.out.2) HY.out).mono ?_
      rintro e w3 ⟨rfl, hF⟩
      have H3 := Lib.hid (And.intro (H2.out.1.nix hF) (H2.out.2.trans (Ext.nix (L := L) hF)))
      have F3 := Lib.hid (F2.out.trans hF fun _ e => .inl e)
      clear hF
      go_wp2
      go_ret
      exact ⟨ret_bool (by simp [PS.qLe, both_x HX.out]), F3.out⟩
    · have HY := Lib.hid hy
      clear hy
      go_enter Try.func96, Try.ntmps96
      go_wp2
      go_quiet (fail)
      have F1 := Lib.hid (Fr.drewN w nq Nix)
      have H1 := Lib.hid (And.intro (H0.out.1.nix F1.out) (Ext.nix (L := L) F1.out))
      generalize w.drewN nq = w1 at *
      clear hc1 hc2
      go_wp2_with fail
      refine (lookup_none H1.out.1 (H0.out.2.2.1.ext H1.out.2) HX.out).mono ?_
      rintro e w2 ⟨rfl, hF⟩
      have H2 := Lib.hid (And.intro (H1.out.1.nix hF) (H1.out.2.trans (Ext.nix (L := L) hF)))
      have F2 := Lib.hid (F1.out.trans hF fun _ e => .inl e)
      clear hF
      go_wp2_with fail
      refine (lookup_some H2.out.1 (H0.out.2.2.2.1.ext H2.out.2) rfl HY.out).mono ?_
      rintro e w3 ⟨rfl, hF⟩
      have H3 := Lib.hid (And.intro (H2.out.1.nix hF) (H2.out.2.trans (Ext.nix (L := L) hF)))
      have F3 := Lib.hid (F2.out.trans hF fun _ e => .inl e)
      clear hF
      go_wp2
      go_ret
      exact ⟨ret_bool (by simp [PS.qLe, both_x HX.out]), F3.out⟩
  · have HX := Lib.hid hx
    clear hx
    by_cases hy : S.vl y = 0
    · have HY := Lib.hid hy
      clear hy
      go_enter Try.func96, Try.ntmps96
      go_wp2
      go_quiet (fail)
      have F1 := Lib.hid (Fr.drewN w nq Nix)
      have H1 := Lib.hid (And.intro (H0.out.1.nix F1.out) (Ext.nix (L := L) F1.out))
      generalize w.drewN nq = w1 at *
      clear hc1 hc2
      go_wp2_with fail
      refine (lookup_some H1.out.1 (H0.out.2.2.1.ext H1.out.2) rfl HX.out).mono ?_
      rintro e w2 ⟨rfl, hF⟩
      have H2 := Lib.hid (And.intro (H1.out.1.nix hF) (H1.out.2.trans (Ext.nix (L := L) hF)))
      have F2 := Lib.hid (F1.out.trans hF fun _ e => .inl e)
      clear hF
      go_wp2_with fail
      refine (lookup_none H2.out.1 (H0.out.2.2.2.1.ext H2.out.2) HY.out).mono ?_
      rintro e w3 ⟨rfl, hF⟩
      have H3 := Lib.hid (And.intro (H2.out.1.nix hF) (H2.out.2.trans (Ext.nix (L := L) hF)))
      have F3 := Lib.hid (F2.out.trans hF fun _ e => .inl e)
      clear hF
      go_wp2
      go_ret
      exact ⟨ret_bool (by simp [PS.qLe, both_y HY.out]), F3.out⟩
    · have HY := Lib.hid hy
      clear hy
      by_cases he : S.vl x = S.vl y
      · have hb := eqq_true he
        have HE := Lib.hid he
        clear he
        go_enter Try.func96, Try.ntmps96
        go_wp2
        go_quiet (fail)
        have F1 := Lib.hid (Fr.drewN w nq Nix)
        have H1 := Lib.hid (And.intro (H0.out.1.nix F1.out) (Ext.nix (L := L) F1.out))
        generalize w.drewN nq = w1 at *
        clear hc1 hc2
        go_wp2_with fail
        refine (lookup_some H1.out.1 (H0.out.2.2.1.ext H1.out.2) rfl HX.out).mono ?_
        rintro e w2 ⟨rfl, hF⟩
        have H2 := Lib.hid (And.intro (H1.out.1.nix hF) (H1.out.2.trans (Ext.nix (L := L) hF)))
        have F2 := Lib.hid (F1.out.trans hF fun _ e => .inl e)
        clear hF
        go_wp2_with fail
        refine (lookup_some H2.out.1 (H0.out.2.2.2.1.ext H2.out.2) rfl HY.out).mono ?_
        rintro e w3 ⟨rfl, hF⟩
        have H3 := Lib.hid (And.intro (H2.out.1.nix hF) (H2.out.2.trans (Ext.nix (L := L) hF)))
        have F3 := Lib.hid (F2.out.trans hF fun _ e => .inl e)
        clear hF
        go_wp2
        go_ret
        exact ⟨ret_bool (by simp [PS.qLe, HE.out, both_t HX.out HY.out]), F3.out⟩
      · have hb := eqq_false he
        have HE := Lib.hid he
        clear he
        obtain ⟨t, ht⟩ : ∃ t, reachB S.nd (S.vl x) (S.vl y) false = t := ⟨_, rfl⟩
        have HT := Lib.hid ht
        clear ht
        go_enter Try.func96, Try.ntmps96
        go_wp2
        go_quiet (fail)
        have F1 := Lib.hid (Fr.drewN w nq Nix)
        have H1 := Lib.hid (And.intro (H0.out.1.nix F1.out) (Ext.nix (L := L) F1.out))
        generalize w.drewN nq = w1 at *
        clear hc1 hc2
        go_wp2_with fail
        refine (lookup_some H1.out.1 (H0.out.2.2.1.ext H1.out.2) rfl HX.out).mono ?_
        rintro e w2 ⟨rfl, hF⟩
        have H2 := Lib.hid (And.intro (H1.out.1.nix hF) (H1.out.2.trans (Ext.nix (L := L) hF)))
        have F2 := Lib.hid (F1.out.trans hF fun _ e => .inl e)
        clear hF
        go_wp2_with fail
        refine (lookup_some H2.out.1 (H0.out.2.2.2.1.ext H2.out.2) rfl HY.out).mono ?_
        rintro e w3 ⟨rfl, hF⟩
        have H3 := Lib.hid (And.intro (H2.out.1.nix hF) (H2.out.2.trans (Ext.nix (L := L) hF)))
        have F3 := Lib.hid (F2.out.trans hF fun _ e => .inl e)
        clear hF
        go_wp2_with fail
        have hre := reaches_c H3.out.1 H0.out.2.1.toWF0 (S.vl x) (S.vl y) false (H0.out.2.1.va x)
        rw [HT.out] at hre
        refine hre.mono ?_
        clear hre
        rintro e w4 ⟨rfl, hF⟩
        have F4 := Lib.hid (F3.out.trans hF fun _ e => .inl e)
        clear hF
        go_wp2
        go_ret
        exact ⟨ret_bool (by simp [PS.qLe, HE.out, both_t HX.out HY.out, HT.out]), F4.out⟩

set_option maxRecDepth 3000 in
set_option maxHeartbeats 1000000 in
theorem Equal_c {w : World} {p : Nat} {S : PS} {L : Lay} (h : Rep w p S L) (wf : WF1 S) {a1 a2 x y : Nat} (h1 : IsV w L a1 x) (h2 : IsV w L a2 y) (hxy : x ≠ y) :
    Calls Try.prog 92 #[.pointer (some ⟨p, 0, none⟩), .pointer (some ⟨a1, 0, none⟩), .pointer (some ⟨a2, 0, none⟩)] w (Look w (.bool (S.qEq x y))) := by
  have hc1 := h1.cell
  have hc2 := h2.cell
  have hid := eqq_false hxy
  have H0 := Lib.hid (And.intro h (And.intro wf (And.intro h1 (And.intro h2 hxy))))
  clear h wf h1 h2 hxy
  by_cases hx : S.vl x = 0
  · have HX := Lib.hid hx
    clear hx
    by_cases hy : S.vl y = 0
    · have HY := Lib.hid hy
      clear hy
      go_enter Try.func92, Try.ntmps92
      go_wp2
      go_quiet (fail)
      have F1 := Lib.hid (Fr.drewN w nq Nix)
      have H1 := Lib.hid (And.intro (H0.out.1.nix F1.out) (Ext.nix (L := L) F1.out))
      generalize w.drewN nq = w1 at *
      clear hc1 hc2
      go_wp2_with fail
      refine (lookup_none H1.out.1 (H0.out.2.2.1.ext H1.out.2) HX.out).mono ?_
      rintro e w2 ⟨rfl, hF⟩
      have H2 := Lib.hid (And.intro (H1.out.1.nix hF) (H1.out.2.trans (Ext.nix (L := L) hF)))
      have F2 := Lib.hid (F1.out.trans hF fun _ e => .inl e)
      clear hF
      go_wp2_with fail
      refine (lookup_none H2.out.1 (H0.out.2.2.2.1.ext H2.out.2) HY.out).mono ?_
      rintro e w3 ⟨rfl, hF⟩
      have H3 := Lib.hid (And.intro (H2.out.1.nix hF) (H2.out.2.trans (Ext.nix (L := L) hF)))
      have F3 := Lib.hid (F2.out.trans hF fun _ e => .inl e)
      clear hF
      go_wp2
      go_ret
      exact ⟨ret_bool (by simp [PS.qEq, both_x HX.out]), F3.out⟩
    · have HY := Lib.hid hy
      clear hy
      go_enter Try.func92, Try.ntmps92
      go_wp2
      go_quiet (fail)
      have F1 := Lib.hid (Fr.drewN w nq Nix)
      have H1 := Lib.hid (And.intro (H0.out.1.nix F1.out) (Ext.nix (L := L) F1.out))
      generalize w.drewN nq = w1 at *
      clear hc1 hc2
      go_wp2_with fail
      refine (lookup_none H1.out.1 (H0.out.2.2.1.ext H1.out.2) HX.out).mono ?_
      rintro e w2 ⟨rfl, hF⟩
      have H2 := Lib.hid (And.intro (H1.out.1.nix hF) (H1.out.2.trans (Ext.nix (L := L) hF)))
      have F2 := Lib.hid (F1.out.trans hF fun _ e => .inl e)
      clear hF
      go_wp2_with fail
      refine (lookup_some H2.out.1 (H0.out.2.2.2.1.ext H2.out.2) rfl HY.out).mono ?_
      rintro e w3 ⟨rfl, hF⟩
      have H3 := Lib.hid (And.intro (H2.out.1.nix hF) (H2.out.2.trans (Ext.nix (L := L) hF)))
      have F3 := Lib.hid (F2.out.trans hF fun _ e => .inl e)
      clear hF
      go_wp2
      go_ret
      exact ⟨ret_bool (by simp [PS.qEq, both_x HX.out]), F3.out⟩
  · have HX := Lib.hid hx
    clear hx
    by_cases hy : S.vl y = 0
    · have HY := Lib.hid hy
      clear hy
      go_enter Try.func92, Try.ntmps92
      go_wp2
      go_quiet (fail)
      have F1 := Lib.hid (Fr.drewN w nq Nix)
      have H1 := Lib.hid (And.intro (H0.out.1.nix F1.out) (Ext.nix (L := L) F1.out))
      generalize w.drewN nq = w1 at *
      clear hc1 hc2
      go_wp2_with fail
      refine (lookup_some H1.out.1 (H0.out.2.2.1.ext H1.out.2) rfl HX.out).mono ?_
      rintro e w2 ⟨rfl, hF⟩
      have H2 := Lib.hid (And.intro (H1.out.1.nix hF) (H1.out.2.trans (Ext.nix (L := L) hF)))
      have F2 := Lib.hid (F1.out.trans hF fun _ e => .inl e)
      clear hF
      go_wp2_with fail
      refine (lookup_none H2.out.1 (H0.out.2.2.2.1.ext H2.out.2) HY.out).mono ?_
      rintro e w3 ⟨rfl, hF⟩
      have H3 := Lib.hid (And.intro (H2.out.1.nix hF) (H2.out.2.trans (Ext.nix (L := L) hF)))
      have F3 := Lib.hid (F2.out.trans hF fun _ e => .inl e)
      clear hF
      go_wp2
      go_ret
      exact ⟨ret_bool (by simp [PS.qEq, both_y HY.out]), F3.out⟩
    · have HY := Lib.hid hy
      clear hy
      by_cases he : S.vl x = S.vl y
      · have hb := eqq_true he
        have HE := Lib.hid he
        clear he
        go_enter Try.func92, Try.ntmps92
        go_wp2
        go_quiet (fail)
        have F1 := Lib.hid (Fr.drewN w nq Nix)
        have H1 := Lib.hid (And.intro (H0.out.1.nix F1.out) (Ext.nix (L := L) F1.out))
        generalize w.drewN nq = w1 at *
        clear hc1 hc2
        go_wp2_with fail
        refine (lookup_some H1.out.1 (H0.out.2.2.1.ext H1.out.2) rfl HX.out).mono ?_
        rintro e w2 ⟨rfl, hF⟩
        have H2 := Lib.hid (And.intro (H1.out.1.nix hF) (H1.out.2.trans (Ext.nix (L := L) hF)))
        have F2 := Lib.hid (F1.out.trans hF fun _ e => .inl e)
        clear hF
        go_wp2_with fail
        refine (lookup_some H2.out.1 (H0.out.2.2.2.1.ext H2.out.2) rfl HY.out).mono ?_
        rintro e w3 ⟨rfl, hF⟩
        have H3 := Lib.hid (And.intro (H2.out.1.nix hF) (H2.out.2.trans (Ext.nix (L := L) hF)))
        have F3 := Lib.hid (F2.out.trans hF fun _ e => .inl e)
        clear hF
        go_wp2
        go_ret
        exact ⟨ret_bool (by simp [PS.qEq, HE.out, both_t HX.out HY.out]), F3.out⟩
      · have hb := eqq_false he
        have HE := Lib.hid he
        clear he
        go_enter Try.func92, Try.ntmps92
        go_wp2
        go_quiet (fail)
        have F1 := Lib.hid (Fr.drewN w nq Nix)
        have H1 := Lib.hid (And.intro (H0.out.1.nix F1.out) (Ext.nix (L := L) F1.out))
        generalize w.drewN nq = w1 at *
        clear hc1 hc2
        go_wp2_with fail
        refine (lookup_some H1.out.1 (H0.out.2.2.1.ext H1.out.2) rfl HX.out).mono ?_
        rintro e w2 ⟨rfl, hF⟩
        have H2 := Lib.hid (And.intro (H1.out.1.nix hF) (H1.out.2.trans (Ext.nix (L := L) hF)))
        have F2 := Lib.hid (F1.out.trans hF fun _ e => .inl e)
        clear hF
        go_wp2_with fail
        refine (lookup_some H2.out.1 (H0.out.2.2.2.1.ext H2.out.2) rfl HY.out).mono ?_
        rintro e w3 ⟨rfl, hF⟩
        have H3 := Lib.hid (And.intro (H2.out.1.nix hF) (H2.out.2.trans (Ext.nix (L := L) hF)))
        have F3 := Lib.hid (F2.out.trans hF fun _ e => .inl e)
        clear hF
        go_wp2
        go_ret
        exact ⟨ret_bool (by simp [PS.qEq, HE.out]), F3.out⟩

set_option maxRecDepth 3000 in
set_option maxHeartbeats 1000000 in
theorem NonEqual_c {w : World} {p : Nat} {S : PS} {L : Lay} (h : Rep w p S L) (wf : WF1 S) {a1 a2 x y : Nat} (h1 : IsV w L a1 x) (h2 : IsV w L a2 y) (hxy : x ≠ y) :
    Calls Try.prog 90 #[.pointer (some ⟨p, 0, none⟩), .pointer (some ⟨a1, 0, none⟩), .pointer (some ⟨a2, 0, none⟩)] w (Look w (.bool (S.qNe x y))) := by
  have hc1 := h1.cell
  have hc2 := h2.cell
  have hid := eqq_false hxy
  have H0 := Lib.hid (And.intro h (And.intro wf (And.intro h1 (And.intro h2 hxy))))
  clear h wf h1 h2 hxy
  by_cases hx : S.vl x = 0
  · have HX := Lib.hid hx
    clear hx
    by_cases hy : S.vl y = 0
    · have HY := Lib.hid hy
      clear hy
      go_enter Try.func90, Try.ntmps90
      go_wp2
      go_quiet (fail)
      have F1 := Lib.hid (Fr.drewN w nq Nix)
      have H1 := Lib.hid (And.intro (H0.out.1.nix F1.out) (Ext.nix (L := L) F1.out))
      generalize w.drewN nq = w1 at *
      clear hc1 hc2
      go_wp2_with fail
      refine (lookup_none H1.out.1 (H0.out.2.2.1.ext H1.out.2) HX.out).mono ?_
      rintro e w2 ⟨rfl, hF⟩
      have H2 := Lib.hid (And.intro (H1.out.1.nix hF) (H1.out.2.trans (Ext.nix (L := L) hF)))
      have F2 := Lib.hid (F1.out.trans hF fun _ e => .inl e)
      clear hF
      go_wp2_with fail
      refine (lookup_none H2.out.1 (H0.out.2.2.2.1.ext H2.out.2) HY.out).mono ?_
      rintro e w3 ⟨rfl, hF⟩
      have H3 := Lib.hid (And.intro (H2.out.1.nix hF) (H2.out.2.trans (Ext.nix (L := L) hF)))
      have F3 := Lib.hid (F2.out.trans hF fun _ e => .inl e)
      clear hF
      go_wp2
      go_ret
      exact ⟨ret_bool (by simp [PS.qNe, both_x HX.out]), F3.out⟩
    · have HY := Lib.hid hy
      clear hy
      go_enter Try.func90, Try.ntmps90
      go_wp2
      go_quiet (fail)
      have F1 := Lib.hid (Fr.drewN w nq Nix)
      have H1 := Lib.hid (And.intro (H0.out.1.nix F1.out) (Ext.nix (L := L) F1.out))
      generalize w.drewN nq = w1 at *
      clear hc1 hc2
      go_wp2_with fail
      refine (lookup_none H1.out.1 (H0.out.2.2.1.ext H1.out.2) HX.out).mono ?_
      rintro e w2 ⟨rfl, hF⟩
      have H2 := Lib.hid (And.intro (H1.out.1.nix hF) (H1.out.2.trans (Ext.nix (L := L) hF)))
      have F2 := Lib.hid (F1.out.trans hF fun _ e => .inl e)
      clear hF
      go_wp2_with fail
      refine (lookup_some H2.out.1 (H0.out.2.2.2.1.ext H2.out.2) rfl HY.out).mono ?_
      rintro e w3 ⟨rfl, hF⟩
      have H3 := Lib.hid (And.intro (H2.out.1.nix hF) (H2.out.2.trans (Ext.nix (L := L) hF)))
      have F3 := Lib.hid (F2.out.trans hF fun _ e => .inl e)
      clear hF
      go_wp2
      go_ret
      exact ⟨ret_bool (by simp [PS.qNe, both_x HX.out]), F3.out⟩
  · have HX := Lib.hid hx
    clear hx
    by_cases hy : S.vl y = 0
    · have HY := Lib.hid hy
      clear hy
      go_enter Try.func90, Try.ntmps90
      go_wp2
      go_quiet (fail)
      have F1 := Lib.hid (Fr.drewN w nq Nix)
      have H1 := Lib.hid (And.intro (H0.out.1.nix F1.out) (Ext.nix (L := L) F1.out))
      generalize w.drewN nq = w1 at *
      clear hc1 hc2
      go_wp2_with fail
      refine (lookup_some H1.out.1 (H0.out.2.2.1.ext H1.out.2) rfl HX.out).mono ?_
      rintro e w2 ⟨rfl, hF⟩
      have H2 := Lib.hid (And.intro (H1.out.1.nix hF) (H1.out.2.trans (Ext.nix (L := L) hF)))
      have F2 := Lib.hid (F1.out.trans hF fun _ e => .inl e)
      clear hF
      go_wp2_with fail
      refine (lookup_none H2.out.1 (H0.out.2.2.2.1.ext H2.out.2) HY.out).mono ?_
      rintro e w3 ⟨rfl, hF⟩
      have H3 := Lib.hid (And.intro (H2.out.1.nix hF) (H2.out.2.trans (Ext.nix (L := L) hF)))
      have F3 := Lib.hid (F2.out.trans hF fun _ e => .inl e)
      clear hF
      go_wp2
      go_ret
      exact ⟨ret_bool (by simp [PS.qNe, both_y HY.out]), F3.out⟩
    · have HY := Lib.hid hy
      clear hy
      obtain ⟨t1, ht1⟩ : ∃ t, S.ne (S.vl x) (S.vl y) = t := ⟨_, rfl⟩
      obtain ⟨t2, ht2⟩ : ∃ t, S.qOrd x y = t := ⟨_, rfl⟩
      obtain ⟨t3, ht3⟩ : ∃ t, S.qOrd y x = t := ⟨_, rfl⟩
      have HT := Lib.hid (And.intro ht1 (And.intro ht2 ht3))
      clear ht1 ht2 ht3
      cases t1
      · cases t2
        · cases t3
          · skip
            go_enter Try.func90, Try.ntmps90
            go_wp2
            go_quiet (fail)
            have F1 := Lib.hid (Fr.drewN w nq Nix)
            have H1 := Lib.hid (And.intro (H0.out.1.nix F1.out) (Ext.nix (L := L) F1.out))
            generalize w.drewN nq = w1 at *
            clear hc1 hc2
            go_wp2_with fail
            refine (lookup_some H1.out.1 (H0.out.2.2.1.ext H1.out.2) rfl HX.out).mono ?_
            rintro e w2 ⟨rfl, hF⟩
            have H2 := Lib.hid (And.intro (H1.out.1.nix hF) (H1.out.2.trans (Ext.nix (L := L) hF)))
            have F2 := Lib.hid (F1.out.trans hF fun _ e => .inl e)
            clear hF
            go_wp2_with fail
            refine (lookup_some H2.out.1 (H0.out.2.2.2.1.ext H2.out.2) rfl HY.out).mono ?_
            rintro e w3 ⟨rfl, hF⟩
            have H3 := Lib.hid (And.intro (H2.out.1.nix hF) (H2.out.2.trans (Ext.nix (L := L) hF)))
            have F3 := Lib.hid (F2.out.trans hF fun _ e => .inl e)
            clear hF
            go_wp2_with fail
            have hq := isnoneq_c H3.out.1 (S.vl x) (S.vl y) (by have := H0.out.2.1.va x; have := H0.out.2.1.sz; omega) (by have := H0.out.2.1.va y; have := H0.out.2.1.sz; omega)
            rw [HT.out.1] at hq
            refine hq.mono ?_
            clear hq
            rintro e w4 ⟨rfl, hF⟩
            have H4 := Lib.hid (And.intro (H3.out.1.nix hF) (H3.out.2.trans (Ext.nix (L := L) hF)))
            have F4 := Lib.hid (F3.out.trans hF fun _ e => .inl e)
            clear hF
            go_wp2_with fail
            have hq := Ordered_c H4.out.1 H0.out.2.1 (H0.out.2.2.1.ext H4.out.2) (H0.out.2.2.2.1.ext H4.out.2) H0.out.2.2.2.2
            rw [HT.out.2.1] at hq
            refine hq.mono ?_
            clear hq
            rintro e w5 ⟨rfl, hF⟩
            have H5 := Lib.hid (And.intro (H4.out.1.nix hF) (H4.out.2.trans (Ext.nix (L := L) hF)))
            have F5 := Lib.hid (F4.out.trans hF fun _ e => .inl e)
            clear hF
            go_wp2_with fail
            have hq := Ordered_c H5.out.1 H0.out.2.1 (H0.out.2.2.2.1.ext H5.out.2) (H0.out.2.2.1.ext H5.out.2) (Ne.symm H0.out.2.2.2.2)
            rw [HT.out.2.2] at hq
            refine hq.mono ?_
            clear hq
            rintro e w6 ⟨rfl, hF⟩
            have F6 := Lib.hid (F5.out.trans hF fun _ e => .inl e)
            clear hF
            go_wp2
            go_ret
            exact ⟨ret_bool (by simp [PS.qNe, both_t HX.out HY.out, HT.out]), F6.out⟩
          · skip
            go_enter Try.func90, Try.ntmps90
            go_wp2
            go_quiet (fail)
            have F1 := Lib.hid (Fr.drewN w nq Nix)
            have H1 := Lib.hid (And.intro (H0.out.1.nix F1.out) (Ext.nix (L := L) F1.out))
            generalize w.drewN nq = w1 at *
            clear hc1 hc2
            go_wp2_with fail
            refine (lookup_some H1.out.1 (H0.out.2.2.1.ext H1.out.2) rfl HX.out).mono ?_
            rintro e w2 ⟨rfl, hF⟩
            have H2 := Lib.hid (And.intro (H1.out.1.nix hF) (H1.out.2.trans (Ext.nix (L := L) hF)))
            have F2 := Lib.hid (F1.out.trans hF fun _ e => .inl e)
            clear hF
            go_wp2_with fail
            refine (lookup_some H2.out.1 (H0.out.2.2.2.1.ext H2.out.2) rfl HY.out).mono ?_
            rintro e w3 ⟨rfl, hF⟩
            have H3 := Lib.hid (And.intro (H2.out.1.nix hF) (H2.out.2.trans (Ext.nix (L := L) hF)))
            have F3 := Lib.hid (F2.out.trans hF fun _ e => .inl e)
            clear hF
            go_wp2_with fail
            have hq := isnoneq_c H3.out.1 (S.vl x) (S.vl y) (by have := H0.out.2.1.va x; have := H0.out.2.1.sz; omega) (by have := H0.out.2.1.va y; have := H0.out.2.1.sz; omega)
            rw [HT.out.1] at hq
            refine hq.mono ?_
            clear hq
            rintro e w4 ⟨rfl, hF⟩
            have H4 := Lib.hid (And.intro (H3.out.1.nix hF) (H3.out.2.trans (Ext.nix (L := L) hF)))
            have F4 := Lib.hid (F3.out.trans hF fun _ e => .inl e)
            clear hF
            go_wp2_with fail
            have hq := Ordered_c H4.out.1 H0.out.2.1 (H0.out.2.2.1.ext H4.out.2) (H0.out.2.2.2.1.ext H4.out.2) H0.out.2.2.2.2
            rw [HT.out.2.1] at hq
            refine hq.mono ?_
            clear hq
            rintro e w5 ⟨rfl, hF⟩
            have H5 := Lib.hid (And.intro (H4.out.1.nix hF) (H4.out.2.trans (Ext.nix (L := L) hF)))
            have F5 := Lib.hid (F4.out.trans hF fun _ e => .inl e)
            clear hF
            go_wp2_with fail
            have hq := Ordered_c H5.out.1 H0.out.2.1 (H0.out.2.2.2.1.ext H5.out.2) (H0.out.2.2.1.ext H5.out.2) (Ne.symm H0.out.2.2.2.2)
            rw [HT.out.2.2] at hq
            refine hq.mono ?_
            clear hq
            rintro e w6 ⟨rfl, hF⟩
            have F6 := Lib.hid (F5.out.trans hF fun _ e => .inl e)
            clear hF
            go_wp2
            go_ret
            exact ⟨ret_bool (by simp [PS.qNe, both_t HX.out HY.out, HT.out]), F6.out⟩
        · skip
          go_enter Try.func90, Try.ntmps90
          go_wp2
          go_quiet (fail)
          have F1 := Lib.hid (Fr.drewN w nq Nix)
          have H1 := Lib.hid (And.intro (H0.out.1.nix F1.out) (Ext.nix (L := L) F1.out))
          generalize w.drewN nq = w1 at *
          clear hc1 hc2
          go_wp2_with fail
          refine (lookup_some H1.out.1 (H0.out.2.2.1.ext H1.out.2) rfl HX.out).mono ?_
          rintro e w2 ⟨rfl, hF⟩
          have H2 := Lib.hid (And.intro (H1.out.1.nix hF) (H1.out.2.trans (Ext.nix (L := L) hF)))
          have F2 := Lib.hid (F1.out.trans hF fun _ e => .inl e)
          clear hF
          go_wp2_with fail
          refine (lookup_some H2.out.1 (H0.out.2.2.2.1.ext H2.out.2) rfl HY.out).mono ?_
          rintro e w3 ⟨rfl, hF⟩
          have H3 := Lib.hid (And.intro (H2.out.1.nix hF) (H2.out.2.trans (Ext.nix (L := L) hF)))
          have F3 := Lib.hid (F2.out.trans hF fun _ e => .inl e)
          clear hF
          go_wp2_with fail
          have hq := isnoneq_c H3.out.1 (S.vl x) (S.vl y) (by have := H0.out.2.1.va x; have := H0.out.2.1.sz; omega) (by have := H0.out.2.1.va y; have := H0.out.2.1.sz; omega)
          rw [HT.out.1] at hq
          refine hq.mono ?_
          clear hq
          rintro e w4 ⟨rfl, hF⟩
          have H4 := Lib.hid (And.intro (H3.out.1.nix hF) (H3.out.2.trans (Ext.nix (L := L) hF)))
          have F4 := Lib.hid (F3.out.trans hF fun _ e => .inl e)
          clear hF
          go_wp2_with fail
          have hq := Ordered_c H4.out.1 H0.out.2.1 (H0.out.2.2.1.ext H4.out.2) (H0.out.2.2.2.1.ext H4.out.2) H0.out.2.2.2.2
          rw [HT.out.2.1] at hq
          refine hq.mono ?_
          clear hq
          rintro e w5 ⟨rfl, hF⟩
          have H5 := Lib.hid (And.intro (H4.out.1.nix hF) (H4.out.2.trans (Ext.nix (L := L) hF)))
          have F5 := Lib.hid (F4.out.trans hF fun _ e => .inl e)
          clear hF
          go_wp2
          go_ret
          exact ⟨ret_bool (by simp [PS.qNe, both_t HX.out HY.out, HT.out]), F5.out⟩
      · skip
        go_enter Try.func90, Try.ntmps90
        go_wp2
        go_quiet (fail)
        have F1 := Lib.hid (Fr.drewN w nq Nix)
        have H1 := Lib.hid (And.intro (H0.out.1.nix F1.out) (Ext.nix (L := L) F1.out))
        generalize w.drewN nq = w1 at *
        clear hc1 hc2
        go_wp2_with fail
        refine (lookup_some H1.out.1 (H0.out.2.2.1.ext H1.out.2) rfl HX.out).mono ?_
        rintro e w2 ⟨rfl, hF⟩
        have H2 := Lib.hid (And.intro (H1.out.1.nix hF) (H1.out.2.trans (Ext.nix (L := L) hF)))
        have F2 := Lib.hid (F1.out.trans hF fun _ e => .inl e)
        clear hF
        go_wp2_with fail
        refine (lookup_some H2.out.1 (H0.out.2.2.2.1.ext H2.out.2) rfl HY.out).mono ?_
        rintro e w3 ⟨rfl, hF⟩
        have H3 := Lib.hid (And.intro (H2.out.1.nix hF) (H2.out.2.trans (Ext.nix (L := L) hF)))
        have F3 := Lib.hid (F2.out.trans hF fun _ e => .inl e)
        clear hF
        go_wp2_with fail
        have hq := isnoneq_c H3.out.1 (S.vl x) (S.vl y) (by have := H0.out.2.1.va x; have := H0.out.2.1.sz; omega) (by have := H0.out.2.1.va y; have := H0.out.2.1.sz; omega)
        rw [HT.out.1] at hq
        refine hq.mono ?_
        clear hq
        rintro e w4 ⟨rfl, hF⟩
        have H4 := Lib.hid (And.intro (H3.out.1.nix hF) (H3.out.2.trans (Ext.nix (L := L) hF)))
        have F4 := Lib.hid (F3.out.trans hF fun _ e => .inl e)
        clear hF
        go_wp2
        go_ret
        exact ⟨ret_bool (by simp [PS.qNe, both_t HX.out HY.out, HT.out]), F4.out⟩
end Go.Proofs.Ytapnmgkpljlgmaa
