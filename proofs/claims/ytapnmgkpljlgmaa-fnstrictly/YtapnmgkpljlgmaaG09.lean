/- aliasnodes: the walk. aliasnodes: the contract, in the poset's words. -/
import Derived.Test.YtapnmgkpljlgmaaG06
import Derived.Test.YtapnmgkpljlgmaaG08
import Derived.Test.YtapnmgkpljlgmaaG07
set_option linter.unusedVariables false
set_option linter.unusedSimpArgs false
namespace Go.Proofs.Ytapnmgkpljlgmaa
open Go.RowKit

theorem T_words {x n k : Nat} (h : x < n) (hk : (n + 63) / 64 = k) : x / 64 < k := by omega
theorem AInv.test {A : AFix} {m na nb : Nat} {S : PS} {wr : World} {Lk : Lay} (h : AInv A m na nb S wr Lk) {k x : Nat} (hk : (A.S.nodes.length + 63) / 64 = k) (hx : x < A.S.nodes.length) :
    Calls Try.prog 127 #[.slice (some ⟨A.gT, 0, none⟩) k A.cT, .int .u32 (x : Nat)] wr fun r w' => r = .returned (.bool (A.T x)) ∧ wr = w' := by
  subst hk
  exact Test_c h.bits x (T_words hx rfl) (by have := h.wf.sz; have := h.len; omega)
theorem ez_false {a : Nat} (h : a = 0) : ((a : Int) != 0) = false := by subst h; rfl
theorem ez_true {a : Nat} (h : a ≠ 0) : ((a : Int) != 0) = true := by rw [bne_iff_ne]; omega
theorem alc_no {e : Nat} {b t : Bool} (h : (decide ((e : Int) ≠ 0) && !b) = false) (ht : t = b) : ¬ (e ≠ 0 ∧ t = false) := by
  subst ht; rintro ⟨a, rfl⟩; simp at h; omega
theorem alc_yes {e : Nat} {b t : Bool} (h : (decide ((e : Int) ≠ 0) && !b) = true) (ht : t = b) : e ≠ 0 ∧ t = false := by
  subst ht; simp at h; exact ⟨by omega, h.2⟩
/-- One round's invariant, for the loop. -/
def ALoop (A : AFix) (m : Nat) (u : Value) (wr : World) : Prop :=
  ∃ k Lk, m + k = A.S.nodes.length ∧ u = .int .i64 (k : Nat) ∧ AInv A k (2 * k) (10 * k) (A.S.alN A.i1 A.T k) wr Lk

set_option maxRecDepth 10000 in
set_option maxHeartbeats 4000000 in
theorem aliasnodes_A {A : AFix} (h : AInv A 0 0 0 A.S A.w A.L) (wf : WF1 A.S) {a1 x : Nat} (h1 : IsV A.w A.L a1 x) (hi : A.S.vl x = A.i1) (hx0 : A.i1 ≠ 0) (hT1 : A.T A.i1 = false)
    (hnv : A.L.nv.ownBlock = some A.gO) (hsz : 3 * A.S.nodes.length + 10 < 2147483648) (hl : A.S.lg.length + 10 * A.S.nodes.length + 1100 < Lim) (hid : ∀ id, A.S.vl id ≠ 0 → id < 1000) {kT : Nat} (hk : (A.S.nodes.length + 63) / 64 = kT) :
    Calls Try.prog 116 #[.pointer (some ⟨A.p, 0, none⟩), .pointer (some ⟨a1, 0, none⟩), .slice (some ⟨A.gT, 0, none⟩) kT A.cT] A.w fun e w' => e = .returned (.tuple #[]) ∧ ∃ ids L', ids.Nodup ∧ (∀ id, id ∈ ids ↔ A.S.vl id ≠ 0) ∧ Rep w' A.p ((A.S.alN A.i1 A.T A.S.nodes.length).alE A.i1 A.T ids) L' ∧ Ext A.w w' A.L L' := by
  have hc : A.w.cell? ⟨A.p, 2, none⟩ = some (.map (some A.L.vb)) := by rw [cell_block h.rep.hp]; rfl
  have hl1 := fun n => (run_lookup_v (W := A.w.drewN n) h.rep.hv x).2
  rw [hi] at hl1
  have hc1 := h1.cell
  have hb1 := eq0_false hx0
  have hi1 : A.i1 < A.S.nodes.length := hi ▸ wf.va x
  obtain ⟨g, cap, hv, hm, hc3, _⟩ := h.rep.nodes_at (i := 0) (by omega)
  rw [hv] at hnv
  simp only [Value.ownBlock, Option.some.injEq] at hnv
  subst hnv
  have hm := maxLen_int hm
  have hT0 := h.test hk hi1
  have HA0 := Lib.hid h
  have HK := Lib.hid hk
  have HI := Lib.hid hi1
  have HW := Lib.hid (And.intro wf (And.intro h1 (And.intro hi (And.intro hx0 (And.intro hT1 (And.intro hsz (And.intro hl hid)))))))
  clear h wf h1 hi hx0 hi1 hv hsz hl hk hT0 hid
  obtain ⟨n0, hn⟩ : ∃ n, A.S.nodes.length = n := ⟨_, rfl⟩
  rw [hn] at hc3 hm
  have HN := Lib.hid hn
  clear hn
  go_enter Try.func116, Try.ntmps116
  go_wp2
  go_quiet (fail)
  go_wp2_with fail
  have HA1 := Lib.hid (HA0.out.nix (Fr.drewN A.w nq Nix))
  have hc4 : (A.w.drewN nq).cell? ⟨A.p, 3, none⟩ = some (.slice (some ⟨A.gO, 0, none⟩) n0 cap) := hc3
  have hT2 := HA1.out.test HK.out HI.out
  generalize A.w.drewN nq = w1 at *
  rw [hT1] at hT2
  refine hT2.mono ?_
  clear hc hl1 hc1 hc3 hT2
  rintro e w2 ⟨rfl, rfl⟩
  go_wp2_with fail
  go_loopg [34] n0 (fun m u wr => ALoop A m u wr)
  case atStart => exact ⟨0, A.L, HN.out.symm, rfl, HA1.out⟩
  case round =>
    obtain ⟨k, Lk, hmk, rfl, hInv⟩ := hrel
    have HINV := Lib.hid hInv
    have HMK := Lib.hid hmk
    by_cases hlt : k < n0
    · obtain ⟨⟨l, r⟩, hr1, hr2, hr3⟩ := hInv.read (j := k) (by rw [HN.out]; exact hlt)
      have HR3 := Lib.hid hr3
      clear hInv hmk hr3
      simp only at hr1 hr2
      have hk31 : k < 2147483648 := by have := HW.out.2.2.2.2.2.1; have := HN.out; omega
      by_cases hki : k = A.i1
      · have hb2 := eqq_true hki
        have HKI := Lib.hid hki
        clear hki
        go_wp2
        go_roundg (n0 - (k + 1))
        case measure => have := HMK.out; have := HN.out; omega
        case rel =>
          refine ⟨k + 1, Lk, by have := HMK.out; have := HN.out; omega, by rw [Int.natCast_add]; rfl, ?_⟩
          have e : A.S.alN A.i1 A.T (k + 1) = A.S.alN A.i1 A.T k := if_pos HKI.out
          rw [e]
          exact (HINV.out.nix (Fr.alloc _ _ _)).mono (by omega) (by omega) (by omega)
      · have hb2 := eqq_false hki
        have HKI := Lib.hid hki
        clear hki
        have HX := Lib.hid (HR3.out (by have := HMK.out; omega) HKI.out)
        have HTG := Lib.hid (show l / 2 < A.S.nodes.length ∧ r / 2 < A.S.nodes.length by have := tgt_of HW.out.1.toWF0 k; rw [← HX.out] at this; exact this)
        have HL32 := Lib.hid (show l < 4294967296 ∧ r < 4294967296 by have := HTG.out; have := HW.out.2.2.2.2.2.1; omega)
        have HB := Lib.hid (show A.S.lg.length + 10 * k + 20 < Lim ∧ A.S.nodes.length + 2 * k + 4 < 2147483648 ∧ A.i1 < A.S.nodes.length ∧ k < A.S.nodes.length ∧ A.i1 < 2147483648 by have := HN.out; have := HW.out.2.2.2.2.2; have := HI.out; omega)
        obtain ⟨fl, hfl⟩ : ∃ b, A.T (l / 2) = b := ⟨_, rfl⟩
        obtain ⟨fr, hfr⟩ : ∃ b, A.T (r / 2) = b := ⟨_, rfl⟩
        obtain ⟨fk, hfk⟩ : ∃ b, A.T k = b := ⟨_, rfl⟩
        have HFL := Lib.hid hfl
        have HFR := Lib.hid hfr
        have HFK := Lib.hid hfk
        clear hfl hfr hfk hT1 hb1 hm
        go_upto_region 9 with fail
        go_quiet (fail)

        have HI2 := Lib.hid (((HINV.out.nix (Fr.alloc _ (Obj.cells #[.int .u32 (l : Nat), .int .u32 (r : Nat)] 146) _)).nix (Fr.drewN _ nq Nix)).mono (m' := k + 1) (na' := 2 * k) (nb' := 10 * k) (by omega) (by omega) (by omega))
        clear hr1 hr2
        go_wp2_with fail
        refine (target_c l _).mono ?_
        rintro e w9 ⟨rfl, rfl⟩
        go_wp2_with fail
        have hT3 := HI2.out.test HK.out HTG.out.1
        rw [show A.T (l / 2) = fl from HFL.out] at hT3
        refine hT3.mono ?_
        clear hT3
        rintro e w9 ⟨rfl, rfl⟩
        go_upto_if 50 with fail
        go_cut [] (fun wx => ∃ L', AInv A (k + 1) (2 * k) (10 * k + 1) ((A.S.alN A.i1 A.T k).alA A.i1 A.T k l) wx L')
        case first =>
          cases fl
          · go_wp2
            go_meet
            case rel =>
              exact ⟨_, by rw [PS.alA, if_neg (by rw [HFL.out]; decide)]; exact HI2.out.mono (Nat.le_refl _) (Nat.le_refl _) (by omega)⟩
          · go_wp2_with fail
            refine (strict_c l _ HL32.out.1).mono ?_
            rintro e w9 ⟨rfl, rfl⟩
            obtain ⟨sb, hsb⟩ : ∃ b, (l % 2 == 1) = b := ⟨_, rfl⟩
            rw [hsb]
            have HSB := Lib.hid hsb
            clear hsb
            go_wp2_with fail
            refine (newedge_c A.i1 sb _ HB.out.2.2.2.2).mono ?_
            rintro e w9 ⟨rfl, rfl⟩
            go_wp2_with fail
            refine (setchl_a (i := k) (e := eg A.i1 sb) HI2.out (by omega) HB.out.2.2.2.1 (by rw [eg_half]; exact Nat.lt_of_lt_of_le HB.out.2.2.1 HI2.out.len)).mono ?_
            rintro e w9 ⟨rfl, L9, hJ⟩
            have HJ := Lib.hid hJ
            clear hJ
            go_wp2_with fail
            refine (upush_a HJ.out 2 k l (by have := HB.out.1; omega)).mono ?_
            rintro e w10 ⟨rfl, L10, hJ⟩
            have HJ2 := Lib.hid hJ
            clear hJ
            go_wp2
            go_meet
            case rel =>
              exact ⟨_, by rw [PS.alA, if_pos HFL.out, HSB.out]; exact HJ2.out⟩
        case rest =>
        obtain ⟨HI3L, hHI3⟩ := hcut
        have HI3 := Lib.hid hHI3
        clear hHI3
        go_wp2_with fail
        refine (target_c r _).mono ?_
        rintro e w9 ⟨rfl, rfl⟩
        go_wp2_with fail
        have hT3 := HI3.out.test HK.out HTG.out.2
        rw [show A.T (r / 2) = fr from HFR.out] at hT3
        refine hT3.mono ?_
        clear hT3
        rintro e w9 ⟨rfl, rfl⟩
        go_upto_if 67 with fail
        go_cut [] (fun wx => ∃ L', AInv A (k + 1) (2 * k) (10 * k + 1 + 1) (((A.S.alN A.i1 A.T k).alA A.i1 A.T k l).alB A.i1 A.T k r) wx L')
        case first =>
          cases fr
          · go_wp2
            go_meet
            case rel =>
              exact ⟨_, by rw [PS.alB, if_neg (by rw [HFR.out]; decide)]; exact HI3.out.mono (Nat.le_refl _) (Nat.le_refl _) (by omega)⟩
          · go_wp2_with fail
            refine (strict_c r _ HL32.out.2).mono ?_
            rintro e w9 ⟨rfl, rfl⟩
            obtain ⟨sb, hsb⟩ : ∃ b, (r % 2 == 1) = b := ⟨_, rfl⟩
            rw [hsb]
            have HSB := Lib.hid hsb
            clear hsb
            go_wp2_with fail
            refine (newedge_c A.i1 sb _ HB.out.2.2.2.2).mono ?_
            rintro e w9 ⟨rfl, rfl⟩
            go_wp2_with fail
            refine (setchr_a (i := k) (e := eg A.i1 sb) HI3.out (by omega) HB.out.2.2.2.1 (by rw [eg_half]; exact Nat.lt_of_lt_of_le HB.out.2.2.1 HI3.out.len)).mono ?_
            rintro e w9 ⟨rfl, L9, hJ⟩
            have HJ := Lib.hid hJ
            clear hJ
            go_wp2_with fail
            refine (upush_a HJ.out 3 k r (by have := HB.out.1; omega)).mono ?_
            rintro e w10 ⟨rfl, L10, hJ⟩
            have HJ2 := Lib.hid hJ
            clear hJ
            go_wp2
            go_meet
            case rel =>
              exact ⟨_, by rw [PS.alB, if_pos HFR.out, HSB.out]; exact HJ2.out⟩
        case rest =>
        obtain ⟨HI4L, hHI4⟩ := hcut
        have HI4 := Lib.hid hHI4
        clear hHI4
        go_wp2_with fail
        have hT3 := HI4.out.test HK.out HB.out.2.2.2.1
        rw [show A.T k = fk from HFK.out] at hT3
        refine hT3.mono ?_
        clear hT3
        rintro e w9 ⟨rfl, rfl⟩
        cases fk
        · go_wp2
          go_roundg (n0 - (k + 1))
          case measure => have := HMK.out; have := HN.out; omega
          case rel =>
            refine ⟨k + 1, HI4L, by have := HMK.out; have := HN.out; omega, by rw [Int.natCast_add]; rfl, ?_⟩
            have e : A.S.alN A.i1 A.T (k + 1) = ((A.S.alN A.i1 A.T k).alA A.i1 A.T k l).alB A.i1 A.T k r := by
              show PS.alStep _ _ _ _ _ = _
              rw [PS.alStep, if_neg HKI.out, if_neg (by rw [HFK.out]; decide), ← HX.out]
            rw [e]
            exact HI4.out.mono (by omega) (by omega) (by omega)
        · skip
          go_upto_region 17 with fail
          go_cut [93] (fun c wx => c = .bool (decide ((l : Int) ≠ 0) && !fl) ∧ ∃ L', AInv A (k + 1) (2 * k) (10 * k + 1 + 1) (((A.S.alN A.i1 A.T k).alA A.i1 A.T k l).alB A.i1 A.T k r) wx L')
          case first =>
            by_cases he : l = 0
            · have hb := ez_false he
              have HE := Lib.hid he
              clear he
              go_wp2_with fail
              go_meet
              case rel => exact ⟨by rw [decide_eq_false (by have := HE.out; omega)]; rfl, _, HI4.out⟩
            · have hb := ez_true he
              have HE := Lib.hid he
              clear he
              go_wp2_with fail
              refine (target_c l _).mono ?_
              rintro e w9 ⟨rfl, rfl⟩
              go_wp2_with fail
              have hT3 := HI4.out.test HK.out HTG.out.1
              rw [show A.T (l / 2) = fl from HFL.out] at hT3
              refine hT3.mono ?_
              clear hT3
              rintro e w9 ⟨rfl, rfl⟩
              go_wp2_with fail
              go_meet
              case rel => exact ⟨by rw [decide_eq_true (by have := HE.out; omega)]; rfl, _, HI4.out⟩
          case rest =>
          obtain ⟨rfl, HI5M, hHI5⟩ := hcut
          have HI5P := Lib.hid hHI5
          clear hHI5
          obtain ⟨gb, hgb⟩ : ∃ b, (decide ((l : Int) ≠ 0) && !fl) = b := ⟨_, rfl⟩
          rw [hgb]
          have HGB := Lib.hid hgb
          clear hgb
          go_upto_if 93 with fail
          go_cut [] (fun wx => ∃ L', AInv A (k + 1) (2 * k + 1) (10 * k + 1 + 1 + 2) ((((A.S.alN A.i1 A.T k).alA A.i1 A.T k l).alB A.i1 A.T k r).alC A.i1 A.T l) wx L')
          case first =>
            cases gb
            · go_wp2
              go_meet
              case rel =>
                exact ⟨_, by rw [PS.alC, if_neg (alc_no HGB.out HFL.out)]; exact HI5P.out.mono (Nat.le_refl _) (by omega) (by omega)⟩
            · go_wp2_with fail
              refine (target_c l _).mono ?_
              rintro e w9 ⟨rfl, rfl⟩
              go_wp2_with fail
              refine (strict_c l _ HL32.out.1).mono ?_
              rintro e w9 ⟨rfl, rfl⟩
              go_wp2_with fail
              refine (addchild_a HI5P.out (i2 := l / 2) (l % 2 == 1) HB.out.2.2.1 (Nat.lt_of_lt_of_le HTG.out.1 HI5P.out.len) (by have := HB.out.1; omega) (by have := HB.out.2.1; omega)).mono ?_
              rintro e w9 ⟨rfl, L9, hJ⟩
              have HJ := Lib.hid hJ
              clear hJ
              go_wp2
              go_meet
              case rel =>
                exact ⟨L9, by rw [PS.alC, if_pos (alc_yes HGB.out HFL.out)]; exact HJ.out⟩
          case rest =>
          clear HGB
          obtain ⟨HI5L, hHI5⟩ := hcut
          have HI5 := Lib.hid hHI5
          clear hHI5
          go_upto_region 19 with fail
          go_cut [109] (fun c wx => c = .bool (decide ((r : Int) ≠ 0) && !fr) ∧ ∃ L', AInv A (k + 1) (2 * k + 1) (10 * k + 1 + 1 + 2) ((((A.S.alN A.i1 A.T k).alA A.i1 A.T k l).alB A.i1 A.T k r).alC A.i1 A.T l) wx L')
          case first =>
            by_cases he : r = 0
            · have hb := ez_false he
              have HE := Lib.hid he
              clear he
              go_wp2_with fail
              go_meet
              case rel => exact ⟨by rw [decide_eq_false (by have := HE.out; omega)]; rfl, _, HI5.out⟩
            · have hb := ez_true he
              have HE := Lib.hid he
              clear he
              go_wp2_with fail
              refine (target_c r _).mono ?_
              rintro e w9 ⟨rfl, rfl⟩
              go_wp2_with fail
              have hT3 := HI5.out.test HK.out HTG.out.2
              rw [show A.T (r / 2) = fr from HFR.out] at hT3
              refine hT3.mono ?_
              clear hT3
              rintro e w9 ⟨rfl, rfl⟩
              go_wp2_with fail
              go_meet
              case rel => exact ⟨by rw [decide_eq_true (by have := HE.out; omega)]; rfl, _, HI5.out⟩
          case rest =>
          obtain ⟨rfl, HI6M, hHI6⟩ := hcut
          have HI6P := Lib.hid hHI6
          clear hHI6
          obtain ⟨gb, hgb⟩ : ∃ b, (decide ((r : Int) ≠ 0) && !fr) = b := ⟨_, rfl⟩
          rw [hgb]
          have HGB := Lib.hid hgb
          clear hgb
          go_upto_if 109 with fail
          go_cut [] (fun wx => ∃ L', AInv A (k + 1) (2 * k + 1 + 1) (10 * k + 1 + 1 + 2 + 2) (((((A.S.alN A.i1 A.T k).alA A.i1 A.T k l).alB A.i1 A.T k r).alC A.i1 A.T l).alC A.i1 A.T r) wx L')
          case first =>
            cases gb
            · go_wp2
              go_meet
              case rel =>
                exact ⟨_, by rw [PS.alC, if_neg (alc_no HGB.out HFR.out)]; exact HI6P.out.mono (Nat.le_refl _) (by omega) (by omega)⟩
            · go_wp2_with fail
              refine (target_c r _).mono ?_
              rintro e w9 ⟨rfl, rfl⟩
              go_wp2_with fail
              refine (strict_c r _ HL32.out.2).mono ?_
              rintro e w9 ⟨rfl, rfl⟩
              go_wp2_with fail
              refine (addchild_a HI6P.out (i2 := r / 2) (r % 2 == 1) HB.out.2.2.1 (Nat.lt_of_lt_of_le HTG.out.2 HI6P.out.len) (by have := HB.out.1; omega) (by have := HB.out.2.1; omega)).mono ?_
              rintro e w9 ⟨rfl, L9, hJ⟩
              have HJ := Lib.hid hJ
              clear hJ
              go_wp2
              go_meet
              case rel =>
                exact ⟨L9, by rw [PS.alC, if_pos (alc_yes HGB.out HFR.out)]; exact HJ.out⟩
          case rest =>
          clear HGB
          obtain ⟨HI6L, hHI6⟩ := hcut
          have HI6 := Lib.hid hHI6
          clear hHI6
          go_wp2_with fail
          refine (setchl_a (i := k) (e := 0) HI6.out (by omega) HB.out.2.2.2.1 (by have := HI6.out.len; have := HB.out.2.2.1; omega)).mono ?_
          rintro e w9 ⟨rfl, L9, hJ⟩
          have HJ1 := Lib.hid hJ
          clear hJ
          go_wp2_with fail
          refine (setchr_a (i := k) (e := 0) HJ1.out (by omega) HB.out.2.2.2.1 (by have := HJ1.out.len; have := HB.out.2.2.1; omega)).mono ?_
          rintro e w9 ⟨rfl, L9, hJ⟩
          have HJ2 := Lib.hid hJ
          clear hJ
          go_wp2_with fail
          refine (upush_a HJ2.out 2 k l (by have := HB.out.1; omega)).mono ?_
          rintro e w9 ⟨rfl, L9, hJ⟩
          have HJ3 := Lib.hid hJ
          clear hJ
          go_wp2_with fail
          refine (upush_a HJ3.out 3 k r (by have := HB.out.1; omega)).mono ?_
          rintro e w9 ⟨rfl, L9, hJ⟩
          have HJ4 := Lib.hid hJ
          clear hJ
          go_wp2
          go_roundg (n0 - (k + 1))
          case measure => have := HMK.out; have := HN.out; omega
          case rel =>
            refine ⟨k + 1, L9, by have := HMK.out; have := HN.out; omega, by rw [Int.natCast_add]; rfl, ?_⟩
            have e : A.S.alN A.i1 A.T (k + 1) = (((((A.S.alN A.i1 A.T k).alA A.i1 A.T k l).alB A.i1 A.T k r).alC A.i1 A.T l).alC A.i1 A.T r).alD k l r := by
              show PS.alStep _ _ _ _ _ = _
              rw [PS.alStep, if_neg HKI.out, if_pos HFK.out, ← HX.out]
            rw [e]
            exact HJ4.out.mono (by omega) (by omega) (by omega)
    · have hkn : k = n0 := by have := HMK.out; have := HN.out; omega
      have HKN := Lib.hid hkn
      have hc5 : wr.cell? ⟨A.p, 2, none⟩ = some (.map (some Lk.vb)) := by rw [cell_block HINV.out.rep.hp]; rfl
      obtain ⟨o, hrg, cnt, hB⟩ := HINV.out.range
      have HB := Lib.hid hB
      clear hInv hmk hB hkn hT1 hb1 hm
      go_wp2_with fail
      have HV := Lib.hid (show (A.S.alN A.i1 A.T k).vl = A.S.vl from HINV.out.fld.1)
      have HLB := Lib.hid (show (A.S.alN A.i1 A.T k).lg.length + 1000 < Lim by have := HINV.out.lgb; have := HW.out.2.2.2.2.2.2.1; have := HN.out; have := HKN.out; omega)
      clear HA0 HA1 hc4 HINV HMK
      generalize hS1 : A.S.alN A.i1 A.T k = S1 at *
      have HS1 := Lib.hid hS1
      clear hS1
      have hBs := HB.out
      generalize wr.heap.size = rr at *
      go_loopg [11] cnt (fun m u w3 => ∃ done L3, BInv A S1 rr w3 L3 done m)
      case atStart => exact ⟨_, _, hBs⟩
      case round =>
        obtain ⟨done, L3, hI3⟩ := hrel
        have hnx := hI3.next
        have HI3 := Lib.hid hI3
        clear hI3 hBs hrg hc5
        rcases hnx with ⟨hall, hrun⟩ | ⟨id, w4, cnt4, hid1, hcl, hM, hrun, hent⟩
        · have HALL := Lib.hid hall
          clear hall
          go_wp2
          go_end0
          have e : A.S.alN A.i1 A.T A.S.nodes.length = S1 := by rw [HN.out, ← HKN.out]; exact HS1.out
          exact ⟨rfl, done, L3, HI3.out.rng.nodup.1, fun id => by rw [← HV.out]; exact HALL.out id, by rw [e]; exact HI3.out.rep, HI3.out.ext⟩
        · have HM := Lib.hid hM
          have HCL := Lib.hid hcl
          clear hM hcl
          have HVI := Lib.hid (show S1.vl id < A.S.nodes.length by rw [HV.out]; exact HW.out.1.va id)
          have HD := Lib.hid (HI3.out.len (fun id h => HW.out.2.2.2.2.2.2.2 id (by rw [← HV.out]; exact h)))
          clear HI3 hid1
          obtain ⟨fv, hfv⟩ : ∃ b, A.T (S1.vl id) = b := ⟨_, rfl⟩
          have HFV := Lib.hid hfv
          go_wp2_with fail
          have hT3 := HM.out.test HK.out HVI.out (by have := HW.out.2.2.2.2.2.1; omega)
          rw [hfv] at hT3
          refine hT3.mono ?_
          clear hT3 hfv hrun hent
          rintro e w9 ⟨rfl, rfl⟩
          cases fv
          · go_wp2
            go_roundg cnt4
            case measure => exact HCL.out
            case rel => exact ⟨id :: done, L3, HM.out.no HFV.out⟩
          · have hc6 : w4.cell? ⟨A.p, 2, none⟩ = some (.map (some L3.vb)) := by rw [cell_block HM.out.rep.hp]; rfl
            obtain ⟨w5, hup, hP⟩ := HM.out.put HW.out.2.2.2.1
            have HP := Lib.hid hP
            clear hP
            go_wp2_with fail
            clear hup hc6
            refine (HP.out.push HFV.out (by have := HD.out; have := HLB.out; omega)).mono ?_
            rintro e w6 ⟨rfl, L6, hI6⟩
            have HI6 := Lib.hid hI6
            clear hI6
            go_wp2
            go_roundg cnt4
            case measure => exact HCL.out
            case rel => exact ⟨id :: done, L6, HI6.out⟩
end Go.Proofs.Ytapnmgkpljlgmaa
namespace Go.Proofs.Ytapnmgkpljlgmaa
open Go.RowKit

/-- The state behind aliasnodes. -/
def PS.alias (S : PS) (i1 : Nat) (T : Nat → Bool) (ids : List Nat) : PS := (S.alN i1 T S.nodes.length).alE i1 T ids

theorem aliasnodes_c {w : World} {p : Nat} {S : PS} {L : Lay} (h : Rep w p S L) (wf : WF1 S) {a1 x : Nat} (h1 : IsV w L a1 x) (hx0 : S.vl x ≠ 0) {g c : Nat} {T : Nat → Bool}
    (hb : Bits w g ((S.nodes.length + 63) / 64) c T) (ho : ¬ L.own g) (hT1 : T (S.vl x) = false) (hsz : 3 * S.nodes.length + 10 < 2147483648) (hl : S.lg.length + 10 * S.nodes.length + 1100 < Lim) (hid : ∀ id, S.vl id ≠ 0 → id < 1000) {k : Nat} (hk : (S.nodes.length + 63) / 64 = k) :
    Calls Try.prog 116 #[.pointer (some ⟨p, 0, none⟩), .pointer (some ⟨a1, 0, none⟩), .slice (some ⟨g, 0, none⟩) k c] w fun e w' =>
      e = .returned (.tuple #[]) ∧ ∃ ids L', ids.Nodup ∧ (∀ id, id ∈ ids ↔ S.vl id ≠ 0) ∧ Rep w' p (S.alias (S.vl x) T ids) L' ∧ Ext w w' L L' := by
  have h0 : 0 < S.nodes.length := by have := wf.la; omega
  obtain ⟨gO, cap, hv, _⟩ := h.nodes_at (i := 0) h0
  have hnv : L.nv.ownBlock = some gO := by rw [hv]; rfl
  have hA : AInv ⟨w, p, L, S, S.vl x, gO, g, c, T⟩ 0 0 0 S w L :=
    ⟨h, Ext.refl w L, .inl hnv, fun j _ _ _ => rfl, Nat.le_refl _, by simp, by simp, wf.toWF0, hb, ho, h.lt _ (h.on _ hnv), rfl, rfl, rfl⟩
  exact aliasnodes_A (A := ⟨w, p, L, S, S.vl x, gO, g, c, T⟩) hA wf h1 rfl hx0 hT1 hnv hsz hl hid hk
end Go.Proofs.Ytapnmgkpljlgmaa
