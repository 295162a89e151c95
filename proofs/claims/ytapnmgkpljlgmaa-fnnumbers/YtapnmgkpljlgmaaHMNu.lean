/- The walk of FnNumbers. -/
import Derived.Test.YtapnmgkpljlgmaaG33
import Derived.Test.YtapnmgkpljlgmaaG24
set_option linter.unusedVariables false
set_option linter.unusedSimpArgs false
namespace Go.Proofs.Ytapnmgkpljlgmaa
open Go.RowKit
def nuLoop (w : World) (ad : Addr) (c1 : Nat) (ns : List Int) (l : List Z3) (n m : Nat) (u : Value) (wr : World) : Prop :=
  ∃ k : Nat, m + k = n ∧ u = .int .i64 (k : Nat) ∧ Fsh w wr 40 3 (.slice (some ad) n c1) n (z3s l) ∧ ∀ (i : Nat) z, i < k → l[i]? = some z → factB z = true → numZ ns z
def nu2Loop (w : World) (n m : Nat) (u : Value) (wr : World) : Prop := ∃ k : Nat, m + k = n ∧ u = .int .i64 (k : Nat) ∧ Fr w wr Nix
theorem cell_any {w w' : World} {a : Addr} {x : Value} (f : Fr w w' Nix) (h : w.cell? a = some x) : w'.cell? a = some x := (f.cell (World.block_lt_of_cell? w _ h) fun e => e).trans h
theorem op_ways {V : Nat} {o x y : Int} (h : WfZ (V : Int) (o, x, y)) : (∃ X Y : Nat, x = X ∧ y = Y ∧ X < V ∧ Y < V ∧ 0 ≤ o ∧ o ≤ 7) ∨ o = 8 ∨ o = 9 := by
  by_cases q8 : o = 8
  · exact .inr (.inl q8)
  · by_cases q9 : o = 9
    · exact .inr (.inr q9)
    · have h1 := h.lo
      have h2 := h.hi
      simp only at h1 h2
      obtain ⟨X, Y, e1, e2, e3, e4, _⟩ := wstp h (by omega)
      exact .inl ⟨X, Y, e1, e2, e3, e4, h1, by omega⟩
set_option maxRecDepth 10000 in
set_option maxHeartbeats 16000000 in
theorem FnNumbers_c {N A : Option Addr} {m d n c : Nat} {ns : List Int} {l : List Z3} {w : World} (h1 : Rd w 1 N m (z1s ns)) (hm : m ≤ maxLen) (h : Rd w 3 A n (z3s l)) (hn : n ≤ maxLen) :
    Calls Try.prog 19 #[.slice N m d, .slice A n c] w (Done w) := by
  have hlen : l.length = n := by have := h.1; rw [z3s_len] at this; omega
  have hlen1 := rdilen h1
  have hm1 := maxLen_int hn
  have hm2 := maxLen_int hm
  have H := Lib.hid (And.intro h hlen)
  have H1 := Lib.hid (And.intro h1 hlen1)
  clear h hlen hn h1 hlen1 hm
  by_cases hbig : 2147483647 < m
  · have hb : decide ((2147483647 : Int) < (m : Int)) = true := by rw [decide_eq_true_eq]; omega
    go_enter Try.func19, Try.ntmps19
    go_wp2
    go_ret
    exact ⟨rfl, Fr.refl _ _⟩
  · have hb : decide ((2147483647 : Int) < (m : Int)) = false := by rw [decide_eq_false_iff_not]; omega
    have HB := Lib.hid (show m < 2147483648 by omega)
    clear hbig
    by_cases hbig2 : 2147483647 < n
    · have hb2 : decide ((2147483647 : Int) < (n : Int)) = true := by rw [decide_eq_true_eq]; omega
      go_enter Try.func19, Try.ntmps19
      go_wp2
      go_ret
      exact ⟨rfl, Fr.refl _ _⟩
    · have hb2 : decide ((2147483647 : Int) < (n : Int)) = false := by rw [decide_eq_false_iff_not]; omega
      have HB2 := Lib.hid (show n < 2147483648 by omega)
      clear hbig2
      go_enter Try.func19, Try.ntmps19
      go_wp2_with fail
      refine (conv_c H.out.1 HB2.out).mono ?_
      rintro e w1 ⟨v1, rfl, hF⟩
      obtain ⟨g1, c1, rfl⟩ := hF.shp
      obtain ⟨ad, had⟩ : ∃ ad : Addr, (⟨g1, 0, none⟩ : Addr) = ad := ⟨_, rfl⟩
      rw [had] at hF ⊢
      clear had
      have HF := Lib.hid hF
      clear hF
      go_wp2_with fail
      refine (good_c (m : Int) (n := n) (c := c1) HF.out.rd (by have := HB2.out; omega)).mono ?_
      rintro e w2 ⟨rfl, hF2⟩
      have HF2 := Lib.hid (HF.out.nix hF2)
      clear hF2
      obtain ⟨g, hg⟩ : ∃ g, goodB (m : Int) l = g := ⟨_, rfl⟩
      rw [hg]
      have HG := Lib.hid hg
      clear hg
      cases g
      · go_wp2
        go_ret
        exact ⟨rfl, HF2.out.fr⟩
      · have HGZ := Lib.hid (goodB_z HG.out)
        have HV12 := Lib.hid (show m ≤ 12 by have := HGZ.out.v12; omega)
        have hni : (n : Int) ≤ 64 := by have := HGZ.out.len; have := H.out.2; omega
        have hmi : (m : Int) ≤ 12 := by have := HV12.out; omega
        go_wp2_with fail
        go_loopg [28] n (fun k u wr => nuLoop w ad c1 ns l n k u wr)
        case atStart => exact ⟨0, rfl, rfl, HF2.out, fun i z hi => absurd hi (by omega)⟩
        case round =>
          obtain ⟨k, hmk, rfl, hF, hok⟩ := hrel
          have HF3 := Lib.hid hF
          have HOK := Lib.hid hok
          have HMK := Lib.hid hmk
          clear hF hok hmk
          by_cases hlt : k < n
          · obtain ⟨ad', po, px, py, hA, hz, hc⟩ := rd3 HF3.out.rd hlt
            cases hA
            have HC := Lib.hid hc
            have HZ := Lib.hid hz
            have HW := Lib.hid (HGZ.out.wf _ (List.mem_of_getElem? hz))
            clear hz hc
            go_wp2_with (first
              | (with_reducible refine wpList_ld (o := ⟨some 31, _, _, _, _, _⟩) rfl 40 (.tmp 30) rfl _ rfl #[.int .i64 po, .int .i64 px, .int .i64 py] _ HC.out Try.underlying40 rfl (by kernel_rfl) ?_)
              | fail)
            refine (sets_c po px py _).mono ?_
            rintro e w3 ⟨rfl, hF4⟩
            have HBX := Lib.hid (step_boxn wr po px py hF4)
            have HF4 := Lib.hid (HF3.out.nix ((Fr.al _ _).t hF4))
            clear hF4
            obtain ⟨s, hs⟩ : ∃ s, factB (po, px, py) = s := ⟨_, rfl⟩
            rw [hs]
            have HS := Lib.hid hs
            clear hs
            cases s
            · go_wp2
              go_roundg (n - (k + 1))
              case measure => have := HMK.out; omega
              case rel =>
                refine ⟨k + 1, by have := HMK.out; omega, by rw [Int.natCast_add]; rfl, HF4.out, fun i z hi hz2 hf => ?_⟩
                rcases Nat.lt_succ_iff_lt_or_eq.1 hi with hi | rfl
                · exact HOK.out i z hi hz2 hf
                · rw [HZ.out] at hz2
                  cases hz2
                  rw [HS.out] at hf; cases hf
            · have hfa : 0 ≤ po ∧ po ≤ 3 := by have := HS.out; simpa [factB] using this
              rcases op_ways HW.out with ⟨X, Y, rfl, rfl, hX, hY, ho0, ho7⟩ | rfl | rfl
              · obtain ⟨a, ha⟩ := get_of (l := ns) (k := X) (by rw [H1.out.2]; exact hX)
                obtain ⟨b, hb3⟩ := get_of (l := ns) (k := Y) (by rw [H1.out.2]; exact hY)
                have HAB := Lib.hid (And.intro ha hb3)
                have HXY := Lib.hid (And.intro hX (And.intro hY (And.intro ho0 ho7)))
                clear ha hb3 hX hY ho0 ho7 hfa
                obtain ⟨x0, x1, x2⟩ := HBX.out
                go_wp2_with fail
                refine (true_c (H1.out.1.nix HF4.out.fr) HV12.out HXY.out.2.2.1 HXY.out.2.2.2 HXY.out.1 HXY.out.2.1 HAB.out.1 HAB.out.2).mono ?_
                rintro e w4 ⟨rfl, hF5⟩
                have HF5 := Lib.hid (HF4.out.nix hF5)
                clear hF5 x0 x1 x2
                obtain ⟨t, ht⟩ : ∃ t, trB po a b = t := ⟨_, rfl⟩
                rw [ht]
                have HT := Lib.hid ht
                clear ht
                cases t
                · go_wp2
                  go_ret
                  exact ⟨rfl, HF5.out.fr⟩
                · go_wp2
                  go_roundg (n - (k + 1))
                  case measure => have := HMK.out; omega
                  case rel =>
                    refine ⟨k + 1, by have := HMK.out; omega, by rw [Int.natCast_add]; rfl, HF5.out, fun i z hi hz2 hf => ?_⟩
                    rcases Nat.lt_succ_iff_lt_or_eq.1 hi with hi | rfl
                    · exact HOK.out i z hi hz2 hf
                    · rw [HZ.out] at hz2
                      cases hz2
                      exact (numZ_iff HXY.out.2.2.1 HAB.out.1 HAB.out.2).2 HT.out
              · omega
              · omega
          · have hk : k = n := by have := HMK.out; omega
            subst hk
            have HALL := Lib.hid (show ∀ (i : Nat) z, l[i]? = some z → factB z = true → numZ ns z from fun i z hz hf => HOK.out i z (by have := (List.getElem?_eq_some_iff.1 hz).1; rw [H.out.2] at this; exact this) hz hf)
            go_wp2_with fail
            refine (iRun_c (m : Int) (H.out.1.nix HF3.out.fr) HGZ.out.run).mono ?_
            rintro e w4 ⟨u, rfl, hF4, _, hown⟩
            obtain ⟨A4, c4, rfl, _, _, hR4, _⟩ := rd_own hown
            have HR4 := Lib.hid hR4
            have HF4 := Lib.hid (HF3.out.nix hF4)
            clear hF4 hown hR4
            go_wp2_with fail
            go_loopg [47] k (fun j u wr => nu2Loop w4 k j u wr)
            case atStart => exact ⟨0, rfl, rfl, Fr.refl _ _⟩
            case round =>
              obtain ⟨j, hmj, rfl, hF⟩ := hrel
              have HF5 := Lib.hid hF
              have HMJ := Lib.hid hmj
              clear hF hmj
              by_cases hlt : j < k
              · obtain ⟨ad', po, px, py, hA, hz, hc⟩ := rd3 (HF4.out.nix HF5.out).rd hlt
                cases hA
                obtain ⟨ad4, b, rfl, hb4, hcb⟩ := rdat (HR4.out.nix HF5.out) hlt
                have HC := Lib.hid hc
                have HZ := Lib.hid hz
                have HW := Lib.hid (HGZ.out.wf _ (List.mem_of_getElem? hz))
                have HNZ := Lib.hid (num_z (ns := ns) (b := b) (by rw [H1.out.2]; exact HGZ.out) HALL.out hz hb4)
                have djk : decide ((k : Int) ≤ (j : Int)) = false := by rw [decide_eq_false_iff_not]; omega
                have hjk2 : (j : Int) < (k : Int) := by omega
                have HCB := Lib.hid hcb
                clear hz hc hb4 hcb
                go_wp2_with (first
                  | (with_reducible refine wpList_ld (o := ⟨some 51, _, _, _, _, _⟩) rfl 40 (.tmp 50) rfl _ rfl #[.int .i64 po, .int .i64 px, .int .i64 py] _ HC.out Try.underlying40 rfl (by kernel_rfl) ?_)
                  | fail)
                refine (sets_c po px py _).mono ?_
                rintro e w5 ⟨rfl, hF6⟩
                have HBX := Lib.hid (step_boxn wr po px py hF6)
                have f6 := (Fr.al wr (.cells #[.int .i64 po, .int .i64 px, .int .i64 py] 40)).t hF6
                have HF6 := Lib.hid (HF5.out.t f6)
                have HCB := Lib.hid (cell_any f6 HCB.out)
                clear hF6 f6
                rcases op_ways HW.out with ⟨X, Y, rfl, rfl, hX, hY, ho0, ho7⟩ | rfl | rfl
                · by_cases h3 : po ≤ 3
                  · have e1 : factB (po, (X : Int), (Y : Int)) = true := by simp [factB, ho0, h3]
                    have e2 : askB (po, (X : Int), (Y : Int)) = false := by simp [askB]; omega
                    obtain rfl := HNZ.out.1 e1
                    have hcb := HCB.out
                    obtain ⟨x0, x1, x2⟩ := HBX.out
                    have E2 := Lib.hid e2
                    rw [e1]
                    clear e1 e2 hX hY ho0 ho7 h3
                    go_wp2_with fail
                    refine (asks_c po (X : Int) (Y : Int) _).mono ?_
                    rintro e w6 ⟨rfl, hF7⟩
                    have HF7 := Lib.hid (HF6.out.t hF7)
                    rw [E2.out]
                    clear hF7 x0 x1 x2 hcb
                    go_wp2
                    go_roundg (k - (j + 1))
                    case measure => have := HMJ.out; omega
                    case rel => exact ⟨j + 1, by have := HMJ.out; omega, by rw [Int.natCast_add]; rfl, HF7.out⟩
                  · have e1 : factB (po, (X : Int), (Y : Int)) = false := by simp [factB]; omega
                    have e2 : askB (po, (X : Int), (Y : Int)) = true := by simp [askB]; omega
                    obtain ⟨a, ha⟩ := get_of (l := ns) (k := X) (by rw [H1.out.2]; exact hX)
                    obtain ⟨a2, hb3⟩ := get_of (l := ns) (k := Y) (by rw [H1.out.2]; exact hY)
                    have HAB := Lib.hid (And.intro ha hb3)
                    have HXY := Lib.hid (And.intro hX (And.intro hY (And.intro ho0 ho7)))
                    obtain ⟨x0, x1, x2⟩ := HBX.out
                    have E2 := Lib.hid e2
                    rw [e1]
                    clear e1 e2 hX hY ho0 ho7 h3 ha hb3
                    go_wp2_with fail
                    refine (asks_c po (X : Int) (Y : Int) _).mono ?_
                    rintro e w6 ⟨rfl, hF7⟩
                    have HBX := Lib.hid (cells3 HBX.out hF7)
                    have hcb := cell_any hF7 HCB.out
                    have HF7 := Lib.hid (HF6.out.t hF7)
                    rw [E2.out]
                    clear hF7 x0 x1 x2
                    cases b
                    · go_wp2
                      go_roundg (k - (j + 1))
                      case measure => have := HMJ.out; omega
                      case rel => exact ⟨j + 1, by have := HMJ.out; omega, by rw [Int.natCast_add]; rfl, HF7.out⟩
                    · have HT := Lib.hid ((numZ_iff HXY.out.2.2.1 HAB.out.1 HAB.out.2).1 (HNZ.out.2 E2.out rfl))
                      obtain ⟨x0, x1, x2⟩ := HBX.out
                      go_wp2_with fail
                      refine (true_c (H1.out.1.nix (HF4.out.fr.t HF7.out)) HV12.out HXY.out.2.2.1 HXY.out.2.2.2 HXY.out.1 HXY.out.2.1 HAB.out.1 HAB.out.2).mono ?_
                      rintro e w7 ⟨rfl, hF8⟩
                      have HF8 := Lib.hid (HF7.out.t hF8)
                      rw [HT.out]
                      clear hF8 x0 x1 x2 hcb
                      go_wp2
                      go_roundg (k - (j + 1))
                      case measure => have := HMJ.out; omega
                      case rel => exact ⟨j + 1, by have := HMJ.out; omega, by rw [Int.natCast_add]; rfl, HF8.out⟩
                all_goals
                  obtain ⟨x0, x1, x2⟩ := HBX.out
                  rw [show factB (_, px, py) = false by rfl]
                  go_wp2_with fail
                  refine (asks_c _ px py _).mono ?_
                  rintro e w6 ⟨rfl, hF7⟩
                  have HF7 := Lib.hid (HF6.out.t hF7)
                  rw [show askB (_, px, py) = false by rfl]
                  clear hF7 x0 x1 x2
                  go_wp2
                  go_roundg (k - (j + 1))
                  case measure => have := HMJ.out; omega
                  case rel => exact ⟨j + 1, by have := HMJ.out; omega, by rw [Int.natCast_add]; rfl, HF7.out⟩
              · have hj : j = k := by have := HMJ.out; omega
                subst hj
                go_wp2
                go_ret
                exact ⟨rfl, HF4.out.fr.t HF5.out⟩
end Go.Proofs.Ytapnmgkpljlgmaa
