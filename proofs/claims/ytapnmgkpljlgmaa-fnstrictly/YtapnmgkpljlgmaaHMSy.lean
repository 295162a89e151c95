/- The walk of FnStrictly. -/
import Derived.Test.YtapnmgkpljlgmaaG26
import Derived.Test.YtapnmgkpljlgmaaG27
import Derived.Test.YtapnmgkpljlgmaaG21
import Derived.Test.YtapnmgkpljlgmaaG25
import Derived.Deep.RegionHeld3
set_option linter.unusedVariables false
set_option linter.unusedSimpArgs false
namespace Go.Proofs.Ytapnmgkpljlgmaa
open Go.RowKit

def sameZ (V : Nat) (l : List Z3) (x y : Nat) : Bool := known V (sts l) x y == 1 && known V (sts l) y x == 1
def moreZ (V : Nat) (l : List Z3) (x y : Nat) : List Z3 :=
  if 0 < known V (sts l) x y ∧ sameZ V l x y = false then l ++ [(0, (x : Int), (y : Int))] else if 0 < known V (sts l) y x ∧ sameZ V l x y = false then l ++ [(0, (y : Int), (x : Int))] else l
theorem moreZ_sts (V : Nat) (l : List Z3) (x y : Nat) : sts (moreZ V l x y) = moreS V (sts l) x y := by
  unfold moreZ moreS
  show sts (if 0 < known V (sts l) x y ∧ sameB V (sts l) x y = false then _ else if 0 < known V (sts l) y x ∧ sameB V (sts l) x y = false then _ else l) = _
  split
  · rw [sts_app]; rfl
  · split
    · rw [sts_app]; rfl
    · rfl
theorem moreZ_wf {V x y : Nat} {l : List Z3} (hl : ∀ z ∈ l, WfZ (V : Int) z) (hx : x < V) (hy : y < V) (hxy : x ≠ y) : ∀ z ∈ moreZ V l x y, WfZ (V : Int) z := by
  have a1 : ∀ {a b : Nat}, a < V → b < V → a ≠ b → WfZ (V : Int) (0, (a : Int), (b : Int)) := fun h1 h2 h3 => ⟨by simp, by simp, fun _ _ => by simp only; omega⟩
  unfold moreZ
  intro z hz
  split at hz
  · rcases List.mem_append.1 hz with hz | hz
    · exact hl z hz
    · rw [List.mem_singleton.1 hz]; exact a1 hx hy hxy
  · split at hz
    · rcases List.mem_append.1 hz with hz | hz
      · exact hl z hz
      · rw [List.mem_singleton.1 hz]; exact a1 hy hx fun e => hxy e.symm
    · exact hl z hz
theorem moreZ_len (V : Nat) (l : List Z3) (x y : Nat) : (moreZ V l x y).length ≤ l.length + 1 := by
  unfold moreZ
  split
  · simp
  · split <;> simp
theorem strictly_z {V X Y : Nat} {l q : List Z3} (h : GoodZ (V : Int) l) (hf : l.all factB = true) (hn : l.all noN = true) (hfit : fitB V (sts l) = true) (hX : X < V) (hY : Y < V) (hXY : X ≠ Y) (hq : AskZ (V : Int) q) (h6 : ∀ z ∈ q, z.1 ≤ 6) :
    outz (l ++ ([(3, (X : Int), (Y : Int))] ++ q)) = outz l ++ ([!sameZ V l X Y] ++ q.map fun z => holdB V (sts (moreZ V l X Y)) (stz z)) := by
  have hi : InV V (sts l) := fun f hf2 h2 => by
    obtain ⟨z, hz, rfl⟩ := List.mem_map.1 hf2
    have := ((h.wf z hz).wf.2 (by omega))
    exact ⟨this.1, this.2.1⟩
  have hp : Plain (sts l) := fun f hf2 => by
    obtain ⟨z, hz, rfl⟩ := List.mem_map.1 hf2
    have h1 := List.all_eq_true.1 hf z hz
    have h1 : 0 ≤ z.1 ∧ z.1 ≤ 3 := by simpa [factB] using h1
    have h2 := List.all_eq_true.1 hn z hz
    have h2 : ¬ z.1 = 3 := by simpa [noN] using h2
    unfold stz; simp only; omega
  obtain ⟨_, hpair⟩ := fits_all _ (sts l) rfl hi hp hfit
  obtain ⟨s1, s2⟩ := strictly_law hpair hX hY hXY
  have hz : (stz (3, (X : Int), (Y : Int))).op ≤ 3 := Nat.le_refl 3
  have e : l ++ ([(3, (X : Int), (Y : Int))] ++ q) = (l ++ [(3, (X : Int), (Y : Int))]) ++ q := by simp
  rw [e, outz_ask _ hq, outz_set _ hz, Sz_set' _ hz, List.append_assoc]
  have e1 : qz (Sz l) (3, (X : Int), (Y : Int)) = !sameZ V l X Y := s1
  have e2 : q.map (qz (Ans1 (Sz l) (3, (X : Int), (Y : Int)))) = q.map fun z => holdB V (sts (moreZ V l X Y)) (stz z) := by
    refine List.map_congr_left fun z hz => ?_
    obtain ⟨w, h4, h7⟩ := hq z hz
    have := h6 z hz
    rw [moreZ_sts]
    exact s2 (stz z) (by unfold stz; simp only; omega) (by
      have := (w.wf.2 (by unfold stz; simp only; omega)).2.2
      exact this)
  rw [e1, e2]
set_option maxRecDepth 10000 in
set_option maxHeartbeats 16000000 in
theorem FnStrictly_c {v x y : Int} {A : Option Addr} {n c : Nat} {l : List Z3} {w : World} (h : Rd w 3 A n (z3s l)) (hn : n ≤ maxLen) :
    Calls Try.prog 28 #[.int .i64 v, .slice A n c, .int .i64 x, .int .i64 y] w (Done w) := by
  have hlen : l.length = n := by have := h.1; rw [z3s_len] at this; omega
  have hm := maxLen_int hn
  have H := Lib.hid (And.intro h hlen)
  clear h hlen hn
  by_cases hbig : 2147483647 < n
  · have hb : decide ((2147483647 : Int) < (n : Int)) = true := by rw [decide_eq_true_eq]; omega
    go_enter Try.func28, Try.ntmps28
    go_wp2
    go_ret
    exact ⟨rfl, Fr.refl _ _⟩
  · have hb : decide ((2147483647 : Int) < (n : Int)) = false := by rw [decide_eq_false_iff_not]; omega
    have HB := Lib.hid (show n < 2147483648 by omega)
    clear hbig
    go_enter Try.func28, Try.ntmps28
    go_wp2_with fail
    refine (conv_c H.out.1 HB.out).mono ?_
    rintro e w1 ⟨v1, rfl, hF⟩
    obtain ⟨A1, c1, rfl⟩ := hF.shp
    have HF := Lib.hid hF
    clear hF
    go_upto_region 5 with fail
    obtain ⟨w2, hw2⟩ : ∃ w2, w1.alloc (.cells #[.int .i64 3, .int .i64 x, .int .i64 y] 40) = w2 := ⟨_, rfl⟩
    have f2 : Fr w1 w2 Nix := hw2 ▸ Fr.al w1 (.cells #[.int .i64 3, .int .i64 x, .int .i64 y] 40)
    have hB : Box3 w2 w1.heap.size 3 x y := hw2 ▸ box3_new w1 3 x y 40
    rw [hw2]
    clear hw2
    obtain ⟨gb, hgb⟩ : ∃ g, w1.heap.size = g := ⟨_, rfl⟩
    rw [hgb] at hB ⊢
    clear hgb
    have HBX := Lib.hid hB
    have HF2 := Lib.hid (HF.out.nix f2)
    clear f2
    obtain ⟨b0, b1, b2⟩ := hB
    go_wp2_with fail
    refine (with_c (o := 3) (x := x) (y := y) HF2.out.rd HB.out).mono ?_
    rintro e w3 ⟨v2, rfl, hW⟩
    obtain ⟨gw, cw, rfl⟩ := hW.shp
    have HW := Lib.hid hW
    clear hW b0 b1 b2
    go_wp2_with fail
    refine (good_c v (n := n + 1) (c := cw) HW.out.rd (by have := HB.out; omega)).mono ?_
    rintro e w4 ⟨rfl, hF4⟩
    have F4 := Lib.hid (HW.out.fr.t hF4)
    clear hF4
    obtain ⟨g, hg⟩ : ∃ g, goodB v (l ++ [(3, x, y)]) = g := ⟨_, rfl⟩
    rw [hg]
    have HG := Lib.hid hg
    clear hg
    cases g
    · go_wp2
      go_ret
      exact ⟨rfl, HF2.out.fr.t F4.out⟩
    · have ONE := Lib.hid (One.mk' HG.out (by rfl))
      obtain ⟨V, hV⟩ : ∃ V : Nat, v = V := ⟨v.toNat, by have := ONE.out.g.v0; omega⟩
      subst hV
      have HV12 := Lib.hid (show V ≤ 12 by have := ONE.out.g.v12; omega)
      obtain ⟨X, Y, rfl, rfl, hX, hY, hXY⟩ := wstp ONE.out.wf (by omega)
      have HXY := Lib.hid (And.intro hX (And.intro hY hXY))
      clear hX hY hXY
      have GL := Lib.hid ONE.out.g.left
      have HN := Lib.hid (show n ≤ 63 by have := ONE.out.len; have := H.out.2; omega)
      have hni : (n : Int) ≤ 63 := by have := HN.out; omega
      have HL4 := Lib.hid (HF2.out.nix F4.out)
      go_wp2_with fail
      refine (plainS_c HL4.out.rd HB.out).mono ?_
      rintro e w5 ⟨rfl, hF5⟩
      have HL5 := Lib.hid (HL4.out.nix hF5)
      have F5 := Lib.hid (F4.out.t hF5)
      clear hF5
      obtain ⟨p, hp⟩ : ∃ p, l.all noN = p := ⟨_, rfl⟩
      rw [hp]
      have HPL := Lib.hid hp
      clear hp
      cases p
      · go_wp2
        go_ret
        exact ⟨rfl, HL5.out.fr⟩
      · go_wp2_with fail
        refine (only_c HL5.out.rd HB.out).mono ?_
        rintro e w6 ⟨rfl, hF6⟩
        have HL6 := Lib.hid (HL5.out.nix hF6)
        have F6 := Lib.hid (F5.out.t hF6)
        clear hF6
        obtain ⟨p, hp⟩ : ∃ p, l.all factB = p := ⟨_, rfl⟩
        rw [hp]
        have HFA := Lib.hid hp
        clear hp
        cases p
        · go_wp2
          go_ret
          exact ⟨rfl, HL6.out.fr⟩
        · go_wp2_with fail
          refine (fits_c HL6.out.rd (by have := HN.out; omega) HV12.out GL.out.wf).mono ?_
          rintro e w7 ⟨rfl, hF7⟩
          have HL7 := Lib.hid (HL6.out.nix hF7)
          have F7 := Lib.hid (F6.out.t hF7)
          clear hF7
          obtain ⟨p, hp⟩ : ∃ p, fitB V (sts l) = p := ⟨_, rfl⟩
          rw [hp]
          have HFI := Lib.hid hp
          clear hp
          cases p
          · go_wp2
            go_ret
            exact ⟨rfl, HL7.out.fr⟩
          · go_wp2_with fail
            refine (known_c HL7.out.rd (by have := HN.out; omega) HV12.out GL.out.wf).mono ?_
            rintro e w8 ⟨g, cc, rfl, hg, hT, hF⟩
            unfold ordV
            obtain ⟨M, hM⟩ : ∃ M, known V (sts l) = M := ⟨_, rfl⟩
            have HM := Lib.hid hM
            rw [hM] at hT
            have hTB : TBox (w8.alloc (.cells #[.int .i64 (V : Nat), .slice (some ⟨g, 0, none⟩) (V * V) cc] 73)) w8.heap.size V g cc M := ⟨obox_new w8 V g cc 73, hT.nix (Fr.al w8 _)⟩
            have hf8 := hF.a (.cells #[.int .i64 (V : Nat), .slice (some ⟨g, 0, none⟩) (V * V) cc] 73)
            clear hM hT hF hg
            go_upto_region 9 with fail
            obtain ⟨w0, hw0⟩ : ∃ w0, w8.alloc (.cells #[.int .i64 (V : Nat), .slice (some ⟨g, 0, none⟩) (V * V) cc] 73) = w0 := ⟨_, rfl⟩
            obtain ⟨b, hb3⟩ : ∃ b, w8.heap.size = b := ⟨_, rfl⟩
            rw [hw0, hb3] at hTB ⊢
            rw [hw0] at hf8
            have HTB := Lib.hid hTB
            have HL0 := Lib.hid (HL7.out.nix hf8)
            have F0 := Lib.hid (F7.out.t hf8)
            clear hTB hf8 hw0 hb3
            obtain ⟨a1, h1⟩ : ∃ a, M X Y = a := ⟨_, rfl⟩
            obtain ⟨a2, h2⟩ : ∃ a, M Y X = a := ⟨_, rfl⟩
            obtain ⟨sm, hsm⟩ : ∃ s, (a1 == 1 && a2 == 1) = s := ⟨_, rfl⟩
            have HA := Lib.hid (And.intro h1 h2)
            have HSM := Lib.hid (show sameZ V l X Y = sm by unfold sameZ; rw [HM.out, h1, h2, hsm])
            have HMO := Lib.hid (show moreZ V l X Y = if 0 < a1 ∧ sm = false then l ++ [(0, (X : Int), (Y : Int))] else if 0 < a2 ∧ sm = false then l ++ [(0, (Y : Int), (X : Int))] else l by
              unfold moreZ; rw [HSM.out, HM.out, h1, h2])
            have HS1 := Lib.hid (show sm = true → 0 < a1 ∧ 0 < a2 by
              intro e
              rw [← hsm, Bool.and_eq_true, beq_iff_eq, beq_iff_eq] at e
              omega)
            have HSM2 := Lib.hid hsm
            clear h1 h2 hsm
            obtain ⟨N, hN⟩ : ∃ N, (moreZ V l X Y).length = N := ⟨_, rfl⟩
            have HNN := Lib.hid hN
            clear hN
            obtain ⟨D, hD⟩ : ∃ D, (decide (0 < a1) && !sm) = D := ⟨_, rfl⟩
            have HD := Lib.hid hD
            clear hD
            go_cut [63] from 52 to 63 (fun d wx => d = .bool D ∧ Fr w0 wx Nix)
            case first =>
              obtain ⟨b0, b1, _⟩ := HTB.out.1
              go_wp2_with fail
              refine (atx_c HTB.out.2 HV12.out HXY.out.1 HXY.out.2.1).mono ?_
              rintro e w9 ⟨rfl, hF9⟩
              rw [HA.out.1]
              have HF9 := Lib.hid hF9
              clear hF9 b0 b1
              by_cases hp1 : 0 < a1
              · have d1 : decide (0 < a1) = true := decide_eq_true hp1
                obtain ⟨b0, b1, _⟩ := (HTB.out.nix HF9.out).1
                have HDD := Lib.hid (show D = !sm by rw [← HD.out, d1, Bool.true_and])
                go_wp2_with fail
                refine (sameo_c (HTB.out.nix HF9.out).2 HV12.out HXY.out.1 HXY.out.2.1).mono ?_
                rintro e w10 ⟨rfl, hF10⟩
                rw [HA.out.1, HA.out.2, HSM2.out]
                have HF10 := Lib.hid (HF9.out.t hF10)
                clear hF10 b0 b1 d1
                go_wp2_with fail
                go_meet
                exact ⟨by rw [HDD.out], HF10.out⟩
              · have d1 : decide (0 < a1) = false := decide_eq_false hp1
                have HDD := Lib.hid (show D = false by rw [← HD.out, d1, Bool.false_and])
                go_wp2_with fail
                go_meet
                exact ⟨by rw [HDD.out], HF9.out⟩
            case rest =>
              obtain ⟨rfl, hFc⟩ := hcut
              have HFC := Lib.hid hFc
              clear hFc
              generalize wc = wd at *
              go_upto_if 63 with fail
              go_cut [12] from 64 to 85 (fun f wx => ∃ gm cm, f = .slice (some ⟨gm, 0, none⟩) N cm ∧ Rd wx 3 (some ⟨gm, 0, none⟩) N (z3s (moreZ V l X Y)) ∧ Fr w0 wx Nix)
              case first =>
                cases D
                · have HPF := Lib.hid (show ¬ (0 < a1 ∧ sm = false) by
                    have h := HD.out
                    rintro ⟨e1, rfl⟩
                    rw [decide_eq_true e1] at h; cases h)
                  obtain ⟨b0, b1, _⟩ := (HTB.out.nix HFC.out).1
                  go_wp2_with fail
                  refine (atx_c (HTB.out.nix HFC.out).2 HV12.out HXY.out.2.1 HXY.out.1).mono ?_
                  rintro e w11 ⟨rfl, hF11⟩
                  rw [HA.out.2]
                  have HF11 := Lib.hid (HFC.out.t hF11)
                  clear hF11 b0 b1
                  by_cases hp2 : 0 < a2
                  · have d2 : decide (0 < a2) = true := decide_eq_true hp2
                    obtain ⟨b0, b1, _⟩ := (HTB.out.nix HF11.out).1
                    have HP2 := Lib.hid hp2
                    clear hp2
                    go_wp2_with fail
                    refine (sameo_c (HTB.out.nix HF11.out).2 HV12.out HXY.out.1 HXY.out.2.1).mono ?_
                    rintro e w12 ⟨rfl, hF12⟩
                    rw [HA.out.1, HA.out.2, HSM2.out]
                    have HF12 := Lib.hid (HF11.out.t hF12)
                    clear hF12 b0 b1 d2
                    cases sm
                    · go_wp2_with fail
                      refine (with_c (o := 0) (x := (Y : Int)) (y := (X : Int)) (HL0.out.rd.nix HF12.out) HB.out).mono ?_
                      rintro e w13 ⟨v13, rfl, hW⟩
                      obtain ⟨gm, cm, rfl⟩ := hW.shp
                      have HW11 := Lib.hid hW
                      have HE := Lib.hid (show moreZ V l X Y = l ++ [(0, (Y : Int), (X : Int))] by rw [HMO.out, if_neg HPF.out, if_pos ⟨HP2.out, by simp⟩])
                      have HNE := Lib.hid (show n + 1 = N by rw [← HNN.out, HE.out, List.length_append, H.out.2]; rfl)
                      rw [HNE.out] at HW11
                      clear hW
                      go_wp2_with fail
                      go_meet
                      exact ⟨gm, cm, by rw [HNE.out], by rw [HE.out]; exact HW11.out.rd, HF12.out.t HW11.out.fr⟩
                    · have HE := Lib.hid (show moreZ V l X Y = l by rw [HMO.out, if_neg HPF.out, if_neg (by simp)])
                      have HNE := Lib.hid (show n = N by rw [← HNN.out, HE.out, H.out.2])
                      go_wp2_with fail
                      go_meet
                      exact ⟨A1, c1, by rw [HNE.out], by rw [HE.out, ← HNE.out]; exact HL0.out.rd.nix HF12.out, HF12.out⟩
                  · have d2 : decide (0 < a2) = false := decide_eq_false hp2
                    have HE := Lib.hid (show moreZ V l X Y = l by rw [HMO.out, if_neg HPF.out, if_neg (fun e => hp2 e.1)])
                    have HNE := Lib.hid (show n = N by rw [← HNN.out, HE.out, H.out.2])
                    clear hp2
                    go_wp2_with fail
                    go_meet
                    exact ⟨A1, c1, by rw [HNE.out], by rw [HE.out, ← HNE.out]; exact HL0.out.rd.nix HF11.out, HF11.out⟩
                · have HPT := Lib.hid (show 0 < a1 ∧ sm = false by
                    have h := HD.out
                    rw [Bool.and_eq_true, decide_eq_true_eq] at h
                    exact ⟨h.1, by cases sm; rfl; exact absurd h.2 (by decide)⟩)
                  go_wp2_with fail
                  refine (with_c (o := 0) (x := (X : Int)) (y := (Y : Int)) (HL0.out.rd.nix HFC.out) HB.out).mono ?_
                  rintro e w11 ⟨v11, rfl, hW⟩
                  obtain ⟨gm, cm, rfl⟩ := hW.shp
                  have HW11 := Lib.hid hW
                  have HE := Lib.hid (show moreZ V l X Y = l ++ [(0, (X : Int), (Y : Int))] by rw [HMO.out, if_pos HPT.out])
                  have HNE := Lib.hid (show n + 1 = N by rw [← HNN.out, HE.out, List.length_append, H.out.2]; rfl)
                  rw [HNE.out] at HW11
                  clear hW
                  go_wp2_with fail
                  go_meet
                  exact ⟨gm, cm, by rw [HNE.out], by rw [HE.out]; exact HW11.out.rd, HFC.out.t HW11.out.fr⟩
              case rest =>
                obtain ⟨gm, cm, rfl, hRm, hFm⟩ := hcut
                have HRM := Lib.hid hRm
                have HFM := Lib.hid hFm
                clear hRm hFm
                generalize wc = we at *
                have HLE := Lib.hid (HL0.out.rd.nix HFM.out)
                have HFE := Lib.hid (HL0.out.fr.t HFM.out)
                have HBE := Lib.hid (HBX.out.nix (F0.out.t HFM.out))
                have HTE := Lib.hid (HTB.out.nix HFM.out)
                have HNL := Lib.hid (show N ≤ 64 by rw [← HNN.out]; have := moreZ_len V l X Y; have := H.out.2; have := HN.out; omega)
                go_wp2_with fail
                refine (quests_c (V := V) (f := 4) (t := 6) HV12.out (by omega) (by omega) (by omega)).mono ?_
                rintro e w5 ⟨vq, rfl, hQ⟩
                obtain ⟨q, hq⟩ : ∃ q, quests V 4 6 = q := ⟨_, rfl⟩
                have hAQ := quests_ask (v := V) (f := 4) (t := 6) (by omega) (by omega)
                have hLQ := quests_len (v := V) (f := 4) (t := 6) HV12.out (by omega) (by omega)
                have hKQ : ∀ z ∈ quests V 4 6, (4 : Int) ≤ z.1 ∧ z.1 ≤ 6 := fun z hz => by have := quests_all (f := 4) (t := 6) hz (by omega); omega
                rw [hq] at hQ hAQ hLQ hKQ
                clear hq
                obtain ⟨Q, hQl⟩ : ∃ Q, q.length = Q := ⟨_, rfl⟩
                have hQ : Fsh we w5 40 3 vq q.length (z3s q) := hQ
                rw [hQl] at hQ hLQ
                obtain ⟨gq, cq, rfl⟩ := hQ.shp
                have HQ := Lib.hid (And.intro hQ (And.intro hAQ (And.intro hQl hKQ)))
                have HLQ := Lib.hid hLQ
                have hqi : (Q : Int) ≤ 576 := by omega
                clear hQ hAQ hQl hLQ hKQ
                obtain ⟨b0, b1, b2⟩ := HBE.out.nix HQ.out.1.fr
                have f6 := Fr.al w5 (.cells #[.int .i64 3, .int .i64 (X : Nat), .int .i64 (Y : Nat)] 40)
                have hz1 := rd_lit (w := w5) (T := 40) rfl [((3 : Int), (X : Int), (Y : Int))] _ (show [.int .i64 3, .int .i64 (X : Int), .int .i64 (Y : Int)] = z3s [((3 : Int), (X : Int), (Y : Int))] from rfl) 1 rfl
                have hP := parts_lit (w := w5.alloc (.cells #[.int .i64 3, .int .i64 (X : Nat), .int .i64 (Y : Nat)] 40)) (g := w5.heap.size + 1) (T := 24) (size_alloc _ _) _ _ (.cons (prt_of (c := c1) (HLE.out.nix (HQ.out.1.fr.t f6))) (.cons (prt_of (c := 1) hz1) (.cons (prt_of (c := cq) (HQ.out.1.rd.nix f6)) .nil))) 3 rfl
                have HP := Lib.hid hP
                have HRUN := Lib.hid (show RunOK [l, [((3 : Int), (X : Int), (Y : Int))], q].flatten by
                  have l0 := ONE.out.len
                  have l1 := sets_le l
                  have l2 := HQ.out.2.2.1
                  have l3 := HLQ.out
                  have r0 := ONE.out.g.left.run
                  have r2 := ONE.out.more r0 (by omega) (by omega)
                  have r3 := r2.ask ONE.out.g.v12 HQ.out.2.1 (by simp only [List.length_append, List.length_cons, List.length_nil]; omega)
                  simpa using r3)
                clear hP f6 hz1
                go_wp2_with fail
                clear b0 b1 b2
                refine (run_c (V : Int) HP.out (by omega) HRUN.out).mono ?_
                rintro e w6 ⟨A5, c5, rfl, hR5, hF6, hc5, hm5, hg5⟩
                have eN : [l, [((3 : Int), (X : Int), (Y : Int))], q].flatten.length = n + (1 + Q) := by have e1 := H.out.2; have e2 := HQ.out.2.2.1; simp only [List.flatten_cons, List.flatten_nil, List.length_append, List.length_cons, List.length_nil, e1, e2]; omega
                obtain ⟨N2, hN2⟩ : ∃ N, [l, [((3 : Int), (X : Int), (Y : Int))], q].flatten.length = N := ⟨_, rfl⟩
                rw [hN2] at eN hR5 hc5 hg5 ⊢
                obtain ⟨g5, rfl⟩ := hg5 (by omega)
                have hO := strictly_z GL.out HFA.out HPL.out HFI.out HXY.out.1 HXY.out.2.1 HXY.out.2.2 HQ.out.2.1 (fun z hz => (HQ.out.2.2.2 z hz).2)
                obtain ⟨r, hr⟩ : ∃ r, (q.map fun z => holdB V (sts (moreZ V l X Y)) (stz z)) = r := ⟨_, rfl⟩
                have HRR := Lib.hid hr
                rw [hr, HSM.out] at hO
                have eL : outz [l, [((3 : Int), (X : Int), (Y : Int))], q].flatten = outz l ++ ([!sm] ++ r) := by rw [← hO]; simp
                have lo : (outz l).length = n := by rw [outz_len]; exact H.out.2
                have lr : r.length = Q := by rw [← hr, List.length_map]; exact HQ.out.2.2.1
                have hNi2 : (N2 : Int) ≤ 4000 := by have := HLQ.out; omega
                have HFR5 := Lib.hid ((HFE.out.t HQ.out.1.fr).t (((Fr.al _ _).t (Fr.al _ _)).t hF6))
                have HFX := Lib.hid (HQ.out.1.fr.t (((Fr.al _ _).t (Fr.al _ _)).t hF6))
                have k0 := ans_at (k := 0) hR5 eL lo rfl
                rw [Nat.add_zero] at k0
                have HRG := Lib.hid (And.intro hR5 (And.intro hc5 (And.intro hm5 (show Q ≤ N2 by omega))))
                have HQ6 := Lib.hid (HQ.out.1.rd.nix (((Fr.al _ _).t (Fr.al _ _)).t hF6))
                have HM6 := Lib.hid (HRM.out.nix (HQ.out.1.fr.t (((Fr.al _ _).t (Fr.al _ _)).t hF6)))
                have HDR := Lib.hid (drop_last (a := outz l ++ [!sm]) (by rw [eL]; simp) (rdlen hR5) lr)
                have hn1 : (n : Int) < (N2 : Int) := by omega
                have HK0 := Lib.hid k0
                clear hR5 hF6 hc5 hm5 hg5 eN hN2 hO eL lo lr hr k0
                go_upto_region 15 with fail
                go_cut [111] from 98 to 111 (fun d wx => d = .bool false ∧ Fr w6 wx Nix)
                case first =>
                  have HT6 := Lib.hid (HTE.out.nix HFX.out)
                  cases sm
                  · have HC6 := Lib.hid (show w6.cell? ⟨g5, n, none⟩ = some (.bool true) ∧ w6.cell? ⟨b, 0, none⟩ = some (.int .i64 (V : Nat)) ∧ w6.cell? ⟨b, 1, none⟩ = some (.slice (some ⟨g, 0, none⟩) (V * V) cc) from ⟨HK0.out, HT6.out.1.c⟩)
                    go_region_held3 (fun w' => w'.cell? ⟨g5, n, none⟩ = some (.bool true) ∧ w'.cell? ⟨b, 0, none⟩ = some (.int .i64 (V : Nat)) ∧ w'.cell? ⟨b, 1, none⟩ = some (.slice (some ⟨g, 0, none⟩) (V * V) cc)) (first | exact HC6.out | exact HC9.out | go_keep)
                      (first
                        | (go_at_call 66; refine (sameo_c (HT6.out.2.nix (by first | exact Fr.refl _ _ | exact Fr.drew _ _)) HV12.out HXY.out.1 HXY.out.2.1).mono ?_; rintro e w9 ⟨rfl, hF9⟩; have F9 := Lib.hid ((show Fr w6 _ Nix by first | exact Fr.refl _ _ | exact Fr.drew _ _).t hF9); have HC9 := Lib.hid (show w9.cell? ⟨g5, n, none⟩ = some (.bool true) ∧ w9.cell? ⟨b, 0, none⟩ = some (.int .i64 (V : Nat)) ∧ w9.cell? ⟨b, 1, none⟩ = some (.slice (some ⟨g, 0, none⟩) (V * V) cc) from ⟨cell_nix F9.out HC6.out.1, (HT6.out.nix F9.out).1.c⟩); rw [HA.out.1, HA.out.2, HSM2.out]; clear hF9))
                    all_goals
                      go_wp2_with fail
                      go_meet
                      exact ⟨rfl, F9.out⟩
                  · have HC6 := Lib.hid (show w6.cell? ⟨g5, n, none⟩ = some (.bool false) ∧ w6.cell? ⟨b, 0, none⟩ = some (.int .i64 (V : Nat)) ∧ w6.cell? ⟨b, 1, none⟩ = some (.slice (some ⟨g, 0, none⟩) (V * V) cc) from ⟨HK0.out, HT6.out.1.c⟩)
                    go_region_held3 (fun w' => w'.cell? ⟨g5, n, none⟩ = some (.bool false) ∧ w'.cell? ⟨b, 0, none⟩ = some (.int .i64 (V : Nat)) ∧ w'.cell? ⟨b, 1, none⟩ = some (.slice (some ⟨g, 0, none⟩) (V * V) cc)) (first | exact HC6.out | exact HC9.out | go_keep)
                      (first
                        | (go_at_call 66; refine (sameo_c (HT6.out.2.nix (by first | exact Fr.refl _ _ | exact Fr.drew _ _)) HV12.out HXY.out.1 HXY.out.2.1).mono ?_; rintro e w9 ⟨rfl, hF9⟩; have F9 := Lib.hid ((show Fr w6 _ Nix by first | exact Fr.refl _ _ | exact Fr.drew _ _).t hF9); have HC9 := Lib.hid (show w9.cell? ⟨g5, n, none⟩ = some (.bool false) ∧ w9.cell? ⟨b, 0, none⟩ = some (.int .i64 (V : Nat)) ∧ w9.cell? ⟨b, 1, none⟩ = some (.slice (some ⟨g, 0, none⟩) (V * V) cc) from ⟨cell_nix F9.out HC6.out.1, (HT6.out.nix F9.out).1.c⟩); rw [HA.out.1, HA.out.2, HSM2.out]; clear hF9))
                    all_goals
                      go_wp2_with fail
                      go_meet
                      exact ⟨rfl, F9.out⟩
                case rest =>
                  obtain ⟨rfl, hFc⟩ := hcut
                  have HFC2 := Lib.hid hFc
                  have HR6 := Lib.hid (HFR5.out.t hFc)
                  generalize wc = wg at *
                  clear hFc
                  obtain ⟨adq, hadq⟩ : ∃ a : Addr, (⟨gq, 0, none⟩ : Addr) = a := ⟨_, rfl⟩
                  have hq6 := HQ6.out.nix HFC2.out
                  rw [hadq] at hq6 ⊢
                  have HQ7 := Lib.hid hq6
                  have HM7 := Lib.hid (HM6.out.nix HFC2.out)
                  have HTL := Lib.hid (tail_c (m := Q) (HRG.out.1.nix HFC2.out) HRG.out.2.2.2 HRG.out.2.1 HRG.out.2.2.1)
                  clear hq6 hadq
                  go_wp2_with fail
                  refine HTL.out.mono ?_
                  rintro e w7 ⟨A7, c7, rfl, hR7, hF7, _⟩
                  rw [HDR.out] at hR7
                  have HR7 := Lib.hid hR7
                  have HF7 := Lib.hid (HR6.out.t hF7)
                  have HQ8 := Lib.hid (HQ7.out.nix hF7)
                  have HM8 := Lib.hid (HM7.out.nix hF7)
                  clear hR7 hF7
                  go_wp2_with fail
                  go_loopg [117] Q (fun m u wr => ∃ j : Nat, m + j = Q ∧ u = .int .i64 (j : Nat) ∧ Fr w7 wr Nix)
                  case atStart => exact ⟨0, rfl, rfl, Fr.refl _ _⟩
                  case round =>
                    obtain ⟨j, hmj, rfl, hFr⟩ := hrel
                    have HMJ := Lib.hid hmj
                    have HFr := Lib.hid hFr
                    clear hmj hFr
                    by_cases hlt : j < Q
                    · obtain ⟨ad', po, px, py, hA, hz, hc⟩ := rd3 (HQ8.out.nix HFr.out) hlt
                      cases hA
                      obtain ⟨ad7, bb, rfl, hbb, hcb⟩ := rdat (HR7.out.nix HFr.out) hlt
                      have HC := Lib.hid hc
                      have hzm := List.mem_of_getElem? hz
                      have hw := HQ.out.2.1 _ hzm
                      have hk6 := (HQ.out.2.2.2 _ hzm).2
                      obtain ⟨PX, PY, rfl, rfl, hPX, hPY, hPXY⟩ := wstp hw.1 (by have := hw.2.2; exact this)
                      have HP2 := Lib.hid (And.intro hPX (And.intro hPY (And.intro hw.2.1 hw.2.2)))
                      have HBB := Lib.hid (show holdB V (sts (moreZ V l X Y)) (stz (po, (PX : Int), (PY : Int))) = bb by
                        rw [← HRR.out, List.getElem?_map, hz] at hbb
                        exact Option.some.inj hbb)
                      clear hz hc hzm hw hk6 hPX hPY hPXY hbb
                      go_wp2_with (first
                        | (with_reducible refine wpList_ld (o := ⟨some 128, _, _, _, _, _⟩) rfl 40 (.tmp 127) rfl _ rfl #[.int .i64 po, .int .i64 (PX : Nat), .int .i64 (PY : Nat)] _ HC.out Try.underlying40 rfl (by kernel_rfl) ?_)
                        | fail)
                      refine (holds_c (HM8.out.nix HFr.out) (by have := HNL.out; omega) HV12.out (moreZ_wf GL.out.wf HXY.out.1 HXY.out.2.1 HXY.out.2.2) HP2.out.2.2.1 HP2.out.2.2.2 HP2.out.1 HP2.out.2.1).mono ?_
                      rintro e w9 ⟨rfl, hF9⟩
                      rw [HBB.out]
                      have HF9 := Lib.hid (HFr.out.t hF9)
                      clear hF9 hcb
                      cases bb
                      all_goals
                        go_wp2
                        go_roundg (Q - (j + 1))
                        case measure => have := HMJ.out; omega
                        case rel => exact ⟨j + 1, by have := HMJ.out; omega, by rw [Int.natCast_add]; rfl, HF9.out⟩
                    · go_wp2
                      go_ret
                      exact ⟨rfl, HF7.out.t HFr.out⟩
end Go.Proofs.Ytapnmgkpljlgmaa
