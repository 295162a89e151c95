/- The walk of FnStrict. -/
import Derived.Test.YtapnmgkpljlgmaaG26
import Derived.Test.YtapnmgkpljlgmaaG31
set_option linter.unusedVariables false
set_option linter.unusedSimpArgs false
namespace Go.Proofs.Ytapnmgkpljlgmaa
open Go.RowKit
theorem told_sts : ∀ {l : List Z3}, (∀ z ∈ l, 0 ≤ z.1) → told (sts l) = sts (setz l)
  | [], _ => rfl
  | z :: l, h => by
    have ih := told_sts (l := l) fun t ht => h t (by simp [ht])
    have h0 := h z (by simp)
    have e1 : told (sts (z :: l)) = if decide ((stz z).op ≤ 3) = true then stz z :: told (sts l) else told (sts l) := by
      show (stz z :: sts l).filter _ = _
      rw [List.filter_cons]; rfl
    have e2 : sts (setz (z :: l)) = if factB z = true then stz z :: sts (setz l) else sts (setz l) := by
      show sts ((z :: l).filter factB) = _
      rw [List.filter_cons]; split <;> rfl
    have e3 : decide ((stz z).op ≤ 3) = factB z := by
      unfold stz factB
      rw [Bool.eq_iff_iff]
      simp only [decide_eq_true_eq, Bool.and_eq_true]
      omega
    rw [e1, e2, e3, ih]
def alB (V : Nat) (l : List Z3) (x : Nat) : Bool := (List.range V).all fun z => !aloneB V (known V (sts (setz l))) x z
theorem alB_p {V x : Nat} {l : List Z3} (h0 : ∀ z ∈ l, 0 ≤ z.1) (h : alB V l x = true) : AloneP V (told (sts l)) x := by
  rw [told_sts h0]
  intro z hz hn h12
  have := List.all_eq_true.1 h z (List.mem_range.2 hz)
  simp [aloneB, hn, h12.1, h12.2] at this
theorem alb_c {V x : Nat} {A : Option Addr} {n c : Nat} {l : List Z3} {w : World} (h : Rd w 3 A n (z3s l)) (hn : n ≤ 1000) (hV : V ≤ 12) (hx : x < V) (hl : ∀ z ∈ l, WfZ (V : Int) z) :
    Calls Try.prog 63 #[.int .i64 (V : Nat), .slice A n c, .int .i64 (x : Nat)] w (Bpost w (alB V l x)) := alone_c h hn hV hx hl
theorem strict_z {V X Y : Nat} {l : List Z3} (g : GoodZ (V : Int) l) (hn : l.all noN = true) (hX : X < V) (hY : Y < V) (hXY : X ≠ Y) (h1 : alB V l X = true) (h2 : alB V l Y = true) :
    ∃ q0 q1 q2 q3, outz ([((3 : Int), (X : Int), (Y : Int))] ++ (l ++ [(1, (X : Int), (Y : Int)), (4, (X : Int), (Y : Int)), (7, (X : Int), (Y : Int)), (2, (X : Int), (Y : Int))])) = outz ((3, (X : Int), (Y : Int)) :: l) ++ [q0, q1, q2, q3] ∧ (q0 = true → q1 = true ∧ q2 = true ∧ q3 = false) := by
  have lo : ∀ z ∈ l, 0 ≤ z.1 := fun z hz => (g.wf z hz).lo
  obtain ⟨q0, q1, q2, q3, e, k⟩ := strict_law (v := V) (x := X) (y := Y) (l := sts l) (fun s hs => by
      obtain ⟨z, hz, rfl⟩ := List.mem_map.1 hs
      exact (g.wf z hz).wf) (fun s hs => by
      obtain ⟨z, hz, rfl⟩ := List.mem_map.1 hs
      have h1 := List.all_eq_true.1 hn z hz
      have h1 : ¬ z.1 = 3 := by simpa [noN] using h1
      have h2 := lo z hz
      unfold stz; simp only; omega) hX hY hXY (alB_p lo h1) (alB_p lo h2)
  refine ⟨q0, q1, q2, q3, ?_, k⟩
  unfold outz
  rw [sts_app, sts_app]
  exact e
set_option maxRecDepth 10000 in
set_option maxHeartbeats 16000000 in
theorem FnStrict_c {v x y : Int} {A : Option Addr} {n c : Nat} {l : List Z3} {w : World} (h : Rd w 3 A n (z3s l)) (hn : n ≤ maxLen) :
    Calls Try.prog 27 #[.int .i64 v, .int .i64 x, .int .i64 y, .slice A n c] w (Done w) := by
  have hlen : l.length = n := by have := h.1; rw [z3s_len] at this; omega
  have hm := maxLen_int hn
  have H := Lib.hid (And.intro h hlen)
  clear h hlen hn
  by_cases hbig : 2147483647 < n
  · have hb : decide ((2147483647 : Int) < (n : Int)) = true := by rw [decide_eq_true_eq]; omega
    go_enter Try.func27, Try.ntmps27
    go_wp2
    go_ret
    exact ⟨rfl, Fr.refl _ _⟩
  · have hb : decide ((2147483647 : Int) < (n : Int)) = false := by rw [decide_eq_false_iff_not]; omega
    have HB := Lib.hid (show n < 2147483648 by omega)
    clear hbig
    go_enter Try.func27, Try.ntmps27
    go_wp2_with fail
    refine (conv_c H.out.1 HB.out).mono ?_
    rintro e w1 ⟨v1, rfl, hF⟩
    obtain ⟨A1, c1, rfl⟩ := hF.shp
    have HF := Lib.hid hF
    clear hF
    go_upto_region 5 with fail
    obtain ⟨w2, hw2⟩ : ∃ w2, w1.alloc (.cells #[.int .i64 3, .int .i64 x, .int .i64 y] 40) = w2 := ⟨_, rfl⟩
    have f2 : Fr w1 w2 Nix := hw2 ▸ Fr.al w1 (.cells #[.int .i64 3, .int .i64 x, .int .i64 y] 40)
    have hB : Box3 w2 w1.heap.size 3 x y := hw2 ▸ box3_new w1 3 x y 40
    rw [hw2]
    clear hw2
    obtain ⟨gb, hgb⟩ : ∃ g, w1.heap.size = g := ⟨_, rfl⟩
    rw [hgb] at hB ⊢
    clear hgb
    have HBX := Lib.hid hB
    have HF2 := Lib.hid (HF.out.nix f2)
    clear f2
    obtain ⟨b0, b1, b2⟩ := hB
    go_wp2_with fail
    refine (with_c (o := 3) (x := x) (y := y) HF2.out.rd HB.out).mono ?_
    rintro e w3 ⟨v2, rfl, hW⟩
    obtain ⟨gw, cw, rfl⟩ := hW.shp
    have HW := Lib.hid hW
    clear hW b0 b1 b2
    go_wp2_with fail
    refine (good_c v (n := n + 1) (c := cw) HW.out.rd (by have := HB.out; omega)).mono ?_
    rintro e w4 ⟨rfl, hF4⟩
    have F4 := Lib.hid (HW.out.fr.t hF4)
    clear hF4
    obtain ⟨g, hg⟩ : ∃ g, goodB v (l ++ [(3, x, y)]) = g := ⟨_, rfl⟩
    rw [hg]
    have HG := Lib.hid hg
    clear hg
    cases g
    · go_wp2
      go_ret
      exact ⟨rfl, HF2.out.fr.t F4.out⟩
    · have ONE := Lib.hid (One.mk' HG.out (by rfl))
      obtain ⟨V, hV⟩ : ∃ V : Nat, v = V := ⟨v.toNat, by have := ONE.out.g.v0; omega⟩
      subst hV
      have HV12 := Lib.hid (show V ≤ 12 by have := ONE.out.g.v12; omega)
      obtain ⟨X, Y, rfl, rfl, hX, hY, hXY⟩ := wstp ONE.out.wf (by omega)
      have HXY := Lib.hid (And.intro hX (And.intro hY hXY))
      clear hX hY hXY
      have GL := Lib.hid ONE.out.g.left
      have HN := Lib.hid (show n ≤ 63 by have := ONE.out.len; have := H.out.2; omega)
      have hni : (n : Int) ≤ 63 := by have := HN.out; omega
      have HL4 := Lib.hid (HF2.out.nix F4.out)
      go_wp2_with fail
      refine (plainS_c HL4.out.rd HB.out).mono ?_
      rintro e w5 ⟨rfl, hF5⟩
      have HL5 := Lib.hid (HL4.out.nix hF5)
      have F5 := Lib.hid (F4.out.t hF5)
      clear hF5
      obtain ⟨p, hp⟩ : ∃ p, l.all noN = p := ⟨_, rfl⟩
      rw [hp]
      have HPL := Lib.hid hp
      clear hp
      cases p
      · go_wp2
        go_ret
        exact ⟨rfl, HL5.out.fr⟩
      · go_wp2_with fail
        refine (alb_c HL5.out.rd (by have := HN.out; omega) HV12.out HXY.out.1 GL.out.wf).mono ?_
        rintro e w6 ⟨rfl, hF6⟩
        have HL6 := Lib.hid (HL5.out.nix hF6)
        have F6 := Lib.hid (F5.out.t hF6)
        clear hF6
        obtain ⟨p, hp⟩ : ∃ p, alB V l X = p := ⟨_, rfl⟩
        rw [hp]
        have HA1 := Lib.hid hp
        clear hp
        cases p
        · go_wp2
          go_ret
          exact ⟨rfl, HL6.out.fr⟩
        · go_wp2_with fail
          refine (alb_c HL6.out.rd (by have := HN.out; omega) HV12.out HXY.out.2.1 GL.out.wf).mono ?_
          rintro e w7 ⟨rfl, hF7⟩
          have HL7 := Lib.hid (HL6.out.nix hF7)
          have F7 := Lib.hid (F6.out.t hF7)
          clear hF7
          obtain ⟨p, hp⟩ : ∃ p, alB V l Y = p := ⟨_, rfl⟩
          rw [hp]
          have HA2 := Lib.hid hp
          clear hp
          cases p
          · go_wp2
            go_ret
            exact ⟨rfl, HL7.out.fr⟩
          · obtain ⟨b0, b1, b2⟩ := HBX.out.nix F7.out
            obtain ⟨q, hq⟩ : ∃ q : List Z3, [((1 : Int), (X : Int), (Y : Int)), (4, (X : Int), (Y : Int)), (7, (X : Int), (Y : Int)), (2, (X : Int), (Y : Int))] = q := ⟨_, rfl⟩
            have HQ := Lib.hid hq
            have f8 := (Fr.al w7 (.cells #[.int .i64 3, .int .i64 (X : Int), .int .i64 (Y : Int)] 40)).a (.cells #[.int .i64 1, .int .i64 (X : Int), .int .i64 (Y : Int), .int .i64 4, .int .i64 (X : Int), .int .i64 (Y : Int), .int .i64 7, .int .i64 (X : Int), .int .i64 (Y : Int), .int .i64 2, .int .i64 (X : Int), .int .i64 (Y : Int)] 40)
            have hz1 := rd_lit (w := w7) (T := 40) rfl [((3 : Int), (X : Int), (Y : Int))] _ (show [.int .i64 3, .int .i64 (X : Int), .int .i64 (Y : Int)] = z3s [((3 : Int), (X : Int), (Y : Int))] from rfl) 1 rfl
            have hz2 := rd_lit (w := w7.alloc (.cells #[.int .i64 3, .int .i64 (X : Int), .int .i64 (Y : Int)] 40)) (T := 40) (size_alloc _ _) q _ (show [.int .i64 1, .int .i64 (X : Int), .int .i64 (Y : Int), .int .i64 4, .int .i64 (X : Int), .int .i64 (Y : Int), .int .i64 7, .int .i64 (X : Int), .int .i64 (Y : Int), .int .i64 2, .int .i64 (X : Int), .int .i64 (Y : Int)] = z3s q by rw [← hq]; rfl) 4 (by rw [← hq]; rfl)
            have hP := parts_lit (w := (w7.alloc (.cells #[.int .i64 3, .int .i64 (X : Int), .int .i64 (Y : Int)] 40)).alloc (.cells #[.int .i64 1, .int .i64 (X : Int), .int .i64 (Y : Int), .int .i64 4, .int .i64 (X : Int), .int .i64 (Y : Int), .int .i64 7, .int .i64 (X : Int), .int .i64 (Y : Int), .int .i64 2, .int .i64 (X : Int), .int .i64 (Y : Int)] 40)) (g := w7.heap.size + 1 + 1) (T := 24) (by rw [size_alloc, size_alloc]) _ _
              (.cons (prt_of (c := 1) (hz1.nix (Fr.al _ _))) (.cons (prt_of (c := c1) (HL7.out.rd.nix f8)) (.cons (prt_of (c := 4) hz2) .nil))) 3 rfl
            have HP := Lib.hid hP
            have HRUN := Lib.hid (show RunOK [[((3 : Int), (X : Int), (Y : Int))], l, q].flatten by
              have w3 := ONE.out.wf.mono ONE.out.g.v12
              have wk := fun o : Int => fun (h0 : 0 ≤ o) (h9 : o ≤ 7) => (show WfZ 12 (o, (X : Int), (Y : Int)) ∧ o ≤ 7 from ⟨⟨h0, by simp only; omega, fun _ _ => w3.ok (by simp) (by simp)⟩, h9⟩)
              have r0 : RunOK [((3 : Int), (X : Int), (Y : Int))] := ⟨fun z hz => by rw [List.mem_singleton.1 hz]; exact w3, Deep_flat _ _ fun s hs => by rw [List.mem_singleton.1 (show s ∈ [stz ((3 : Int), (X : Int), (Y : Int))] from hs)]; exact Nat.le_of_ble_eq_true rfl, by have := sets_le [((3 : Int), (X : Int), (Y : Int))]; simp only [List.length_cons, List.length_nil] at this; omega, by simp⟩
              have l1 := sets_le l
              have l2 := sets_le [((3 : Int), (X : Int), (Y : Int))]
              have l3 := sets_le q
              have l4 := HN.out
              have l5 := H.out.2
              have l6 : q.length = 4 := by rw [← HQ.out]; rfl
              simp only [List.length_cons, List.length_nil] at l2
              have r1 := r0.app' (b := l) (fun z hz => (GL.out.wf z hz).mono ONE.out.g.v12) (by rw [dpt_flat 0 _ (fun s hs => by rw [List.mem_singleton.1 (show s ∈ [stz ((3 : Int), (X : Int), (Y : Int))] from hs)]; exact Nat.le_of_ble_eq_true rfl)]; exact GL.out.deep) (by omega) (by simp only [List.length_cons, List.length_nil]; omega)
              have r2 := r1.app (b := q) (fun z hz => by
                rw [← HQ.out] at hz
                simp only [List.mem_cons, List.not_mem_nil, or_false] at hz
                rcases hz with rfl | rfl | rfl | rfl <;> exact wk _ (by omega) (by omega)) (by rw [sets_app]; omega) (by simp only [List.length_append, List.length_cons, List.length_nil]; omega)
              simpa using r2)
            clear hP hz1 hz2 hq
            have HF8 := Lib.hid (HL7.out.fr.t (f8.a (.cells #[.slice (some ⟨w7.heap.size, 0, none⟩) 1 1] 24)))
            clear f8 HF8
            go_wp2_with fail
            clear b0 b1 b2
            refine (run_c (V : Int) HP.out (by omega) HRUN.out).mono ?_
            rintro e w8 ⟨A8, c8, rfl, hR8, hF8, hc8, hm8, hg8⟩
            obtain ⟨M, hM⟩ : ∃ M, n + 1 = M := ⟨_, rfl⟩
            have eN : [[((3 : Int), (X : Int), (Y : Int))], l, q].flatten.length = M + 4 := by
              have e1 := H.out.2
              rw [← HQ.out]
              simp only [List.flatten_cons, List.flatten_nil, List.length_append, List.length_cons, List.length_nil, e1]; omega
            obtain ⟨N, hN⟩ : ∃ N, [[((3 : Int), (X : Int), (Y : Int))], l, q].flatten.length = N := ⟨_, rfl⟩
            rw [hN] at eN hR8 hc8 hg8 ⊢
            obtain ⟨g8, rfl⟩ := hg8 (by omega)
            obtain ⟨q0, q1, q2, q3, hO, himp⟩ := strict_z GL.out HPL.out HXY.out.1 HXY.out.2.1 HXY.out.2.2 HA1.out HA2.out
            have eL : outz [[((3 : Int), (X : Int), (Y : Int))], l, q].flatten = outz ((3, (X : Int), (Y : Int)) :: l) ++ [q0, q1, q2, q3] := by rw [← hO, ← HQ.out]; simp
            have lo : (outz ((3, (X : Int), (Y : Int)) :: l)).length = M := by rw [outz_len, List.length_cons, H.out.2]; exact hM
            have k0 := ans_at (k := 0) hR8 eL lo rfl
            have k1 := ans_at (k := 1) hR8 eL lo rfl
            have k2 := ans_at (k := 2) hR8 eL lo rfl
            have k3 := ans_at (k := 3) hR8 eL lo rfl
            have HFR := Lib.hid (HL7.out.fr.t ((((Fr.al _ _).a _).a _).t hF8))
            rw [Nat.add_zero] at k0
            have HC := Lib.hid himp
            have HT := Lib.hid (tail_c (m := 4) hR8 (by omega) hc8 hm8)
            have HNE := Lib.hid (show N - 4 = M by omega)
            have K := Lib.hid (And.intro k0 (And.intro k1 (And.intro k2 k3)))
            clear hR8 hF8 hc8 hm8 hg8 eN hN hO eL lo himp k0 k1 k2 k3 hM
            go_wp2_with fail
            refine HT.out.mono ?_
            rintro e w9 ⟨A9, c9, rfl, _, hF9, hg9⟩
            obtain rfl := hg9 (by omega)
            rw [HNE.out]
            have HF9 := Lib.hid (HFR.out.t hF9)
            have k0 := cell_nix hF9 K.out.1
            have k1 := cell_nix hF9 K.out.2.1
            have k2 := cell_nix hF9 K.out.2.2.1
            have k3 := cell_nix hF9 K.out.2.2.2
            clear hF9 hg9
            cases q0
            · go_wp2
              go_ret
              exact ⟨rfl, HF9.out⟩
            · obtain ⟨rfl, rfl, rfl⟩ := HC.out rfl
              go_wp2
              go_ret
              exact ⟨rfl, HF9.out⟩
end Go.Proofs.Ytapnmgkpljlgmaa
