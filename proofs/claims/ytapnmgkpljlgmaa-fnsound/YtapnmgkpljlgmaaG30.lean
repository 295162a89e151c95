/- The reference: Follows. The state of the reference's look at what was told: facts, marks. The walk of spec.Sound. -/
import Derived.Test.YtapnmgkpljlgmaaG29
set_option linter.unusedVariables false
set_option linter.unusedSimpArgs false
namespace Go.Proofs.Ytapnmgkpljlgmaa
open Go.RowKit
set_option maxRecDepth 10000 in
set_option maxHeartbeats 4000000 in
theorem follows_c {V : Nat} {ad : Addr} {n c X Y : Nat} {o : Int} {l : List Z3} {w : World} (h : Rd w 3 (some ad) n (z3s l)) (hn : n ≤ 1000) (hV : V ≤ 12) (hl : ∀ z ∈ l, WfZ (V : Int) z) (ho : 4 ≤ o) (ho7 : o ≤ 7) (hX : X < V) (hY : Y < V) (hXY : X ≠ Y) :
    Calls Try.prog 85 #[.int .i64 (V : Nat), .slice (some ad) n c, .agg #[.int .i64 o, .int .i64 (X : Nat), .int .i64 (Y : Nat)]] w (Bpost w (followB V (sts l) (stz (o, X, Y)))) := by
  have H := Lib.hid (And.intro h (And.intro hn (And.intro hl hV)))
  have HXY := Lib.hid (And.intro hX hY)
  have HWX := Lib.hid (show ∀ z ∈ l ++ [((2 : Int), (X : Int), (Y : Int))], WfZ (V : Int) z from fun z hz => (List.mem_append.1 hz).elim (hl z) fun q => by
    rw [List.mem_singleton.1 q]
    exact ⟨by show (0 : Int) ≤ 2; omega, by show (2 : Int) ≤ 9; omega, fun _ _ => by simp only; omega⟩)
  have HS := Lib.hid (Fr.al w (.cells #[.int .i64 o, .int .i64 (X : Nat), .int .i64 (Y : Nat)] 40))
  obtain ⟨M, hM⟩ : ∃ M, known V (sts l) = M := ⟨_, rfl⟩
  have HM := Lib.hid hM
  obtain ⟨a1, h1⟩ : ∃ a, M X Y = a := ⟨_, rfl⟩
  obtain ⟨a2, h2⟩ : ∃ a, M Y X = a := ⟨_, rfl⟩
  have HA := Lib.hid (And.intro h1 h2)
  obtain ⟨ft, hft⟩ : ∃ ft, fitB V (sts (l ++ [((2 : Int), (X : Int), (Y : Int))])) = ft := ⟨_, rfl⟩
  have HFT := Lib.hid hft
  obtain ⟨r, hr⟩ : ∃ r, followB V (sts l) (stz (o, X, Y)) = r := ⟨_, rfl⟩
  have HR := Lib.hid (show (if (stz (o, X, Y)).op = 4 then decide (0 < a1) && !ft else if (stz (o, X, Y)).op = 5 then decide (0 < a1) else if (stz (o, X, Y)).op = 6 then a1 == 1 && a2 == 1 else !ft) = r by
    rw [← h1, ← h2, ← hM, ← hr, ← hft, sts_app]; rfl)
  rw [hr]
  clear h hn hl hV hM h1 h2 hr hX hY hXY hft
  have key : o = 4 ∨ o = 5 ∨ o = 6 ∨ o = 7 := by omega
  clear ho ho7
  go_enter Try.func85, Try.ntmps85
  go_wp2_with fail
  refine (known_c (H.out.1.nix HS.out) (by have := H.out.2.1; omega) H.out.2.2.2 H.out.2.2.1).mono ?_
  rintro e w1 ⟨g, cc, rfl, hg, hT, hF⟩
  unfold ordV
  rw [HM.out] at hT
  have HTB := Lib.hid (show TBox _ w1.heap.size V g cc M from ⟨obox_new w1 V g cc 73, hT.nix (Fr.al w1 _)⟩)
  have HF0 := Lib.hid ((HS.out.t hF).a (.cells #[.int .i64 (V : Nat), .slice (some ⟨g, 0, none⟩) (V * V) cc] 73))
  have HBX := Lib.hid (step_boxn w o X Y (hF.a (.cells #[.int .i64 (V : Nat), .slice (some ⟨g, 0, none⟩) (V * V) cc] 73)))
  clear hT hF hg
  go_upto_region 2 with fail
  obtain ⟨w0, hw0⟩ : ∃ w0, w1.alloc (.cells #[.int .i64 (V : Nat), .slice (some ⟨g, 0, none⟩) (V * V) cc] 73) = w0 := ⟨_, rfl⟩
  obtain ⟨b, hb⟩ : ∃ b, w1.heap.size = b := ⟨_, rfl⟩
  obtain ⟨p, hp⟩ : ∃ p, w.heap.size = p := ⟨_, rfl⟩
  rw [hw0] at HTB HF0 HBX ⊢
  rw [hb] at HTB ⊢
  rw [hp] at HBX ⊢
  clear hw0 hb hp
  obtain ⟨x0, x1, x2⟩ := HBX.out
  go_wp2_with fail
  refine (with_c (o := 2) (x := X) (y := Y) (H.out.1.nix HF0.out) (by have := H.out.2.1; omega)).mono ?_
  rintro e w2 ⟨v2, rfl, hW⟩
  obtain ⟨g2, c2, rfl⟩ := hW.shp
  have HW := Lib.hid hW
  clear hW x0 x1 x2
  go_wp2_with fail
  refine (fits_c HW.out.rd (by have := H.out.2.1; omega) H.out.2.2.2 HWX.out).mono ?_
  rintro e w3 ⟨rfl, hF3⟩
  rw [HFT.out]
  have HF3 := Lib.hid (HW.out.fr.t hF3)
  clear hF3
  obtain ⟨x0, x1, x2⟩ := cells3 HBX.out HF3.out
  obtain ⟨b0, b1, _⟩ := (HTB.out.nix HF3.out).1
  have HFR := Lib.hid (HF0.out.t HF3.out)
  rcases key with rfl | rfl | rfl | rfl
  · go_wp2_with fail
    refine (atx_c (HTB.out.nix HF3.out).2 H.out.2.2.2 HXY.out.1 HXY.out.2).mono ?_
    rintro e w4 ⟨rfl, hF4⟩
    rw [HA.out.1]
    have HF4 := Lib.hid (HFR.out.t hF4)
    clear hF4 b0 b1 x0 x1 x2
    by_cases hp1 : 0 < a1
    · have d1 : decide (0 < a1) = true := decide_eq_true hp1
      have HR := Lib.hid (show (!ft) = r by rw [← HR.out]; show _ = (decide (0 < a1) && !ft); rw [d1, Bool.true_and])
      clear hp1
      go_wp2
      go_ret
      exact ⟨ret_bb HR.out, HF4.out⟩
    · have d1 : decide (0 < a1) = false := decide_eq_false hp1
      have HR := Lib.hid (show false = r by rw [← HR.out]; show _ = (decide (0 < a1) && !ft); rw [d1, Bool.false_and])
      clear hp1
      go_wp2
      go_ret
      exact ⟨ret_bb HR.out, HF4.out⟩
  · go_wp2_with fail
    refine (atx_c (HTB.out.nix HF3.out).2 H.out.2.2.2 HXY.out.1 HXY.out.2).mono ?_
    rintro e w4 ⟨rfl, hF4⟩
    rw [HA.out.1]
    have HF4 := Lib.hid (HFR.out.t hF4)
    clear hF4 b0 b1 x0 x1 x2
    go_wp2
    go_ret
    exact ⟨ret_bb HR.out, HF4.out⟩
  · go_wp2_with fail
    refine (sameo_c (HTB.out.nix HF3.out).2 H.out.2.2.2 HXY.out.1 HXY.out.2).mono ?_
    rintro e w4 ⟨rfl, hF4⟩
    rw [HA.out.1, HA.out.2]
    have HF4 := Lib.hid (HFR.out.t hF4)
    clear hF4 b0 b1 x0 x1 x2
    go_wp2
    go_ret
    exact ⟨ret_bb HR.out, HF4.out⟩
  · clear b0 b1
    go_wp2
    go_ret
    exact ⟨ret_bb HR.out, HFR.out⟩
end Go.Proofs.Ytapnmgkpljlgmaa
namespace Go.Proofs.Ytapnmgkpljlgmaa
open Go.RowKit
/-- Marks in a block of their own; facts in another one that is only read. -/
structure RG (w wr : World) (b f : Value) (ms : List Nat) (fz : List Z3) : Prop where
  fb : Fsh w wr 3 1 b ms.length (ints ms)
  ff : ∃ g c, f = .slice (some ⟨g, 0, none⟩) fz.length c ∧ Rd wr 3 (some ⟨g, 0, none⟩) fz.length (z3s fz) ∧ fz.length ≤ c ∧ c ≤ maxLen ∧ g < wr.heap.size ∧ b.ownBlock ≠ some g
theorem RG.nix {w wr w' : World} {b f : Value} {ms : List Nat} {fz : List Z3} (h : RG w wr b f ms fz) (k : Fr wr w' Nix) : RG w w' b f ms fz := by
  refine ⟨h.fb.nix k, ?_⟩
  obtain ⟨g, c, h1, h2, h3, h4, h5, h6⟩ := h.ff
  exact ⟨g, c, h1, h2.nix k, h3, h4, Nat.lt_of_lt_of_le h5 k.size, h6⟩
theorem RG.appM {w wr wa w1 : World} {b f : Value} {ms : List Nat} {fz : List Z3} {k g cap : Nat} (h : RG w wr b f ms fz) (ha : Fr wr wa Nix)
    (hown : w1.ownsRow 0 3 1 (.slice (some ⟨g, 0, none⟩) (ms.length + 1) cap) (ms.length + 1) (ints ms ++ [.int .i64 (k : Nat)])) (hg : wa.grownBy w1 b.ownBlock) (hn : b.ownBlock = some g ∨ wa.heap.size ≤ g) :
    RG w w1 (.slice (some ⟨g, 0, none⟩) (ms.length + 1) cap) f (ms ++ [k]) fz := by
  have e : (ms ++ [k]).length = ms.length + 1 := by simp
  have fr : Fr wa w1 (fun k => b.ownBlock = some k) := Fr.grown (F := fun k => b.ownBlock = some k) hg fun k hk => hk
  refine ⟨?_, ?_⟩
  · rw [e, ints_snoc]
    exact h.fb.app ha hown hg hn
  · obtain ⟨g', c, h1, h2, h3, h4, h5, h7⟩ := (h.nix ha).ff
    refine ⟨g', c, h1, h2.fr fr h7, h3, h4, Nat.lt_of_lt_of_le h5 fr.size, fun q => ?_⟩
    simp only [Value.ownBlock, Option.some.injEq] at q
    subst q
    rcases hn with hn | hn
    · exact h7 hn
    · omega
theorem RG.cut {w wr : World} {ms : List Nat} {k g7 c7 g6 c6 : Nat} {fz : List Z3} (h : RG w wr (.slice (some ⟨g7, 0, none⟩) (ms ++ [k]).length c7) (.slice (some ⟨g6, 0, none⟩) fz.length c6) (ms ++ [k]) fz) (hk : k ≤ fz.length) :
    RG w wr (.slice (some ⟨g7, 0, none⟩) ms.length c7) (.slice (some ⟨g6, 0, none⟩) k c6) ms (fz.take k) := by
  have e : (fz.take k).length = k := by rw [List.length_take]; omega
  refine ⟨⟨?_, h.fb.new, h.fb.fr, _, _, rfl⟩, ?_⟩
  · have := row_shrink h.fb.own (m := ms.length) (by simp)
    rw [ints_snoc, Nat.mul_one, List.take_left' (by simp [ints])] at this
    exact this
  · obtain ⟨g', c, h1, h2, h3, h4, h5, h7⟩ := h.ff
    cases h1
    refine ⟨_, _, by rw [e], ?_, by rw [e]; omega, h4, h5, h7⟩
    rw [e]
    have := h2.sub (l := 0) (m := k) (by omega)
    rw [Nat.zero_mul, add0, List.drop_zero] at this
    have e2 : z3s (fz.take k) = (z3s fz).take (k * 3) := by
      have e3 : z3s fz = z3s (fz.take k) ++ z3s (fz.drop k) := by rw [← z3s_app, List.take_append_drop]
      rw [e3, List.take_left' (by rw [z3s_len, e])]
    rw [e2]; exact this
theorem RG.put {w wr w1 : World} {b f : Value} {ms : List Nat} {fz fz' : List Z3} {g c : Nat} (h : RG w wr b f ms fz) (k : Fsh wr w1 40 3 (.slice (some ⟨g, 0, none⟩) fz'.length c) fz'.length (z3s fz')) :
    RG w w1 b (.slice (some ⟨g, 0, none⟩) fz'.length c) ms fz' := by
  have hg : wr.heap.size ≤ g := k.new g rfl
  have hc := k.cap
  refine ⟨h.fb.nix k.fr, _, _, rfl, k.rd, hc.1, hc.2, k.lt rfl, fun q => ?_⟩
  have := h.fb.lt q; omega
theorem rg_empty (w : World) : RG w ((w.alloc (.cells #[] 40)).alloc (.cells #[] 3)) (.slice (some ⟨w.heap.size + 1, 0, none⟩) 0 0) (.slice (some ⟨w.heap.size, 0, none⟩) 0 0) [] [] := by
  refine ⟨?_, _, _, rfl, Rd.zero, Nat.le_refl _, Nat.zero_le _, by rw [size_alloc, size_alloc]; omega, ?_⟩
  · have := (Fsh.empty (w.alloc (.cells #[] 40)) 3 1).base (Fr.al w _)
    rwa [size_alloc] at this
  · simp [Value.ownBlock]
/-- What the reference has looked at so far: facts and marks. -/
def srun (v : Nat) : RS → List Stp → List Bool → RS
  | r, [], _ => r
  | r, s :: l, t => srun v (sndStep v r s (t.headD false)).1 l t.tail
theorem sndB_cons {v : Nat} {r : RS} {s : Stp} {l : List Stp} {b : Bool} {t : List Bool} : sndB v r (s :: l) (b :: t) = ((sndStep v r s b).2 && sndB v (sndStep v r s b).1 l t) := rfl
end Go.Proofs.Ytapnmgkpljlgmaa
namespace Go.Proofs.Ytapnmgkpljlgmaa
open Go.RowKit
def sRel (w : World) (V : Nat) (l : List Z3) (bs : List Bool) (n m : Nat) (f b u : Value) (wr : World) : Prop :=
  ∃ (k : Nat) (ms : List Nat) (fz : List Z3), m + k = n ∧ u = .int .i64 (k : Nat) ∧
    RG w wr b f ms fz ∧ MkOK ms fz.length ∧ (∀ z ∈ fz, WfZ (V : Int) z) ∧ (fz.length ≤ k ∧ ms.length ≤ k) ∧ GoodS V ms.length (sts (l.drop k)) ∧
    sndB V (sts fz, ms) (sts (l.drop k)) (bs.drop k) = true
theorem snd8 {V : Nat} {fz : List Z3} {ms : List Nat} {x y : Int} {b : Bool} : sndStep V (sts fz, ms) (stz (8, x, y)) b = ((sts fz, ms ++ [fz.length]), true) := by
  show ((sts fz, ms ++ [(sts fz).length]), true) = _
  rw [sts_len]
theorem snd9 {V : Nat} {fz : List Z3} {ms : List Nat} {a : Nat} {x y : Int} {b : Bool} : sndStep V (sts fz, ms ++ [a]) (stz (9, x, y)) b = ((sts (fz.take a), ms), true) := by
  show (((sts fz).take ((ms ++ [a]).getLast?.getD 0), (ms ++ [a]).dropLast), true) = _
  simp [sts, List.map_take]
theorem sndz_ask {V : Nat} {r : RS} {o x y : Int} {b : Bool} (h4 : 4 ≤ o) (h7 : o ≤ 7) : sndStep V r (stz (o, x, y)) b = (r, !(b && fitB V r.1 && !followB V r.1 (stz (o, x, y)))) := by
  have e : (stz (o, x, y)).op = o.toNat := rfl
  unfold sndStep
  rw [if_neg (by omega), if_neg (by omega), if_pos (by omega)]
theorem sndz_set {V : Nat} {fz : List Z3} {ms : List Nat} {o x y : Int} {b : Bool} (h0 : 0 ≤ o) (h3 : o ≤ 3) :
    sndStep V (sts fz, ms) (stz (o, x, y)) b = if b = true then ((sts (fz ++ [(o, x, y)]), ms), true) else ((sts fz, ms), !fitB V (sts (fz ++ [(o, x, y)]))) := by
  have e : (stz (o, x, y)).op = o.toNat := rfl
  unfold sndStep
  rw [if_neg (by omega), if_neg (by omega), if_neg (by omega), sts_app]
  rfl
set_option maxRecDepth 10000 in
set_option maxHeartbeats 8000000 in
theorem snd_c {V : Nat} {A B : Option Addr} {n c d : Nat} {l : List Z3} {bs : List Bool} {w : World} (h : Rd w 3 A n (z3s l)) (hg : GoodZ (V : Int) l) (h2 : Rd w 1 B n (bls bs)) (hB : 0 < n → ∃ g, B = some ⟨g, 0, none⟩) (hs : sndB V ([], []) (sts l) bs = true) :
    Calls Try.prog 62 #[.int .i64 (V : Nat), .slice A n c, .slice B n d] w fun e w' => e = .returned (.bool true) ∧ Fr w w' Nix := by
  have hlen : l.length = n := by have := h.1; rw [z3s_len] at this; omega
  have H := Lib.hid (And.intro h (And.intro hlen (show n ≤ 64 by have := hg.len; omega)))
  have H2 := Lib.hid (And.intro h2 (rdlen h2))
  have HB := Lib.hid hB
  have hm : (n : Int) ≤ 64 := by have := hg.len; omega
  have HV := Lib.hid (show V ≤ 12 by have := hg.v12; omega)
  have HGZ := Lib.hid hg
  have HS0 := Lib.hid hs
  clear h hlen hg h2 hB hs
  go_enter Try.func62, Try.ntmps62
  go_wp2_with fail
  go_loopg [7, 8, 15] n (fun m f b u wr => sRel w V l bs n m f b u wr)
  case atStart => exact ⟨0, [], [], rfl, rfl, rg_empty w, .nil _, fun z hz => by simp at hz, ⟨Nat.le_refl _, Nat.le_refl _⟩, HGZ.out.good, HS0.out⟩
  case round =>
    obtain ⟨k, ms, fz, hmk, rfl, hrf, hmok, hwf, hfl, hgood, hinv⟩ := hrel
    have HRF := Lib.hid hrf
    have HMK := Lib.hid hmk
    have HMO := Lib.hid hmok
    have HWF := Lib.hid (And.intro hwf hfl.1)
    have HML := Lib.hid (show ms.length ≤ k ∧ k ≤ n from ⟨hfl.2, by omega⟩)
    have HGS := Lib.hid hgood
    have HIN := Lib.hid hinv
    clear hrf hmk hmok hwf hfl hgood hinv
    by_cases hlt : k < n
    · obtain ⟨ad, po, px, py, rfl, hz, hc⟩ := rd3 (H.out.1.nix HRF.out.fb.fr) hlt
      obtain ⟨gB, rfl⟩ := HB.out (by omega)
      obtain ⟨b, hb⟩ : ∃ b, bs[k]? = some b := ⟨_, List.getElem?_eq_getElem (by rw [H2.out.2]; exact hlt)⟩
      have HZ := Lib.hid (And.intro hz (HGZ.out.wf _ (List.mem_of_getElem? hz)))
      have HC := Lib.hid hc
      have HS := Lib.hid (show (sndStep V (sts fz, ms) (stz (po, px, py)) b).2 = true ∧ sndB V (sndStep V (sts fz, ms) (stz (po, px, py)) b).1 (sts (l.drop (k + 1))) (bs.drop (k + 1)) = true by
        have := HIN.out
        rw [drop_at hz, drop_at hb] at this
        exact Bool.and_eq_true_iff.1 this)
      have HBC := Lib.hid (show w.cell? ⟨gB, k, none⟩ = some (.bool b) by
        have := H2.out.1.cells (i := k) (u := .bool b) (by omega) (by unfold bls; rw [List.getElem?_map, hb]; rfl)
        rwa [add0] at this)
      have HG0 := Lib.hid (show GoodS V ms.length (stz (po, px, py) :: sts (l.drop (k + 1))) by have := HGS.out; rw [drop_at hz] at this; exact this)
      obtain ⟨g7, c7, e7⟩ := HRF.out.fb.shp
      obtain ⟨g6, c6, e6, hr6, hc6, hm6, _, _⟩ := HRF.out.ff
      subst e7 e6
      have HF6 := Lib.hid (And.intro hr6 (And.intro hc6 hm6))
      have hc7 := HRF.out.fb.cap
      clear hz hc hr6 hb
      by_cases h8 : po = 8
      · subst h8
        have HG := Lib.hid (show True ∧ GoodS V (ms ++ [fz.length]).length (sts (l.drop (k + 1))) from ⟨trivial, by
          have := HG0.out.cons.2.2
          rw [if_pos (show (stz (8, px, py)).op = 8 from rfl)] at this
          simpa using this⟩)
        have HRF0 := HRF
        have hown := HRF.out.fb.own
        have HN := Lib.hid (limI (n := ms.length) (by have := HML.out; have := H.out.2.2; omega))
        clear hc7 hc6 hm6
        go_wp2_with (first
          | (with_reducible refine wpList_ld (o := ⟨some 19, _, _, _, _, _⟩) rfl 40 (.tmp 18) rfl _ rfl #[.int .i64 8, .int .i64 px, .int .i64 py] _ HC.out Try.underlying40 rfl (by kernel_rfl) ?_)
          | (at_builtin; refine wpList_app _ rfl (.tmp 23) (.tmp 26) 52 rfl 3 _ 1 8 Try.underlying52 (by kernel_rfl : _ = some (some (.int .i64 0), 1, 8)) rfl (by decide) _ _ _ rfl ((hown.alloc _).alloc _) ⟨_, 0, none⟩ 1 1 [.int .i64 (fz.length : Nat)] rfl rfl (by decide) (cells_at _ _ (size_alloc _ _) _ _) (by simp [Value.oneCell']) HN.out.1 HN.out.2 ?_)
          | fail)
        intro g cap w1 hown1 hgrow1 hnew1
        have HRF := Lib.hid (HRF0.out.appM ((Fr.al _ _).a _) hown1 hgrow1 (by simpa using hnew1))
        clear hown1 hgrow1 hnew1 hown HN
        go_wp2
        go_roundg (n - (k + 1))
        case measure => have := HMK.out; omega
        case rel =>
          refine ⟨k + 1, ms ++ [fz.length], fz, by have := HMK.out; omega, by rw [Int.natCast_add]; rfl, HRF.out, MkOK.snoc (Nat.le_refl _) HMO.out, HWF.out.1, ⟨by have := HWF.out.2; omega, by have := HML.out; simp only [List.length_append, List.length_cons, List.length_nil]; omega⟩, HG.out.2, ?_⟩
          have h1 := HS.out.2
          rwa [snd8] at h1
      have n8 : (po == 8) = false := by rw [beq_eq_false_iff_ne]; exact h8
      by_cases h9 : po = 9
      · subst h9
        obtain ⟨ms', a, rfl, ha, hmo⟩ := HMO.out.last (HG0.out.cons.2.1 rfl)
        have HG := Lib.hid (show True ∧ GoodS V ms'.length (sts (l.drop (k + 1))) from ⟨trivial, by
          have := HG0.out.cons.2.2
          rw [if_neg (show ¬ (stz (9, px, py)).op = 8 by show ¬ 9 = 8; omega), if_pos (show (stz (9, px, py)).op = 9 from rfl)] at this
          simpa using this⟩)
        have hcell := HRF.out.fb.own.cellAt ms'.length (by simp)
        rw [ints_get] at hcell
        have hcell := cell_nx (Fr.al wr (.cells #[.int .i64 9, .int .i64 px, .int .i64 py] 40)) hcell
        have eL : (ms' ++ [a]).length = ms'.length + 1 := by simp
        have HRF0 := Lib.hid ((HRF.out.cut ha).nix (Fr.al wr (.cells #[.int .i64 9, .int .i64 px, .int .i64 py] 40)))
        have HML := Lib.hid (show ms'.length ≤ k ∧ k ≤ n from ⟨by have := HML.out.1; omega, HML.out.2⟩)
        have hD : (ms'.length : Int) ≤ 64 := by have := HML.out; omega
        have hac : (a : Int) ≤ (c6 : Int) := by omega
        have hmc : (ms'.length : Int) ≤ (c7 : Int) := by have := hc7.1; omega
        have hc6i : (c6 : Int) ≤ 9223372036854775807 := by unfold maxLen at hm6; omega
        have hc7i : (c7 : Int) ≤ 9223372036854775807 := by have := hc7.2; unfold maxLen at this; omega
        have HAL := Lib.hid (show a ≤ fz.length ∧ MkOK ms' a from ⟨ha, hmo⟩)
        clear hc7 hc6 hm6 ha hmo
        rw [eL]
        clear eL
        obtain ⟨D, hDD⟩ : ∃ D, ms'.length = D := ⟨_, rfl⟩
        have HDD := Lib.hid hDD
        have hd1 : ((D + 1 : Nat) : Int) - 1 = (D : Int) := by omega
        have hd2 : (D : Int) + 1 - 1 = (D : Int) := by omega
        rw [hDD] at hcell hD hmc HRF0 ⊢
        clear hDD
        have HRF := HRF0
        go_wp2_with (first | (with_reducible refine wpList_ld (o := ⟨some 19, _, _, _, _, _⟩) rfl 40 (.tmp 18) rfl _ rfl #[.int .i64 9, .int .i64 px, .int .i64 py] _ HC.out Try.underlying40 rfl (by kernel_rfl) ?_) | fail)
        go_roundg (n - (k + 1))
        case measure => have := HMK.out; omega
        case rel =>
          refine ⟨k + 1, ms', fz.take a, by have := HMK.out; omega, by rw [Int.natCast_add]; rfl, HRF.out, by rw [List.length_take, Nat.min_eq_left HAL.out.1]; exact HAL.out.2, fun z hz => HWF.out.1 z (List.mem_of_mem_take hz), ⟨by have := HWF.out.2; rw [List.length_take]; omega, by have := HML.out; omega⟩, HG.out.2, ?_⟩
          have h1 := HS.out.2
          rwa [snd9] at h1
      have n9 : (po == 9) = false := by rw [beq_eq_false_iff_ne]; exact h9
      have hp0 := HZ.out.2.lo
      have hp9 := HZ.out.2.hi
      simp only at hp0 hp9
      have hp7 : po ≤ 7 := by omega
      obtain ⟨X, Y, rfl, rfl, hX, hY, hXY⟩ := wstp HZ.out.2 hp7
      have HXY := Lib.hid (And.intro hX (And.intro hY hXY))
      have HPO := Lib.hid (And.intro hp0 hp7)
      have HG := Lib.hid (show True ∧ GoodS V ms.length (sts (l.drop (k + 1))) from ⟨trivial, by
        have := HG0.out.cons.2.2
        have hop : (stz (po, (X : Int), (Y : Int))).op = po.toNat := rfl
        rwa [if_neg (by omega), if_neg (by omega)] at this⟩)
      clear hc7 hc6 hm6 hX hY hXY hp0 hp9 hp7
      go_wp2_with (first | (with_reducible refine wpList_ld (o := ⟨some 19, _, _, _, _, _⟩) rfl 40 (.tmp 18) rfl _ rfl #[.int .i64 po, .int .i64 X, .int .i64 Y] _ HC.out Try.underlying40 rfl (by kernel_rfl) ?_) | fail)
      refine (asks_c po X Y _).mono ?_
      rintro e w2 ⟨rfl, hF2⟩
      have HBX := Lib.hid (step_boxn wr po X Y hF2)
      have HF2 := Lib.hid ((Fr.al wr (.cells #[.int .i64 po, .int .i64 (X : Nat), .int .i64 (Y : Nat)] 40)).t hF2)
      have hbc := cell_nx (HRF.out.fb.fr.t HF2.out) HBC.out
      have hki : (k : Int) < (n : Int) := by omega
      clear hF2 h8 h9
      by_cases h4 : 4 ≤ po
      · rw [show askB (po, (X : Int), (Y : Int)) = true by unfold askB; simp only [Bool.and_eq_true, decide_eq_true_eq]; exact ⟨h4, HPO.out.2⟩]
        have HSA := Lib.hid (show sndStep V (sts fz, ms) (stz (po, (X : Int), (Y : Int))) b = ((sts fz, ms), !(b && fitB V (sts fz) && !followB V (sts fz) (stz (po, (X : Int), (Y : Int))))) from sndz_ask h4 HPO.out.2)
        have H4 := Lib.hid h4
        clear h4
        cases b
        · have HRF := Lib.hid (HRF.out.nix HF2.out)
          go_wp2
          go_roundg (n - (k + 1))
          case measure => have := HMK.out; omega
          case rel =>
            refine ⟨k + 1, ms, fz, by have := HMK.out; omega, by rw [Int.natCast_add]; rfl, HRF.out, HMO.out, HWF.out.1, ⟨by have := HWF.out.2; omega, by have := HML.out; omega⟩, HG.out.2, ?_⟩
            have h1 := HS.out.2
            rwa [HSA.out] at h1
        · go_wp2_with fail
          refine (fits_c (HF6.out.1.nix HF2.out) (by have := HWF.out.2; have := HML.out; have := H.out.2.2; omega) HV.out HWF.out.1).mono ?_
          rintro e w3 ⟨rfl, hF3⟩
          obtain ⟨ft, hft⟩ : ∃ ft, fitB V (sts fz) = ft := ⟨_, rfl⟩
          rw [hft]
          have HFT := Lib.hid hft
          have HF3 := Lib.hid (HF2.out.t hF3)
          obtain ⟨x0, x1, x2⟩ := cells3 HBX.out hF3
          clear hF3 hft hbc
          cases ft
          · have HRF := Lib.hid (HRF.out.nix HF3.out)
            go_wp2
            go_roundg (n - (k + 1))
            case measure => have := HMK.out; omega
            case rel =>
              refine ⟨k + 1, ms, fz, by have := HMK.out; omega, by rw [Int.natCast_add]; rfl, HRF.out, HMO.out, HWF.out.1, ⟨by have := HWF.out.2; omega, by have := HML.out; omega⟩, HG.out.2, ?_⟩
              have h1 := HS.out.2
              rwa [HSA.out] at h1
          · go_wp2_with fail
            refine (follows_c (HF6.out.1.nix HF3.out) (by have := HWF.out.2; have := HML.out; have := H.out.2.2; omega) HV.out HWF.out.1 H4.out HPO.out.2 HXY.out.1 HXY.out.2.1 HXY.out.2.2).mono ?_
            rintro e w4 ⟨rfl, hF4⟩
            have hfl : followB V (sts fz) (stz (po, (X : Int), (Y : Int))) = true := by
              have h1 := HS.out.1
              rw [HSA.out, HFT.out] at h1
              simpa using h1
            rw [hfl]
            have HRF := Lib.hid (HRF.out.nix (HF3.out.t hF4))
            clear hF4 hfl x0 x1 x2
            go_wp2
            go_roundg (n - (k + 1))
            case measure => have := HMK.out; omega
            case rel =>
              refine ⟨k + 1, ms, fz, by have := HMK.out; omega, by rw [Int.natCast_add]; rfl, HRF.out, HMO.out, HWF.out.1, ⟨by have := HWF.out.2; omega, by have := HML.out; omega⟩, HG.out.2, ?_⟩
              have h1 := HS.out.2
              rwa [HSA.out] at h1
      · rw [show askB (po, (X : Int), (Y : Int)) = false by unfold askB; simp only [Bool.and_eq_false_iff, decide_eq_false_iff_not]; exact .inl h4]
        have HP3 := Lib.hid (show po ≤ 3 by omega)
        have HWFX := Lib.hid (show ∀ z ∈ fz ++ [(po, (X : Int), (Y : Int))], WfZ (V : Int) z from fun z hz => (List.mem_append.1 hz).elim (HWF.out.1 z) fun q => by rw [List.mem_singleton.1 q]; exact HZ.out.2)
        clear h4
        obtain ⟨x0, x1, x2⟩ := HBX.out
        cases b
        · go_wp2_with fail
          refine (with_c (o := po) (x := X) (y := Y) (HF6.out.1.nix HF2.out) (by have := HWF.out.2; have := HML.out; have := H.out.2.2; omega)).mono ?_
          rintro e w3 ⟨v3, rfl, hW⟩
          obtain ⟨g3, c3, rfl⟩ := hW.shp
          have HW := Lib.hid hW
          clear hW x0 x1 x2 hbc
          go_wp2_with fail
          refine (fits_c HW.out.rd (by have := HWF.out.2; have := HML.out; have := H.out.2.2; omega) HV.out HWFX.out).mono ?_
          rintro e w4 ⟨rfl, hF4⟩
          have hft : fitB V (sts (fz ++ [(po, (X : Int), (Y : Int))])) = false := by
            have h1 := HS.out.1
            rw [sndz_set HPO.out.1 HP3.out, if_neg (by decide)] at h1
            simpa using h1
          rw [hft]
          have HRF := Lib.hid (HRF.out.nix (HF2.out.t (HW.out.fr.t hF4)))
          clear hF4 hft
          go_wp2
          go_roundg (n - (k + 1))
          case measure => have := HMK.out; omega
          case rel =>
            refine ⟨k + 1, ms, fz, by have := HMK.out; omega, by rw [Int.natCast_add]; rfl, HRF.out, HMO.out, HWF.out.1, ⟨by have := HWF.out.2; omega, by have := HML.out; omega⟩, HG.out.2, ?_⟩
            have h1 := HS.out.2
            rwa [sndz_set HPO.out.1 HP3.out, if_neg (by decide)] at h1
        · go_wp2_with fail
          refine (with_c (o := po) (x := X) (y := Y) (HF6.out.1.nix HF2.out) (by have := HWF.out.2; have := HML.out; have := H.out.2.2; omega)).mono ?_
          rintro e w5 ⟨v5, rfl, hW5⟩
          obtain ⟨g9, c9, rfl⟩ := hW5.shp
          have eL : (fz ++ [(po, (X : Int), (Y : Int))]).length = fz.length + 1 := by simp
          have HRF := Lib.hid ((HRF.out.nix HF2.out).put (fz' := fz ++ [(po, (X : Int), (Y : Int))]) (g := g9) (c := c9) (by rw [eL]; exact hW5))
          rw [eL] at HRF
          clear hW5 eL x0 x1 x2 hbc
          go_wp2
          go_roundg (n - (k + 1))
          case measure => have := HMK.out; omega
          case rel =>
            refine ⟨k + 1, ms, fz ++ [(po, (X : Int), (Y : Int))], by have := HMK.out; omega, by rw [Int.natCast_add]; rfl, HRF.out, HMO.out.more (by simp), HWFX.out, ⟨by have := HWF.out.2; simp only [List.length_append, List.length_cons, List.length_nil]; omega, by have := HML.out; omega⟩, HG.out.2, ?_⟩
            have h1 := HS.out.2
            rwa [sndz_set HPO.out.1 HP3.out, if_pos rfl] at h1
    · have hk : k = n := by have := HMK.out; omega
      subst hk
      go_wp2
      go_ret
      exact ⟨rfl, HRF.out.fb.fr⟩
end Go.Proofs.Ytapnmgkpljlgmaa
