/- The state of the reference's run: outcomes, facts, marks. The walk of spec.Run. -/
import Derived.Test.YtapnmgkpljlgmaaG27
import Derived.Test.YtapnmgkpljlgmaaG26
import Derived.Test.YtapnmgkpljlgmaaG14
set_option linter.unusedVariables false
set_option linter.unusedSimpArgs false
namespace Go.Proofs.Ytapnmgkpljlgmaa
open Go.RowKit
/-- Marks, each at most the next and the last at most n. -/
inductive MkOK : List Nat → Nat → Prop
  | nil (n : Nat) : MkOK [] n
  | snoc {ms : List Nat} {a n : Nat} : a ≤ n → MkOK ms a → MkOK (ms ++ [a]) n
theorem MkOK.more {ms : List Nat} {n m : Nat} (h : MkOK ms n) (k : n ≤ m) : MkOK ms m := by
  cases h with
  | nil => exact .nil _
  | snoc a b => exact .snoc (Nat.le_trans a k) b
theorem MkOK.last {ms : List Nat} {n : Nat} (h : MkOK ms n) (k : 0 < ms.length) : ∃ ms' a, ms = ms' ++ [a] ∧ a ≤ n ∧ MkOK ms' a := by
  cases h with
  | nil => simp at k
  | snoc a b => exact ⟨_, _, rfl, a, b⟩
/-- Outcomes in a block of their own, marks in another one; facts in a third one that is only read. -/
structure RF (w wr : World) (a b f : Value) (os : List Bool) (ms : List Nat) (fz : List Z3) : Prop where
  fa : Fsh w wr 4 1 a os.length (bls os)
  fb : Fsh w wr 3 1 b ms.length (ints ms)
  ne : ∀ g, a.ownBlock = some g → b.ownBlock ≠ some g
  ff : ∃ g c, f = .slice (some ⟨g, 0, none⟩) fz.length c ∧ Rd wr 3 (some ⟨g, 0, none⟩) fz.length (z3s fz) ∧ fz.length ≤ c ∧ c ≤ maxLen ∧ g < wr.heap.size ∧ a.ownBlock ≠ some g ∧ b.ownBlock ≠ some g
theorem Rd.fr {w w' : World} {size : Nat} {ad : Addr} {n : Nat} {xs : List Value} {F : Nat → Prop} (h : Rd w size (some ad) n xs) (f : Fr w w' F) (hF : ¬ F ad.block) : Rd w' size (some ad) n xs :=
  ⟨h.1, fun hn => by
    obtain ⟨ad', e, hb, hc⟩ := h.2 hn
    cases e
    exact ⟨ad, rfl, Nat.lt_of_lt_of_le hb f.size, fun k j u hj hu => (f.cell (a := (ad.add (k * size)).add j) (by rw [add_block, add_block]; exact hb) (by rw [add_block, add_block]; exact hF)).trans (hc k j u hj hu)⟩⟩
theorem RF.nix {w wr w' : World} {a b f : Value} {os : List Bool} {ms : List Nat} {fz : List Z3} (h : RF w wr a b f os ms fz) (k : Fr wr w' Nix) : RF w w' a b f os ms fz := by
  refine ⟨h.fa.nix k, h.fb.nix k, h.ne, ?_⟩
  obtain ⟨g, c, h1, h2, h3, h4, h5, h6⟩ := h.ff
  exact ⟨g, c, h1, h2.nix k, h3, h4, Nat.lt_of_lt_of_le h5 k.size, h6⟩
theorem RF.appO {w wr wa w1 : World} {a b f : Value} {os : List Bool} {ms : List Nat} {fz : List Z3} {z : Bool} {g cap : Nat} (h : RF w wr a b f os ms fz) (ha : Fr wr wa Nix)
    (hown : w1.ownsRow 0 4 1 (.slice (some ⟨g, 0, none⟩) (os.length + 1) cap) (os.length + 1) (bls os ++ [.bool z])) (hg : wa.grownBy w1 a.ownBlock) (hn : a.ownBlock = some g ∨ wa.heap.size ≤ g) :
    RF w w1 (.slice (some ⟨g, 0, none⟩) (os.length + 1) cap) b f (os ++ [z]) ms fz := by
  have e : (os ++ [z]).length = os.length + 1 := by simp
  have fr : Fr wa w1 (fun k => a.ownBlock = some k) := Fr.grown (F := fun k => a.ownBlock = some k) hg fun k hk => hk
  refine ⟨?_, (h.fb.nix ha).kept fr (fun i hi e => h.ne i e hi) (fun i hi => h.fa.new i hi), fun i hi hb => ?_, ?_⟩
  · rw [e, bls_app]
    exact h.fa.app ha hown hg hn
  · simp only [Value.ownBlock, Option.some.injEq] at hi
    subst hi
    rcases hn with hn | hn
    · exact h.ne _ hn hb
    · have := (h.fb.nix ha).lt hb; omega
  · obtain ⟨g', c, h1, h2, h3, h4, h5, h6, h7⟩ := (h.nix ha).ff
    refine ⟨g', c, h1, h2.fr fr h6, h3, h4, Nat.lt_of_lt_of_le h5 fr.size, fun q => ?_, h7⟩
    simp only [Value.ownBlock, Option.some.injEq] at q
    subst q
    rcases hn with hn | hn
    · exact h6 hn
    · omega
theorem RF.appM {w wr wa w1 : World} {a b f : Value} {os : List Bool} {ms : List Nat} {fz : List Z3} {k g cap : Nat} (h : RF w wr a b f os ms fz) (ha : Fr wr wa Nix)
    (hown : w1.ownsRow 0 3 1 (.slice (some ⟨g, 0, none⟩) (ms.length + 1) cap) (ms.length + 1) (ints ms ++ [.int .i64 (k : Nat)])) (hg : wa.grownBy w1 b.ownBlock) (hn : b.ownBlock = some g ∨ wa.heap.size ≤ g) :
    RF w w1 a (.slice (some ⟨g, 0, none⟩) (ms.length + 1) cap) f os (ms ++ [k]) fz := by
  have e : (ms ++ [k]).length = ms.length + 1 := by simp
  have fr : Fr wa w1 (fun k => b.ownBlock = some k) := Fr.grown (F := fun k => b.ownBlock = some k) hg fun k hk => hk
  refine ⟨(h.fa.nix ha).kept fr (fun i hi e => h.ne i hi e) (fun i hi => h.fb.new i hi), ?_, fun i hi hb => ?_, ?_⟩
  · rw [e, ints_snoc]
    exact h.fb.app ha hown hg hn
  · simp only [Value.ownBlock, Option.some.injEq] at hb
    subst hb
    rcases hn with hn | hn
    · exact h.ne _ hi hn
    · have := (h.fa.nix ha).lt hi; omega
  · obtain ⟨g', c, h1, h2, h3, h4, h5, h6, h7⟩ := (h.nix ha).ff
    refine ⟨g', c, h1, h2.fr fr h7, h3, h4, Nat.lt_of_lt_of_le h5 fr.size, h6, fun q => ?_⟩
    simp only [Value.ownBlock, Option.some.injEq] at q
    subst q
    rcases hn with hn | hn
    · exact h7 hn
    · omega
/-- The last mark is taken off, and the facts behind it. -/
theorem RF.cut {w wr : World} {a : Value} {os : List Bool} {ms : List Nat} {k g7 c7 g6 c6 : Nat} {fz : List Z3} (h : RF w wr a (.slice (some ⟨g7, 0, none⟩) (ms ++ [k]).length c7) (.slice (some ⟨g6, 0, none⟩) fz.length c6) os (ms ++ [k]) fz) (hk : k ≤ fz.length) :
    RF w wr a (.slice (some ⟨g7, 0, none⟩) ms.length c7) (.slice (some ⟨g6, 0, none⟩) k c6) os ms (fz.take k) := by
  have e : (fz.take k).length = k := by rw [List.length_take]; omega
  refine ⟨h.fa, ⟨?_, h.fb.new, h.fb.fr, _, _, rfl⟩, h.ne, ?_⟩
  · have := row_shrink h.fb.own (m := ms.length) (by simp)
    rw [ints_snoc, Nat.mul_one, List.take_left' (by simp [ints])] at this
    exact this
  · obtain ⟨g', c, h1, h2, h3, h4, h5, h6, h7⟩ := h.ff
    cases h1
    refine ⟨_, _, by rw [e], ?_, by rw [e]; omega, h4, h5, h6, h7⟩
    rw [e]
    have := h2.sub (l := 0) (m := k) (by omega)
    rw [Nat.zero_mul, add0, List.drop_zero] at this
    have e2 : z3s (fz.take k) = (z3s fz).take (k * 3) := by
      have e3 : z3s fz = z3s (fz.take k) ++ z3s (fz.drop k) := by rw [← z3s_app, List.take_append_drop]
      rw [e3, List.take_left' (by rw [z3s_len, e])]
    rw [e2]; exact this
/-- Other facts, in a block that is new. -/
theorem RF.put {w wr w1 : World} {a b f : Value} {os : List Bool} {ms : List Nat} {fz fz' : List Z3} {g c : Nat} (h : RF w wr a b f os ms fz) (k : Fsh wr w1 40 3 (.slice (some ⟨g, 0, none⟩) fz'.length c) fz'.length (z3s fz')) :
    RF w w1 a b (.slice (some ⟨g, 0, none⟩) fz'.length c) os ms fz' := by
  have hg : wr.heap.size ≤ g := k.new g rfl
  have hc := k.cap
  refine ⟨h.fa.nix k.fr, h.fb.nix k.fr, h.ne, _, _, rfl, k.rd, hc.1, hc.2, k.lt rfl, fun q => ?_, fun q => ?_⟩
  · have := h.fa.lt q; omega
  · have := h.fb.lt q; omega
theorem limB {n : Nat} (h : n < 4294967296) : (n + 1) * 1 ≤ 140737488355328 ∧ n + 1 ≤ 1000000000000 := by omega
end Go.Proofs.Ytapnmgkpljlgmaa
namespace Go.Proofs.Ytapnmgkpljlgmaa
open Go.RowKit
def rRel (w : World) (V : Nat) (l : List Z3) (n m : Nat) (a f b u : Value) (wr : World) : Prop :=
  ∃ (k : Nat) (os : List Bool) (ms : List Nat) (fz : List Z3), m + k = n ∧ u = .int .i64 (k : Nat) ∧ rrun V ([], []) (sts (l.take k)) = ((sts fz, ms), os) ∧ os.length = k ∧
    RF w wr a b f os ms fz ∧ MkOK ms fz.length ∧ (∀ z ∈ fz, WfZ (V : Int) z) ∧ (fz.length ≤ k ∧ ms.length ≤ k) ∧ GoodS V ms.length (sts (l.drop k))
theorem rf_empty (w : World) : RF w (((w.alloc (.cells #[] 4)).alloc (.cells #[] 40)).alloc (.cells #[] 3)) (.slice (some ⟨w.heap.size, 0, none⟩) 0 0) (.slice (some ⟨w.heap.size + 1 + 1, 0, none⟩) 0 0) (.slice (some ⟨w.heap.size + 1, 0, none⟩) 0 0) [] [] [] := by
  refine ⟨((Fsh.empty w 4 1).nix (Fr.al _ _)).nix (Fr.al _ _), ?_, fun g hg hb => ?_, _, _, rfl, Rd.zero, Nat.le_refl _, Nat.zero_le _, by simp, ?_, ?_⟩
  · have := (Fsh.empty ((w.alloc (.cells #[] 4)).alloc (.cells #[] 40)) 3 1).base ((Fr.al w _).a _)
    rwa [size_alloc, size_alloc] at this
  · simp only [Value.ownBlock, Option.some.injEq] at hg hb; omega
  · simp [Value.ownBlock]
  · simp [Value.ownBlock]
theorem ints_get {ms : List Nat} {a : Nat} : (ints (ms ++ [a]))[ms.length]? = some (.int .i64 (a : Nat)) := by
  unfold ints
  rw [List.map_append, List.getElem?_append_right (by simp)]
  simp
theorem rstep9 {V : Nat} {fz : List Z3} {ms : List Nat} {a : Nat} {x y : Int} : rstep V (sts fz, ms ++ [a]) (stz (9, x, y)) = ((sts (fz.take a), ms), true) := by
  show (((sts fz).take ((ms ++ [a]).getLast?.getD 0), (ms ++ [a]).dropLast), true) = _
  simp [sts, List.map_take]
theorem rstep_ask {V : Nat} {r : RS} {o x y : Int} (h4 : 4 ≤ o) (h7 : o ≤ 7) : rstep V r (stz (o, x, y)) = (r, holdB V r.1 (stz (o, x, y))) := by
  have e : (stz (o, x, y)).op = o.toNat := rfl
  unfold rstep
  rw [if_neg (by omega), if_neg (by omega), if_pos (by omega)]
theorem rstep_set {V : Nat} {fz : List Z3} {ms : List Nat} {o x y : Int} (h0 : 0 ≤ o) (h3 : o ≤ 3) :
    rstep V (sts fz, ms) (stz (o, x, y)) = if fitB V (sts (fz ++ [(o, x, y)])) = true then ((sts (fz ++ [(o, x, y)]), ms), true) else ((sts fz, ms), false) := by
  have e : (stz (o, x, y)).op = o.toNat := rfl
  unfold rstep
  rw [if_neg (by omega), if_neg (by omega), if_neg (by omega), sts_app]
  rfl
set_option maxRecDepth 10000 in
set_option maxHeartbeats 8000000 in
theorem refrun_c {V : Nat} {A : Option Addr} {n c : Nat} {l : List Z3} {w : World} (h : Rd w 3 A n (z3s l)) (hg : GoodZ (V : Int) l) :
    Calls Try.prog 38 #[.int .i64 (V : Nat), .slice A n c] w fun e w' => ∃ v, e = .returned v ∧ Fsh w w' 4 1 v n (bls (refs V (sts l))) := by
  have hlen : l.length = n := by have := h.1; rw [z3s_len] at this; omega
  have H := Lib.hid (And.intro h (And.intro hlen (show n ≤ 64 by have := hg.len; omega)))
  have hm : (n : Int) ≤ 64 := by have := hg.len; omega
  have HV := Lib.hid (show V ≤ 12 by have := hg.v12; omega)
  have HGZ := Lib.hid hg
  clear h hlen hg
  go_enter Try.func38, Try.ntmps38
  go_wp2_with fail
  go_loopg [5, 6, 7, 16] n (fun m a f b u wr => rRel w V l n m a f b u wr)
  case atStart => exact ⟨0, [], [], [], rfl, rfl, rfl, rfl, rf_empty w, .nil _, fun z hz => by simp at hz, ⟨Nat.le_refl _, Nat.le_refl _⟩, HGZ.out.good⟩
  case round =>
    obtain ⟨k, os, ms, fz, hmk, rfl, hr, hos, hrf, hmok, hwf, hfl, hgood⟩ := hrel
    have HRF := Lib.hid hrf
    have HMK := Lib.hid hmk
    have HR := Lib.hid hr
    have HOS := Lib.hid hos
    have HMO := Lib.hid hmok
    have HWF := Lib.hid (And.intro hwf hfl.1)
    have HML := Lib.hid (show ms.length ≤ k ∧ k ≤ n from ⟨hfl.2, by omega⟩)
    have HGS := Lib.hid hgood
    clear hrf hmk hr hos hmok hwf hfl hgood
    by_cases hlt : k < n
    · obtain ⟨ad, po, px, py, rfl, hz, hc⟩ := rd3 (H.out.1.nix HRF.out.fa.fr) hlt
      have HZ := Lib.hid (And.intro hz (HGZ.out.wf _ (List.mem_of_getElem? hz)))
      have HC := Lib.hid hc
      have HG0 := Lib.hid (show GoodS V ms.length (stz (po, px, py) :: sts (l.drop (k + 1))) by have := HGS.out; rw [drop_at hz] at this; exact this)
      obtain ⟨g5, c5, e5⟩ := HRF.out.fa.shp
      obtain ⟨g7, c7, e7⟩ := HRF.out.fb.shp
      obtain ⟨g6, c6, e6, hr6, hc6, hm6, _, _, _⟩ := HRF.out.ff
      subst e5 e7 e6
      have HF6 := Lib.hid (And.intro hr6 (And.intro hc6 hm6))
      have hc7 := HRF.out.fb.cap
      clear hz hc hr6
      by_cases h8 : po = 8
      · subst h8
        have HG := Lib.hid (show True ∧ GoodS V (ms ++ [fz.length]).length (sts (l.drop (k + 1))) from ⟨trivial, by
          have := HG0.out.cons.2.2
          rw [if_pos (show (stz (8, px, py)).op = 8 from rfl)] at this
          simpa using this⟩)
        have HRF0 := HRF
        have hown := HRF.out.fb.own
        have HN := Lib.hid (limI (n := ms.length) (by have := HML.out; have := H.out.2.2; omega))
        have HMS := Lib.hid hc7
        clear hc7 hc6 hm6
        go_wp2_with (first
          | (with_reducible refine wpList_ld (o := ⟨some 19, _, _, _, _, _⟩) rfl 40 (.tmp 18) rfl _ rfl #[.int .i64 8, .int .i64 px, .int .i64 py] _ HC.out Try.underlying40 rfl (by kernel_rfl) ?_)
          | (at_builtin; refine wpList_app _ rfl (.tmp 23) (.tmp 26) 52 rfl 3 _ 1 8 Try.underlying52 (by kernel_rfl : _ = some (some (.int .i64 0), 1, 8)) rfl (by decide) _ _ _ rfl ((hown.alloc _).alloc _) ⟨_, 0, none⟩ 1 1 [.int .i64 (fz.length : Nat)] rfl rfl (by decide) (cells_at _ _ (size_alloc _ _) _ _) (by simp [Value.oneCell']) HN.out.1 HN.out.2 ?_)
          | fail)
        intro g cap w1 hown1 hgrow1 hnew1
        have HRF := Lib.hid (HRF0.out.appM ((Fr.al _ _).a _) hown1 hgrow1 (by simpa using hnew1))
        clear hown1 hgrow1 hnew1 hown HN
        have hown := HRF.out.fa.own
        have HN := Lib.hid (limB (n := os.length) (by have := HOS.out; have := HMK.out; have := H.out.2.2; omega))
        go_wp2_with (first | (at_builtin; refine wpList_app _ rfl (.tmp 59) (.tmp 61) 28 rfl 4 _ 1 1 Try.underlying28 (by kernel_rfl : _ = some (some (.bool false), 1, 1)) rfl (by decide) _ _ _ rfl (hown.alloc _) ⟨_, 0, none⟩ 1 1 [.bool true] rfl rfl (by decide) (cells_at _ _ rfl _ _) (by simp [Value.oneCell']) HN.out.1 HN.out.2 ?_) | fail)
        intro g cap wz hown1 hgrow1 hnew1
        have HZF := Lib.hid (HRF.out.appO (Fr.al _ _) hown1 hgrow1 (by simpa using hnew1))
        clear hown1 hgrow1 hnew1 hown
        go_wp2
        go_roundg (n - (k + 1))
        case measure => have := HMK.out; omega
        case rel =>
          refine ⟨k + 1, os ++ [true], ms ++ [fz.length], fz, by have := HMK.out; omega, by rw [Int.natCast_add]; rfl, ?_, by simp only [List.length_append, List.length_cons, List.length_nil]; have := HOS.out; omega, HZF.out, MkOK.snoc (Nat.le_refl _) HMO.out, HWF.out.1, ⟨by have := HWF.out.2; omega, by have := HML.out; simp only [List.length_append, List.length_cons, List.length_nil]; omega⟩, ?_⟩
          · rw [take_snoc HZ.out.1, sts_app]
            show rrun V ([], []) (sts (l.take k) ++ [stz _]) = _
            rw [rrun_snoc, HR.out, show rstep V (sts fz, ms) (stz (8, px, py)) = ((sts fz, ms ++ [(sts fz).length]), true) from rfl, sts_len]
          · exact HG.out.2
      have n8 : (po == 8) = false := by rw [beq_eq_false_iff_ne]; exact h8
      by_cases h9 : po = 9
      · subst h9
        obtain ⟨ms', a, rfl, ha, hmo⟩ := HMO.out.last (HG0.out.cons.2.1 rfl)
        have HG := Lib.hid (show True ∧ GoodS V ms'.length (sts (l.drop (k + 1))) from ⟨trivial, by
          have := HG0.out.cons.2.2
          rw [if_neg (show ¬ (stz (9, px, py)).op = 8 by show ¬ 9 = 8; omega), if_pos (show (stz (9, px, py)).op = 9 from rfl)] at this
          simpa using this⟩)
        have hcell := HRF.out.fb.own.cellAt ms'.length (by simp)
        rw [ints_get] at hcell
        have hcell := cell_nx (Fr.al wr (.cells #[.int .i64 9, .int .i64 px, .int .i64 py] 40)) hcell
        have eL : (ms' ++ [a]).length = ms'.length + 1 := by simp
        have HRF0 := Lib.hid ((HRF.out.cut ha).nix (Fr.al wr (.cells #[.int .i64 9, .int .i64 px, .int .i64 py] 40)))
        have HML := Lib.hid (show ms'.length ≤ k ∧ k ≤ n from ⟨by have := HML.out.1; omega, HML.out.2⟩)
        have hD : (ms'.length : Int) ≤ 64 := by have := HML.out; omega
        have hac : (a : Int) ≤ (c6 : Int) := by omega
        have hmc : (ms'.length : Int) ≤ (c7 : Int) := by have := hc7.1; omega
        have hc6i : (c6 : Int) ≤ 9223372036854775807 := by unfold maxLen at hm6; omega
        have hc7i : (c7 : Int) ≤ 9223372036854775807 := by have := hc7.2; unfold maxLen at this; omega
        have HAL := Lib.hid (show a ≤ fz.length ∧ MkOK ms' a from ⟨ha, hmo⟩)
        clear hc7 hc6 hm6 ha hmo
        rw [eL]
        clear eL
        obtain ⟨D, hDD⟩ : ∃ D, ms'.length = D := ⟨_, rfl⟩
        have HDD := Lib.hid hDD
        have hd1 : ((D + 1 : Nat) : Int) - 1 = (D : Int) := by omega
        have hd2 : (D : Int) + 1 - 1 = (D : Int) := by omega
        rw [hDD] at hcell hD hmc HRF0 ⊢
        clear hDD
        have HRF := HRF0
        have hown := HRF.out.fa.own
        have HN := Lib.hid (limB (n := os.length) (by have := HOS.out; have := HMK.out; have := H.out.2.2; omega))
        go_wp2_with (first | (with_reducible refine wpList_ld (o := ⟨some 19, _, _, _, _, _⟩) rfl 40 (.tmp 18) rfl _ rfl #[.int .i64 9, .int .i64 px, .int .i64 py] _ HC.out Try.underlying40 rfl (by kernel_rfl) ?_) | (at_builtin; refine wpList_app _ rfl (.tmp 59) (.tmp 61) 28 rfl 4 _ 1 1 Try.underlying28 (by kernel_rfl : _ = some (some (.bool false), 1, 1)) rfl (by decide) _ _ _ rfl (hown.alloc _) ⟨_, 0, none⟩ 1 1 [.bool true] rfl rfl (by decide) (cells_at _ _ (size_alloc _ _) _ _) (by simp [Value.oneCell']) HN.out.1 HN.out.2 ?_) | fail)
        intro g cap wz hown1 hgrow1 hnew1
        have HZF := Lib.hid (HRF.out.appO (Fr.al _ _) hown1 hgrow1 (by simpa using hnew1))
        clear hown1 hgrow1 hnew1 hown
        go_wp2
        go_roundg (n - (k + 1))
        case measure => have := HMK.out; omega
        case rel =>
          refine ⟨k + 1, os ++ [true], ms', fz.take a, by have := HMK.out; omega, by rw [Int.natCast_add]; rfl, ?_, by simp only [List.length_append, List.length_cons, List.length_nil]; have := HOS.out; omega, HZF.out, by rw [List.length_take, Nat.min_eq_left HAL.out.1]; exact HAL.out.2, fun z hz => HWF.out.1 z (List.mem_of_mem_take hz), ⟨by have := HWF.out.2; rw [List.length_take]; omega, by have := HML.out; omega⟩, ?_⟩
          · rw [take_snoc HZ.out.1, sts_app]
            show rrun V ([], []) (sts (l.take k) ++ [stz _]) = _
            rw [rrun_snoc, HR.out, rstep9]
          · exact HG.out.2
      have n9 : (po == 9) = false := by rw [beq_eq_false_iff_ne]; exact h9
      have hp0 := HZ.out.2.lo
      have hp9 := HZ.out.2.hi
      simp only at hp0 hp9
      have hp7 : po ≤ 7 := by omega
      obtain ⟨X, Y, rfl, rfl, hX, hY, hXY⟩ := wstp HZ.out.2 hp7
      have HXY := Lib.hid (And.intro hX hY)
      have HPO := Lib.hid (And.intro hp0 hp7)
      have HG := Lib.hid (show True ∧ GoodS V ms.length (sts (l.drop (k + 1))) from ⟨trivial, by
        have := HG0.out.cons.2.2
        have hop : (stz (po, (X : Int), (Y : Int))).op = po.toNat := rfl
        rwa [if_neg (by omega), if_neg (by omega)] at this⟩)
      clear hc7 hc6 hm6 hX hY hXY hp0 hp9 hp7
      go_wp2_with (first | (with_reducible refine wpList_ld (o := ⟨some 19, _, _, _, _, _⟩) rfl 40 (.tmp 18) rfl _ rfl #[.int .i64 po, .int .i64 X, .int .i64 Y] _ HC.out Try.underlying40 rfl (by kernel_rfl) ?_) | fail)
      refine (asks_c po X Y _).mono ?_
      rintro e w2 ⟨rfl, hF2⟩
      have HBX := Lib.hid (step_boxn wr po X Y hF2)
      have HF2 := Lib.hid ((Fr.al wr (.cells #[.int .i64 po, .int .i64 (X : Nat), .int .i64 (Y : Nat)] 40)).t hF2)
      clear hF2 h8 h9
      by_cases h4 : 4 ≤ po
      · rw [show askB (po, (X : Int), (Y : Int)) = true by unfold askB; simp only [Bool.and_eq_true, decide_eq_true_eq]; exact ⟨h4, HPO.out.2⟩]
        obtain ⟨x0, x1, x2⟩ := HBX.out
        go_wp2_with fail
        refine (holds_c (HF6.out.1.nix HF2.out) (by have := HWF.out.2; have := HML.out; have := H.out.2.2; omega) HV.out HWF.out.1 h4 HPO.out.2 HXY.out.1 HXY.out.2).mono ?_
        rintro e w3 ⟨rfl, hF3⟩
        obtain ⟨b, hb⟩ : ∃ b, holdB V (sts fz) (stz (po, (X : Int), (Y : Int))) = b := ⟨_, rfl⟩
        rw [hb]
        have HBB := Lib.hid (And.intro hb h4)
        have HRF := Lib.hid (HRF.out.nix (HF2.out.t hF3))
        clear hF3 hb h4 x0 x1 x2
        have hown := HRF.out.fa.own
        have HN := Lib.hid (limB (n := os.length) (by have := HOS.out; have := HMK.out; have := H.out.2.2; omega))
        go_wp2_with (first | (at_builtin; refine wpList_app _ rfl (.tmp 59) (.tmp 61) 28 rfl 4 _ 1 1 Try.underlying28 (by kernel_rfl : _ = some (some (.bool false), 1, 1)) rfl (by decide) _ _ _ rfl (hown.alloc _) ⟨_, 0, none⟩ 1 1 [.bool b] rfl rfl (by decide) (cells_at _ _ rfl _ _) (by simp [Value.oneCell']) HN.out.1 HN.out.2 ?_) | fail)
        intro g cap wz hown1 hgrow1 hnew1
        have HZF := Lib.hid (HRF.out.appO (Fr.al _ _) hown1 hgrow1 (by simpa using hnew1))
        clear hown1 hgrow1 hnew1 hown
        go_wp2
        go_roundg (n - (k + 1))
        case measure => have := HMK.out; omega
        case rel =>
          refine ⟨k + 1, os ++ [b], ms, fz, by have := HMK.out; omega, by rw [Int.natCast_add]; rfl, ?_, by simp only [List.length_append, List.length_cons, List.length_nil]; have := HOS.out; omega, HZF.out, HMO.out, HWF.out.1, ⟨by have := HWF.out.2; omega, by have := HML.out; omega⟩, ?_⟩
          · rw [take_snoc HZ.out.1, sts_app]
            show rrun V ([], []) (sts (l.take k) ++ [stz _]) = _
            rw [rrun_snoc, HR.out, rstep_ask HBB.out.2 HPO.out.2, HBB.out.1]
          · exact HG.out.2
      · rw [show askB (po, (X : Int), (Y : Int)) = false by unfold askB; simp only [Bool.and_eq_false_iff, decide_eq_false_iff_not]; exact .inl h4]
        have HP3 := Lib.hid (show po ≤ 3 by omega)
        clear h4
        obtain ⟨x0, x1, x2⟩ := HBX.out
        go_wp2_with fail
        refine (with_c (o := po) (x := X) (y := Y) (HF6.out.1.nix HF2.out) (by have := HWF.out.2; have := HML.out; have := H.out.2.2; omega)).mono ?_
        rintro e w3 ⟨v3, rfl, hW⟩
        obtain ⟨g3, c3, rfl⟩ := hW.shp
        have HW := Lib.hid hW
        have HWFX := Lib.hid (show ∀ z ∈ fz ++ [(po, (X : Int), (Y : Int))], WfZ (V : Int) z from fun z hz => (List.mem_append.1 hz).elim (HWF.out.1 z) fun q => by rw [List.mem_singleton.1 q]; exact HZ.out.2)
        clear hW x0 x1 x2
        go_wp2_with fail
        refine (fits_c HW.out.rd (by have := HWF.out.2; have := HML.out; have := H.out.2.2; omega) HV.out HWFX.out).mono ?_
        rintro e w4 ⟨rfl, hF4⟩
        have HF4 := Lib.hid (HW.out.fr.t hF4)
        clear hF4
        obtain ⟨b, hb⟩ : ∃ b, fitB V (sts (fz ++ [(po, (X : Int), (Y : Int))])) = b := ⟨_, rfl⟩
        rw [hb]
        have HBB := Lib.hid hb
        clear hb
        cases b
        · have HRF := Lib.hid (HRF.out.nix (HF2.out.t HF4.out))
          have hown := HRF.out.fa.own
          have HN := Lib.hid (limB (n := os.length) (by have := HOS.out; have := HMK.out; have := H.out.2.2; omega))
          go_wp2_with (first | (at_builtin; refine wpList_app _ rfl (.tmp 59) (.tmp 61) 28 rfl 4 _ 1 1 Try.underlying28 (by kernel_rfl : _ = some (some (.bool false), 1, 1)) rfl (by decide) _ _ _ rfl (hown.alloc _) ⟨_, 0, none⟩ 1 1 [.bool false] rfl rfl (by decide) (cells_at _ _ rfl _ _) (by simp [Value.oneCell']) HN.out.1 HN.out.2 ?_) | fail)
          intro g cap wz hown1 hgrow1 hnew1
          have HZF := Lib.hid (HRF.out.appO (Fr.al _ _) hown1 hgrow1 (by simpa using hnew1))
          clear hown1 hgrow1 hnew1 hown
          go_wp2
          go_roundg (n - (k + 1))
          case measure => have := HMK.out; omega
          case rel =>
            refine ⟨k + 1, os ++ [false], ms, fz, by have := HMK.out; omega, by rw [Int.natCast_add]; rfl, ?_, by simp only [List.length_append, List.length_cons, List.length_nil]; have := HOS.out; omega, HZF.out, HMO.out, HWF.out.1, ⟨by have := HWF.out.2; omega, by have := HML.out; omega⟩, ?_⟩
            · rw [take_snoc HZ.out.1, sts_app]
              show rrun V ([], []) (sts (l.take k) ++ [stz _]) = _
              rw [rrun_snoc, HR.out, rstep_set HPO.out.1 HP3.out, HBB.out, if_neg (by decide)]
            · exact HG.out.2
        · obtain ⟨x0, x1, x2⟩ := cells3 HBX.out HF4.out
          go_wp2_with fail
          refine (with_c (o := po) (x := X) (y := Y) (HF6.out.1.nix (HF2.out.t HF4.out)) (by have := HWF.out.2; have := HML.out; have := H.out.2.2; omega)).mono ?_
          rintro e w5 ⟨v5, rfl, hW5⟩
          obtain ⟨g9, c9, rfl⟩ := hW5.shp
          have eL : (fz ++ [(po, (X : Int), (Y : Int))]).length = fz.length + 1 := by simp
          have HRF := Lib.hid ((HRF.out.nix (HF2.out.t HF4.out)).put (fz' := fz ++ [(po, (X : Int), (Y : Int))]) (g := g9) (c := c9) (by rw [eL]; exact hW5))
          rw [eL] at HRF
          clear hW5 eL x0 x1 x2
          have hown := HRF.out.fa.own
          have HN := Lib.hid (limB (n := os.length) (by have := HOS.out; have := HMK.out; have := H.out.2.2; omega))
          go_wp2_with (first | (at_builtin; refine wpList_app _ rfl (.tmp 59) (.tmp 61) 28 rfl 4 _ 1 1 Try.underlying28 (by kernel_rfl : _ = some (some (.bool false), 1, 1)) rfl (by decide) _ _ _ rfl (hown.alloc _) ⟨_, 0, none⟩ 1 1 [.bool true] rfl rfl (by decide) (cells_at _ _ rfl _ _) (by simp [Value.oneCell']) HN.out.1 HN.out.2 ?_) | fail)
          intro g cap wz hown1 hgrow1 hnew1
          have HZF := Lib.hid (HRF.out.appO (Fr.al _ _) hown1 hgrow1 (by simpa using hnew1))
          clear hown1 hgrow1 hnew1 hown
          go_wp2
          go_roundg (n - (k + 1))
          case measure => have := HMK.out; omega
          case rel =>
            refine ⟨k + 1, os ++ [true], ms, fz ++ [(po, (X : Int), (Y : Int))], by have := HMK.out; omega, by rw [Int.natCast_add]; rfl, ?_, by simp only [List.length_append, List.length_cons, List.length_nil]; have := HOS.out; omega, HZF.out, HMO.out.more (by simp), HWFX.out, ⟨by have := HWF.out.2; simp only [List.length_append, List.length_cons, List.length_nil]; omega, by have := HML.out; omega⟩, ?_⟩
            · rw [take_snoc HZ.out.1, sts_app]
              show rrun V ([], []) (sts (l.take k) ++ [stz _]) = _
              rw [rrun_snoc, HR.out, rstep_set HPO.out.1 HP3.out, HBB.out, if_pos rfl]
            · exact HG.out.2
    · have hk : k = n := by have := HMK.out; omega
      subst hk
      go_wp2
      go_ret
      refine ⟨_, rfl, ?_⟩
      have h1 := HR.out
      rw [List.take_of_length_le (by rw [H.out.2.1]; exact Nat.le_refl _)] at h1
      have h2 := HRF.out.fa
      rw [HOS.out] at h2
      unfold refs
      rw [h1]
      exact h2
end Go.Proofs.Ytapnmgkpljlgmaa
