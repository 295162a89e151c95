/- tail and same as quiet calls; the head of the laws about one fact more. -/
import Derived.Test.YtapnmgkpljlgmaaG24
import Derived.BigQuiet
import Derived.Deep.QuietTactic
import Derived.Deep.RegionHeld3
import Derived.IntWalk
set_option linter.unusedVariables false
set_option linter.unusedSimpArgs false
namespace Go.Proofs.Ytapnmgkpljlgmaa
open Go.RowKit

/-! ## quiet calls -/
def tailV (g n c m : Nat) : Value := .slice (if c = n - m then some ⟨g, 0, none⟩ else some ⟨g, n - m, none⟩) m (c - (n - m))
theorem tailV_rd {w : World} {g n c m : Nat} {l : List Bool} (h : Rd w 1 (some ⟨g, 0, none⟩) n (bls l)) (hm : m ≤ n) (hc : n ≤ c) : ∃ A' c', tailV g n c m = .slice A' m c' ∧ Rd w 1 A' m (bls (l.drop (n - m))) := by
  refine ⟨_, _, rfl, ?_⟩
  by_cases q : c = n - m
  · rw [if_pos q]; exact sub_none (rdlen h) (by omega)
  · rw [if_neg q]; exact sub_tail h hm
set_option maxRecDepth 10000 in
set_option maxHeartbeats 1000000 in
theorem tailq_c {g n c m : Nat} {w : World} (hm : m ≤ n) (hc : n ≤ c) (hmax : c ≤ maxLen) :
    Calls Try.prog 44 #[.slice (some ⟨g, 0, none⟩) n c, .int .i64 (m : Nat)] w fun e w' => e = .returned (tailV g n c m) ∧ w' = w := by
  unfold maxLen at hmax
  have hmi : (m : Int) ≤ (n : Int) := by omega
  have hci : (n : Int) ≤ 9223372036854775807 := by omega
  have he : n - (n - m) = m := by omega
  by_cases q : c = n - m
  · subst q
    obtain ⟨V, hV⟩ : ∃ V, tailV g n (n - m) m = V := ⟨_, rfl⟩
    have hV2 : V = .slice (some ⟨g, 0, none⟩) m 0 := by rw [← hV]; unfold tailV; rw [if_pos rfl, Nat.sub_self]
    rw [hV]
    clear hV
    subst hV2
    go_enter Try.func44, Try.ntmps44
    go_wp2
    go_ret
    exact ⟨rfl, rfl⟩
  · obtain ⟨V, hV⟩ : ∃ V, tailV g n c m = V := ⟨_, rfl⟩
    have hV2 : V = .slice (some ⟨g, n - m, none⟩) m (c - (n - m)) := by rw [← hV]; unfold tailV; rw [if_neg q]
    rw [hV]
    clear hV
    subst hV2
    go_enter Try.func44, Try.ntmps44
    go_wp2
    go_ret
    exact ⟨rfl, rfl⟩
def sameqLoop (w : World) (a b : List Bool) (n m : Nat) (u : Value) (wr : World) : Prop :=
  ∃ k j : Nat, m + k = n ∧ u = .int .i64 (k : Nat) ∧ a.take k = b.take k ∧ wr = w.drewN j
set_option maxRecDepth 10000 in
set_option maxHeartbeats 4000000 in
theorem sameq_c {A B : Option Addr} {n c m d : Nat} {a b : List Bool} {w : World} (h : Rd w 1 A n (bls a)) (k : Rd w 1 B m (bls b)) (hn : n ≤ 1000000) (hm : m ≤ 1000000) :
    Calls Try.prog 37 #[.slice A n c, .slice B m d] w fun e w' => e = .returned (.bool (decide (a = b))) ∧ ∃ j, w' = w.drewN j := by
  have la := rdlen h
  have lb := rdlen k
  obtain ⟨s, hs⟩ : ∃ s, decide (a = b) = s := ⟨_, rfl⟩
  have HS := Lib.hid hs
  rw [hs]
  have H := Lib.hid (And.intro h k)
  have HL := Lib.hid (And.intro la lb)
  clear h k hs la lb
  by_cases hnm : n = m
  · subst hnm
    have hni : (n : Int) ≤ 1000000 := by omega
    go_enter Try.func37, Try.ntmps37
    go_wp2_with fail
    go_loopg [13] n (fun m u wr => sameqLoop w a b n m u wr)
    case atStart => exact ⟨0, 0, rfl, rfl, rfl, rfl⟩
    case round =>
      obtain ⟨k, j, hmk, rfl, ha, rfl⟩ := hrel
      have HF := Lib.hid ha
      have HMK := Lib.hid hmk
      clear hmk ha
      by_cases hlt : k < n
      · obtain ⟨ad, x, rfl, hx, hcx⟩ := rdat H.out.1 hlt
        obtain ⟨bd, y, rfl, hy, hcy⟩ := rdat H.out.2 hlt
        have HX := Lib.hid (And.intro hx hy)
        clear hx hy
        have hki : (k : Int) < (n : Int) := by omega
        by_cases hxy : x = y
        · subst hxy
          cases x
          all_goals
            go_upto_region 6 with fail
            go_quiet (fail)
            go_wp2
            go_roundg (n - (k + 1))
            case measure => have := HMK.out; omega
            case rel => exact ⟨k + 1, _, by have := HMK.out; omega, by rw [Int.natCast_add]; rfl, take_eq HF.out HX.out.1 HX.out.2, rfl⟩
        · obtain rfl : s = false := by rw [← HS.out]; exact take_ne HX.out.1 HX.out.2 hxy
          have HXY := Lib.hid hxy
          clear hxy
          cases x <;> cases y
          all_goals first
            | exact absurd rfl HXY.out
            | (go_upto_region 6 with fail
               go_quiet (fail)
               go_wp2
               go_ret
               exact ⟨rfl, _, (World.drewN_drewN ..)⟩)
      · have hk : k = n := by have := HMK.out; omega
        subst hk
        obtain rfl : s = true := by
          rw [← HS.out]
          have := HF.out
          rw [List.take_of_length_le (by rw [HL.out.1]; exact Nat.le_refl _), List.take_of_length_le (by rw [HL.out.2]; exact Nat.le_refl _)] at this
          exact decide_eq_true this
        go_wp2
        go_ret
        exact ⟨rfl, _, rfl⟩
  · obtain rfl : s = false := by
      rw [← HS.out]
      refine decide_eq_false fun e => ?_
      subst e
      exact hnm (HL.out.1.symm.trans HL.out.2)
    have hb : ((n : Int) == (m : Int)) = false := by rw [beq_eq_false_iff_ne]; omega
    go_enter Try.func37, Try.ntmps37
    go_wp2
    go_ret
    exact ⟨rfl, 0, rfl⟩
/-- same of two equal parts. -/
theorem sameq_tail {g n c m : Nat} {l : List Bool} {a : List Bool} {A : Option Addr} {d : Nat} {w : World} (hA : Rd w 1 A m (bls a)) (h : Rd w 1 (some ⟨g, 0, none⟩) n (bls l)) (hm : m ≤ n) (hc : n ≤ c) (hn : n ≤ 1000000) (e : a = l.drop (n - m)) :
    Calls Try.prog 37 #[.slice A m d, tailV g n c m] w fun e w' => e = .returned (.bool true) ∧ ∃ j, w' = w.drewN j := by
  obtain ⟨A', c', e1, e2⟩ := tailV_rd (c := c) h hm hc
  rw [e1]
  have := sameq_c (c := d) (d := c') hA e2 (by omega) (by omega)
  rwa [decide_eq_true e] at this

/-! ## parts of the answers -/
theorem part_at {w : World} {g n m Q : Nat} {o a p t : List Bool} (h : Rd w 1 (some ⟨g, 0, none⟩) n (bls o)) (ho : o = a ++ (p ++ t)) (ha : a.length = m) (hp : p.length = Q) : Rd w 1 (some ⟨g, m, none⟩) Q (bls p) := by
  have hl := rdlen h
  subst ho ha hp
  have := h.sub (l := a.length) (m := p.length) (by rw [← hl]; simp)
  rw [bls_sub, Nat.mul_one, add0, List.drop_left, List.take_left] at this
  exact this
theorem drop_last {o a r : List Bool} {N Q : Nat} (h : o = a ++ r) (hN : o.length = N) (hr : r.length = Q) : o.drop (N - Q) = r := by
  subst h hN hr
  rw [List.length_append, Nat.add_sub_cancel, List.drop_left]
theorem get_part {p t : List Bool} {Q k : Nat} (hp : p.length = Q) {b : Bool} (h : t[k]? = some b) : (p ++ t)[Q + k]? = some b := by subst hp; rw [get_mid]; exact h
theorem get_left {p t : List Bool} {k : Nat} {b : Bool} (h : p[k]? = some b) : (p ++ t)[k]? = some b := by
  rw [List.getElem?_append_left (List.getElem?_eq_some_iff.1 h).1]; exact h

/-! ## the head of the laws about one fact more -/
theorem Fsh.kept {w wr w' : World} {T : TypeId} {size : Nat} {v : Value} {n : Nat} {xs : List Value} {F : Nat → Prop} (h : Fsh w wr T size v n xs) (f : Fr wr w' F) (hF : ∀ g, v.ownBlock = some g → ¬ F g) (hN : ∀ i, F i → w.heap.size ≤ i) : Fsh w w' T size v n xs :=
  ⟨f.row h.own hF, h.new, h.fr.trans f fun i hi => .inr (hN i hi), h.shp⟩
def HeadRel (w : World) (n : Nat) (l : List Z3) (o x y : Int) (a b : Value) (wx : World) : Prop :=
  ∃ g1 c1 g2, a = .slice (some ⟨g1, 0, none⟩) n c1 ∧ b = .pointer (some ⟨g2, 0, none⟩) ∧ Fsh w wx 40 3 (.slice (some ⟨g1, 0, none⟩) n c1) n (z3s l) ∧
    (wx.cell? ⟨g2, 0, none⟩ = some (.int .i64 o) ∧ wx.cell? ⟨g2, 1, none⟩ = some (.int .i64 x) ∧ wx.cell? ⟨g2, 2, none⟩ = some (.int .i64 y)) ∧
    wx.cell? ⟨w.heap.size, 0, none⟩ = some (.int .i64 o) ∧ wx.cell? ⟨w.heap.size, 1, none⟩ = some (.int .i64 x) ∧ wx.cell? ⟨w.heap.size, 2, none⟩ = some (.int .i64 y)
def Box3 (w : World) (b : Nat) (o x y : Int) : Prop := w.cell? ⟨b, 0, none⟩ = some (.int .i64 o) ∧ w.cell? ⟨b, 1, none⟩ = some (.int .i64 x) ∧ w.cell? ⟨b, 2, none⟩ = some (.int .i64 y)
theorem Box3.nix {w w' : World} {b : Nat} {o x y : Int} (h : Box3 w b o x y) (f : Fr w w' Nix) : Box3 w' b o x y := ⟨cell_nix f h.1, cell_nix f h.2.1, cell_nix f h.2.2⟩
theorem box3_new (w : World) (o x y : Int) (T : TypeId) : Box3 (w.alloc (.cells #[.int .i64 o, .int .i64 x, .int .i64 y] T)) w.heap.size o x y := by
  have h := heap_alloc_new w (.cells #[.int .i64 o, .int .i64 x, .int .i64 y] T)
  exact ⟨by rw [cell_block h]; rfl, by rw [cell_block h]; rfl, by rw [cell_block h]; rfl⟩
theorem box3_list {w : World} {b : Nat} {o x y : Int} (h : Box3 w b o x y) : ∀ j u, (#[.int .i64 o, .int .i64 x, .int .i64 y] : Array Value).toList[j]? = some u → w.cell? ((⟨b, 0, none⟩ : Addr).add j) = some u := by
  intro j u hu
  rw [add0]
  match j, hu with
  | 0, hu => cases hu; exact h.1
  | 1, hu => cases hu; exact h.2.1
  | 2, hu => cases hu; exact h.2.2
  | j + 3, hu => simp at hu
theorem Fsh.up {a w wr : World} {T : TypeId} {size : Nat} {v : Value} {n : Nat} {xs : List Value} (h : Fsh w wr T size v n xs) (f : Fr a w Nix) : Fsh a wr T size v n xs := h.base f
theorem hdA {w wz w1 : World} {n c1 g1 : Nat} {l : List Z3} {o x y : Int} (hF : Fsh wz w1 40 3 (.slice (some ⟨g1, 0, none⟩) n c1) n (z3s l)) (f : Fr w wz Nix) (hb : Box3 w1 w.heap.size o x y) :
    HeadRel w n l o x y (.slice (some ⟨g1, 0, none⟩) n c1) (.pointer (some ⟨w1.heap.size, 0, none⟩)) (w1.alloc (.cells #[.int .i64 o, .int .i64 x, .int .i64 y] 40)) :=
  ⟨_, _, _, rfl, rfl, (hF.up f).nix (Fr.al _ _), box3_new _ _ _ _ _, hb.nix (Fr.al _ _)⟩
theorem hdB {w wz w1 : World} {n c1 g1 g2 : Nat} {l : List Z3} {o x y : Int} (hF : Fsh wz w1 40 3 (.slice (some ⟨g1, 0, none⟩) n c1) n (z3s l)) (f : Fr w wz Nix) (hb : Box3 w1 w.heap.size o x y)
    (h2 : g2 < wz.heap.size) (h3 : w.heap.size < g2) (hz : w1.heap[g2]? = some (.cells #[.int .i64 0, .int .i64 0, .int .i64 0] 40 (0, 0))) :
    HeadRel w n l o x y (.slice (some ⟨g1, 0, none⟩) n c1) (.pointer (some ⟨g2, 0, none⟩)) (((w1.setCell ⟨g2, 0, none⟩ (.int .i64 o)).setCell ⟨g2, 1, none⟩ (.int .i64 x)).setCell ⟨g2, 2, none⟩ (.int .i64 y)) := by
  have e1 := set_block (j := 0) (.int .i64 o) hz
  have e2 := set_block (j := 1) (.int .i64 x) e1
  have e3 := set_block (j := 2) (.int .i64 y) e2
  have f1 : Fr w1 (((w1.setCell ⟨g2, 0, none⟩ (.int .i64 o)).setCell ⟨g2, 1, none⟩ (.int .i64 x)).setCell ⟨g2, 2, none⟩ (.int .i64 y)) (fun k => k = g2) :=
    ((Fr.setCell (F := fun k => k = g2) w1 ⟨g2, 0, none⟩ (.int .i64 o) rfl).trans (Fr.setCell (F := fun k => k = g2) _ ⟨g2, 1, none⟩ (.int .i64 x) rfl) fun _ h => .inl h).trans (Fr.setCell (F := fun k => k = g2) _ ⟨g2, 2, none⟩ (.int .i64 y) rfl) fun _ h => .inl h
  have hbl : w.heap.size ≠ g2 := by omega
  refine ⟨_, _, _, rfl, rfl, (hF.up f).kept f1 (fun g hg => ?_) (fun i hi => by omega), ⟨?_, ?_, ?_⟩, ?_, ?_, ?_⟩
  · have := hF.new g hg; omega
  · rw [cell_block e3]; rfl
  · rw [cell_block e3]; rfl
  · rw [cell_block e3]; rfl
  · exact (f1.cell (a := ⟨w.heap.size, 0, none⟩) (block_lt_of_cell hb.1) hbl).trans hb.1
  · exact (f1.cell (a := ⟨w.heap.size, 1, none⟩) (block_lt_of_cell hb.2.1) hbl).trans hb.2.1
  · exact (f1.cell (a := ⟨w.heap.size, 2, none⟩) (block_lt_of_cell hb.2.2) hbl).trans hb.2.2
/-- What the head of such a law has seen. -/
structure One (v o x y : Int) (l : List Z3) : Prop where
  g : GoodZ v (l ++ [(o, x, y)])
  o0 : 0 ≤ o
  o3 : o ≤ 3
theorem One.mk' {v o x y : Int} {l : List Z3} (h : goodB v (l ++ [(o, x, y)]) = true) (hs : factB (o, x, y) = true) : One v o x y l := by
  have : 0 ≤ o ∧ o ≤ 3 := by simpa [factB] using hs
  exact ⟨goodB_z h, this.1, this.2⟩
theorem GoodZ.left {v : Int} {a b : List Z3} (h : GoodZ v (a ++ b)) : GoodZ v a where
  v0 := h.v0
  v12 := h.v12
  len := by have := h.len; rw [List.length_append] at this; omega
  wf := fun z hz => h.wf z (List.mem_append_left _ hz)
  deep := by
    have := h.deep
    rw [sts_app] at this
    have key : ∀ (a b : List Stp) (d : Nat), Deep d (a ++ b) → Deep d a := by
      intro a
      induction a with
      | nil => intro b d _; trivial
      | cons s a ih =>
        intro b d h
        have h : Deep d (s :: (a ++ b)) := h
        unfold Deep at h ⊢
        split
        · rename_i q; rw [if_pos q] at h; exact ih b _ h
        · rename_i q
          rw [if_neg q] at h
          split
          · rename_i q2; rw [if_pos q2] at h; exact ⟨h.1, ih b _ h.2⟩
          · rename_i q2; rw [if_neg q2] at h; exact ih b _ h
    exact key _ _ _ this
theorem One.wf {v o x y : Int} {l : List Z3} (h : One v o x y l) : WfZ v (o, x, y) := h.g.wf _ (by simp)
theorem One.op {v o x y : Int} {l : List Z3} (h : One v o x y l) : (stz (o, x, y)).op ≤ 3 := by
  have := h.o0; have := h.o3
  show o.toNat ≤ 3; omega
theorem One.ne {v o x y : Int} {l : List Z3} (h : One v o x y l) : (stz (o, x, y)).x ≠ (stz (o, x, y)).y := by
  have w := h.wf.ok (by have := h.o3; simp only; omega) (by have := h.o3; simp only; omega)
  show x.toNat ≠ y.toNat
  simp only at w
  omega
theorem One.len {v o x y : Int} {l : List Z3} (h : One v o x y l) : l.length ≤ 63 := by have := h.g.len; simp at this; omega
/-- A fact more, and questions, can be run. -/
theorem One.more {v o x y : Int} {l a : List Z3} (h : One v o x y l) (ha : RunOK a) (hs : sets a ≤ 200) (hl : a.length ≤ 3900) : RunOK (a ++ [(o, x, y)]) :=
  ha.app (fun z hz => by
    rw [List.mem_singleton.1 hz]
    exact ⟨h.wf.mono h.g.v12, by have := h.o3; simp only; omega⟩) (by have := sets_le [(o, x, y)]; simp at this; omega) (by simp; omega)
theorem sets_ask {v : Int} {q : List Z3} (h : AskZ v q) : sets q = 0 := sets_asks fun z hz => (h z hz).2
end Go.Proofs.Ytapnmgkpljlgmaa
