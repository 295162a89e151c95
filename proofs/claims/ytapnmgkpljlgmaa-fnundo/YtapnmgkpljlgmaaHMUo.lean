/- The walk of FnUndo. -/
import Derived.Test.YtapnmgkpljlgmaaG26
set_option linter.unusedVariables false
set_option linter.unusedSimpArgs false
namespace Go.Proofs.Ytapnmgkpljlgmaa
open Go.RowKit
theorem dpt_snoc : ∀ (l : List Stp) (d : Nat) (s : Stp), dpt d (l ++ [s]) = if s.op = 8 then dpt d l + 1 else if s.op = 9 then dpt d l - 1 else dpt d l
  | [], d, s => by show dpt d [s] = _; unfold dpt; rfl
  | t :: l, d, s => by
    show dpt d (t :: (l ++ [s])) = _
    rw [dpt, dpt, dpt_snoc l]
theorem dpt_pos : ∀ (a b : List Stp) (d : Nat) (s : Stp), Deep d (a ++ s :: b) → s.op = 9 → 0 < dpt d a
  | [], b, d, s, h, h9 => by
    have h : Deep d (s :: b) := h
    unfold Deep at h
    rw [if_neg (by omega), if_pos h9] at h
    exact h.1
  | t :: a, b, d, s, h, h9 => by
    have h : Deep d (t :: (a ++ s :: b)) := h
    unfold Deep at h
    unfold dpt
    split at h
    · rename_i q; rw [if_pos q]; exact dpt_pos a b _ s h h9
    · rename_i q
      rw [if_neg q]
      split at h
      · rename_i q2; rw [if_pos q2]; exact dpt_pos a b _ s h.2 h9
      · rename_i q2; rw [if_neg q2]; exact dpt_pos a b _ s h h9
theorem dpt_le : ∀ (l : List Stp) (d : Nat), dpt d l ≤ d + l.length
  | [], d => by simp [dpt]
  | s :: l, d => by
    unfold dpt
    have := dpt_le l (if s.op = 8 then d + 1 else if s.op = 9 then d - 1 else d)
    simp only [List.length_cons]
    split at this
    · rename_i q; rw [if_pos q]; omega
    · rename_i q
      rw [if_neg q]
      split at this
      · rename_i q2; rw [if_pos q2]; omega
      · rename_i q2; rw [if_neg q2]; omega
/-- How deep it is behind k steps. -/
def dz (l : List Z3) (k : Nat) : Nat := dpt 0 (sts (l.take k))
theorem dz_succ {v : Int} {l : List Z3} (h : GoodZ v l) {k : Nat} {z : Z3} (hz : l[k]? = some z) :
    (z.1 = 8 → dz l (k + 1) = dz l k + 1) ∧ (z.1 = 9 → 0 < dz l k ∧ dz l (k + 1) = dz l k - 1) ∧ (z.1 ≠ 8 → z.1 ≠ 9 → dz l (k + 1) = dz l k) := by
  have w := (h.wf z (List.mem_of_getElem? hz))
  have e : dz l (k + 1) = if (stz z).op = 8 then dz l k + 1 else if (stz z).op = 9 then dz l k - 1 else dz l k := by
    unfold dz
    rw [take_snoc hz, sts_app]
    exact dpt_snoc _ _ _
  have e2 : sts l = sts (l.take k) ++ stz z :: sts (l.drop (k + 1)) := by
    have h1 : l = l.take k ++ l.drop k := (List.take_append_drop k l).symm
    rw [drop_at hz] at h1
    have := congrArg sts h1
    rw [sts_app] at this
    exact this
  refine ⟨fun q => ?_, fun q => ⟨?_, ?_⟩, fun q1 q2 => ?_⟩
  · rw [e, if_pos (stz_op (n := 8) q)]
  · have hd := h.deep
    rw [e2] at hd
    exact dpt_pos _ _ _ _ hd (stz_op (n := 9) q)
  · have o9 := stz_op (n := 9) q
    rw [e, if_neg (by omega), if_pos o9]
  · have hlo := w.lo
    have hhi := w.hi
    rw [e, if_neg (by unfold stz; simp only; omega), if_neg (by unfold stz; simp only; omega)]
def nines : Nat → List Z3
  | 0 => []
  | k + 1 => nines k ++ [(9, 0, 0)]
theorem nines_len : ∀ k, (nines k).length = k
  | 0 => rfl
  | k + 1 => by rw [nines, List.length_append, nines_len k]; rfl
theorem nines_mem {z : Z3} : ∀ k, z ∈ nines k → z = (9, 0, 0)
  | 0, h => by simp [nines] at h
  | k + 1, h => by
    rw [nines] at h
    rcases List.mem_append.1 h with h | h
    · exact nines_mem k h
    · simpa using h
theorem nines_deep : ∀ (k d : Nat), k ≤ d → Deep d (sts (nines k)) ∧ dpt d (sts (nines k)) = d - k
  | 0, d, _ => ⟨trivial, rfl⟩
  | k + 1, d, h => by
    obtain ⟨h1, h2⟩ := nines_deep k d (by omega)
    rw [nines, sts_app]
    refine ⟨Deep_app _ _ _ h1 ?_, ?_⟩
    · rw [h2]
      show Deep (d - k) [stz (9, 0, 0)]
      unfold Deep
      rw [if_neg (show ¬ (stz (9, 0, 0)).op = 8 by show ¬ 9 = 8; omega), if_pos (show (stz (9, 0, 0)).op = 9 from rfl)]
      exact ⟨by omega, trivial⟩
    · show dpt d (sts (nines k) ++ [stz (9, 0, 0)]) = _
      rw [dpt_snoc, if_neg (show ¬ (stz (9, 0, 0)).op = 8 by show ¬ 9 = 8; omega), if_pos (show (stz (9, 0, 0)).op = 9 from rfl), h2]; omega
theorem dpt_app : ∀ (a b : List Stp) (d : Nat), dpt d (a ++ b) = dpt (dpt d a) b
  | [], _, _ => rfl
  | s :: a, b, d => by show dpt d (s :: (a ++ b)) = _; rw [dpt, dpt]; exact dpt_app a b _
theorem Deep_more : ∀ (l : List Stp) (d e : Nat), Deep d l → Deep (d + e) l ∧ dpt (d + e) l = dpt d l + e
  | [], d, e, _ => ⟨trivial, rfl⟩
  | s :: l, d, e, h => by
    unfold Deep at h ⊢
    unfold dpt
    split at h
    · rename_i q
      rw [if_pos q, if_pos q, if_pos q]
      have := Deep_more l (d + 1) e h
      rw [show d + 1 + e = d + e + 1 by omega] at this
      exact this
    · rename_i q
      rw [if_neg q, if_neg q, if_neg q]
      split at h
      · rename_i q2
        rw [if_pos q2, if_pos q2, if_pos q2]
        have := Deep_more l (d - 1) e h.2
        rw [show d - 1 + e = d + e - 1 by omega] at this
        exact ⟨⟨by omega, this.1⟩, this.2⟩
      · rename_i q2
        rw [if_neg q2, if_neg q2, if_neg q2]
        exact Deep_more l d e h
theorem undo_run {v : Int} {a b c : List Z3} (ha : GoodZ v a) (hb : GoodZ v b) (hc : GoodZ v c) (k : Nat) (hk : k = dpt 0 (sts b) + 1) : RunOK (a ++ ([(8, 0, 0)] ++ (b ++ (nines k ++ c)))) := by
  have lb := hb.len
  have hk2 : k ≤ 65 := by have := dpt_le (sts b) 0; rw [sts_len] at this; omega
  have wf9 : ∀ z ∈ nines k, WfZ 12 z := fun z hz => by rw [nines_mem k hz]; exact ⟨by simp, by simp, fun _ q => absurd rfl q⟩
  have e : sts ([(8, 0, 0)] ++ (b ++ (nines k ++ c))) = stz (8, 0, 0) :: (sts b ++ (sts (nines k) ++ sts c)) := by rw [sts_app, sts_app, sts_app]; rfl
  refine ha.run.app' (fun z hz => ?_) ?_ ?_ ?_
  · simp only [List.mem_append, List.mem_singleton] at hz
    rcases hz with rfl | hz | hz | hz
    · exact ⟨by simp, by simp, fun q => absurd rfl q⟩
    · exact (hb.wf z hz).mono hb.v12
    · exact wf9 z hz
    · exact (hc.wf z hz).mono hc.v12
  · rw [e]
    obtain ⟨D, hD⟩ : ∃ D, dpt 0 (sts a) = D := ⟨_, rfl⟩
    rw [hD]
    unfold Deep
    rw [if_pos (show (stz (8, 0, 0)).op = 8 from rfl)]
    obtain ⟨d1, d2⟩ := Deep_more (sts b) 0 (D + 1) hb.deep
    rw [Nat.zero_add] at d1 d2
    refine Deep_app _ _ _ d1 ?_
    rw [d2]
    obtain ⟨d3, d4⟩ := nines_deep k (dpt 0 (sts b) + (D + 1)) (by omega)
    refine Deep_app _ _ _ d3 ?_
    rw [d4, show dpt 0 (sts b) + (D + 1) - k = 0 + D by omega]
    exact (Deep_more (sts c) 0 D hc.deep).1
  · have l1 := sets_le a
    have l2 := sets_le ([(8, 0, 0)] ++ (b ++ (nines k ++ c)))
    have l3 := ha.len
    have l4 := hc.len
    simp only [List.length_append, List.length_cons, List.length_nil, nines_len] at l2
    omega
  · have l3 := ha.len
    have l4 := hc.len
    simp only [List.length_append, List.length_cons, List.length_nil, nines_len]
    omega
theorem two_run {v : Int} {a c : List Z3} (ha : GoodZ v a) (hc : GoodZ v c) : RunOK (a ++ c) := by
  have l1 := sets_le a
  have l2 := sets_le c
  have l3 := ha.len
  have l4 := hc.len
  exact ha.run.app' (fun z hz => (hc.wf z hz).mono hc.v12) (by have := (Deep_more (sts c) 0 (dpt 0 (sts a)) hc.deep).1; rwa [Nat.zero_add] at this) (by omega) (by omega)
def dzLoop (w : World) (l : List Z3) (n m : Nat) (d u : Value) (wr : World) : Prop :=
  ∃ k : Nat, m + k = n ∧ u = .int .i64 (k : Nat) ∧ d = .int .i64 ((dz l k : Nat) : Int) ∧ Fr w wr Nix
def nLoop (w : World) (n m : Nat) (v u : Value) (wr : World) : Prop :=
  ∃ k : Nat, m + k = n ∧ u = .int .i64 (k : Nat) ∧ Fsh w wr 40 3 v k (z3s (nines k))
set_option maxRecDepth 10000 in
set_option maxHeartbeats 1000000 in
theorem tail0q_c {A : Option Addr} {c : Nat} {w : World} (hmax : c ≤ maxLen) :
    Calls Try.prog 44 #[.slice A 0 c, .int .i64 0] w fun e w' => e = .returned (.slice A 0 c) ∧ w' = w := by
  unfold maxLen at hmax
  cases A
  · go_enter Try.func44, Try.ntmps44
    go_wp2
    go_ret
    exact ⟨rfl, rfl⟩
  · go_enter Try.func44, Try.ntmps44
    go_wp2
    go_ret
    exact ⟨rfl, rfl⟩
theorem sameq_eq {A B : Option Addr} {n c d : Nat} {a : List Bool} {w : World} (h : Rd w 1 A n (bls a)) (k : Rd w 1 B n (bls a)) (hn : n ≤ 1000000) : Calls Try.prog 37 #[.slice A n c, .slice B n d] w fun e w' => e = .returned (.bool true) ∧ ∃ j, w' = w.drewN j := by
  have := sameq_c (c := c) (d := d) h k hn hn
  rwa [decide_eq_true rfl] at this
theorem sameq_tt {g n c g2 n2 c2 m : Nat} {o o2 t : List Bool} {w : World} (h : Rd w 1 (some ⟨g, 0, none⟩) n (bls o)) (hm : m ≤ n) (hc : n ≤ c) (h2 : Rd w 1 (some ⟨g2, 0, none⟩) n2 (bls o2)) (hm2 : m ≤ n2) (hc2 : n2 ≤ c2) (hl : m ≤ 1000000) (e : o.drop (n - m) = t) (e2 : o2.drop (n2 - m) = t) :
    Calls Try.prog 37 #[tailV g n c m, tailV g2 n2 c2 m] w fun e w' => e = .returned (.bool true) ∧ ∃ j, w' = w.drewN j := by
  obtain ⟨A, d, q1, q2⟩ := tailV_rd (c := c) h hm hc
  obtain ⟨B, d2, q3, q4⟩ := tailV_rd (c := c2) h2 hm2 hc2
  rw [q1, q3]
  rw [e] at q2
  rw [e2] at q4
  exact sameq_eq q2 q4 hl
theorem sameq_t0 {g n c d : Nat} {B : Option Addr} {o : List Bool} {w : World} (h : Rd w 1 (some ⟨g, 0, none⟩) n (bls o)) (hc : n ≤ c) :
    Calls Try.prog 37 #[tailV g n c 0, .slice B 0 d] w fun e w' => e = .returned (.bool true) ∧ ∃ j, w' = w.drewN j := by
  obtain ⟨A, d2, q1, q2⟩ := tailV_rd (c := c) (m := 0) h (by omega) hc
  rw [q1]
  have e : o.drop (n - 0) = [] := List.drop_of_length_le (by rw [rdlen h]; omega)
  rw [e] at q2
  exact sameq_eq q2 Rd.zero (by omega)
set_option maxRecDepth 10000 in
set_option maxHeartbeats 32000000 in
theorem FnUndo_c {v : Int} {A B C : Option Addr} {n c m d s t : Nat} {l k j : List Z3} {w : World} (h : Rd w 3 A n (z3s l)) (hn : n ≤ maxLen) (h2 : Rd w 3 B m (z3s k)) (hm : m ≤ maxLen) (h3 : Rd w 3 C s (z3s j)) (hs : s ≤ maxLen) :
    Calls Try.prog 32 #[.int .i64 v, .slice A n c, .slice B m d, .slice C s t] w (Done w) := by
  have hlen : l.length = n := by have := h.1; rw [z3s_len] at this; omega
  have hlen2 : k.length = m := by have := h2.1; rw [z3s_len] at this; omega
  have hlen3 : j.length = s := by have := h3.1; rw [z3s_len] at this; omega
  have hm1 := maxLen_int hn
  have hm2 := maxLen_int hm
  have hm3 := maxLen_int hs
  have H := Lib.hid (And.intro h hlen)
  have H2 := Lib.hid (And.intro h2 hlen2)
  have H3 := Lib.hid (And.intro h3 hlen3)
  clear h hlen hn h2 hlen2 hm h3 hlen3 hs
  by_cases hbig : 2147483647 < n
  · have hb : decide ((2147483647 : Int) < (n : Int)) = true := by rw [decide_eq_true_eq]; omega
    go_enter Try.func32, Try.ntmps32
    go_wp2
    go_ret
    exact ⟨rfl, Fr.refl _ _⟩
  have hb : decide ((2147483647 : Int) < (n : Int)) = false := by rw [decide_eq_false_iff_not]; omega
  have HB := Lib.hid (show n < 2147483648 by omega)
  clear hbig
  by_cases hbig2 : 2147483647 < m
  · have hb2 : decide ((2147483647 : Int) < (m : Int)) = true := by rw [decide_eq_true_eq]; omega
    go_enter Try.func32, Try.ntmps32
    go_wp2
    go_ret
    exact ⟨rfl, Fr.refl _ _⟩
  have hb2 : decide ((2147483647 : Int) < (m : Int)) = false := by rw [decide_eq_false_iff_not]; omega
  have HB2 := Lib.hid (show m < 2147483648 by omega)
  clear hbig2
  by_cases hbig3 : 2147483647 < s
  · have hb3 : decide ((2147483647 : Int) < (s : Int)) = true := by rw [decide_eq_true_eq]; omega
    go_enter Try.func32, Try.ntmps32
    go_wp2
    go_ret
    exact ⟨rfl, Fr.refl _ _⟩
  have hb3 : decide ((2147483647 : Int) < (s : Int)) = false := by rw [decide_eq_false_iff_not]; omega
  have HB3 := Lib.hid (show s < 2147483648 by omega)
  clear hbig3
  go_enter Try.func32, Try.ntmps32
  go_wp2_with fail
  clear hb hb2 hb3
  refine (conv_c H.out.1 HB.out).mono ?_
  rintro e w1 ⟨v1, rfl, hF⟩
  obtain ⟨g1, c1, rfl⟩ := hF.shp
  have HF := Lib.hid hF
  clear hF
  go_wp2_with fail
  refine (conv_c (H2.out.1.nix HF.out.fr) HB2.out).mono ?_
  rintro e w2 ⟨v2, rfl, hF⟩
  obtain ⟨g2, c2, rfl⟩ := hF.shp
  have HF2 := Lib.hid (hF.base HF.out.fr)
  have HFa := Lib.hid (HF.out.nix hF.fr)
  clear hF
  go_wp2_with fail
  refine (conv_c (H3.out.1.nix HF2.out.fr) HB3.out).mono ?_
  rintro e w3 ⟨v3, rfl, hF⟩
  obtain ⟨g3, c3, rfl⟩ := hF.shp
  have HF3 := Lib.hid (hF.base HF2.out.fr)
  have HFb := Lib.hid (And.intro (HFa.out.nix hF.fr) (HF2.out.nix hF.fr))
  clear hF
  go_wp2_with fail
  refine (good_c v (n := n) (c := c1) HFb.out.1.rd (by have := HB.out; omega)).mono ?_
  rintro e w4 ⟨rfl, hF4⟩
  have HF4 := Lib.hid hF4
  clear hF4
  obtain ⟨g, hg⟩ : ∃ g, goodB v l = g := ⟨_, rfl⟩
  rw [hg]
  have HG := Lib.hid hg
  clear hg
  cases g
  · go_wp2
    go_ret
    exact ⟨rfl, HF3.out.fr.t HF4.out⟩
  go_wp2_with fail
  refine (good_c v (n := m) (c := c2) (HFb.out.2.rd.nix HF4.out) (by have := HB2.out; omega)).mono ?_
  rintro e w5 ⟨rfl, hF5⟩
  have HF5 := Lib.hid (HF4.out.t hF5)
  clear hF5
  obtain ⟨g, hg⟩ : ∃ g, goodB v k = g := ⟨_, rfl⟩
  rw [hg]
  have HG2 := Lib.hid hg
  clear hg
  cases g
  · go_wp2
    go_ret
    exact ⟨rfl, HF3.out.fr.t HF5.out⟩
  go_wp2_with fail
  refine (good_c v (n := s) (c := c3) (HF3.out.rd.nix HF5.out) (by have := HB3.out; omega)).mono ?_
  rintro e w6 ⟨rfl, hF6⟩
  have HF6 := Lib.hid (HF5.out.t hF6)
  clear hF6
  obtain ⟨g, hg⟩ : ∃ g, goodB v j = g := ⟨_, rfl⟩
  rw [hg]
  have HG3 := Lib.hid hg
  clear hg
  cases g
  · go_wp2
    go_ret
    exact ⟨rfl, HF3.out.fr.t HF6.out⟩
  have G := Lib.hid (And.intro (goodB_z HG.out) (And.intro (goodB_z HG2.out) (goodB_z HG3.out)))
  have HFR := Lib.hid (HF3.out.fr.t HF6.out)
  have HA := Lib.hid (HFb.out.1.rd.nix HF6.out)
  have HBk := Lib.hid (HFb.out.2.rd.nix HF6.out)
  have HCj := Lib.hid (HF3.out.rd.nix HF6.out)
  have hni : (n : Int) ≤ 64 := by have := G.out.1.len; have := H.out.2; omega
  have hmi : (m : Int) ≤ 64 := by have := G.out.2.1.len; have := H2.out.2; omega
  have hsi : (s : Int) ≤ 64 := by have := G.out.2.2.len; have := H3.out.2; omega
  clear hm1 hm2 hm3
  go_wp2_with fail
  go_loopg [12, 57] m (fun q a u wr => dzLoop w6 k m q a u wr)
  case atStart => exact ⟨0, rfl, rfl, rfl, Fr.refl _ _⟩
  case round =>
    obtain ⟨i, hmi2, rfl, rfl, hF⟩ := hrel
    have HFi := Lib.hid hF
    have HMI := Lib.hid hmi2
    clear hF hmi2
    have hdz : (dz k i : Int) ≤ 64 := by
      have h1 := dpt_le (sts (k.take i)) 0
      rw [sts_len, List.length_take] at h1
      have := G.out.2.1.len
      unfold dz; omega
    by_cases hlt : i < m
    · obtain ⟨ad, po, px, py, e, hz, hc⟩ := rd3 (HBk.out.nix HFi.out) hlt
      cases e
      have HC := Lib.hid hc
      obtain ⟨z8, z9, z0⟩ := dz_succ G.out.2.1 hz
      simp only at z8 z9 z0
      obtain ⟨D, hD⟩ : ∃ D, dz k i = D := ⟨_, rfl⟩
      rw [hD] at z8 z9 z0 hdz ⊢
      clear hz hc hD
      by_cases h8 : po = 8
      · subst h8
        have HZ := Lib.hid (z8 rfl)
        clear z8 z9 z0
        have hv0 := HC.out 0 _ rfl
        have hv1 := HC.out 1 _ rfl
        have hv2 := HC.out 2 _ rfl
        rw [add_add, add0, Nat.add_zero] at hv0
        rw [add_add, add0] at hv1
        rw [add_add, add0] at hv2
        clear HC
        go_wp2_with fail
        go_roundg (m - (i + 1))
        case measure => have := HMI.out; omega
        case rel => exact ⟨i + 1, by have := HMI.out; omega, by rw [Int.natCast_add]; rfl, by rw [HZ.out, Int.natCast_add]; rfl, HFi.out.a _⟩
      · have n8 : (po == 8) = false := by rw [beq_eq_false_iff_ne]; omega
        by_cases h9 : po = 9
        · subst h9
          have HZ := Lib.hid (z9 rfl)
          have hd0 : (0 : Int) < (D : Int) := by have := HZ.out.1; omega
          clear z8 z9 z0
          have hv0 := HC.out 0 _ rfl
          have hv1 := HC.out 1 _ rfl
          have hv2 := HC.out 2 _ rfl
          rw [add_add, add0, Nat.add_zero] at hv0
          rw [add_add, add0] at hv1
          rw [add_add, add0] at hv2
          clear HC
          go_wp2_with fail
          go_roundg (m - (i + 1))
          case measure => have := HMI.out; omega
          case rel => exact ⟨i + 1, by have := HMI.out; omega, by rw [Int.natCast_add]; rfl, by rw [HZ.out.2]; congr 1; have := HZ.out.1; omega, HFi.out.a _⟩
        · have n9 : (po == 9) = false := by rw [beq_eq_false_iff_ne]; omega
          have HZ := Lib.hid (z0 h8 h9)
          clear z8 z9 z0
          have hv0 := HC.out 0 _ rfl
          have hv1 := HC.out 1 _ rfl
          have hv2 := HC.out 2 _ rfl
          rw [add_add, add0, Nat.add_zero] at hv0
          rw [add_add, add0] at hv1
          rw [add_add, add0] at hv2
          clear HC
          go_wp2_with fail
          go_roundg (m - (i + 1))
          case measure => have := HMI.out; omega
          case rel => exact ⟨i + 1, by have := HMI.out; omega, by rw [Int.natCast_add]; rfl, by rw [HZ.out], HFi.out.a _⟩
    · have hi : i = m := by have := HMI.out; omega
      subst hi
      have HD := Lib.hid (show dz k i = dpt 0 (sts k) by unfold dz; rw [List.take_of_length_le (by rw [H2.out.2]; exact Nat.le_refl _)])
      obtain ⟨D, hD⟩ : ∃ D, dz k i = D := ⟨_, rfl⟩
      rw [hD] at HD hdz ⊢
      clear hD
      obtain ⟨K, hK⟩ : ∃ K, D + 1 = K := ⟨_, rfl⟩
      have HK := Lib.hid hK
      have eK : (D : Int) + 1 = (K : Int) := by omega
      have hKi : (K : Int) ≤ 65 := by omega
      have HEK := Lib.hid eK
      clear hK eK
      go_wp2_with fail
      rw [HEK.out]
      go_loopg [15, 75] K (fun q a u wr2 => nLoop w6 K q a u wr2)
      case atStart => exact ⟨0, rfl, rfl, (Fsh.empty _ 40 3).base HFi.out⟩
      case round =>
        obtain ⟨q, hmq, rfl, hF⟩ := hrel
        have HF := Lib.hid hF
        have HMQ := Lib.hid hmq
        clear hF hmq
        by_cases hlt2 : q < K
        · have hqi : (q : Int) < (K : Int) := by omega
          have HN := Lib.hid (lim24 (n := q) (by omega))
          have hown := HF.out.own
          go_wp2_with (at_builtin; refine wpList_app _ rfl (.tmp 77) (.tmp 79) 24 rfl 40 _ 3 24 Try.underlying24 info_step rfl (by decide) _ _ _ rfl (hown.alloc _) ⟨_, 0, none⟩ 1 1 (z3c (9, 0, 0)) rfl rfl (by decide) (cells_at _ _ rfl _ _) (z3_one _) HN.out.1 HN.out.2 ?_)
          intro g cap w7 hown1 hgrow1 hnew1
          have hF1 := Lib.hid (HF.out.app (Fr.al _ _) hown1 hgrow1 (by simpa using hnew1))
          clear hown1 hgrow1 hnew1 hown
          go_wp2
          go_roundg (K - (q + 1))
          case measure => have := HMQ.out; omega
          case rel =>
            refine ⟨q + 1, by have := HMQ.out; omega, by rw [Int.natCast_add]; rfl, ?_⟩
            rw [nines, z3s_snoc]
            exact hF1.out
        · have hq : q = K := by have := HMQ.out; omega
          subst hq
          obtain ⟨g9, c9, rfl⟩ := HF.out.shp
          have HAr := Lib.hid (HA.out.nix (HFi.out.t (Fr.refl _ _)))
          clear HAr
          have HAr := Lib.hid (HA.out.nix HF.out.fr)
          have HBr := Lib.hid (HBk.out.nix HF.out.fr)
          have HCr := Lib.hid (HCj.out.nix HF.out.fr)
          have HNr := Lib.hid HF.out.rd
          have HFRr := Lib.hid (HFR.out.t HF.out.fr)
          have hKd : q = dpt 0 (sts k) + 1 := by rw [← HK.out, HD.out]
          have HRUN := Lib.hid (show RunOK [l, [(8, 0, 0)], k, nines q, j].flatten by simpa using undo_run G.out.1 G.out.2.1 G.out.2.2 q hKd)
          have HRUN2 := Lib.hid (show RunOK [l, j].flatten by simpa using two_run G.out.1 G.out.2.2)
          obtain ⟨r, t, hO, hO2, ht⟩ := undo_z (a := l) (b := k) (back := nines q) (c := j) (m := (8, 0, 0)) rfl G.out.2.1.deep (by rw [nines_len]; exact hKd) (fun z hz => by rw [nines_mem q hz]; rfl)
          rw [H3.out.2] at ht
          have HO := Lib.hid (And.intro (show outz [l, [(8, 0, 0)], k, nines q, j].flatten = outz l ++ (r ++ t) by rw [← hO]; simp) (And.intro (show outz [l, j].flatten = outz l ++ t by rw [← hO2]; simp) ht))
          clear hO hO2 ht hKd
          have f6 := Fr.al wr (.cells #[.int .i64 8, .int .i64 0, .int .i64 0] 40)
          have hz1 := rd_lit (w := wr) (T := 40) rfl [(8, 0, 0)] _ (show [.int .i64 8, .int .i64 0, .int .i64 0] = z3s [(8, 0, 0)] from rfl) 1 rfl
          have hP := parts_lit (w := wr.alloc (.cells #[.int .i64 8, .int .i64 0, .int .i64 0] 40)) (g := wr.heap.size + 1) (T := 24) (size_alloc _ _) _ _
            (.cons (prt_of (c := c1) (HAr.out.nix f6)) (.cons (prt_of (c := 1) hz1) (.cons (prt_of (c := c2) (HBr.out.nix f6)) (.cons (prt_of (c := c9) (HNr.out.nix f6)) (.cons (prt_of (c := c3) (HCr.out.nix f6)) .nil))))) 5 rfl
          have HP := Lib.hid hP
          clear hP f6 hz1
          go_wp2_with fail
          refine (run_c v HP.out (by omega) HRUN.out).mono ?_
          rintro e w7 ⟨A5, c5, rfl, hR5, hF7, hc5, hm5, hg5⟩
          have eN : [l, [(8, 0, 0)], k, nines q, j].flatten.length = n + (1 + (i + (q + s))) := by
            have e1 := H.out.2; have e2 := H2.out.2; have e3 := H3.out.2
            simp only [List.flatten_cons, List.flatten_nil, List.length_append, List.length_cons, List.length_nil, nines_len, e1, e2, e3]; omega
          obtain ⟨N, hN⟩ : ∃ N, [l, [(8, 0, 0)], k, nines q, j].flatten.length = N := ⟨_, rfl⟩
          rw [hN] at eN hR5 hc5 hg5 ⊢
          obtain ⟨g5, rfl⟩ := hg5 (by omega)
          have HT := Lib.hid (show s ≤ N ∧ N ≤ c5 ∧ c5 ≤ maxLen ∧ N ≤ 1000000 ∧ n ≤ N from ⟨by omega, hc5, hm5, by omega, by omega⟩)
          have HR5 := Lib.hid hR5
          have HF7 := Lib.hid (((Fr.al _ _).a _).t hF7)
          have hci : (c5 : Int) ≤ 9223372036854775807 := by unfold maxLen at hm5; omega
          have hnc : (n : Int) ≤ (c5 : Int) := by omega
          have HEN := Lib.hid eN
          clear hR5 hF7 hc5 hm5 hg5 eN hN
          have HP2 := Lib.hid (parts_lit (w := w7) (g := w7.heap.size) (T := 24) rfl _ _ (.cons (prt_of (c := c1) (HAr.out.nix HF7.out)) (.cons (prt_of (c := c3) (HCr.out.nix HF7.out)) .nil)) 2 rfl)
          go_wp2_with fail
          refine (run_c v HP2.out (by omega) HRUN2.out).mono ?_
          rintro e w8 ⟨A8, c8, rfl, hR8, hF8, hc8, hm8, hg8⟩
          have eN : [l, j].flatten.length = n + s := by
            have e1 := H.out.2; have e3 := H3.out.2
            simp only [List.flatten_cons, List.flatten_nil, List.length_append, List.length_nil, e1, e3]; omega
          obtain ⟨M, hM⟩ : ∃ M, [l, j].flatten.length = M := ⟨_, rfl⟩
          rw [hM] at eN hR8 hc8 hg8 ⊢
          have HT8 := Lib.hid (show s ≤ M ∧ M ≤ c8 ∧ c8 ≤ maxLen ∧ M ≤ 1000000 from ⟨by omega, hc8, hm8, by omega⟩)
          have hci8 : (c8 : Int) ≤ 9223372036854775807 := by unfold maxLen at hm8; omega
          have hnc8 : (n : Int) ≤ (c8 : Int) := by omega
          have lo : (outz l).length = n := by rw [outz_len]; exact H.out.2
          have HR58 := Lib.hid (HR5.out.nix ((Fr.al _ _).t hF8))
          have HFR8 := Lib.hid ((HFRr.out.t HF7.out).t ((Fr.al _ _).t hF8))
          have HA5 := Lib.hid (part_at (a := []) (p := outz l) (t := r ++ t) (m := 0) HR58.out HO.out.1 rfl lo)
          have HE5 := Lib.hid (drop_last (a := outz l ++ r) (r := t) (by rw [HO.out.1]; simp) (rdlen HR58.out) HO.out.2.2)
          by_cases hz : 0 < M
          · obtain ⟨g8, rfl⟩ := hg8 hz
            have HR8 := Lib.hid hR8
            have HA8 := Lib.hid (part_at (a := []) (p := outz l) (t := t) (m := 0) hR8 HO.out.2.1 rfl lo)
            have HE8 := Lib.hid (drop_last (a := outz l) (r := t) HO.out.2.1 (rdlen hR8) HO.out.2.2)
            clear hR8 hF8 hc8 hm8 hg8 eN hM hz lo
            have HNs := Lib.hid (show n ≤ 1000000 ∧ s ≤ 1000000 by omega)
            go_upto_region 22 with fail
            go_quiet ((first
              | (go_at_call 44; first | exact Calls.quiet_of_same (tailq_c HT.out.1 HT.out.2.1 HT.out.2.2.1) | exact Calls.quiet_of_same (tailq_c HT8.out.1 HT8.out.2.1 HT8.out.2.2.1))
              | (go_at_call 37; first
                | exact Calls.quiet_of (sameq_eq (HA5.out.nix (Fr.drewN _ _ _)) (HA8.out.nix (Fr.drewN _ _ _)) HNs.out.1)
                | exact Calls.quiet_of (sameq_tt (HR58.out.nix (Fr.drewN _ _ _)) HT.out.1 HT.out.2.1 (HR8.out.nix (Fr.drewN _ _ _)) HT8.out.1 HT8.out.2.1 HNs.out.2 HE5.out HE8.out))))
            go_wp2
            go_ret
            exact ⟨rfl, HFR8.out.t (Fr.drewN _ _ _)⟩
          · have hn0 : n = 0 := by omega
            have hs0 : s = 0 := by omega
            have hM0 : M = 0 := by omega
            subst hM0 hn0 hs0
            clear hR8 hF8 hg8 eN hM hz lo
            have hlit : ((0 : Nat) : Int) = 0 := rfl
            have HN0 := Lib.hid hm8
            clear hc8 hm8
            rw [hlit] at *
            go_upto_region 22 with fail
            have hT1 : ∀ w, Calls Try.prog 44 #[.slice (some ⟨g5, 0, none⟩) N c5, .int .i64 0] w fun e w' => e = .returned (tailV g5 N c5 0) ∧ w' = w := fun w => tailq_c HT.out.1 HT.out.2.1 HT.out.2.2.1
            obtain ⟨tV, hV⟩ : ∃ tV, tailV g5 N c5 0 = tV := ⟨_, rfl⟩
            rw [hV] at hT1
            cases A8 with
            | none =>
              have hT2 : ∀ w, Calls Try.prog 44 #[.slice none 0 c8, .int .i64 0] w fun e w' => e = .returned (.slice none 0 c8) ∧ w' = w := fun w => tail0q_c HN0.out
              have hS1 : ∀ w, Calls Try.prog 37 #[.slice (some ⟨g5, 0, none⟩) 0 c5, .slice none 0 c8] w fun e w' => e = .returned (.bool true) ∧ ∃ j, w' = w.drewN j := fun w => sameq_eq (a := []) Rd.zero Rd.zero (by omega)
              have hS2 : ∀ k, Calls Try.prog 37 #[tV, .slice none 0 c8] (w8.drewN k) fun e w' => e = .returned (.bool true) ∧ ∃ j, w' = (w8.drewN k).drewN j := fun k => by rw [← hV]; exact sameq_t0 (HR58.out.nix (Fr.drewN _ _ _)) HT.out.2.1
              have HH := Lib.hid (And.intro hT1 (And.intro hT2 (And.intro hS1 hS2)))
              clear hT2 hS1 hS2
              go_quiet ((first
                | (go_at_call 44; first | with_reducible exact Calls.quiet_of_same (HH.out.1 _) | with_reducible exact Calls.quiet_of_same (HH.out.2.1 _))
                | (go_at_call 37; first
                  | with_reducible exact Calls.quiet_of (HH.out.2.2.1 _)
                  | with_reducible exact Calls.quiet_of (HH.out.2.2.2 _))))
              go_wp2
              go_ret
              exact ⟨rfl, HFR8.out.t (Fr.drewN _ _ _)⟩
            | some a8 =>
              have hT2 : ∀ w, Calls Try.prog 44 #[.slice (some a8) 0 c8, .int .i64 0] w fun e w' => e = .returned (.slice (some a8) 0 c8) ∧ w' = w := fun w => tail0q_c HN0.out
              have hS1 : ∀ w, Calls Try.prog 37 #[.slice (some ⟨g5, 0, none⟩) 0 c5, .slice (some a8) 0 c8] w fun e w' => e = .returned (.bool true) ∧ ∃ j, w' = w.drewN j := fun w => sameq_eq (a := []) Rd.zero Rd.zero (by omega)
              have hS2 : ∀ k, Calls Try.prog 37 #[tV, .slice (some a8) 0 c8] (w8.drewN k) fun e w' => e = .returned (.bool true) ∧ ∃ j, w' = (w8.drewN k).drewN j := fun k => by rw [← hV]; exact sameq_t0 (HR58.out.nix (Fr.drewN _ _ _)) HT.out.2.1
              have HH := Lib.hid (And.intro hT1 (And.intro hT2 (And.intro hS1 hS2)))
              clear hT2 hS1 hS2
              go_quiet ((first
                | (go_at_call 44; first | with_reducible exact Calls.quiet_of_same (HH.out.1 _) | with_reducible exact Calls.quiet_of_same (HH.out.2.1 _))
                | (go_at_call 37; first
                  | with_reducible exact Calls.quiet_of (HH.out.2.2.1 _)
                  | with_reducible exact Calls.quiet_of (HH.out.2.2.2 _))))
              go_wp2
              go_ret
              exact ⟨rfl, HFR8.out.t (Fr.drewN _ _ _)⟩
end Go.Proofs.Ytapnmgkpljlgmaa
