/- FnApart. -/
import Derived.Test.YtapnmgkpljlgmaaG18
import Derived.Test.YtapnmgkpljlgmaaG19
namespace Go.Proofs.Ytapnmgkpljlgmaa
open Go.RowKit

/-- Where nothing else is told, that values are not equal is never refused, and known just if it was told. -/
theorem apart_tell : ∀ (n : Nat) (l : List (Nat × Nat)), l.length = n → (∀ p ∈ l, p.1 ≠ p.2) → (∀ b ∈ (tell 3 l).2, b = true) ∧ (tell 3 l).2.length = n ∧ (∀ a b, (tell 3 l).1.le a b = true ↔ a = b) ∧ (∀ a b, (tell 3 l).1.lt a b ≠ true) ∧
    ∀ a b, (tell 3 l).1.ne a b = true ↔ (a, b) ∈ l ∨ (b, a) ∈ l
  | 0, l, hl, _ => by
    have : l = [] := List.eq_nil_of_length_eq_zero hl
    subst this
    exact ⟨by simp [tell], rfl, fun a b => by simp [tell, VS.nil], fun a b => by simp [tell, VS.nil], fun a b => by simp [tell, VS.nil]⟩
  | n + 1, l, hl, hp => by
    rcases List.eq_nil_or_concat l with rfl | ⟨l', p, rfl⟩
    · simp at hl
    · rw [List.concat_eq_append] at *
      obtain ⟨h1, h1', h2, h3, h4⟩ := apart_tell n l' (by simpa using hl) fun q hq => hp q (by simp [hq])
      obtain ⟨x, y⟩ := p
      have hxy : x ≠ y := hp (x, y) (by simp)
      rw [tell_snoc]
      generalize tell 3 l' = r at *
      obtain ⟨V, bs⟩ := r
      simp only at h1 h1' h2 h3 h4 ⊢
      have heq : ∀ a b, V.eq a b = true ↔ a = b := fun a b => by rw [VS.eq_iff, h2, h2]; exact ⟨fun q => q.1, fun q => ⟨q, q.symm⟩⟩
      have hans : V.ans 3 x y = V.setN x y := rfl
      rw [hans]
      unfold VS.setN
      by_cases hne : V.ne x y = true
      · rw [if_pos hne]
        refine ⟨fun b hb => ?_, by simp [h1'], h2, h3, fun a b => ?_⟩
        · simp only [List.mem_append, List.mem_singleton] at hb
          exact hb.elim (h1 b) id
        · show V.ne a b = true ↔ _
          rw [h4]
          have k := (h4 x y).1 hne
          simp only [List.mem_append, List.mem_singleton, Prod.mk.injEq]
          constructor
          · rintro (q | q)
            · exact .inl (.inl q)
            · exact .inr (.inl q)
          · rintro ((q | ⟨rfl, rfl⟩) | (q | ⟨rfl, rfl⟩))
            · exact .inl q
            · exact k
            · exact .inr q
            · exact k.symm
      · rw [if_neg hne, if_neg (by rw [heq]; exact hxy), if_neg (by rw [h2]; exact hxy), if_neg (by rw [h2]; exact hxy.symm)]
        refine ⟨fun b hb => ?_, by simp [h1'], h2, h3, fun a b => ?_⟩
        · simp only [List.mem_append, List.mem_singleton] at hb
          exact hb.elim (h1 b) id
        · show (V.mark x y).ne a b = true ↔ _
          rw [VS.mark_ne, h4, heq, heq, heq, heq]
          simp only [List.mem_append, List.mem_singleton, Prod.mk.injEq]
          constructor
          · rintro ((q | q) | ⟨rfl, rfl⟩ | ⟨rfl, rfl⟩)
            · exact .inl (.inl q)
            · exact .inr (.inl q)
            · exact .inl (.inr ⟨rfl, rfl⟩)
            · exact .inr (.inr ⟨rfl, rfl⟩)
          · rintro ((q | ⟨rfl, rfl⟩) | (q | ⟨rfl, rfl⟩))
            · exact .inl (.inl q)
            · exact .inr (.inl ⟨rfl, rfl⟩)
            · exact .inl (.inr q)
            · exact .inr (.inr ⟨rfl, rfl⟩)

theorem goodF_mem {v : Int} : ∀ (l : List Z3) (d : Int), goodF v d l = true → ∀ z ∈ l, 0 ≤ z.1 ∧ z.1 ≤ 9 ∧ (z.1 ≠ 8 → z.1 ≠ 9 → 0 ≤ z.2.1 ∧ 0 ≤ z.2.2 ∧ z.2.1 < v ∧ z.2.2 < v ∧ z.2.1 ≠ z.2.2)
  | [], _, _, z, hz => by simp at hz
  | y :: l, d, h, z, hz => by
    unfold goodF at h
    split at h
    · cases h
    · rename_i h1
      split at h
      · cases h
      · rename_i h2
        split at h
        · cases h
        · rcases List.mem_cons.1 hz with rfl | hz
          · refine ⟨by omega, by omega, fun k1 k2 => ?_⟩
            have : bad v z ≠ true := fun q => h2 ⟨k1, k2, q⟩
            have e : bad v z = true ↔ z.2.1 < 0 ∨ z.2.2 < 0 ∨ v ≤ z.2.1 ∨ v ≤ z.2.2 ∨ z.2.1 = z.2.2 := by simp [bad, or_assoc]
            rw [Ne, e] at this
            omega
          · exact goodF_mem l _ h z hz
theorem goodB_iff {v : Int} {l : List Z3} (h : goodB v l = true) : 0 ≤ v ∧ v ≤ 12 ∧ l.length ≤ 64 ∧ goodF v 0 l = true := by
  unfold goodB at h
  split at h
  · cases h
  · exact ⟨by omega, by omega, by omega, h⟩
def tnat (l : List (Int × Int)) : List (Nat × Nat) := l.map fun p => (p.1.toNat, p.2.toNat)
/-- A good row of facts with a question behind, in natural numbers. -/
theorem good_facts {v op ask x y : Int} {l : List (Int × Int)} (h : goodB v (l.map (fun p => (op, p.1, p.2)) ++ [(ask, x, y)]) = true) (h8 : op ≠ 8 ∧ op ≠ 9) (ha : ask ≠ 8 ∧ ask ≠ 9) :
    l.length ≤ 63 ∧ l = nn (tnat l) ∧ (∀ p ∈ tnat l, p.1 < 12 ∧ p.2 < 12 ∧ p.1 ≠ p.2) ∧ ∃ X Y : Nat, x = X ∧ y = Y ∧ X < 12 ∧ Y < 12 ∧ X ≠ Y := by
  obtain ⟨h1, h2, h3, h4⟩ := goodB_iff h
  have hm := goodF_mem _ _ h4
  have key : ∀ p ∈ l, 0 ≤ p.1 ∧ 0 ≤ p.2 ∧ p.1 < v ∧ p.2 < v ∧ p.1 ≠ p.2 := fun p hp => (hm (op, p.1, p.2) (List.mem_append_left _ (List.mem_map.2 ⟨p, hp, rfl⟩))).2.2 h8.1 h8.2
  have last := (hm (ask, x, y) (by simp)).2.2 ha.1 ha.2
  simp only at last
  refine ⟨by simp at h3; omega, ?_, fun p hp => ?_, x.toNat, y.toNat, by omega, by omega, by omega, by omega, by omega⟩
  · unfold nn tnat
    rw [List.map_map]
    have : l.map id = l.map ((fun p : Nat × Nat => ((p.1 : Int), (p.2 : Int))) ∘ fun p : Int × Int => (p.1.toNat, p.2.toNat)) := by
      refine List.map_congr_left fun p hp => ?_
      have := key p hp
      show p = ((p.1.toNat : Int), (p.2.toNat : Int))
      rw [Int.toNat_of_nonneg this.1, Int.toNat_of_nonneg this.2.1]
    rwa [List.map_id] at this
  · obtain ⟨q, hq, rfl⟩ := List.mem_map.1 hp
    have := key q hq
    simp only
    omega

def wB (X Y : Nat) (l : List (Nat × Nat)) : Bool := l.any fun p => (p.1 == X && p.2 == Y) || (p.1 == Y && p.2 == X)
theorem wB_snoc {X Y a b k : Nat} {l : List (Nat × Nat)} (h : l[k]? = some (a, b)) : wB X Y (l.take (k + 1)) = (wB X Y (l.take k) || ((a == X && b == Y) || (a == Y && b == X))) := by
  unfold wB; rw [take_snoc h, List.any_append]; simp
theorem wB_iff {X Y : Nat} {l : List (Nat × Nat)} : wB X Y l = true ↔ (X, Y) ∈ l ∨ (Y, X) ∈ l := by
  unfold wB
  rw [List.any_eq_true]
  constructor
  · rintro ⟨⟨a, b⟩, h, k⟩
    simp only [Bool.or_eq_true, Bool.and_eq_true, beq_iff_eq] at k
    rcases k with ⟨rfl, rfl⟩ | ⟨rfl, rfl⟩
    · exact .inl h
    · exact .inr h
  · rintro (h | h)
    · exact ⟨_, h, by simp⟩
    · exact ⟨_, h, by simp⟩
theorem rdb {w : World} {A : Option Addr} {n : Nat} {l : List Bool} (h : Rd w 1 A n (bls l)) (ht : ∀ b ∈ l, b = true) {k : Nat} (hk : k < n) : ∃ ad, A = some ad ∧ w.cell? (ad.add k) = some (.bool true) := by
  obtain ⟨ad, e, _, hc⟩ := h.2 (by omega)
  have hl : l.length = n := by have := h.1; unfold bls at this; rw [List.length_map] at this; omega
  refine ⟨ad, e, ?_⟩
  have h1 : (bls l)[k * 1 + 0]? = some (.bool true) := by
    unfold bls
    rw [List.getElem?_map, Nat.mul_one, Nat.add_zero, List.getElem?_eq_getElem (by omega)]
    simp [ht _ (List.getElem_mem _)]
  have := hc k 0 _ (by omega) h1
  simpa [Addr.add] using this
def Done (w : World) (e : Ending) (w' : World) : Prop := e = .returned (.bool true) ∧ Fr w w' Nix
def wLoop (w : World) (X Y n : Nat) (l : List (Nat × Nat)) (m : Nat) (v u : Value) (wr : World) : Prop :=
  ∃ k : Nat, m + k = n ∧ u = .int .i64 (k : Nat) ∧ v = .bool (wB X Y (l.take k)) ∧ Fr w wr Nix
set_option maxRecDepth 10000 in
set_option maxHeartbeats 8000000 in
theorem FnApart_c {v x y : Int} {A : Option Addr} {n c : Nat} {ps : List (Int × Int)} {w : World} (h : Rd w 2 A n (z2s ps)) (hn : n ≤ maxLen) :
    Calls Try.prog 3 #[.int .i64 v, .slice A n c, .int .i64 x, .int .i64 y] w (Done w) := by
  have hlen : ps.length = n := by have := h.1; rw [z2s_len] at this; omega
  have hm := maxLen_int hn
  have H := Lib.hid (And.intro h hlen)
  clear h hlen hn
  by_cases hbig : 2147483647 < n
  · have hb : decide ((2147483647 : Int) < (n : Int)) = true := by rw [decide_eq_true_eq]; omega
    go_enter Try.func3, Try.ntmps3
    go_wp2
    go_ret
    exact ⟨rfl, Fr.refl _ _⟩
  · have hb : decide ((2147483647 : Int) < (n : Int)) = false := by rw [decide_eq_false_iff_not]; omega
    have HB := Lib.hid (show n < 2147483648 by omega)
    clear hbig
    go_enter Try.func3, Try.ntmps3
    go_wp2_with fail
    refine (facts_c 3 7 x y H.out.1 HB.out).mono ?_
    rintro e w1 ⟨v1, rfl, hF⟩
    obtain ⟨A1, c1, rfl⟩ := hF.shp
    have HF := Lib.hid hF
    clear hF
    go_wp2_with fail
    refine (good_c v (n := n + 1) (c := c1) HF.out.rd (by have := HB.out; omega)).mono ?_
    rintro e w2 ⟨rfl, hF2⟩
    have HF2 := Lib.hid (HF.out.fr.t hF2)
    clear hF2
    obtain ⟨g, hg⟩ : ∃ g, goodB v (ps.map (fun p => ((3 : Int), p.1, p.2)) ++ [(7, x, y)]) = g := ⟨_, rfl⟩
    rw [hg]
    have HG := Lib.hid hg
    clear hg
    cases g
    · go_wp2
      go_ret
      exact ⟨rfl, HF2.out⟩
    · obtain ⟨hl, hps, hpr, X, Y, rfl, rfl, hX, hY, hXY⟩ := good_facts HG.out (by omega) (by omega)
      obtain ⟨l, hl2⟩ : ∃ l, tnat ps = l := ⟨_, rfl⟩
      rw [hl2] at hps hpr
      subst hps
      have HL := Lib.hid (And.intro hpr (And.intro hX (And.intro hY (And.intro hXY (show n ≤ 63 by have := H.out.2; omega)))))
      clear hl hl2 hpr hX hY hXY
      go_wp2_with fail
      go_loopg [9, 28] n (fun m v u wr => wLoop w X Y n l m v u wr)
      case atStart => exact ⟨0, rfl, rfl, rfl, HF2.out⟩
      case round =>
        obtain ⟨k, hmk, rfl, rfl, hF⟩ := hrel
        have HFr := Lib.hid hF
        have HMK := Lib.hid hmk
        clear hF hmk
        by_cases hlt : k < n
        · obtain ⟨ad, px, py, rfl, hz, hc⟩ := rd2 (H.out.1.nix HFr.out) hlt
          obtain ⟨a, b, rfl, rfl, hz2, ha, hb2, hab⟩ := nn_at hz HL.out.1
          have HZ := Lib.hid hz2
          have HC := Lib.hid hc
          clear hz hc hz2 ha hb2 hab
          obtain ⟨want, hw⟩ : ∃ b, wB X Y (l.take k) = b := ⟨_, rfl⟩
          have HW := Lib.hid hw
          rw [hw]
          clear hw
          obtain ⟨e1, he1⟩ : ∃ e, ((a : Int) == (X : Int)) = e := ⟨_, rfl⟩
          obtain ⟨e2, he2⟩ : ∃ e, ((b : Int) == (Y : Int)) = e := ⟨_, rfl⟩
          obtain ⟨e3, he3⟩ : ∃ e, ((a : Int) == (Y : Int)) = e := ⟨_, rfl⟩
          obtain ⟨e4, he4⟩ : ∃ e, ((b : Int) == (X : Int)) = e := ⟨_, rfl⟩
          have HE := Lib.hid (show (a == X) = e1 ∧ (b == Y) = e2 ∧ (a == Y) = e3 ∧ (b == X) = e4 by
            refine ⟨?_, ?_, ?_, ?_⟩
            · rw [← he1, Bool.eq_iff_iff, beq_iff_eq, beq_iff_eq]; omega
            · rw [← he2, Bool.eq_iff_iff, beq_iff_eq, beq_iff_eq]; omega
            · rw [← he3, Bool.eq_iff_iff, beq_iff_eq, beq_iff_eq]; omega
            · rw [← he4, Bool.eq_iff_iff, beq_iff_eq, beq_iff_eq]; omega)
          have fin : ∀ r : Bool, (want || ((e1 && e2) || (e3 && e4))) = r → wLoop w X Y n l (n - (k + 1)) (.bool r) (.int .i64 ((k : Int) + 1)) (wr.alloc (.cells #[.int .i64 (a : Int), .int .i64 (b : Int)] 27)) := by
            intro r hr
            refine ⟨k + 1, by omega, by rw [Int.natCast_add]; rfl, ?_, HFr.out.a _⟩
            rw [wB_snoc HZ.out, HW.out, HE.out.1, HE.out.2.1, HE.out.2.2.1, HE.out.2.2.2, hr]
          have FIN := Lib.hid fin
          clear fin
          cases want <;> cases e1 <;> cases e2 <;> cases e3 <;> cases e4
          all_goals
            go_wp2_with (with_reducible refine wpList_ld (o := ⟨some 31, _, _, _, _, _⟩) rfl 27 (.tmp 30) rfl _ rfl #[.int .i64 (a : Int), .int .i64 (b : Int)] _ HC.out Try.underlying27 rfl (by kernel_rfl) ?_)
            go_roundg (n - (k + 1))
            case measure => have := HMK.out; omega
            case rel => exact FIN.out _ rfl
        · have hk : k = n := by have := HMK.out; omega
          subst hk
          have hlk : l.length = k := by have := H.out.2; rwa [nn_len] at this
          have HLK := Lib.hid (show l.take k = l from List.take_of_length_le (by omega))
          clear hlk
          obtain ⟨want, hw⟩ : ∃ b, wB X Y (l.take k) = b := ⟨_, rfl⟩
          have HW := Lib.hid hw
          rw [hw]
          clear hw
          go_wp2_with fail
          refine (Apart_c (H.out.1.nix HFr.out) (by have := HL.out.2.2.2.2; omega) HL.out.1 HL.out.2.2.2.1 HL.out.2.1 HL.out.2.2.1).mono ?_
          rintro e w4 ⟨v4, rfl, hF4⟩
          obtain ⟨t1, t2, t3, t4, t5⟩ := apart_tell l.length l rfl fun p hp => (HL.out.1 p hp).2.2
          obtain ⟨A4, c4, rfl⟩ := hF4.shp
          have HT := Lib.hid (And.intro hF4 (And.intro (HFr.out.t hF4.fr) t1))
          have hans : ((tell 3 l).1.ans 7 X Y).2 = want := by
            rw [← HW.out, HLK.out, Bool.eq_iff_iff, wB_iff, ← t5]
            show ((tell 3 l).1.ne X Y || (tell 3 l).1.lt X Y || (tell 3 l).1.lt Y X) = true ↔ _
            simp [Bool.eq_false_iff.2 (t4 X Y), Bool.eq_false_iff.2 (t4 Y X)]
          rw [hans]
          have hlen4 : (tell 3 l).2.length = k := by have := H.out.2; rw [nn_len] at this; omega
          have HL4 := Lib.hid hlen4
          clear hF4 t1 t2 t3 t4 t5 hans hlen4
          go_wp2_with fail
          go_loopg [68] k (fun m u wr => ∃ j : Nat, m + j = k ∧ u = .int .i64 (j : Nat) ∧ wr = w4)
          case atStart => exact ⟨0, rfl, rfl, rfl⟩
          case round =>
            obtain ⟨j, hmj, rfl, rfl⟩ := hrel
            have HMJ := Lib.hid hmj
            clear hmj
            by_cases hlt : j < k
            · obtain ⟨ad, rfl, hc⟩ := rdb HT.out.1.rd HT.out.2.2 hlt
              go_wp2
              go_roundg (k - (j + 1))
              case measure => have := HMJ.out; omega
              case rel => exact ⟨j + 1, by have := HMJ.out; omega, by rw [Int.natCast_add]; rfl, rfl⟩
            · have hj : j = k := by have := HMJ.out; omega
              subst hj
              cases want
              · go_wp2
                go_ret
                exact ⟨rfl, HT.out.2.1⟩
              · go_wp2
                go_ret
                exact ⟨rfl, HT.out.2.1⟩
end Go.Proofs.Ytapnmgkpljlgmaa
