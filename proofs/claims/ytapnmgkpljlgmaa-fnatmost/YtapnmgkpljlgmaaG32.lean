/- Telling a row of facts is a script; impl.AtMost. -/
import Derived.Test.YtapnmgkpljlgmaaG23
import Derived.Test.YtapnmgkpljlgmaaG22
import Derived.OwnWalk
set_option linter.unusedVariables false
set_option linter.unusedSimpArgs false
namespace Go.Proofs.Ytapnmgkpljlgmaa
open Go.RowKit
theorem tell_run {op : Nat} (h : op ≤ 7) : ∀ (n : Nat) (l : List (Nat × Nat)), l.length = n → mrun m00 (l.map fun p => (⟨op, p.1, p.2⟩ : Stp)) = (((tell op l).1, []), (tell op l).2)
  | 0, l, hl => by
    have : l = [] := List.eq_nil_of_length_eq_zero hl
    subst this; rfl
  | n + 1, l, hl => by
    rcases List.eq_nil_or_concat l with rfl | ⟨l', p, rfl⟩
    · simp at hl
    · rw [List.concat_eq_append] at *
      have ih := tell_run h n l' (by simpa using hl)
      rw [List.map_append, List.map_cons, List.map_nil, mrun_snoc, ih, mstep_op _ h, tell_snoc]
theorem sts_facts (op : Nat) (l : List (Nat × Nat)) : sts ((nn l).map fun p => ((op : Int), p.1, p.2)) = l.map fun p => (⟨op, p.1, p.2⟩ : Stp) := by
  unfold sts nn
  rw [List.map_map, List.map_map]
  exact List.map_congr_left fun p _ => rfl
theorem tell_outs {op ask : Nat} (h : op ≤ 7) (ha : ask ≤ 7) (l : List (Nat × Nat)) (X Y : Nat) :
    outz ((nn l).map (fun p => ((op : Int), p.1, p.2)) ++ [((ask : Int), (X : Int), (Y : Int))]) = (tell op l).2 ++ [((tell op l).1.ans ask X Y).2] := by
  unfold outz outs
  rw [sts_app, sts_facts, mrun_app, tell_run h _ l rfl]
  show _ ++ (mrun _ [⟨ask, X, Y⟩]).2 = _
  have e : (mrun ((tell op l).1, []) [⟨ask, X, Y⟩]).2 = [((tell op l).1.ans ask X Y).2] := by
    show [(mstep _ _).2] = _
    rw [mstep_op _ ha]
  rw [e]
theorem tell_outs2 {op : Nat} (h : op ≤ 7) (l : List (Nat × Nat)) (X Y : Nat) :
    outz ((nn l).map (fun p => ((op : Int), p.1, p.2)) ++ [(5, (X : Int), (Y : Int)), (6, (X : Int), (Y : Int))]) = (tell op l).2 ++ [((tell op l).1.ans 5 X Y).2, ((tell op l).1.ans 6 X Y).2] := by
  unfold outz outs
  rw [sts_app, sts_facts, mrun_app, tell_run h _ l rfl]
  rfl
theorem good_pairs {v op : Int} {l : List (Int × Int)} {r : List Z3} (g : GoodZ v (l.map (fun p => (op, p.1, p.2)) ++ r)) (h8 : op ≠ 8) (h9 : op ≠ 9) : l = nn (tnat l) ∧ ∀ p ∈ tnat l, p.1 < 12 ∧ p.2 < 12 ∧ p.1 ≠ p.2 := by
  have h12 := g.v12
  have key : ∀ p ∈ l, 0 ≤ p.1 ∧ 0 ≤ p.2 ∧ p.1 < v ∧ p.2 < v ∧ p.1 ≠ p.2 := fun p hp => (g.wf (op, p.1, p.2) (List.mem_append_left _ (List.mem_map.2 ⟨p, hp, rfl⟩))).ok h8 h9
  refine ⟨?_, fun p hp => ?_⟩
  · unfold nn tnat
    rw [List.map_map]
    have : l.map id = l.map ((fun p : Nat × Nat => ((p.1 : Int), (p.2 : Int))) ∘ fun p : Int × Int => (p.1.toNat, p.2.toNat)) := by
      refine List.map_congr_left fun p hp => ?_
      have := key p hp
      show p = ((p.1.toNat : Int), (p.2.toNat : Int))
      rw [Int.toNat_of_nonneg this.1, Int.toNat_of_nonneg this.2.1]
    rwa [List.map_id] at this
  · obtain ⟨q, hq, rfl⟩ := List.mem_map.1 hp
    have := key q hq
    simp only
    omega
theorem pairs_noN {op : Nat} (hop : op ≤ 2) (l : List (Nat × Nat)) {r : List Z3} (hr : ∀ z ∈ r, 4 ≤ z.1) : NoN (sts ((nn l).map (fun p => ((op : Int), p.1, p.2)) ++ r)) := fun s hs => by
  rw [sts_app, sts_facts] at hs
  rcases List.mem_append.1 hs with hs | hs
  · obtain ⟨p, _, rfl⟩ := List.mem_map.1 hs
    simp only; omega
  · obtain ⟨z, hz, rfl⟩ := List.mem_map.1 hs
    have := hr z hz
    unfold stz; simp only; omega
/-- The answers of telling, and two more. -/
def ToldPost2 (w : World) (n : Nat) (l : List (Nat × Nat)) (x y : Nat) (e : Ending) (w' : World) : Prop :=
  ∃ v, e = .returned (.tuple #[v, .bool ((tell 1 l).1.ans 5 x y).2, .bool ((tell 1 l).1.ans 6 x y).2]) ∧ Fsh w w' 4 1 v n (bls (tell 1 l).2)
def AtMostLoop (w : World) (q : Nat) (l : List (Nat × Nat)) (n m : Nat) (v u : Value) (wr : World) : Prop :=
  ∃ (k : Nat) (S : PS) (O : Nat → Prop), m + k = n ∧ u = .int .i64 (k : Nat) ∧ Fsh w wr 4 1 v k (tks 1 l k) ∧ At wr q S O ∧ LI k S ∧ S.abs = (tell 1 (l.take k)).1 ∧ (∀ g, O g → w.heap.size ≤ g) ∧ ∀ g, v.ownBlock = some g → ¬ O g
set_option maxRecDepth 10000 in
set_option maxHeartbeats 4000000 in
theorem AtMost_c {A : Option Addr} {n c x y : Nat} {vals : Int} {l : List (Nat × Nat)} {w : World} (h : Rd w 2 A n (z2s (nn l))) (hn : n ≤ 64) (hl : ∀ p ∈ l, p.1 < 12 ∧ p.2 < 12 ∧ p.1 ≠ p.2) (hxy : x ≠ y) (hx : x < 12) (hy : y < 12) :
    Calls Try.prog 45 #[.int .i64 vals, .slice A n c, .int .i64 (x : Nat), .int .i64 (y : Nat)] w (ToldPost2 w n l x y) := by
  have hlen : l.length = n := by have := h.1; rw [z2s_len, nn_len] at this; omega
  have H := Lib.hid (And.intro h (And.intro hl hlen))
  have HN := Lib.hid hn
  have HX := Lib.hid (And.intro hxy (And.intro hx hy))
  have hm : (n : Int) ≤ 9223372036854775807 := by omega
  have hxi : (x : Int) ≤ 12 := by omega
  have hyi : (y : Int) ≤ 12 := by omega
  clear h hn hl hxy hx hy hlen
  go_enter Try.func45, Try.ntmps45
  go_wp2_with fail
  refine (NewPoset_c w).mono ?_
  rintro e w1 ⟨q, p, L, rfl, k1, k2, k3, k4, k5, k6⟩
  have HP := Lib.hid (And.intro (show At w1 q PS.init (fun g => L.own g ∨ g = q) from ⟨p, L, k1, k2, k6, fun _ => Iff.rfl⟩) (And.intro k3 (show ∀ g, (L.own g ∨ g = q) → w.heap.size ≤ g from fun g hg => hg.elim (k4 g) (fun e => e ▸ k5))))
  clear k1 k2 k3 k4 k5 k6
  go_wp2_with fail
  go_loopg [12, 19] n (fun m v u wr => AtMostLoop w q l n m v u wr)
  case atStart =>
    refine ⟨0, PS.init, fun g => L.own g ∨ g = q, rfl, rfl, (Fsh.empty w1 4 1).base HP.out.2.1, HP.out.1.nix (Fr.al _ _), init_li, init_abs, HP.out.2.2, fun g hg ho => ?_⟩
    simp only [Value.ownBlock, Option.some.injEq] at hg
    have := HP.out.1.lt ho
    omega
  case round =>
    obtain ⟨k, S, O, hmk, rfl, hF, hA, hLI, hab, hO, hD⟩ := hrel
    have HF := Lib.hid hF
    have HA := Lib.hid (And.intro hA (And.intro hLI (And.intro hab (And.intro hO hD))))
    have HMK := Lib.hid hmk
    clear hF hmk hA hLI hab hO hD
    by_cases hlt : k < n
    · obtain ⟨ad, px, py, rfl, hz, hc⟩ := rd2 (H.out.1.nix HF.out.fr) hlt
      obtain ⟨X, Y, rfl, rfl, hz2, hX, hY, hXY⟩ := nn_at hz H.out.2.1
      have HZ := Lib.hid (And.intro hz2 (And.intro hX (And.intro hY hXY)))
      have HC := Lib.hid hc
      have hXi : (X : Int) ≤ 12 := by omega
      have hYi : (Y : Int) ≤ 12 := by omega
      clear hz hc hz2 hX hY hXY
      have HA2 := Lib.hid (HA.out.1.nix (Fr.al wr (Obj.cells #[.int .i64 (X : Int), .int .i64 (Y : Int)] 27)))
      go_wp2_with (first
        | (with_reducible refine wpList_ld (o := ⟨some 22, _, _, _, _, _⟩) rfl 27 (.tmp 21) rfl _ rfl #[.int .i64 (X : Int), .int .i64 (Y : Int)] _ HC.out Try.underlying27 rfl (by kernel_rfl) ?_)
        | fail)
      refine (oplSetOrderOrEqual HA2.out HA.out.2.1 (by have := HN.out; omega) HZ.out.2.2.2 HZ.out.2.1 HZ.out.2.2.1).mono ?_
      rintro e w2 ⟨S', O', rfl, j1, j2, j3, j4⟩
      have HT := Lib.hid (told_op (HF.out.nix (Fr.al wr (Obj.cells #[.int .i64 (X : Int), .int .i64 (Y : Int)] 27))) HA.out.2.2.2.1 HA.out.2.2.2.2 j1 j2)
      have HJ := Lib.hid (And.intro j1 (And.intro j3 (j4.trans (by rw [HA.out.2.2.1]))))
      obtain ⟨b, hb⟩ : ∃ b, (S.abs.ans 1 X Y).2 = b := ⟨_, rfl⟩
      have HB := Lib.hid (show ((tell 1 (l.take k)).1.ans 1 X Y).2 = b by rw [← HA.out.2.2.1]; exact hb)
      rw [hb]
      clear j1 j2 j3 j4 hb
      have hown := HT.out.1.own
      have HL := Lib.hid (show (k + 1) * 1 ≤ 140737488355328 ∧ k + 1 ≤ 1000000000000 by have := HN.out; omega)
      go_wp2_with (at_builtin; refine wpList_app _ rfl _ _ 28 rfl 4 _ 1 1 Try.underlying28 (by kernel_rfl : _ = some (some (.bool false), 1, 1)) rfl (by decide) _ _ _ rfl (hown.alloc _) ⟨w2.heap.size, 0, none⟩ 1 1 [.bool b] rfl rfl (by decide) (cells_at _ _ rfl _ _) (by simp [Value.oneCell']) HL.out.1 HL.out.2 ?_)
      intro g cap w3 hown1 hgrow1 hnew1
      have hG := Lib.hid (told_app HT.out HJ.out.1 (Fr.al _ _) hown1 hgrow1 (by simpa using hnew1))
      clear hown1 hgrow1 hnew1 hown
      go_wp2
      go_roundg (n - (k + 1))
      case measure => have := HMK.out; omega
      case rel =>
        refine ⟨k + 1, S', O', by have := HMK.out; omega, by rw [Int.natCast_add]; rfl, ?_, hG.out.2.1, HJ.out.2.1, ?_, HT.out.2.1, hG.out.2.2⟩
        · rw [tks_succ HZ.out.1, HB.out]; exact hG.out.1
        · rw [take_snoc HZ.out.1, tell_snoc]; exact HJ.out.2.2
    · have hk : k = n := by have := HMK.out; omega
      subst hk
      have e : l.take k = l := List.take_of_length_le (by rw [H.out.2.2]; exact Nat.le_refl _)
      have HE := Lib.hid e
      clear e
      obtain ⟨A0, c0, rfl⟩ := HF.out.shp
      go_wp2_with fail
      refine (askOrderedOrEqual HA.out.1 HA.out.2.1 HX.out.1 HX.out.2.1 HX.out.2.2).mono ?_
      rintro e w2 ⟨rfl, hF2⟩
      have HF2 := Lib.hid hF2
      clear hF2
      go_wp2_with fail
      refine (askEqual (HA.out.1.nix HF2.out) HA.out.2.1 HX.out.1 HX.out.2.1 HX.out.2.2).mono ?_
      rintro e w3 ⟨rfl, hF3⟩
      have HF3 := Lib.hid (HF2.out.t hF3)
      clear hF3
      rw [show S.abs = (tell 1 l).1 by rw [HA.out.2.2.1, HE.out]]
      go_wp2
      go_ret3
      refine ⟨_, rfl, ?_⟩
      have := HF.out.nix HF3.out
      unfold tks at this
      rwa [HE.out] at this
end Go.Proofs.Ytapnmgkpljlgmaa
