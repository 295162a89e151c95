/- The reference: Alone. -/
import Derived.Test.YtapnmgkpljlgmaaG29
set_option linter.unusedVariables false
set_option linter.unusedSimpArgs false
namespace Go.Proofs.Ytapnmgkpljlgmaa
open Go.RowKit
def setz (l : List Z3) : List Z3 := l.filter factB
theorem setz_take {l : List Z3} {k : Nat} {z : Z3} (h : l[k]? = some z) : setz (l.take (k + 1)) = setz (l.take k) ++ if factB z = true then [z] else [] := by
  unfold setz
  rw [take_snoc h, List.filter_append]
  congr 1
  cases h2 : factB z <;> simp [List.filter, h2]
def setLoop (w : World) (l : List Z3) (n m : Nat) (v u : Value) (wr : World) : Prop :=
  ∃ k : Nat, m + k = n ∧ u = .int .i64 (k : Nat) ∧ Fl w wr v (setz (l.take k))
def aloneB (V : Nat) (M : Mat) (x z : Nat) : Bool := z != x && decide (0 < M x z) && decide (0 < M z x)
def alLoop (w0 : World) (V : Nat) (M : Mat) (x n m : Nat) (u : Value) (wr : World) : Prop :=
  ∃ k : Nat, m + k = n ∧ u = .int .i64 (k : Nat) ∧ (∀ z, z < k → aloneB V M x z = false) ∧ Fr w0 wr Nix
set_option maxRecDepth 10000 in
set_option maxHeartbeats 4000000 in
theorem alone_c {V x : Nat} {A : Option Addr} {n c : Nat} {l : List Z3} {w : World} (h : Rd w 3 A n (z3s l)) (hn : n ≤ 1000) (hV : V ≤ 12) (hx : x < V) (hl : ∀ z ∈ l, WfZ (V : Int) z) :
    Calls Try.prog 63 #[.int .i64 (V : Nat), .slice A n c, .int .i64 (x : Nat)] w (Bpost w ((List.range V).all fun z => !aloneB V (known V (sts (setz l))) x z)) := by
  have hlen : l.length = n := by have := h.1; rw [z3s_len] at this; omega
  have H := Lib.hid (And.intro h (And.intro hlen (And.intro hl (And.intro hV (And.intro hn hx)))))
  have hVi : (V : Int) ≤ 12 := by omega
  have hni : (n : Int) ≤ 1000 := by omega
  obtain ⟨r, hr⟩ : ∃ r, ((List.range V).all fun z => !aloneB V (known V (sts (setz l))) x z) = r := ⟨_, rfl⟩
  have HR := Lib.hid hr
  rw [hr]
  clear h hlen hl hV hn hx hr
  go_enter Try.func63, Try.ntmps63
  go_wp2_with fail
  go_loopg [7, 15] n (fun m v u wr => setLoop w l n m v u wr)
  case atStart => exact ⟨0, rfl, rfl, Fsh.empty w 40 3⟩
  case round =>
    obtain ⟨k, hmk, rfl, hF⟩ := hrel
    have HMK := Lib.hid hmk
    have hq : (setz (l.take k)).length ≤ k := Nat.le_trans (List.length_filter_le _ _) (List.length_take_le _ _)
    obtain ⟨q, hqq⟩ : ∃ q, setz (l.take k) = q := ⟨_, rfl⟩
    have HQ := Lib.hid hqq
    rw [hqq] at hF hq
    have HF := Lib.hid (show Fsh w wr 40 3 _ q.length (z3s q) from hF)
    have HL := Lib.hid (lim24 (n := q.length) (by have := H.out.2.2.2.2.1; have := HMK.out; omega))
    clear hF hmk hqq
    by_cases hlt : k < n
    · obtain ⟨ad, po, px, py, rfl, hz, hc⟩ := rd3 (H.out.1.nix HF.out.fr) hlt
      have HC := Lib.hid hc
      have HZ := Lib.hid hz
      clear hz hc hq
      go_wp2_with (first
        | (with_reducible refine wpList_ld (o := ⟨some 18, _, _, _, _, _⟩) rfl 40 (.tmp 17) rfl _ rfl #[.int .i64 po, .int .i64 px, .int .i64 py] _ HC.out Try.underlying40 rfl (by kernel_rfl) ?_)
        | fail)
      refine (sets_c po px py _).mono ?_
      rintro e w2 ⟨rfl, hF2⟩
      have HBX := Lib.hid (step_boxn wr po px py hF2)
      have HF2 := Lib.hid (HF.out.nix ((Fr.al _ _).t hF2))
      clear hF2
      obtain ⟨s, hs⟩ : ∃ s, factB (po, px, py) = s := ⟨_, rfl⟩
      rw [hs]
      have HS := Lib.hid hs
      clear hs
      cases s
      · go_wp2
        go_roundg (n - (k + 1))
        case measure => have := HMK.out; omega
        case rel =>
          refine ⟨k + 1, by have := HMK.out; omega, by rw [Int.natCast_add]; rfl, ?_⟩
          rw [setz_take HZ.out, HS.out, HQ.out, if_neg (by decide), List.append_nil]
          exact HF2.out
      · have hown := HF2.out.own
        obtain ⟨x0, x1, x2⟩ := HBX.out
        go_wp2_with (first
          | (at_builtin; refine wpList_app _ rfl (.tmp 21) (.tmp 23) 24 rfl 40 _ 3 24 Try.underlying24 info_step rfl (by decide) _ _ _ rfl (hown.alloc _) ⟨_, 0, none⟩ 1 1 (z3c (po, px, py)) rfl rfl (by decide) (cells_at _ _ rfl _ _) (z3_one _) HL.out.1 HL.out.2 ?_)
          | fail)
        intro g cap w3 hown1 hgrow1 hnew1
        have HF3 := Lib.hid (HF2.out.app (Fr.al _ _) hown1 hgrow1 (by simpa using hnew1))
        clear hown1 hgrow1 hnew1 hown x0 x1 x2
        go_wp2
        go_roundg (n - (k + 1))
        case measure => have := HMK.out; omega
        case rel =>
          refine ⟨k + 1, by have := HMK.out; omega, by rw [Int.natCast_add]; rfl, ?_⟩
          rw [setz_take HZ.out, HS.out, HQ.out, if_pos rfl]
          unfold Fl
          rw [List.length_append, z3s_snoc]
          exact HF3.out
    · have hk : k = n := by have := HMK.out; omega
      subst hk
      have hqe : setz l = q := by rw [← HQ.out, List.take_of_length_le (by rw [H.out.2.1]; exact Nat.le_refl _)]
      have HQE := Lib.hid hqe
      clear hqe
      obtain ⟨g7, c7, rfl⟩ := HF.out.shp
      have HQN := Lib.hid hq
      clear hq
      go_wp2_with fail
      refine (known_c HF.out.rd (by have := H.out.2.2.2.2.1; have := HQN.out; omega) H.out.2.2.2.1 (fun z hz => H.out.2.2.1 z (List.mem_filter.1 (show z ∈ setz l by rw [HQE.out]; exact hz)).1)).mono ?_
      rintro e w1 ⟨g, cc, rfl, hg, hT, hF⟩
      unfold ordV
      obtain ⟨M, hM⟩ : ∃ M, known V (sts q) = M := ⟨_, rfl⟩
      have HR := Lib.hid (show ((List.range V).all fun z => !aloneB V M x z) = r by rw [← HR.out, HQE.out, hM])
      rw [hM] at hT
      have HTB := Lib.hid (show TBox _ w1.heap.size V g cc M from ⟨obox_new w1 V g cc 73, hT.nix (Fr.al w1 _)⟩)
      have HF0 := Lib.hid ((HF.out.fr.t hF).a (.cells #[.int .i64 (V : Nat), .slice (some ⟨g, 0, none⟩) (V * V) cc] 73))
      clear hM hT hF hg
      go_upto_region 9 with fail
      obtain ⟨w0, hw0⟩ : ∃ w0, w1.alloc (.cells #[.int .i64 (V : Nat), .slice (some ⟨g, 0, none⟩) (V * V) cc] 73) = w0 := ⟨_, rfl⟩
      obtain ⟨b, hb⟩ : ∃ b, w1.heap.size = b := ⟨_, rfl⟩
      rw [hw0] at HTB HF0 ⊢
      rw [hb] at HTB ⊢
      clear hw0 hb
      go_wp2_with fail
      go_loopg [30] V (fun m u wx => alLoop w0 V M x V m u wx)
      case atStart => exact ⟨0, rfl, rfl, fun z hz => absurd hz (by omega), Fr.refl _ _⟩
      case round =>
        obtain ⟨z, hmz, rfl, hok, hF⟩ := hrel
        have HMZ := Lib.hid hmz
        have HOK := Lib.hid hok
        have HF3 := Lib.hid hF
        clear hok hF hmz
        by_cases hlt2 : z < V
        · have hzi : (z : Int) < (V : Int) := by omega
          by_cases hzx : z = x
          · subst hzx
            have e0 : ((z : Int) == (z : Int)) = true := beq_self_eq_true _
            have e1 : ((z : Int) != (z : Int)) = false := by rw [bne, e0]; rfl
            go_wp2
            go_roundg (V - (z + 1))
            case measure => have := HMZ.out; omega
            case rel =>
              refine ⟨z + 1, by have := HMZ.out; omega, by rw [Int.natCast_add]; rfl, fun y hy => ?_, HF3.out⟩
              rcases Nat.lt_succ_iff_lt_or_eq.1 hy with hy | rfl
              · exact HOK.out y hy
              · unfold aloneB; simp
          · have e0 : ((z : Int) == (x : Int)) = false := by rw [beq_eq_false_iff_ne]; omega
            have e1 : ((z : Int) != (x : Int)) = true := by rw [bne, e0]; rfl
            have HZX := Lib.hid (show (z != x) = true by rw [bne_iff_ne]; exact hzx)
            obtain ⟨a1, h1⟩ : ∃ a, M x z = a := ⟨_, rfl⟩
            obtain ⟨a2, h2⟩ : ∃ a, M z x = a := ⟨_, rfl⟩
            have HA := Lib.hid (And.intro h1 h2)
            have HAB := Lib.hid (show aloneB V M x z = (decide (0 < a1) && decide (0 < a2)) by unfold aloneB; rw [HZX.out, h1, h2, Bool.true_and])
            obtain ⟨b0, b1, _⟩ := (HTB.out.nix HF3.out).1
            clear h1 h2 hzx
            go_wp2_with fail
            refine (atx_c (HTB.out.nix HF3.out).2 H.out.2.2.2.1 H.out.2.2.2.2.2 hlt2).mono ?_
            rintro e w2 ⟨rfl, hF2⟩
            rw [HA.out.1]
            have HF4 := Lib.hid (HF3.out.t hF2)
            clear hF2 b0 b1
            by_cases hp1 : 0 < a1
            · have d1 : decide (0 < a1) = true := decide_eq_true hp1
              have HAB := Lib.hid (show aloneB V M x z = decide (0 < a2) by rw [HAB.out, d1, Bool.true_and])
              obtain ⟨b0, b1, _⟩ := (HTB.out.nix HF4.out).1
              clear hp1
              go_wp2_with fail
              refine (atx_c (HTB.out.nix HF4.out).2 H.out.2.2.2.1 hlt2 H.out.2.2.2.2.2).mono ?_
              rintro e w3 ⟨rfl, hF2⟩
              rw [HA.out.2]
              have HF5 := Lib.hid (HF4.out.t hF2)
              clear hF2 b0 b1 d1
              by_cases hp2 : 0 < a2
              · have d2 : decide (0 < a2) = true := decide_eq_true hp2
                have HRF := Lib.hid (show false = r by rw [← HR.out]; exact (List.all_eq_false.2 ⟨z, List.mem_range.2 hlt2, by rw [HAB.out, d2]; decide⟩).symm)
                clear hp2
                go_wp2
                go_ret
                exact ⟨ret_bb HRF.out, HF0.out.t HF5.out⟩
              · have d2 : decide (0 < a2) = false := decide_eq_false hp2
                have HAB := Lib.hid (HAB.out.trans d2)
                clear hp2
                go_wp2
                go_roundg (V - (z + 1))
                case measure => have := HMZ.out; omega
                case rel =>
                  refine ⟨z + 1, by have := HMZ.out; omega, by rw [Int.natCast_add]; rfl, fun y hy => ?_, HF5.out⟩
                  rcases Nat.lt_succ_iff_lt_or_eq.1 hy with hy | rfl
                  · exact HOK.out y hy
                  · exact HAB.out
            · have d1 : decide (0 < a1) = false := decide_eq_false hp1
              have HAB := Lib.hid (show aloneB V M x z = false by rw [HAB.out, d1, Bool.false_and])
              clear hp1
              go_wp2
              go_roundg (V - (z + 1))
              case measure => have := HMZ.out; omega
              case rel =>
                refine ⟨z + 1, by have := HMZ.out; omega, by rw [Int.natCast_add]; rfl, fun y hy => ?_, HF4.out⟩
                rcases Nat.lt_succ_iff_lt_or_eq.1 hy with hy | rfl
                · exact HOK.out y hy
                · exact HAB.out
        · have hz : z = V := by have := HMZ.out; omega
          subst hz
          have HRF := Lib.hid (show true = r by rw [← HR.out]; exact (List.all_eq_true.2 fun y hy => by rw [HOK.out y (List.mem_range.1 hy)]; rfl).symm)
          go_wp2
          go_ret
          exact ⟨ret_bb HRF.out, HF0.out.t HF3.out⟩
end Go.Proofs.Ytapnmgkpljlgmaa
