/- The walk of FnStar. -/
import Derived.Test.YtapnmgkpljlgmaaG38
import Derived.Test.YtapnmgkpljlgmaaHMRo
set_option linter.unusedVariables false
set_option linter.unusedSimpArgs false
namespace Go.Proofs.Ytapnmgkpljlgmaa
open Go.RowKit
def starLoop (w : World) (row : List Nat) (gr : Bool) (n m : Nat) (a b u : Value) (wr : World) : Prop :=
  ∃ k q : Nat, m + k = n ∧ u = .int .i64 (k : Nat) ∧ q = (if 0 < k then 4 * k - 2 else 0) ∧ Two3 w wr a b k q (z3s (rayZ row gr k)) (z3s (starZ row gr k))
theorem star_q {k q : Nat} (h : q = (if 0 < k then 4 * k - 2 else 0)) (hk : 0 < k) : q + 2 + 2 = (if 0 < k + 1 then 4 * (k + 1) - 2 else 0) := by
  rw [if_pos (Nat.succ_pos k), h, if_pos hk]; omega
theorem star_at {K i : Nat} {b : Bool} (hK : 0 < K) (h : (List.replicate K true ++ starAns K)[i]? = some b) : (i < K + 2 → b = true) ∧ (K + 2 ≤ i → b = decide ((i - K - 2) % 4 < 2)) := by
  by_cases q : i < K
  · rw [List.getElem?_append_left (by rw [List.length_replicate]; exact q), List.getElem?_replicate, if_pos q] at h
    exact ⟨fun _ => (Option.some.inj h).symm, fun e => by omega⟩
  · rw [List.getElem?_append_right (by rw [List.length_replicate]; omega), List.length_replicate] at h
    have hl := (List.getElem?_eq_some_iff.1 h).1
    rw [starAns_len K hK] at hl
    rw [starAns_get K (i - K) hK hl] at h
    have h := (Option.some.inj h).symm
    refine ⟨fun e => ?_, fun e => ?_⟩
    · rw [h, decide_eq_true (show i - K < 2 by omega), Bool.true_or]
    · rw [h, decide_eq_false (show ¬ i - K < 2 by omega), Bool.false_or]
set_option maxRecDepth 10000 in
set_option maxHeartbeats 16000000 in
theorem FnStar_c {v : Int} {gr : Bool} {A : Option Addr} {n c : Nat} {l : List Int} {w : World} (h : Rd w 1 A n (z1s l)) (hn : n ≤ maxLen) (hc : n ≤ c ∧ c ≤ maxLen) :
    Calls Try.prog 26 #[.int .i64 v, .slice A n c, .bool gr] w (Done w) := by
  have hm := maxLen_int hn
  have H := Lib.hid (And.intro h hc)
  clear h hn hc
  by_cases hbig : 2147483647 < n
  · have hb : decide ((2147483647 : Int) < (n : Int)) = true := by rw [decide_eq_true_eq]; omega
    go_enter Try.func26, Try.ntmps26
    go_wp2
    go_ret
    exact ⟨rfl, Fr.refl _ _⟩
  · have hb : decide ((2147483647 : Int) < (n : Int)) = false := by rw [decide_eq_false_iff_not]; omega
    have HB := Lib.hid (show n < 2147483648 by omega)
    clear hbig
    go_enter Try.func26, Try.ntmps26
    go_wp2_with fail
    refine (row_c (v := v) H.out.1 H.out.2).mono ?_
    rintro e w1 ⟨r, rfl, rfl, hr⟩
    cases r
    · go_wp2
      go_ret
      exact ⟨rfl, Fr.refl _ _⟩
    · obtain ⟨V, row, rfl, hV, hz, hok, hlV, hln⟩ := (hr rfl).nat
      have h1 := H.out.1
      rw [hz] at h1
      have hrn := rdnlen h1
      have h2 := hok.two
      obtain ⟨ad, rfl⟩ := rd_pos h1 (by omega)
      obtain ⟨K, hK⟩ : ∃ K, n = K + 1 := ⟨n - 1, by omega⟩
      have eK : (n : Int) - 1 = (K : Int) := by omega
      have hnc := H.out.2
      unfold maxLen at hnc
      have hcn : ¬ c = 1 := by omega
      have hc1 : (1 : Int) ≤ (c : Int) := by omega
      have hnci : (n : Int) ≤ (c : Int) := by omega
      have hci : (c : Int) ≤ 9223372036854775807 := by omega
      have h1n : (1 : Int) ≤ (n : Int) := by omega
      have eN : n - 1 = K := by omega
      have HR := Lib.hid h1
      have HO := Lib.hid (And.intro hok (And.intro hV (And.intro hlV (show n ≤ 12 by omega))))
      have HK := Lib.hid (And.intro hK (And.intro hrn (show 2 ≤ n by omega)))
      have hni : (n : Int) ≤ 12 := by omega
      have hKi : (K : Int) ≤ 12 := by omega
      have hn0 : (0 : Int) < (n : Int) := by omega
      clear hr hz h1 hok hV hlV hln hrn h2 hK hnc
      go_wp2_with fail
      obtain ⟨ad1, had1⟩ : ∃ a : Addr, (⟨ad.block, ad.off + 1, none⟩ : Addr) = a := ⟨_, rfl⟩
      rw [had1]
      have HAD := Lib.hid (show ad.add 1 = ad1 from had1)
      clear had1
      go_loopg [7, 8, 28] K (fun m a b u wr => starLoop w1 row gr K m a b u wr)
      case atStart => exact ⟨0, 0, rfl, rfl, rfl, two3_empty w1⟩
      case round =>
        clear hcn hc1 hnci hci h1n
        obtain ⟨k, q, hmk, rfl, hq, hT⟩ := hrel
        obtain ⟨ga, ca, rfl⟩ := hT.fa.shp
        obtain ⟨gb, cb, rfl⟩ := hT.fb.shp
        have HMK := Lib.hid hmk
        have HQ := Lib.hid hq
        have HT := Lib.hid hT
        clear hmk hq hT
        by_cases hlt : k < K
        · have HRr := Lib.hid (HR.out.nix HT.out.fa.fr)
          obtain ⟨r0, hr0⟩ : ∃ a, row.getD 0 0 = a := ⟨_, rfl⟩
          obtain ⟨x, hx⟩ : ∃ a, row.getD (k + 1) 0 = a := ⟨_, rfl⟩
          obtain ⟨y, hy⟩ : ∃ a, row.getD k 0 = a := ⟨_, rfl⟩
          have c0 := rdn HRr.out (show 0 < n by have := HK.out.2.2; omega)
          have cx := rdn HRr.out (show 1 + k < n by have := HK.out.1; omega)
          rw [← add_add, HAD.out, Nat.add_comm 1 k, hx] at cx
          rw [hr0] at c0
          have c0' := c0
          rw [addz] at c0'
          have HXY := Lib.hid (And.intro hr0 (And.intro hx hy))
          have hki : (k : Int) < (K : Int) := by omega
          have hkn : (k : Int) < (n : Int) := by have := HK.out.1; omega
          have HLA := Lib.hid (lim24 (n := k) (by have := HMK.out; have := HO.out.2.2.2; have := HK.out.1; omega))
          have hqk : q ≤ 4 * k := by have := HQ.out; split at this <;> omega
          have HLB := Lib.hid (show (q + 2) * 24 ≤ 140737488355328 ∧ q + 2 ≤ 1000000000000 ∧ q + 2 + 2 ≤ 1000000 by have := HMK.out; have := HO.out.2.2.2; have := HK.out.1; omega)
          clear hr0 hx hy hqk
          cases gr
          · have HRY := Lib.hid (show rayF row false k = (0, (r0 : Int), (x : Int)) by unfold rayF; rw [if_neg (by decide), HXY.out.1, HXY.out.2.1])
            have c3 := (Fr.al wr (.cells #[.int .i64 0, .int .i64 (r0 : Nat), .int .i64 (x : Nat)] 40)).cell (block_lt_of_cell c0) (fun e => e) |>.trans c0
            have c3' := c3
            rw [addz] at c3'
            go_upto_region 12 with fail
            clear c0 c0' cx c3 c3'
            obtain ⟨w0, hw0⟩ : ∃ w0, wr.alloc (.cells #[.int .i64 0, .int .i64 (r0 : Nat), .int .i64 (x : Nat)] 40) = w0 := ⟨_, rfl⟩
            have hB : Box3 w0 wr.heap.size 0 (r0 : Nat) (x : Nat) := hw0 ▸ box3_new wr 0 (r0 : Nat) (x : Nat) 40
            have f0 : Fr wr w0 Nix := hw0 ▸ Fr.al wr _
            obtain ⟨p, hp⟩ : ∃ p, wr.heap.size = p := ⟨_, rfl⟩
            have HPA := Lib.hid (show ga ≠ p ∧ gb ≠ p by have h1 := HT.out.fa.lt (g := ga) rfl; have h2 := HT.out.fb.lt (g := gb) rfl; omega)
            rw [hw0, hp]
            rw [hp] at hB
            have HT0 := Lib.hid (HT.out.nix f0)
            have HB0 := Lib.hid hB
            clear hw0 hp f0 hB
            obtain ⟨b0, b1, b2⟩ := HB0.out
            have hownA := HT0.out.fa.own
            go_wp2_with (first
              | (at_builtin; refine wpList_app _ rfl (.tmp 44) (.tmp 46) 24 rfl 40 _ 3 24 Try.underlying24 info_step rfl (by decide) _ _ _ rfl (hownA.alloc _) ⟨_, 0, none⟩ 1 1 (z3c (0, (r0 : Int), (x : Int))) rfl rfl (by decide) (cells_at _ _ rfl _ _) (z3_one _) HLA.out.1 HLA.out.2 ?_)
              | fail)
            intro g1 cap1 w2 hown1 hgrow1 hnew1
            have hT1 := HT0.out.appA (Fr.al _ _) hown1 hgrow1 (by simpa using hnew1)
            have HB1 := Lib.hid (show Box3 w2 p 0 (r0 : Nat) (x : Nat) from ⟨grown_cell hgrow1 (by simp [Value.ownBlock]; exact HPA.out.1) (cell_nix (Fr.al _ _) b0), grown_cell hgrow1 (by simp [Value.ownBlock]; exact HPA.out.1) (cell_nix (Fr.al _ _) b1), grown_cell hgrow1 (by simp [Value.ownBlock]; exact HPA.out.1) (cell_nix (Fr.al _ _) b2)⟩)
            have HT1 := Lib.hid hT1
            clear hown1 hgrow1 hnew1 hT1 hownA b0 b1 b2
            obtain ⟨b0, b1, b2⟩ := HB1.out
            have hownB := HT1.out.fb.own
            go_wp2_with (first
              | (at_builtin; refine wpList_app _ rfl (.tmp 48) (.tmp 59) 24 rfl 40 _ 3 24 Try.underlying24 info_step rfl (by decide) _ _ _ rfl (hownB.alloc _) ⟨_, 0, none⟩ 2 2 [.int .i64 4, .int .i64 (r0 : Nat), .int .i64 (x : Nat), .int .i64 7, .int .i64 (x : Nat), .int .i64 (r0 : Nat)] rfl rfl (by decide) (cells_at _ _ rfl _ _) (by simp [Value.oneCell']) HLB.out.1 HLB.out.2.1 ?_)
              | fail)
            intro g2 cap2 w3 hown2 hgrow2 hnew2
            have hT2 := HT1.out.appB (Fr.al _ _) hown2 hgrow2 (by simpa using hnew2)
            obtain ⟨q1, hq1⟩ : ∃ q1, q + 2 = q1 := ⟨_, rfl⟩
            rw [hq1] at hT2 ⊢
            have HQ1 := Lib.hid hq1
            have HT2 := Lib.hid hT2
            clear hown2 hgrow2 hnew2 hT2 hownB b0 b1 b2 hq1
            by_cases hk0 : 0 < k
            · have d0 : decide (0 < (k : Int)) = true := by rw [decide_eq_true_eq]; omega
              have cy := rdn (HR.out.nix HT2.out.fa.fr) (show k < n by have := HK.out.1; omega)
              rw [HXY.out.2.2] at cy
              go_upto_region 15 with fail
              go_region_law (first | (refine step_app_z rfl (.tmp 63) (.tmp 76) rfl _ _ _ rfl (HT2.out.nix (by first | exact Fr.al _ _ | exact (Fr.drew _ _).t (Fr.al _ _) | exact (Fr.al _ _).t (Fr.drew _ _))).fb.own ⟨w3.heap.size, 0, none⟩ 2 2 [.int .i64 5, .int .i64 (x : Nat), .int .i64 (y : Nat), .int .i64 7, .int .i64 (x : Nat), .int .i64 (y : Nat)] rfl rfl (cells_at _ _ rfl _ _) (by simp [Value.oneCell']) (by decide) (by have := HLB.out.2.2; have := HQ1.out; omega) ?_; intro g4 cap4 w4 hown4 hgrow4 hnew4))
              all_goals
                have HT4 := Lib.hid (HT2.out.appB (wa := _) (by first | exact Fr.al _ _ | exact (Fr.drew _ _).t (Fr.al _ _) | exact (Fr.al _ _).t (Fr.drew _ _)) hown4 hgrow4 hnew4)
                clear hown4 hgrow4 hnew4
                obtain ⟨q2, hq2⟩ : ∃ q2, q1 + 2 = q2 := ⟨_, rfl⟩
                rw [hq2] at HT4 ⊢
                have HQ2 := Lib.hid hq2
                clear hq2
                go_wp2
                go_roundg (K - (k + 1))
                case measure => have := HMK.out; omega
                case rel =>
                  refine ⟨k + 1, q2, by have := HMK.out; omega, by rw [Int.natCast_add]; rfl, by rw [← HQ2.out, ← HQ1.out]; exact star_q HQ.out hk0, ?_⟩
                  rw [rayZ_succ, starZ_succ, HRY.out, show z3s (starF row false k) = [.int .i64 4, .int .i64 (r0 : Nat), .int .i64 (x : Nat), .int .i64 7, .int .i64 (x : Nat), .int .i64 (r0 : Nat)] ++ [.int .i64 5, .int .i64 (x : Nat), .int .i64 (y : Nat), .int .i64 7, .int .i64 (x : Nat), .int .i64 (y : Nat)] by unfold starF; rw [if_pos hk0, HRY.out, HXY.out.2.1, HXY.out.2.2]; rfl, ← List.append_assoc]
                  exact HT4.out
            · obtain rfl : k = 0 := by omega
              have hk0 := Lib.hid hk0
              go_wp2
              go_roundg (K - (0 + 1))
              case measure => have := HMK.out; omega
              case rel =>
                refine ⟨1, q1, by have := HMK.out; omega, rfl, by rw [← HQ1.out, HQ.out]; rfl, ?_⟩
                rw [rayZ_succ, starZ_succ, HRY.out, show z3s (starF row false 0) = [.int .i64 4, .int .i64 (r0 : Nat), .int .i64 (x : Nat), .int .i64 7, .int .i64 (x : Nat), .int .i64 (r0 : Nat)] by unfold starF; rw [if_neg (by decide), HRY.out]; rfl]
                exact HT2.out
          · have HRY := Lib.hid (show rayF row true k = (0, (x : Int), (r0 : Int)) by unfold rayF; rw [if_pos rfl, HXY.out.1, HXY.out.2.1])
            have c3 := (Fr.al wr (.cells #[.int .i64 0, .int .i64 (r0 : Nat), .int .i64 (x : Nat)] 40)).cell (block_lt_of_cell c0) (fun e => e) |>.trans c0
            have c3' := c3
            rw [addz] at c3'
            go_upto_region 12 with fail
            clear c0 c0' cx c3 c3'
            obtain ⟨w0, hw0⟩ : ∃ w0, wr.alloc (.cells #[.int .i64 0, .int .i64 (x : Nat), .int .i64 (r0 : Nat)] 40) = w0 := ⟨_, rfl⟩
            have hB : Box3 w0 wr.heap.size 0 (x : Nat) (r0 : Nat) := hw0 ▸ box3_new wr 0 (x : Nat) (r0 : Nat) 40
            have f0 : Fr wr w0 Nix := hw0 ▸ Fr.al wr _
            obtain ⟨p, hp⟩ : ∃ p, wr.heap.size = p := ⟨_, rfl⟩
            have HPA := Lib.hid (show ga ≠ p ∧ gb ≠ p by have h1 := HT.out.fa.lt (g := ga) rfl; have h2 := HT.out.fb.lt (g := gb) rfl; omega)
            rw [hw0, hp]
            rw [hp] at hB
            have HT0 := Lib.hid (HT.out.nix f0)
            have HB0 := Lib.hid hB
            clear hw0 hp f0 hB
            obtain ⟨b0, b1, b2⟩ := HB0.out
            have hownA := HT0.out.fa.own
            go_wp2_with (first
              | (at_builtin; refine wpList_app _ rfl (.tmp 44) (.tmp 46) 24 rfl 40 _ 3 24 Try.underlying24 info_step rfl (by decide) _ _ _ rfl (hownA.alloc _) ⟨_, 0, none⟩ 1 1 (z3c (0, (x : Int), (r0 : Int))) rfl rfl (by decide) (cells_at _ _ rfl _ _) (z3_one _) HLA.out.1 HLA.out.2 ?_)
              | fail)
            intro g1 cap1 w2 hown1 hgrow1 hnew1
            have hT1 := HT0.out.appA (Fr.al _ _) hown1 hgrow1 (by simpa using hnew1)
            have HB1 := Lib.hid (show Box3 w2 p 0 (x : Nat) (r0 : Nat) from ⟨grown_cell hgrow1 (by simp [Value.ownBlock]; exact HPA.out.1) (cell_nix (Fr.al _ _) b0), grown_cell hgrow1 (by simp [Value.ownBlock]; exact HPA.out.1) (cell_nix (Fr.al _ _) b1), grown_cell hgrow1 (by simp [Value.ownBlock]; exact HPA.out.1) (cell_nix (Fr.al _ _) b2)⟩)
            have HT1 := Lib.hid hT1
            clear hown1 hgrow1 hnew1 hT1 hownA b0 b1 b2
            obtain ⟨b0, b1, b2⟩ := HB1.out
            have hownB := HT1.out.fb.own
            go_wp2_with (first
              | (at_builtin; refine wpList_app _ rfl (.tmp 48) (.tmp 59) 24 rfl 40 _ 3 24 Try.underlying24 info_step rfl (by decide) _ _ _ rfl (hownB.alloc _) ⟨_, 0, none⟩ 2 2 [.int .i64 4, .int .i64 (x : Nat), .int .i64 (r0 : Nat), .int .i64 7, .int .i64 (r0 : Nat), .int .i64 (x : Nat)] rfl rfl (by decide) (cells_at _ _ rfl _ _) (by simp [Value.oneCell']) HLB.out.1 HLB.out.2.1 ?_)
              | fail)
            intro g2 cap2 w3 hown2 hgrow2 hnew2
            have hT2 := HT1.out.appB (Fr.al _ _) hown2 hgrow2 (by simpa using hnew2)
            obtain ⟨q1, hq1⟩ : ∃ q1, q + 2 = q1 := ⟨_, rfl⟩
            rw [hq1] at hT2 ⊢
            have HQ1 := Lib.hid hq1
            have HT2 := Lib.hid hT2
            clear hown2 hgrow2 hnew2 hT2 hownB b0 b1 b2 hq1
            by_cases hk0 : 0 < k
            · have d0 : decide (0 < (k : Int)) = true := by rw [decide_eq_true_eq]; omega
              have cy := rdn (HR.out.nix HT2.out.fa.fr) (show k < n by have := HK.out.1; omega)
              rw [HXY.out.2.2] at cy
              go_upto_region 15 with fail
              go_region_law (first | (refine step_app_z rfl (.tmp 63) (.tmp 76) rfl _ _ _ rfl (HT2.out.nix (by first | exact Fr.al _ _ | exact (Fr.drew _ _).t (Fr.al _ _) | exact (Fr.al _ _).t (Fr.drew _ _))).fb.own ⟨w3.heap.size, 0, none⟩ 2 2 [.int .i64 5, .int .i64 (x : Nat), .int .i64 (y : Nat), .int .i64 7, .int .i64 (x : Nat), .int .i64 (y : Nat)] rfl rfl (cells_at _ _ rfl _ _) (by simp [Value.oneCell']) (by decide) (by have := HLB.out.2.2; have := HQ1.out; omega) ?_; intro g4 cap4 w4 hown4 hgrow4 hnew4))
              all_goals
                have HT4 := Lib.hid (HT2.out.appB (wa := _) (by first | exact Fr.al _ _ | exact (Fr.drew _ _).t (Fr.al _ _) | exact (Fr.al _ _).t (Fr.drew _ _)) hown4 hgrow4 hnew4)
                clear hown4 hgrow4 hnew4
                obtain ⟨q2, hq2⟩ : ∃ q2, q1 + 2 = q2 := ⟨_, rfl⟩
                rw [hq2] at HT4 ⊢
                have HQ2 := Lib.hid hq2
                clear hq2
                go_wp2
                go_roundg (K - (k + 1))
                case measure => have := HMK.out; omega
                case rel =>
                  refine ⟨k + 1, q2, by have := HMK.out; omega, by rw [Int.natCast_add]; rfl, by rw [← HQ2.out, ← HQ1.out]; exact star_q HQ.out hk0, ?_⟩
                  rw [rayZ_succ, starZ_succ, HRY.out, show z3s (starF row true k) = [.int .i64 4, .int .i64 (x : Nat), .int .i64 (r0 : Nat), .int .i64 7, .int .i64 (r0 : Nat), .int .i64 (x : Nat)] ++ [.int .i64 5, .int .i64 (x : Nat), .int .i64 (y : Nat), .int .i64 7, .int .i64 (x : Nat), .int .i64 (y : Nat)] by unfold starF; rw [if_pos hk0, HRY.out, HXY.out.2.1, HXY.out.2.2]; rfl, ← List.append_assoc]
                  exact HT4.out
            · obtain rfl : k = 0 := by omega
              have hk0 := Lib.hid hk0
              go_wp2
              go_roundg (K - (0 + 1))
              case measure => have := HMK.out; omega
              case rel =>
                refine ⟨1, q1, by have := HMK.out; omega, rfl, by rw [← HQ1.out, HQ.out]; rfl, ?_⟩
                rw [rayZ_succ, starZ_succ, HRY.out, show z3s (starF row true 0) = [.int .i64 4, .int .i64 (x : Nat), .int .i64 (r0 : Nat), .int .i64 7, .int .i64 (r0 : Nat), .int .i64 (x : Nat)] by unfold starF; rw [if_neg (by decide), HRY.out]; rfl]
                exact HT2.out
        · have hk : k = K := by have := HMK.out; omega
          subst hk
          have hk0 : 0 < k := by have := HK.out; omega
          obtain ⟨la, hla⟩ : ∃ l, rayZ row gr k = l := ⟨_, rfl⟩
          obtain ⟨lb, hlb⟩ : ∃ l, starZ row gr k = l := ⟨_, rfl⟩
          have ek : row.length - 1 = k := by have := HK.out; omega
          have hrun := star_run HO.out.1 HO.out.2.1 HO.out.2.2.1 gr
          have hout := star_z HO.out.1 gr
          rw [ek, hla, hlb] at hrun hout
          have h1 := HT.out.fa.rd
          have h2 := HT.out.fb.rd
          rw [hla] at h1
          rw [hlb] at h2
          have HP := Lib.hid (parts_lit (w := wr) (T := 24) rfl _ _ (.cons (prt_of (c := ca) h1) (.cons (prt_of (c := cb) h2) .nil)) 2 rfl)
          have HRUN := Lib.hid (show RunOK [la, lb].flatten by simpa using hrun)
          have HOUT := Lib.hid hout
          have eN : [la, lb].flatten.length = k + q := by
            rw [← hla, ← hlb]
            simp only [List.flatten_cons, List.flatten_nil, List.length_append, List.length_nil, rayZ_len, starZ_len, HQ.out]; omega
          have HEN := Lib.hid eN
          have HFA := Lib.hid HT.out.fa.fr
          have HK0 := Lib.hid hk0
          have hq48 : q ≤ 48 := by have := HQ.out; rw [if_pos hk0] at this; have := HO.out.2.2.2; have := HK.out.1; omega
          clear h1 h2 hrun hout eN hla hlb ek hk0
          go_wp2_with fail
          refine (run_c (V : Int) HP.out (by omega) HRUN.out).mono ?_
          rintro e w5 ⟨A5, c5, rfl, hR5, hF5, hc5, hm5, hg5⟩
          have eF : [la, lb].flatten = la ++ lb := by simp
          rw [HEN.out, eF, HOUT.out] at hR5
          rw [HEN.out]
          obtain ⟨N, hN⟩ : ∃ N, k + q = N := ⟨_, rfl⟩
          rw [hN] at hR5 ⊢
          have HN := Lib.hid hN
          have hNi : (N : Int) ≤ 100 := by omega
          have HR5 := Lib.hid hR5
          have HFR := Lib.hid (HFA.out.t ((Fr.al _ _).t hF5))
          clear hR5 hF5 hc5 hm5 hg5 eF hN
          go_wp2_with fail
          go_loopg [91] N (fun m u wx => ∃ i : Nat, m + i = N ∧ u = .int .i64 (i : Nat) ∧ wx = w5)
          case atStart => exact ⟨0, rfl, rfl, rfl⟩
          case round =>
            obtain ⟨i, hmi, rfl, rfl⟩ := hrel
            have HMI := Lib.hid hmi
            clear hmi
            by_cases hlti : i < N
            · obtain ⟨a5, b, rfl, hb5, hcb⟩ := rdat HR5.out hlti
              obtain ⟨s1, s2⟩ := star_at HK0.out hb5
              have HS := Lib.hid (And.intro s1 s2)
              clear s1 s2 hb5
              by_cases hi2 : i < k + 2
              · obtain rfl := HS.out.1 hi2
                have d1 : decide ((i : Int) < (k : Int) + 2) = true := by rw [decide_eq_true_eq]; omega
                have d2 : decide ((k : Int) + 2 ≤ (i : Int)) = false := by rw [decide_eq_false_iff_not]; omega
                go_wp2
                go_roundg (N - (i + 1))
                case measure => have := HMI.out; omega
                case rel => exact ⟨i + 1, by have := HMI.out; omega, by rw [Int.natCast_add]; rfl, rfl⟩
              · have d1 : decide ((i : Int) < (k : Int) + 2) = false := by rw [decide_eq_false_iff_not]; omega
                have d2 : decide ((k : Int) + 2 ≤ (i : Int)) = true := by rw [decide_eq_true_eq]; omega
                obtain ⟨D1, hD1⟩ : ∃ D, i - k = D := ⟨_, rfl⟩
                obtain ⟨D2, hD2⟩ : ∃ D, D1 - 2 = D := ⟨_, rfl⟩
                obtain ⟨R, hR⟩ : ∃ R, D2 % 4 = R := ⟨_, rfl⟩
                have e1 : (i : Int) - (k : Int) = (D1 : Int) := by omega
                have e2 : (D1 : Int) - 2 = (D2 : Int) := by omega
                have e3 : (D2 : Int) % 4 = (R : Int) := by omega
                have e4 : (0 : Int) ≤ (D2 : Int) := by omega
                have hbv := HS.out.2 (by omega)
                rw [show (i - k - 2) % 4 = R by rw [hD1, hD2, hR]] at hbv
                have d3 : decide ((R : Int) < 2) = b := by
                  rw [hbv]
                  by_cases q : R < 2
                  · rw [decide_eq_true q, decide_eq_true (by omega)]
                  · rw [decide_eq_false q, decide_eq_false (by omega)]
                clear hbv hD1 hD2 hR
                cases b
                all_goals
                  go_wp2
                  go_roundg (N - (i + 1))
                  case measure => have := HMI.out; omega
                  case rel => exact ⟨i + 1, by have := HMI.out; omega, by rw [Int.natCast_add]; rfl, rfl⟩
            · go_wp2
              go_ret
              exact ⟨rfl, HFR.out⟩
end Go.Proofs.Ytapnmgkpljlgmaa
