/- The walk of FnRing. -/
import Derived.Test.YtapnmgkpljlgmaaHTX
import Derived.Deep.RegionHeld3
set_option linter.unusedVariables false
set_option linter.unusedSimpArgs false
namespace Go.Proofs.Ytapnmgkpljlgmaa
open Go.RowKit
set_option maxRecDepth 10000 in
set_option maxHeartbeats 16000000 in
theorem FnRing_c {v s : Int} {A : Option Addr} {n c : Nat} {l : List Int} {w : World} (h : Rd w 1 A n (z1s l)) (hn : n ≤ maxLen) (hc : n ≤ c ∧ c ≤ maxLen) :
    Calls Try.prog 22 #[.int .i64 v, .slice A n c, .int .i64 s] w (Done w) := by
  have hm := maxLen_int hn
  have H := Lib.hid (And.intro h hc)
  clear h hn hc
  by_cases hbig : 2147483647 < n
  · have hb : decide ((2147483647 : Int) < (n : Int)) = true := by rw [decide_eq_true_eq]; omega
    go_enter Try.func22, Try.ntmps22
    go_wp2
    go_ret
    exact ⟨rfl, Fr.refl _ _⟩
  · have hb : decide ((2147483647 : Int) < (n : Int)) = false := by rw [decide_eq_false_iff_not]; omega
    have HB := Lib.hid (show n < 2147483648 by omega)
    clear hbig
    go_enter Try.func22, Try.ntmps22
    go_wp2_with fail
    refine (row_c (v := v) H.out.1 H.out.2).mono ?_
    rintro e w1 ⟨r, rfl, rfl, hr⟩
    cases r
    · go_wp2
      go_ret
      exact ⟨rfl, Fr.refl _ _⟩
    · obtain ⟨V, row, rfl, hV, hz, hok, hlV, hln⟩ := (hr rfl).nat
      have h1 := H.out.1
      rw [hz] at h1
      have hrn := rdnlen h1
      have h2 := hok.two
      obtain ⟨ad, rfl⟩ := rd_pos h1 (by omega)
      obtain ⟨K, hK⟩ : ∃ K, n = K + 1 := ⟨n - 1, by omega⟩
      have eK : (n : Int) - 1 = (K : Int) := by omega
      have sK : IntKind.i64.wrap ((n : Int) - 1) = (K : Int) := (IntWalk.i64_in _ (by omega)).trans eK
      have sK2 : IntKind.i64.wrap (K : Int) = (K : Int) := IntWalk.i64_in _ (by omega)
      have HR := Lib.hid h1
      have HO := Lib.hid (And.intro hok (And.intro hV (And.intro hlV (show n ≤ 12 by omega))))
      have HK := Lib.hid (And.intro hK (And.intro hrn (show 2 ≤ n by omega)))
      have hni : (n : Int) ≤ 12 := by omega
      have hKn : (K : Int) < (n : Int) := by omega
      have hn0 : (0 : Int) < (n : Int) := by omega
      clear hr hz h1 hok hV hlV hln hrn h2 hK
      obtain ⟨X, hX⟩ : ∃ X, row.getD 0 0 = X := ⟨_, rfl⟩
      obtain ⟨Y, hY⟩ : ∃ Y, row.getD K 0 = Y := ⟨_, rfl⟩
      have c0 := rdn HR.out (show 0 < n by have := HK.out.2.2; omega)
      have c1 := rdn HR.out (show K < n by have := HK.out.1; omega)
      rw [hX] at c0
      rw [hY] at c1
      have c2 := c0
      rw [addz] at c2
      have HXY := Lib.hid (And.intro hX hY)
      clear hX hY
      go_upto_region 5 with fail
      have hal := fun (o : Obj) => (Fr.al w1 o).cell (block_lt_of_cell c0) (fun e => e) |>.trans c0
      have hal1 := fun (o : Obj) => (Fr.al w1 o).cell (block_lt_of_cell c1) (fun e => e) |>.trans c1
      have hal2 := fun (o : Obj) => (Fr.al w1 o).cell (block_lt_of_cell c2) (fun e => e) |>.trans c2
      go_region
      clear hal hal1 hal2 c0 c1 c2
      have hB0 := (box3_new w1 1 (Y : Nat) (X : Nat) 40).nix (Fr.drew (w1.alloc (.cells #[.int .i64 1, .int .i64 (Y : Nat), .int .i64 (X : Nat)] 40)) Nix)
      have f0 := (Fr.al w1 (.cells #[.int .i64 1, .int .i64 (Y : Nat), .int .i64 (X : Nat)] 40)).t (Fr.drew _ Nix)
      obtain ⟨w2, hw2⟩ : ∃ w2, (w1.alloc (.cells #[.int .i64 1, .int .i64 (Y : Nat), .int .i64 (X : Nat)] 40)).drew = w2 := ⟨_, rfl⟩
      rw [hw2] at hB0 f0 ⊢
      obtain ⟨p, hp⟩ : ∃ p, w1.heap.size = p := ⟨_, rfl⟩
      rw [hp] at hB0 ⊢
      have HB0 := Lib.hid (And.intro hB0 (block_lt_of_cell hB0.1))
      have HF0 := Lib.hid f0
      clear hB0 f0 hw2 hp
      go_wp2_with fail
      go_loopg [8, 9] K (fun m a u wr => ringLoop w2 row p X Y n m a u wr)
      case atStart => exact ⟨0, 1, rfl, HK.out.1.symm, rfl, Fsh.empty w2 40 3, HB0.out.1.nix (Fr.al _ _), HB0.out.2⟩
      case round =>
        obtain ⟨k, i, hik, hmi, rfl, hF, hB, hpl⟩ := hrel
        obtain ⟨ga, ca, rfl⟩ := hF.shp
        have HMI := Lib.hid (And.intro hmi hik)
        have HF := Lib.hid hF
        have HBX := Lib.hid (And.intro hB hpl)
        clear hmi hik hF hB hpl
        by_cases hlt : i < n
        · have HRr := Lib.hid (HR.out.nix (HF0.out.t HF.out.fr))
          obtain ⟨a, ha⟩ : ∃ a, row.getD i 0 = a := ⟨_, rfl⟩
          obtain ⟨b, hb2⟩ : ∃ a, row.getD k 0 = a := ⟨_, rfl⟩
          have c0 := rdn HRr.out (show 0 < n by have := HK.out.2.2; omega)
          have ci := rdn HRr.out hlt
          have ck := rdn HRr.out (show k < n by have := HMI.out; omega)
          rw [HXY.out.1] at c0
          rw [ha] at ci
          rw [hb2] at ck
          have c0' := c0
          rw [addz] at c0'
          have HAB := Lib.hid (And.intro ha hb2)
          have e1 : (i : Int) - 1 = (k : Int) := by have := HMI.out; omega
          have hi1 : (1 : Int) ≤ (i : Int) := by have := HMI.out; omega
          have hii : (i : Int) < (n : Int) := by omega
          have hkk : (k : Int) < (n : Int) := by omega
          have s0 : IntKind.i64.wrap (k : Int) = (k : Int) := IntWalk.i64_in _ (by omega)
          have HL2 := Lib.hid (show 2 * k + 2 ≤ 1000000 by have := HMI.out; have := HO.out.2.2.2; omega)
          have hnN : 0 < n := by omega
          clear ha hb2
          go_upto_region 10 with fail
          have HS := Lib.hid (And.intro ci (And.intro c0 (And.intro c0' ck)))
          have HSF := Lib.hid (show ∀ w', Fr w2 w' Nix → w'.cell? (ad.add i) = some (.int .i64 (a : Nat)) ∧ w'.cell? (ad.add 0) = some (.int .i64 (X : Nat)) ∧ w'.cell? ad = some (.int .i64 (X : Nat)) ∧ w'.cell? (ad.add k) = some (.int .i64 (b : Nat)) from fun w' f => by
            have hr := HR.out.nix (HF0.out.t f)
            have d0 := rdn hr (show 0 < n by omega)
            have di := rdn hr hlt
            have dk := rdn hr (show k < n by have := HMI.out; omega)
            rw [HXY.out.1] at d0
            rw [HAB.out.1] at di
            rw [HAB.out.2] at dk
            have d0' := d0
            rw [addz] at d0'
            exact ⟨di, d0, d0', dk⟩)
          go_region_held3 (fun w' => w'.cell? (ad.add i) = some (.int .i64 (a : Nat)) ∧ w'.cell? (ad.add 0) = some (.int .i64 (X : Nat)) ∧ w'.cell? ad = some (.int .i64 (X : Nat)) ∧ w'.cell? (ad.add k) = some (.int .i64 (b : Nat))) (first | exact HS.out | exact HSF.out _ (HF.out.app (wa := _) (by first | exact Fr.al _ _ | exact (Fr.drew _ _).t (Fr.al _ _) | exact (Fr.al _ _).t (Fr.drew _ _)) hown4 hgrow4 hnew4).fr | go_keep)
            (first | (refine step_app_z rfl (.tmp 39) (.tmp 58) rfl _ _ _ rfl (HF.out.nix (by first | exact Fr.al _ _ | exact (Fr.drew _ _).t (Fr.al _ _) | exact (Fr.al _ _).t (Fr.drew _ _))).own ⟨wr.heap.size, 0, none⟩ 2 2 [.int .i64 6, .int .i64 (a : Nat), .int .i64 (X : Nat), .int .i64 0, .int .i64 (a : Nat), .int .i64 (b : Nat)] rfl rfl (cells_at _ _ rfl _ _) (by simp [Value.oneCell']) (by decide) HL2.out ?_; intro g4 cap4 w4 hown4 hgrow4 hnew4))
          all_goals
            have HF4 := Lib.hid (HF.out.app (wa := _) (by first | exact Fr.al _ _ | exact (Fr.drew _ _).t (Fr.al _ _) | exact (Fr.al _ _).t (Fr.drew _ _)) hown4 hgrow4 hnew4)
            have HB4 := Lib.hid (show Box3 w4 p 1 (Y : Nat) (X : Nat) from by
              have hne : (Value.slice (some ⟨ga, 0, none⟩) (2 * k) ca).ownBlock ≠ some p := fun e => by
                have := HF.out.new ga rfl
                simp only [Value.ownBlock, Option.some.injEq] at e
                have := HBX.out.2
                omega
              exact ⟨grown_cell hgrow4 hne (cell_nix (by first | exact Fr.al _ _ | exact (Fr.drew _ _).t (Fr.al _ _) | exact (Fr.al _ _).t (Fr.drew _ _)) HBX.out.1.1), grown_cell hgrow4 hne (cell_nix (by first | exact Fr.al _ _ | exact (Fr.drew _ _).t (Fr.al _ _) | exact (Fr.al _ _).t (Fr.drew _ _)) HBX.out.1.2.1), grown_cell hgrow4 hne (cell_nix (by first | exact Fr.al _ _ | exact (Fr.drew _ _).t (Fr.al _ _) | exact (Fr.al _ _).t (Fr.drew _ _)) HBX.out.1.2.2)⟩)
            clear hown4 hgrow4 hnew4 c0 c0' ci ck
            obtain ⟨q2, hq2⟩ : ∃ q2, 2 * k + 2 = q2 := ⟨_, rfl⟩
            rw [hq2] at HF4 ⊢
            have HQ2 := Lib.hid hq2
            clear hq2
            go_wp2
            go_roundg (n - (i + 1))
            case measure => have := HMI.out; omega
            case rel =>
              refine ⟨k + 1, i + 1, by have := HMI.out; omega, by have := HMI.out; omega, by rw [Int.natCast_add]; rfl, ?_, HB4.out, HBX.out.2⟩
              rw [ringZ_succ, show z3s (ringF row k) = [.int .i64 6, .int .i64 (a : Nat), .int .i64 (X : Nat), .int .i64 0, .int .i64 (a : Nat), .int .i64 (b : Nat)] by
                unfold ringF
                rw [← HMI.out.2, HAB.out.1, HAB.out.2, HXY.out.1]; rfl, show 2 * (k + 1) = q2 by have := HQ2.out; omega]
              exact HF4.out
        · have ekk : k = K := by have := HMI.out; have := HK.out.1; omega
          subst ekk
          have HSS := Lib.hid HBX.out.1
          have HFR0 := Lib.hid (HF0.out.t HF.out.fr)
          obtain ⟨la, hla⟩ : ∃ l, linkZ row s k = l := ⟨_, rfl⟩
          obtain ⟨lb, hlb⟩ : ∃ l, ringZ row k = l := ⟨_, rfl⟩
          have ek : row.length - 1 = k := by have := HK.out; omega
          have hrun := ring_run HO.out.1 HO.out.2.1 HO.out.2.2.1 s
          obtain ⟨t, hout, ht1, ht2⟩ := ring_z HO.out.1 s
          rw [ek, hla, hlb, HXY.out.1, HXY.out.2] at hrun hout
          rw [ek] at ht1 ht2
          have HRUN := Lib.hid (show RunOK [la, [((1 : Int), (Y : Int), (X : Int))], lb].flatten by simpa using hrun)
          have HOUT := Lib.hid (And.intro hout (And.intro ht1 ht2))
          have HLL := Lib.hid (And.intro hla hlb)
          have hF := HF.out
          rw [hlb] at hF
          have HF := Lib.hid hF
          have HRr := Lib.hid (HR.out.nix HFR0.out)
          clear hF hrun hout ht1 ht2 hla hlb
          go_upto_region 11 with fail
          go_cut [10, 11] from 60 to 71 (fun u b wx => ∃ g5 c5 N, N = k + (1 + 2 * k) ∧ u = .slice (some ⟨g5, 0, none⟩) N c5 ∧ b = .bool true ∧ Rd wx 1 (some ⟨g5, 0, none⟩) N (bls (List.replicate k true ++ ((!less row s) :: t))) ∧ Fr w1 wx Nix ∧ N ≤ c5 ∧ c5 ≤ maxLen)
          case first =>
            have HX0 := Lib.hid (And.intro HSS.out.1 (And.intro HSS.out.2.1 HSS.out.2.2))
            have HN1 := Lib.hid (show n - 1 = k by have := HK.out.1; omega)
            have HEN := Lib.hid (show [la, [((1 : Int), (Y : Int), (X : Int))], lb].flatten.length = k + (1 + 2 * k) by
              rw [← HLL.out.1, ← HLL.out.2]
              simp only [List.flatten_cons, List.flatten_nil, List.length_append, List.length_cons, List.length_nil, linkZ_len, ringZ_len]; omega)
            go_region_held3 (fun w' => w'.cell? ⟨p, 0, none⟩ = some (.int .i64 1) ∧ w'.cell? ⟨p, 1, none⟩ = some (.int .i64 (Y : Nat)) ∧ w'.cell? ⟨p, 2, none⟩ = some (.int .i64 (X : Nat))) (first | exact HX0.out | exact HX5.out | exact HX3.out | exact HSS.out.nix ((Fr.al _ _).t (Fr.drew _ _)) | exact HSS.out.nix (Fr.al _ _) | exact HX3.out.nix (Fr.al _ _) | go_keep)
              (first
                | (go_at_call 61; refine (links_c (s := s) (HRr.out.nix (by first | exact Fr.drew _ _ | exact (Fr.drew _ _).t (Fr.al _ _) | exact (Fr.al _ _).t (Fr.drew _ _) | exact Fr.al _ _ | exact Fr.refl _ _)) HO.out.2.2.2 HK.out.2.2).mono ?_; rintro e w3 ⟨u3, rfl, hL⟩; have F3 := Lib.hid ((show Fr wr _ Nix from (by first | exact Fr.drew _ _ | exact (Fr.drew _ _).t (Fr.al _ _) | exact (Fr.al _ _).t (Fr.drew _ _) | exact Fr.al _ _ | exact Fr.refl _ _)).t hL.fr); have HX3 := Lib.hid (HSS.out.nix F3.out); have HLF := Lib.hid hL.fr; obtain ⟨g3, c3, rfl⟩ := hL.shp; rw [HN1.out] at hL ⊢; rw [HLL.out.1] at hL; have HL3 := Lib.hid hL; clear hL)
                | (go_at_call 43; have hPA := (parts_lit (w := w3) (g := w3.heap.size) (T := 24) rfl _ _ (.cons (prt_of (c := c3) HL3.out.rd) (.cons (prt_of (c := 1) ((rd_lit (w := wr) (T := 40) rfl [((1 : Int), (Y : Int), (X : Int))] _ (show [.int .i64 1, .int .i64 (Y : Int), .int .i64 (X : Int)] = z3s [((1 : Int), (Y : Int), (X : Int))] from rfl) 1 rfl).nix ((Fr.drew _ _).t HLF.out))) (.cons (prt_of (c := ca) (HF.out.rd.nix F3.out)) .nil))) 3 rfl); with_reducible refine (run_c (V : Int) hPA (by omega) HRUN.out).mono ?_; clear hPA; intro e w5 hpost; unfold RunPost at hpost; obtain ⟨A5, c5, he, hp⟩ := hpost; obtain ⟨hR5, hp⟩ := hp; obtain ⟨hF5, hp⟩ := hp; obtain ⟨hc5, hm5, hg5⟩ := hp; subst he; rw [HEN.out] at hR5 hc5 hg5 ⊢; obtain ⟨g5, rfl⟩ := hg5 (by omega); have F5 := Lib.hid (F3.out.t ((Fr.al _ _).t hF5)); have HX5 := Lib.hid (HSS.out.nix F5.out); have H5 := Lib.hid (And.intro hR5 (And.intro hc5 hm5)); clear hR5 hF5 hc5 hm5 hg5)
                | (go_at_call 43; have hPA := (parts_lit (w := w3.alloc (.cells #[.int .i64 1, .int .i64 (Y : Nat), .int .i64 (X : Nat)] 40)) (g := w3.heap.size + 1) (T := 24) (size_alloc _ _) _ _ (.cons (prt_of (c := c3) (HL3.out.rd.nix (Fr.al _ _))) (.cons (prt_of (c := 1) (rd_lit (T := 40) rfl [((1 : Int), (Y : Int), (X : Int))] _ (show [.int .i64 1, .int .i64 (Y : Int), .int .i64 (X : Int)] = z3s [((1 : Int), (Y : Int), (X : Int))] from rfl) 1 rfl)) (.cons (prt_of (c := ca) (HF.out.rd.nix (F3.out.a _))) .nil))) 3 rfl); with_reducible refine (run_c (V : Int) hPA (by omega) HRUN.out).mono ?_; clear hPA; intro e w5 hpost; unfold RunPost at hpost; obtain ⟨A5, c5, he, hp⟩ := hpost; obtain ⟨hR5, hp⟩ := hp; obtain ⟨hF5, hp⟩ := hp; obtain ⟨hc5, hm5, hg5⟩ := hp; subst he; rw [HEN.out] at hR5 hc5 hg5 ⊢; obtain ⟨g5, rfl⟩ := hg5 (by omega); have F5 := Lib.hid (F3.out.t (((Fr.al _ _).a _).t hF5)); have HX5 := Lib.hid (HSS.out.nix F5.out); have H5 := Lib.hid (And.intro hR5 (And.intro hc5 hm5)); clear hR5 hF5 hc5 hm5 hg5)
                | (go_at_call 43; trace_state; fail))
            all_goals
              have HFIN := Lib.hid (show Rd w5 1 (some ⟨g5, 0, none⟩) (k + (1 + 2 * k)) (bls (List.replicate k true ++ ((!less row s) :: t))) by
                have := H5.out.1
                rw [show [la, [((1 : Int), (Y : Int), (X : Int))], lb].flatten = la ++ ([((1 : Int), (Y : Int), (X : Int))] ++ lb) by simp, HOUT.out.1] at this
                exact this)
              go_wp2_with fail
              go_meet
              exact ⟨g5, c5, _, rfl, rfl, rfl, HFIN.out, HFR0.out.t F5.out, H5.out.2.1, H5.out.2.2⟩
          case rest =>
            obtain ⟨g5, c5, N, hN, rfl, rfl, hR5, hF5, hc5, hm5⟩ := hcut
            obtain ⟨ls, hls⟩ : ∃ ls, less row s = ls := ⟨_, rfl⟩
            rw [hls] at hR5
            have HLS := Lib.hid (show decide (0 ≤ s ∧ s < (n : Int) - 1) = ls by rw [← hls]; unfold less; rw [HK.out.2.1])
            have HTR := Lib.hid (show ls = false → t = ringAns k from fun e => HOUT.out.2.2 (by rw [hls]; exact e))
            have hk := ans_at (k := 0) hR5 rfl List.length_replicate rfl
            rw [Nat.add_zero] at hk
            have HKC := Lib.hid hk
            have HTL := Lib.hid (tail_c (m := 2 * k) hR5 (by omega) hc5 hm5)
            have HDR := Lib.hid (show (List.replicate k true ++ ((!ls) :: t)).drop (N - 2 * k) = t from drop_last (a := List.replicate k true ++ [!ls]) (by simp) (rdlen hR5) HOUT.out.2.1)
            have HFC := Lib.hid hF5
            have hNi : (N : Int) ≤ 100 := by have := HO.out.2.2.2; have := HK.out.1; omega
            have hkN : (k : Int) < (N : Int) := by omega
            have hk12 : (k : Int) ≤ 12 := by have := HO.out.2.2.2; have := HK.out.1; omega
            clear hls hR5 hF5 hc5 hm5 hk hN
            go_upto_region 14 with fail
            go_cut [12] from 74 to 82 (fun b wx => b = .bool ls ∧ wx = wc)
            case first =>
              by_cases s0 : 0 ≤ s
              · have d3 : decide (0 ≤ s) = true := decide_eq_true s0
                by_cases s1 : s < (k : Int)
                · have d4 : decide (s < (k : Int)) = true := decide_eq_true s1
                  obtain rfl : true = ls := by rw [← HLS.out]; exact (decide_eq_true ⟨s0, by omega⟩).symm
                  go_wp2_with fail
                  go_meet
                  exact ⟨rfl, rfl⟩
                · have d4 : decide (s < (k : Int)) = false := decide_eq_false s1
                  obtain rfl : false = ls := by rw [← HLS.out]; exact (decide_eq_false fun e => s1 (by omega)).symm
                  go_wp2_with fail
                  go_meet
                  exact ⟨rfl, rfl⟩
              · have d3 : decide (0 ≤ s) = false := decide_eq_false s0
                obtain rfl : false = ls := by rw [← HLS.out]; exact (decide_eq_false fun e => s0 e.1).symm
                go_wp2_with fail
                go_meet
                exact ⟨rfl, rfl⟩
            case rest =>
              obtain ⟨rfl, rfl⟩ := hcut
              have hk := HKC.out
              cases ls
              · have hTR := HTR.out rfl
                have HTT := Lib.hid hTR
                clear hTR
                go_wp2_with fail
                clear hk
                refine HTL.out.mono ?_
                rintro e w6 ⟨A6, c6, rfl, hR7, hF7, _⟩
                rw [HDR.out, HTT.out] at hR7
                have HR7 := Lib.hid hR7
                have HF7 := Lib.hid (HFC.out.t hF7)
                clear hR7 hF7
                obtain ⟨q, hq⟩ : ∃ q, 2 * k = q := ⟨_, rfl⟩
                rw [hq] at HR7 ⊢
                have HQ := Lib.hid hq
                have hqi : (q : Int) ≤ 24 := by omega
                clear hq
                go_wp2_with fail
                go_loopg [96] q (fun m u wr => ∃ i : Nat, m + i = q ∧ u = .int .i64 (i : Nat) ∧ wr = w6)
                case atStart => exact ⟨0, rfl, rfl, rfl⟩
                case round =>
                  obtain ⟨j, hmj, rfl, rfl⟩ := hrel
                  have HMJ := Lib.hid hmj
                  clear hmj
                  by_cases hlt2 : j < q
                  · obtain ⟨a6, b, rfl, hb6, hcb⟩ := rdat HR7.out hlt2
                    rw [ringAns_get k j (by rw [HQ.out]; exact hlt2)] at hb6
                    have hb6 := Option.some.inj hb6
                    obtain ⟨R, hRR⟩ : ∃ R, j % 2 = R := ⟨_, rfl⟩
                    have e1 : (j : Int) % 2 = (R : Int) := by omega
                    have d0 : ((R : Int) == 0) = b := by
                      rw [← hb6, hRR, Bool.eq_iff_iff, beq_iff_eq, beq_iff_eq]; omega
                    clear hb6 hRR
                    cases b
                    all_goals
                      go_wp2
                      go_roundg (q - (j + 1))
                      case measure => have := HMJ.out; omega
                      case rel => exact ⟨j + 1, by have := HMJ.out; omega, by rw [Int.natCast_add]; rfl, rfl⟩
                  · go_wp2
                    go_ret
                    exact ⟨rfl, HF7.out⟩
              · go_wp2_with fail
                clear hk
                refine HTL.out.mono ?_
                rintro e w6 ⟨A6, c6, rfl, hR7, hF7, _⟩
                rw [HDR.out] at hR7
                have HR7 := Lib.hid hR7
                have HF7 := Lib.hid (HFC.out.t hF7)
                clear hR7 hF7
                obtain ⟨q, hq⟩ : ∃ q, 2 * k = q := ⟨_, rfl⟩
                rw [hq] at HR7 ⊢
                have hqi : (q : Int) ≤ 24 := by omega
                clear hq
                go_wp2_with fail
                go_loopg [96] q (fun m u wr => ∃ i : Nat, m + i = q ∧ u = .int .i64 (i : Nat) ∧ wr = w6)
                case atStart => exact ⟨0, rfl, rfl, rfl⟩
                case round =>
                  obtain ⟨j, hmj, rfl, rfl⟩ := hrel
                  have HMJ := Lib.hid hmj
                  clear hmj
                  by_cases hlt2 : j < q
                  · obtain ⟨a6, b, rfl, hb6, hcb⟩ := rdat HR7.out hlt2
                    clear hb6
                    go_wp2
                    go_roundg (q - (j + 1))
                    case measure => have := HMJ.out; omega
                    case rel => exact ⟨j + 1, by have := HMJ.out; omega, by rw [Int.natCast_add]; rfl, rfl⟩
                  · go_wp2
                    go_ret
                    exact ⟨rfl, HF7.out⟩
end Go.Proofs.Ytapnmgkpljlgmaa
