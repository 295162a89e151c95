/- The walk of FnRow. -/
import Derived.Test.YtapnmgkpljlgmaaG37
import Derived.Test.YtapnmgkpljlgmaaHMAo
set_option linter.unusedVariables false
set_option linter.unusedSimpArgs false
namespace Go.Proofs.Ytapnmgkpljlgmaa
open Go.RowKit
theorem link_good {V : Nat} {row : List Nat} (h : RowOK V row) (hV : V ≤ 12) (hl : row.length ≤ V) (s : Int) : GoodZ (V : Int) (linkZ row s (row.length - 1)) where
  v0 := by omega
  v12 := by omega
  len := by rw [linkZ_len]; omega
  wf := fun z hz => by
    obtain ⟨i, hi, rfl⟩ := List.mem_map.1 hz
    have hi := List.mem_range.1 hi
    have a1 := h.at (i := i) (by omega)
    have a2 := h.at (i := i + 1) (by omega)
    have a3 := h.ne (i := i) (j := i + 1) (by omega) (by omega) (by omega)
    unfold linkF
    refine ⟨?_, ?_, fun _ _ => ?_⟩
    · simp only; split <;> omega
    · simp only; split <;> omega
    · simp only; omega
  deep := by
    rw [linkZ_sts]
    exact Deep_flat _ _ fun f hf => by
      obtain ⟨i, _, rfl⟩ := links_mem.1 hf
      have := link_op row s i; omega
theorem link_fact (row : List Nat) (s : Int) (k : Nat) : (linkZ row s k).all factB = true := by
  refine List.all_eq_true.2 fun z hz => ?_
  obtain ⟨i, _, rfl⟩ := List.mem_map.1 hz
  unfold linkF factB
  by_cases q : (i : Int) = s
  · rw [if_pos q]; rfl
  · rw [if_neg q]; rfl
theorem row_z {V X Y t : Nat} {b : Bool} {row : List Nat} (h : RowOK V row) (s : Int) (ht : t ≤ row.length - 1) (hX : X = row.getD 0 0) (hY : Y = row.getD (row.length - 1) 0) :
    outz (shufZ (linkZ row s (row.length - 1)) t b ++ [(4, (X : Int), (Y : Int)), (5, (X : Int), (Y : Int)), (5, (Y : Int), (X : Int))]) = List.replicate (row.length - 1) true ++ [less row s, true, false] := by
  unfold outz
  rw [sts_app]
  exact row_law h s (by rw [sts_len, shufZ_len, linkZ_len]) (fun f => by rw [← linkZ_sts]; exact mem_sts (fun z => shuf_mem (z := ((0, 0, 0) : Z3)) (b := b) (by rw [linkZ_len]; exact ht) z) f) hX hY
theorem addz (a : Addr) : a.add 0 = a := by unfold Addr.add; simp
set_option maxRecDepth 10000 in
set_option maxHeartbeats 16000000 in
theorem FnRow_c {v s t : Int} {b : Bool} {A : Option Addr} {n c : Nat} {l : List Int} {w : World} (h : Rd w 1 A n (z1s l)) (hn : n ≤ maxLen) (hc : n ≤ c ∧ c ≤ maxLen) :
    Calls Try.prog 23 #[.int .i64 v, .slice A n c, .int .i64 s, .int .i64 t, .bool b] w (Done w) := by
  have hm := maxLen_int hn
  have H := Lib.hid (And.intro h hc)
  clear h hn hc
  by_cases hbig : 2147483647 < n
  · have hb : decide ((2147483647 : Int) < (n : Int)) = true := by rw [decide_eq_true_eq]; omega
    go_enter Try.func23, Try.ntmps23
    go_wp2
    go_ret
    exact ⟨rfl, Fr.refl _ _⟩
  · have hb : decide ((2147483647 : Int) < (n : Int)) = false := by rw [decide_eq_false_iff_not]; omega
    have HB := Lib.hid (show n < 2147483648 by omega)
    clear hbig
    go_enter Try.func23, Try.ntmps23
    go_wp2_with fail
    refine (row_c (v := v) H.out.1 H.out.2).mono ?_
    rintro e w1 ⟨r, rfl, rfl, hr⟩
    cases r
    · go_wp2
      go_ret
      exact ⟨rfl, Fr.refl _ _⟩
    · obtain ⟨V, row, rfl, hV, hz, hok, hlV, hln⟩ := (hr rfl).nat
      have h1 := H.out.1
      rw [hz] at h1
      have hrn := rdnlen h1
      have h2 := hok.two
      obtain ⟨ad, rfl⟩ := rd_pos h1 (by omega)
      obtain ⟨K, hK⟩ : ∃ K, n = K + 1 := ⟨n - 1, by omega⟩
      have eK : (n : Int) - 1 = (K : Int) := by omega
      have sK : IntKind.i64.wrap ((n : Int) - 1) = (K : Int) := (IntWalk.i64_in _ (by omega)).trans eK
      have HR := Lib.hid h1
      have HO := Lib.hid (And.intro hok (And.intro hV (And.intro hlV (show n ≤ 12 by omega))))
      have HK := Lib.hid (And.intro hK (And.intro hrn (show 2 ≤ n by omega)))
      have hni : (n : Int) ≤ 12 := by omega
      have hKn : (K : Int) < (n : Int) := by omega
      have hn0 : (0 : Int) < (n : Int) := by omega
      clear hr hz h1 hok hV hlV hln hrn h2 hK
      by_cases t0 : t < 0
      · have d0 : decide (t < 0) = true := decide_eq_true t0
        go_wp2
        go_ret
        exact ⟨rfl, Fr.refl _ _⟩
      · obtain ⟨T, hT⟩ : ∃ T : Nat, t = T := ⟨t.toNat, by omega⟩
        subst hT
        clear t0
        have d0 : decide ((T : Int) < 0) = false := by rw [decide_eq_false_iff_not]; omega
        by_cases t1 : K ≤ T
        · have d1 : decide (K ≤ T) = true := decide_eq_true t1
          have d2 : decide ((K : Int) ≤ (T : Int)) = true := by rw [decide_eq_true_eq]; omega
          go_wp2
          go_ret
          exact ⟨rfl, Fr.refl _ _⟩
        · have d1 : decide (K ≤ T) = false := decide_eq_false t1
          have d2 : decide ((K : Int) ≤ (T : Int)) = false := by rw [decide_eq_false_iff_not]; omega
          have HT := Lib.hid (show T ≤ K by omega)
          clear t1
          obtain ⟨X, hX⟩ : ∃ X, row.getD 0 0 = X := ⟨_, rfl⟩
          obtain ⟨Y, hY⟩ : ∃ Y, row.getD K 0 = Y := ⟨_, rfl⟩
          have c0 := rdn HR.out (show 0 < n by have := HK.out.2.2; omega)
          have c1 := rdn HR.out (show K < n by have := HK.out.1; omega)
          rw [hX] at c0
          rw [hY] at c1
          have c2 := c0
          rw [addz] at c2
          have HXY := Lib.hid (And.intro hX hY)
          clear hX hY
          go_upto_region 5 with fail
          clear d0 d1 d2
          go_quiet (fail)
          have hf := Fr.drewN w1 nq Nix
          obtain ⟨w2, hw2⟩ : ∃ w2, w1.drewN nq = w2 := ⟨_, rfl⟩
          rw [hw2] at hf ⊢
          have HF2 := Lib.hid hf
          have HR2 := Lib.hid (HR.out.nix hf)
          clear hf hw2 c0 c1 c2
          go_wp2_with fail
          refine (links_c (s := s) HR2.out HO.out.2.2.2 HK.out.2.2).mono ?_
          rintro e w3 ⟨u3, rfl, hL⟩
          obtain ⟨g3, c3, rfl⟩ := hL.shp
          rw [show n - 1 = K by have := HK.out.1; omega] at hL ⊢
          have HL := Lib.hid hL
          have HF3 := Lib.hid (HF2.out.t hL.fr)
          clear hL
          go_wp2_with fail
          refine (shuffled_c (b := b) HL.out.rd (by have := HO.out.2.2.2; have := HK.out.1; omega) HT.out).mono ?_
          rintro e w4 ⟨u4, rfl, hS⟩
          obtain ⟨g4, c4, rfl⟩ := hS.shp
          obtain ⟨q, hq⟩ : ∃ q, shufZ (linkZ row s K) T b = q := ⟨_, rfl⟩
          rw [hq] at hS
          have HS := Lib.hid hS
          have HQ := Lib.hid hq
          have HF4 := Lib.hid (HF3.out.t hS.fr)
          clear hS hq
          obtain ⟨a, ha⟩ : ∃ a : List Z3, [((4 : Int), (X : Int), (Y : Int)), (5, (X : Int), (Y : Int)), (5, (Y : Int), (X : Int))] = a := ⟨_, rfl⟩
          have HA := Lib.hid ha
          have hz := rd_lit (w := w4) (T := 40) rfl a _ (show [.int .i64 4, .int .i64 (X : Int), .int .i64 (Y : Int), .int .i64 5, .int .i64 (X : Int), .int .i64 (Y : Int), .int .i64 5, .int .i64 (Y : Int), .int .i64 (X : Int)] = z3s a by rw [← ha]; rfl) 3 (by rw [← ha]; rfl)
          have hP := parts_lit (w := w4.alloc (.cells #[.int .i64 4, .int .i64 (X : Int), .int .i64 (Y : Int), .int .i64 5, .int .i64 (X : Int), .int .i64 (Y : Int), .int .i64 5, .int .i64 (Y : Int), .int .i64 (X : Int)] 40)) (g := w4.heap.size + 1) (T := 24) (size_alloc _ _) _ _
            (.cons (prt_of (c := c4) (HS.out.rd.nix (Fr.al _ _))) (.cons (prt_of (c := 3) hz) .nil)) 2 rfl
          have HP := Lib.hid hP
          have HG := Lib.hid (link_good HO.out.1 HO.out.2.1 HO.out.2.2.1 s)
          have eK1 : row.length - 1 = K := by have := HK.out; omega
          have HEK := Lib.hid eK1
          have HRUN := Lib.hid (show RunOK [q, a].flatten by
            have g1 := HG.out
            rw [eK1] at g1
            have g2 := g1.shuf (link_fact row s K) (t := T) (by rw [linkZ_len]; exact HT.out) b
            rw [HQ.out] at g2
            have l1 := g2.len
            have hX := HO.out.1.at (i := 0) (by have := HK.out; omega)
            have hY := HO.out.1.at (i := K) (by have := HK.out; omega)
            have hN := HO.out.1.ne (i := 0) (j := K) (by have := HK.out; omega) (by have := HK.out; omega) (by have := HK.out; omega)
            rw [HXY.out.1] at hX hN
            rw [HXY.out.2] at hY hN
            have aq : AskZ (V : Int) a := fun z hz => by
              rw [← HA.out] at hz
              simp only [List.mem_cons, List.not_mem_nil, or_false] at hz
              rcases hz with rfl | rfl | rfl <;> exact ⟨⟨by simp, by simp, fun _ _ => by simp only; omega⟩, by simp, by simp⟩
            have r1 := g2.run.ask g1.v12 aq (by rw [← HA.out]; simp only [List.length_cons, List.length_nil]; omega)
            simpa using r1)
          clear hz hP ha eK1
          go_wp2_with fail
          refine (run_c (V : Int) HP.out (by omega) HRUN.out).mono ?_
          rintro e w5 ⟨A5, c5, rfl, hR5, hF5, hc5, hm5, hg5⟩
          have eN : [q, a].flatten.length = K + 3 := by
            rw [← HQ.out, ← HA.out]
            simp only [List.flatten_cons, List.flatten_nil, List.length_append, List.length_cons, List.length_nil, shufZ_len, linkZ_len]
          obtain ⟨N, hN⟩ : ∃ N, [q, a].flatten.length = N := ⟨_, rfl⟩
          rw [hN] at eN hR5 hc5 hg5 ⊢
          obtain ⟨g5, rfl⟩ := hg5 (by omega)
          have hO := row_z (b := b) (t := T) (X := X) (Y := Y) HO.out.1 s (by rw [HEK.out]; exact HT.out) HXY.out.1.symm (by rw [HEK.out]; exact HXY.out.2.symm)
          rw [HEK.out, HQ.out] at hO
          obtain ⟨ls, hls⟩ : ∃ ls, less row s = ls := ⟨_, rfl⟩
          rw [hls] at hO
          have eL : outz [q, a].flatten = List.replicate K true ++ [ls, true, false] := by rw [← hO, ← HA.out]; simp
          have lo : (List.replicate K true).length = K := List.length_replicate
          have k0 := ans_at (k := 0) hR5 eL lo rfl
          have k1 := ans_at (k := 1) hR5 eL lo rfl
          have k2 := ans_at (k := 2) hR5 eL lo rfl
          have HFR := Lib.hid (HF4.out.t (((Fr.al _ _).a _).t hF5))
          rw [Nat.add_zero] at k0
          have HT5 := Lib.hid (tail_c (m := 3) hR5 (by omega) hc5 hm5)
          have HNE := Lib.hid (show N - 3 = K by omega)
          have HKK := Lib.hid (And.intro k0 (And.intro k1 k2))
          have HLS := Lib.hid (show decide (0 ≤ s ∧ s < (n : Int) - 1) = ls by rw [← hls]; unfold less; rw [HK.out.2.1])
          clear hR5 hF5 hc5 hm5 hg5 eN hN hO eL lo k0 k1 k2 hls
          go_wp2_with fail
          refine HT5.out.mono ?_
          rintro e w6 ⟨A6, c6, rfl, _, hF6, hg6⟩
          obtain rfl := hg6 (by omega)
          rw [HNE.out]
          have HF6 := Lib.hid (HFR.out.t hF6)
          have k0 := cell_nix hF6 HKK.out.1
          have k1 := cell_nix hF6 HKK.out.2.1
          have k2 := cell_nix hF6 HKK.out.2.2
          clear hF6 hg6
          by_cases s0 : 0 ≤ s
          · have d3 : decide (0 ≤ s) = true := decide_eq_true s0
            by_cases s1 : s < (K : Int)
            · have d4 : decide (s < (K : Int)) = true := decide_eq_true s1
              obtain rfl : true = ls := by rw [← HLS.out]; exact (decide_eq_true ⟨s0, by omega⟩).symm
              go_wp2
              go_ret
              exact ⟨rfl, HF6.out⟩
            · have d4 : decide (s < (K : Int)) = false := decide_eq_false s1
              obtain rfl : false = ls := by rw [← HLS.out]; exact (decide_eq_false fun e => s1 (by omega)).symm
              go_wp2
              go_ret
              exact ⟨rfl, HF6.out⟩
          · have d3 : decide (0 ≤ s) = false := decide_eq_false s0
            obtain rfl : false = ls := by rw [← HLS.out]; exact (decide_eq_false fun e => s0 e.1).symm
            go_wp2
            go_ret
            exact ⟨rfl, HF6.out⟩
end Go.Proofs.Ytapnmgkpljlgmaa
