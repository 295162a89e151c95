/- dfs, as reaches calls it with strict: two loops. reaches, isroot, findroot. -/
import Derived.Test.YtapnmgkpljlgmaaG02
set_option linter.unusedVariables false
set_option linter.unusedSimpArgs false
namespace Go.Proofs.Ytapnmgkpljlgmaa
open Go.RowKit

def R1 (nd : Nat → Nat × Nat) (n r : Nat) (w : World) (gc k m : Nat) (v u : Value) (wr : World) : Prop :=
  ∃ O N C, D1 nd n r O N C ∧ m = O.length + 2 * cnt n C ∧ St2 w gc k wr v u O N C
theorem mod_ways (e : Nat) : e = 0 ∨ (e ≠ 0 ∧ e % 2 = 1) ∨ (e ≠ 0 ∧ e % 2 ≠ 1) := by omega
theorem St2.start {w w' : World} {k r : Nat} (hB : Bits w' w.heap.size k k (fun _ => false)) (hF : Fr w w' Nix) :
    St2 w w.heap.size k ((w'.alloc (.cells ((madeCells #[.int .u32 0] 64).setIfInBounds 0 (.int .u32 (r : Nat))) 108)).alloc (.cells (madeCells #[.int .u32 0] 64) 108)) (.slice (some ⟨w'.heap.size, 0, none⟩) 1 64) (.slice (some ⟨w'.heap.size + 1, 0, none⟩) 0 64) [r] [] (fun _ => false) := by
  have h1 := (St.start (r := r) hB hF).nix (Fr.alloc _ (.cells (madeCells #[.int .u32 0] 64) 108) Nix)
  obtain ⟨g, cap, hv, a1, a2, a3, a4, a5⟩ := id h1
  refine ⟨h1, ⟨w'.heap.size + 1, 64, rfl, by have := hF.size; omega, ⟨rfl, .inr ⟨w'.heap.size + 1, 64, madeCells #[.int .u32 0] 64, rfl, Nat.zero_le _, ?_, Nat.zero_le _, by unfold maxLen; omega, by simp [madeCells], rfl⟩⟩, a3, a4, a5⟩, by simp [Value.ownBlock]⟩
  have := heap_alloc_new (w'.alloc (.cells ((madeCells #[.int .u32 0] 64).setIfInBounds 0 (.int .u32 (r : Nat))) 108)) (.cells (madeCells #[.int .u32 0] 64) 108)
  simpa using this

set_option maxRecDepth 3000 in
set_option maxHeartbeats 1000000 in
theorem dfs_true {w : World} {p : Nat} {S : PS} {L : Lay} (h : Rep w p S L) (wf : WF0 S) (r d c : Nat) (hr : r < S.nodes.length) (hc : w.cell? ⟨c, 0, none⟩ = some (.int .u32 (d : Nat))) :
    Calls Try.prog 129 #[.pointer (some ⟨p, 0, none⟩), .int .u32 (r : Nat), .bool true, .func (.func 130) #[] #[.pointer (some ⟨c, 0, none⟩)]] w fun e w' =>
      e = .returned (.bool (reachB S.nd r d true)) ∧ Fr w w' Nix := by
  have hp0 : w.cell? ⟨p, 0, none⟩ = some (.int .u32 (S.last : Nat)) := by rw [cell_block h.hp]; rfl
  have hs := wf.sz
  have hla := wf.la
  have hm1 := make64 1 (.inr rfl)
  have hmz := make64 0 (.inl rfl)
  have hm0 : (madeCells #[Value.int IntKind.u32 0] 64)[0]? = some (.int .u32 0) := by rw [← Array.getElem?_toList, toList_madeCells_one]; rfl
  have H := Lib.hid (And.intro h wf)
  have HC := Lib.hid hc
  have HR := Lib.hid hr
  have hs1 : S.last < 2147483647 := by omega
  have HS := Lib.hid (And.intro hs hla)
  have hN : S.last + 1 = S.nodes.length := hla
  have HN := Lib.hid hN
  have hsz : S.last + 1 < 2147483648 := by omega
  clear h wf hc hr hs hla hN
  simp only [Int.cast_ofNat_Int] at hm1 hmz
  go_enter Try.func129, Try.ntmps129
  go_wp2_with (go_at_call 114; refine (newBitset_c (S.last + 1) _ (by omega)).mono ?_; rintro e w' ⟨rfl, hB, hF, hlt⟩)
  have h0 : R1 S.nd S.nodes.length r w w.heap.size ((S.last + 1 + 63) / 64) (1 + 2 * S.nodes.length) (.slice (some ⟨w'.heap.size, 0, none⟩) 1 64) (.slice (some ⟨w'.heap.size + 1, 0, none⟩) 0 64)
      ((w'.alloc (.cells ((madeCells #[.int .u32 0] 64).setIfInBounds 0 (.int .u32 (r : Nat))) 108)).alloc (.cells (madeCells #[.int .u32 0] 64) 108)) :=
    ⟨[r], [], fun _ => false, D1.start HR.out, by rw [cnt_none]; rfl, St2.start hB hF⟩
  have H0 := Lib.hid h0
  clear h0 hB hF hlt hm0 hm1 hmz hp0
  generalize hk : (S.last + 1 + 63) / 64 = k at *
  have HK := Lib.hid hk
  clear hk
  go_loopg [10, 11] (1 + 2 * S.nodes.length) (fun m v u wr => R1 S.nd S.nodes.length r w w.heap.size k m v u wr)
  case atStart => exact H0.out
  case round =>
    clear H0
    obtain ⟨O, N, C, hD, hm, hSt⟩ := hrel
    rcases List.eq_nil_or_concat O with rfl | ⟨O', x, rfl⟩
    · obtain ⟨g, cap, rfl⟩ := hSt.1.shape
      obtain ⟨gn, capn, hu⟩ := hSt.2.1.shape
      obtain ⟨q0, hq0⟩ : ∃ q, N.length = q := ⟨_, rfl⟩
      rw [hq0] at hu
      subst hu
      have HDN := Lib.hid hD.done
      have HDk := Lib.hid (And.intro hD.k hD.l)
      have hB := hSt.2.1.bits
      have HS1 := Lib.hid hSt.2.1
      have HQ0 := Lib.hid hq0
      have hk0 : 0 < k := by have := HK.out; omega
      clear hD hSt hm hq0
      go_wp2_with (go_at_call 140; refine (Reset_c hB hk0).mono ?_; rintro e w1 ⟨rfl, hB1, hF1⟩)
      clear hB
      have hS2 := HS1.out.setC hB1 hF1
      obtain ⟨N0, hN0⟩ : ∃ N0, N0 = N := ⟨_, rfl⟩
      rw [← hN0] at HDN HDk hS2 HQ0
      have h0 : R2 S.nd S.nodes.length (fun a => a ∈ N0) (fun x => x = d) w w.heap.size k (N0.length + 2 * S.nodes.length) (.slice (some ⟨gn, 0, none⟩) q0 capn) w1 :=
        ⟨N0, fun _ => false, D2.start_list _ (fun x hx => (HDk.out.1 x hx).1) (by have := HDk.out.2; omega), by rw [cnt_none], hS2⟩
      have H0 := Lib.hid h0
      clear h0 hB1 hF1 hS2 HS1 hN0 hk0 N C HDk HQ0
      go_loopg [10] (N0.length + 2 * S.nodes.length) (fun m v wr => R2 S.nd S.nodes.length (fun a => a ∈ N0) (fun x => x = d) w w.heap.size k m v wr)
      case atStart => exact H0.out
      case round =>
        obtain ⟨O, C, hD, hm, hSt⟩ := hrel
        rcases List.eq_nil_or_concat O with rfl | ⟨O', x, rfl⟩
        · obtain ⟨g, cap, rfl⟩ := hSt.shape
          have hd := hD.none
          have HF := Lib.hid (And.intro hd hSt.fr)
          clear hD hSt hd hm
          go_wp2
          go_ret
          exact ⟨ret_bool (reachB_f' fun hf => by obtain ⟨y, f, hy, hp⟩ := (reach_true_iff HDN.out).1 hf; exact HF.out.1 ⟨y, d, f, hy, rfl, hp⟩), HF.out.2⟩
        · rw [List.concat_eq_append] at hD hSt hm
          obtain ⟨g, cap, hv⟩ := hSt.shape
          obtain ⟨q, hq⟩ : ∃ q, O'.length = q := ⟨_, rfl⟩
          simp only [List.length_append, List.length_singleton, hq] at hv
          subst hv
          rw [← hq] at hSt
          obtain ⟨hSt1, hcx⟩ := hSt.pop
          obtain ⟨_, hcap0, hcap2⟩ := hSt.caps
          have hcap : O'.length ≤ cap := by omega
          clear hcap0 hcap2
          have hxn := hD.lt
          have hlen : O'.length ≤ 10000000000 := by
            have h1 := hD.m
            have h2 := HS.out.1
            simp at h1
            omega
          have hx32 : x < 4294967296 := by have := HS.out.1; omega
          have hxk : x / 64 < k := by have := HK.out; have := HN.out; omega
          have hB := hSt1.bits
          have HD := Lib.hid hD
          have HST := Lib.hid hSt1
          have HM := Lib.hid hm
          have hcd : wr.cell? ⟨c, 0, none⟩ = some (.int .u32 (d : Nat)) := (hSt1.fr.cell (a := ⟨c, 0, none⟩) (World.block_lt_of_cell? w _ HC.out) (fun e => e)).trans HC.out
          clear hD hSt1 hSt hm
          rw [hq] at hcx hcap hlen HST
          have HQ := Lib.hid hq
          clear hq
          by_cases hCx : C x = true
          · go_wp2_with (go_at_call 127; refine (Test_c hB x hxk hx32).mono ?_; rintro e w' ⟨rfl, rfl⟩)
            go_roundg (q + 2 * cnt S.nodes.length C)
            case measure => have h1 := HM.out; have h2 := HQ.out; simp at h1; omega
            case rel => exact ⟨O', C, HD.out.skip hCx, by rw [HQ.out], HST.out⟩
          · have hCx : C x = false := by simpa using hCx
            by_cases hxd : x = d
            · have hxd' : decide (x = d) = true := by simp [hxd]
              have HX := Lib.hid hxd
              clear hxd
              go_wp2_with (first | (go_at_call 127; refine (Test_c hB x hxk hx32).mono ?_; rintro e w' ⟨rfl, rfl⟩) | (go_at_call 130; refine (reaches1_c x d c _ hcd).mono ?_; rintro e w' ⟨rfl, rfl⟩))
              go_ret
              obtain ⟨_, a, f, ha, hp⟩ := HD.out.o x (by simp)
              exact ⟨ret_bool (reachB_t' ((reach_true_iff HDN.out).2 ⟨a, f, ha, by rw [← HX.out]; exact hp⟩)), HST.out.fr⟩
            · have hxd' : decide (x = d) = false := by simp [hxd]
              have HX := Lib.hid hxd
              clear hxd
              go_wp2_with (first | (go_at_call 127; refine (Test_c hB x hxk hx32).mono ?_; rintro e w' ⟨rfl, rfl⟩) | (go_at_call 130; refine (reaches1_c x d c _ hcd).mono ?_; rintro e w' ⟨rfl, rfl⟩) | (go_at_call 115; refine (Set_c hB x hxk hx32).mono ?_; rintro e w1 ⟨rfl, hB1, hF1⟩))
              have hSt2 := HST.out.setC hB1 hF1
              have hR2 := H.out.1.nix hSt2.fr
              have HR2 := Lib.hid hR2
              have HX2 := Lib.hid (HD.out.step H.out.2.ir hCx HX.out)
              have hx2 : x < S.nodes.length := hxn
              have HST2 := Lib.hid hSt2
              have hCx' := hCx
              clear hB hcx hcd hCx hxd' hB1 hF1 hSt2 hR2 hxk HST
              obtain ⟨l, r', hlr⟩ : ∃ l r', S.nd x = (l, r') := ⟨_, _, rfl⟩
              have HLR := Lib.hid hlr
              have hch := children_c HR2.out x hx2
              rw [hlr] at hch
              have HCH := Lib.hid hch
              clear hlr hch
              have hb1 : (q + 1) * 4 ≤ 140737488355328 ∧ q + 1 ≤ 1000000000000 ∧ (q + 1 + 1) * 4 ≤ 140737488355328 ∧ q + 1 + 1 ≤ 1000000000000 := by omega
              have HB1 := Lib.hid hb1
              have hme := cnt_set hCx' S.nodes.length hx2
              have hkl := kids_len (S.nd x)
              have HME := Lib.hid (And.intro hme hkl)
              clear hb1 hme hkl hlen hCx'
              by_cases hl0 : l = 0
              · have hlb := ne0_false hl0
                have HL0 := Lib.hid hl0
                clear hl0
                by_cases hr0 : r' = 0
                · have hrb := ne0_false hr0
                  have HR0 := Lib.hid hr0
                  clear hr0
                  go_wp2_with (first | (go_at_call 121; refine HCH.out.mono ?_; rintro e w2 ⟨rfl, hF2⟩; have HST3 := Lib.hid (HST2.out.nix hF2); have HSR3 := Lib.hid (St.rowq HQ.out HST3.out); clear hF2))
                  go_roundg ((O' ++ kids (S.nd x)).length + 2 * cnt S.nodes.length (setB C x))
                  case measure => have h1 := HM.out; have h2 := HME.out; simp at h1 ⊢; omega
                  case rel =>
                    refine ⟨O' ++ kids (S.nd x), setB C x, HX2.out, rfl, ?_⟩
                    rw [HLR.out]
                    simp only [kids, kid, HL0.out, HR0.out, if_true, if_false, List.append_nil, List.nil_append, ← List.append_assoc]
                    exact HST3.out
                · have hrb := ne0_true hr0
                  have HR0 := Lib.hid hr0
                  clear hr0
                  go_wp2_with (first | (go_at_call 121; refine HCH.out.mono ?_; rintro e w2 ⟨rfl, hF2⟩; have HST3 := Lib.hid (HST2.out.nix hF2); have HSR3 := Lib.hid (St.rowq HQ.out HST3.out); clear hF2) | (go_at_call 124; refine (target_c _ _).mono ?_; rintro e w' ⟨rfl, rfl⟩) | (at_builtin; refine wpList_app _ rfl (.tmp 128) (.tmp 131) 105 rfl 108 _ 1 4 Try.underlying105 info_u32 rfl (by decide) _ q (u32Cells O') rfl (HSR3.out.alloc _) ⟨w2.heap.size, 0, none⟩ 1 1 (u32Cell (r' / 2)) rfl rfl (by decide) (cells_new _ _ _) (u32_one _) HB1.out.1 HB1.out.2.1 ?_; intro g1 cap1 w3 hown1 hgrow1 hnew1))
                  obtain ⟨hS4, _⟩ := St.appq HQ.out HST3.out (Fr.alloc _ _ _) hown1 hgrow1 hnew1
                  have HST4 := Lib.hid hS4
                  clear hown1 hgrow1 hnew1 hS4
                  go_wp2
                  go_roundg ((O' ++ kids (S.nd x)).length + 2 * cnt S.nodes.length (setB C x))
                  case measure => have h1 := HM.out; have h2 := HME.out; simp at h1 ⊢; omega
                  case rel =>
                    refine ⟨O' ++ kids (S.nd x), setB C x, HX2.out, rfl, ?_⟩
                    rw [HLR.out]
                    simp only [kids, kid, HL0.out, HR0.out, if_true, if_false, List.append_nil, List.nil_append, ← List.append_assoc]
                    exact HST4.out
              · have hlb := ne0_true hl0
                have HL0 := Lib.hid hl0
                clear hl0
                by_cases hr0 : r' = 0
                · have hrb := ne0_false hr0
                  have HR0 := Lib.hid hr0
                  clear hr0
                  go_wp2_with (first | (go_at_call 121; refine HCH.out.mono ?_; rintro e w2 ⟨rfl, hF2⟩; have HST3 := Lib.hid (HST2.out.nix hF2); have HSR3 := Lib.hid (St.rowq HQ.out HST3.out); clear hF2) | (go_at_call 124; refine (target_c _ _).mono ?_; rintro e w' ⟨rfl, rfl⟩) | (at_builtin; refine wpList_app _ rfl (.tmp 121) (.tmp 124) 105 rfl 108 _ 1 4 Try.underlying105 info_u32 rfl (by decide) _ q (u32Cells O') rfl (HSR3.out.alloc _) ⟨w2.heap.size, 0, none⟩ 1 1 (u32Cell (l / 2)) rfl rfl (by decide) (cells_new _ _ _) (u32_one _) HB1.out.1 HB1.out.2.1 ?_; intro g1 cap1 w3 hown1 hgrow1 hnew1))
                  obtain ⟨hS4, _⟩ := St.appq HQ.out HST3.out (Fr.alloc _ _ _) hown1 hgrow1 hnew1
                  have HST4 := Lib.hid hS4
                  clear hown1 hgrow1 hnew1 hS4
                  go_wp2
                  go_roundg ((O' ++ kids (S.nd x)).length + 2 * cnt S.nodes.length (setB C x))
                  case measure => have h1 := HM.out; have h2 := HME.out; simp at h1 ⊢; omega
                  case rel =>
                    refine ⟨O' ++ kids (S.nd x), setB C x, HX2.out, rfl, ?_⟩
                    rw [HLR.out]
                    simp only [kids, kid, HL0.out, HR0.out, if_true, if_false, List.append_nil, List.nil_append, ← List.append_assoc]
                    exact HST4.out
                · have hrb := ne0_true hr0
                  have HR0 := Lib.hid hr0
                  clear hr0
                  go_wp2_with (first | (go_at_call 121; refine HCH.out.mono ?_; rintro e w2 ⟨rfl, hF2⟩; have HST3 := Lib.hid (HST2.out.nix hF2); have HSR3 := Lib.hid (St.rowq HQ.out HST3.out); clear hF2) | (go_at_call 124; refine (target_c _ _).mono ?_; rintro e w' ⟨rfl, rfl⟩) | (at_builtin; refine wpList_app _ rfl (.tmp 121) (.tmp 124) 105 rfl 108 _ 1 4 Try.underlying105 info_u32 rfl (by decide) _ q (u32Cells O') rfl (HSR3.out.alloc _) ⟨w2.heap.size, 0, none⟩ 1 1 (u32Cell (l / 2)) rfl rfl (by decide) (cells_new _ _ _) (u32_one _) HB1.out.1 HB1.out.2.1 ?_; intro g1 cap1 w3 hown1 hgrow1 hnew1; obtain ⟨hS4, hr4⟩ := St.appq HQ.out HST3.out (Fr.alloc _ _ _) hown1 hgrow1 hnew1; have HST4 := Lib.hid hS4; have HSR4 := Lib.hid hr4; clear hown1 hgrow1 hnew1 hS4 hr4) | (at_builtin; refine wpList_app _ rfl (.tmp 128) (.tmp 131) 105 rfl 108 _ 1 4 Try.underlying105 info_u32 rfl (by decide) _ (q + 1) (u32Cells (O' ++ [l / 2])) rfl (HSR4.out.alloc _) ⟨w3.heap.size, 0, none⟩ 1 1 (u32Cell (r' / 2)) rfl rfl (by decide) (cells_new _ _ _) (u32_one _) HB1.out.2.2.1 HB1.out.2.2.2 ?_; intro g2 cap2 w4 hown2 hgrow2 hnew2; obtain ⟨hS5, _⟩ := St.appq (by simp [HQ.out]) HST4.out (Fr.alloc _ _ _) hown2 hgrow2 hnew2; have HST5 := Lib.hid hS5; clear hown2 hgrow2 hnew2 hS5))
                  go_roundg ((O' ++ kids (S.nd x)).length + 2 * cnt S.nodes.length (setB C x))
                  case measure => have h1 := HM.out; have h2 := HME.out; simp at h1 ⊢; omega
                  case rel =>
                    refine ⟨O' ++ kids (S.nd x), setB C x, HX2.out, rfl, ?_⟩
                    rw [HLR.out]
                    simp only [kids, kid, HL0.out, HR0.out, if_true, if_false, List.append_nil, List.nil_append, ← List.append_assoc]
                    exact HST5.out
    · rw [List.concat_eq_append] at hD hSt hm
      obtain ⟨g, cap, hv⟩ := hSt.1.shape
      obtain ⟨gn, capn, hu⟩ := hSt.2.1.shape
      obtain ⟨q, hq⟩ : ∃ q, O'.length = q := ⟨_, rfl⟩
      obtain ⟨qn, hqn⟩ : ∃ q, N.length = q := ⟨_, rfl⟩
      simp only [List.length_append, List.length_singleton, hq] at hv
      subst hv
      rw [hqn] at hu
      subst hu
      rw [← hq] at hSt
      obtain ⟨hSt1, hcx⟩ := hSt.pop
      obtain ⟨_, hcap0, hcap2⟩ := hSt.1.caps
      have hcap : O'.length ≤ cap := by omega
      clear hcap0 hcap2
      have hxn := hD.lt
      have hlen : O'.length ≤ 10000000000 ∧ N.length ≤ 10000000000 := by
        have h1 := hD.m
        have h3 := hD.l
        have h2 := HS.out.1
        simp at h1
        omega
      have hx32 : x < 4294967296 := by have := HS.out.1; omega
      have hxk : x / 64 < k := by have := HK.out; have := HN.out; omega
      have hB := hSt1.1.bits
      have HD := Lib.hid hD
      have HST := Lib.hid hSt1
      have HM := Lib.hid hm
      clear hD hSt1 hSt hm
      rw [hq] at hcx hcap hlen HST
      rw [hqn] at hlen
      have HQ := Lib.hid hq
      have HQN := Lib.hid hqn
      have HLEN := Lib.hid hlen
      have hq64 := hlen.1
      clear hq hqn hlen
      by_cases hCx : C x = true
      · go_wp2_with (go_at_call 127; refine (Test_c hB x hxk hx32).mono ?_; rintro e w' ⟨rfl, rfl⟩)
        go_roundg (q + 2 * cnt S.nodes.length C)
        case measure => have h1 := HM.out; have h2 := HQ.out; simp at h1; omega
        case rel => exact ⟨O', N, C, HD.out.skip hCx, by rw [HQ.out], HST.out⟩
      · have hCx : C x = false := by simpa using hCx
        go_wp2_with (first | (go_at_call 127; refine (Test_c hB x hxk hx32).mono ?_; rintro e w' ⟨rfl, rfl⟩) | (go_at_call 115; refine (Set_c hB x hxk hx32).mono ?_; rintro e w1 ⟨rfl, hB1, hF1⟩))
        · have hSt2 := HST.out.setC hB1 hF1
          have hR2 := H.out.1.nix hSt2.1.fr
          have HR2 := Lib.hid hR2
          have HX2 := Lib.hid (HD.out.step H.out.2.ir hCx)
          have hx2 : x < S.nodes.length := hxn
          have HST2 := Lib.hid hSt2
          have hme := cnt_set hCx S.nodes.length hx2
          have hkl := (ph2_len1 (S.nd x) (O', N)).1
          have HME := Lib.hid (And.intro hme hkl)
          have htl := H.out.2.tgt x
          have hsn := HS.out.1
          clear hB hcx hCx hB1 hF1 hSt2 hR2 hxk HST hme hkl hq64
          obtain ⟨l, r', hlr⟩ : ∃ l r', S.nd x = (l, r') := ⟨_, _, rfl⟩
          have HLR := Lib.hid hlr
          have hch := children_c HR2.out x hx2
          rw [hlr] at hch htl
          have hl32 : l < 4294967296 := by have := htl.1; simp at this; omega
          have hr32 : r' < 4294967296 := by have := htl.2; simp at this; omega
          have HCH := Lib.hid hch
          have hbo : ((q + 1) * 4 ≤ 140737488355328 ∧ q + 1 ≤ 1000000000000) ∧ (q + 1 + 1) * 4 ≤ 140737488355328 ∧ q + 1 + 1 ≤ 1000000000000 := by have := HLEN.out.1; omega
          have hbn : ((qn + 1) * 4 ≤ 140737488355328 ∧ qn + 1 ≤ 1000000000000) ∧ (qn + 1 + 1) * 4 ≤ 140737488355328 ∧ qn + 1 + 1 ≤ 1000000000000 := by have := HLEN.out.2; omega
          have HBO := Lib.hid hbo
          have HBN := Lib.hid hbn
          clear hlr hch hbo hbn htl hsn
          have hlr3 := mod_ways l
          have hrr3 := mod_ways r'
          have HLR3 := Lib.hid hlr3
          have HRR3 := Lib.hid hrr3
          clear hlr3 hrr3
          rcases HLR3.out with hl0 | ⟨hl0, hl1⟩ | ⟨hl0, hl1⟩
          · have hlb := ne0_false hl0
            have HL := Lib.hid hl0
            clear hl0
            rcases HRR3.out with hr0 | ⟨hr0, hr1⟩ | ⟨hr0, hr1⟩
            · have hrb := ne0_false hr0
              have HR := Lib.hid hr0
              clear hr0
              go_wp2_with (first | (go_at_call 121; refine HCH.out.mono ?_; rintro e w2 ⟨rfl, hF2⟩; have HST3 := Lib.hid (HST2.out.nix hF2); have RO3 := Lib.hid (St.rowq HQ.out HST3.out.1); have RN3 := Lib.hid (St.rowq HQN.out HST3.out.2.1); clear hF2) | (go_at_call 124; refine (target_c _ _).mono ?_; rintro e w' ⟨rfl, rfl⟩) | (go_at_call 136; refine (strict_c _ _ (by omega)).mono ?_; rintro e w' ⟨rfl, rfl⟩))
              go_roundg ((ph2 (S.nd x) (O', N)).1.length + 2 * cnt S.nodes.length (setB C x))
              case measure => have h1 := HM.out; have h2 := HME.out; simp at h1 h2 ⊢; omega
              case rel =>
                refine ⟨(ph2 (S.nd x) (O', N)).1, (ph2 (S.nd x) (O', N)).2, setB C x, HX2.out, rfl, ?_⟩
                rw [HLR.out]
                simp only [ph2, ph, HL.out, HR.out, if_true, if_false]
                exact HST3.out
            · have hrb := ne0_true hr0
              have hrs := beq_iff_eq.2 hr1
              have HR := Lib.hid (And.intro hr0 hr1)
              clear hr0 hr1
              go_wp2_with (first | (go_at_call 121; refine HCH.out.mono ?_; rintro e w2 ⟨rfl, hF2⟩; have HST3 := Lib.hid (HST2.out.nix hF2); have RO3 := Lib.hid (St.rowq HQ.out HST3.out.1); have RN3 := Lib.hid (St.rowq HQN.out HST3.out.2.1); clear hF2) | (go_at_call 124; refine (target_c _ _).mono ?_; rintro e w' ⟨rfl, rfl⟩) | (go_at_call 136; refine (strict_c _ _ (by omega)).mono ?_; rintro e w' ⟨rfl, rfl⟩) | (at_builtin; refine wpList_app _ rfl (.tmp 76) (.tmp 79) 105 rfl 108 _ 1 4 Try.underlying105 info_u32 rfl (by decide) _ qn (u32Cells N) rfl (RN3.out.alloc _) ⟨w2.heap.size, 0, none⟩ 1 1 (u32Cell (r' / 2)) rfl rfl (by decide) (cells_new _ _ _) (u32_one _) HBN.out.1.1 HBN.out.1.2 ?_; intro g4 cap4 w4 hown4 hgrow4 hnew4; have hS4 := (St2.app (by simp [HQ.out, HQN.out]) HST3.out.swap (Fr.alloc _ _ _) hown4 hgrow4 hnew4).swap; have HST4 := Lib.hid hS4; have RO4 := Lib.hid (St.rowq (q := q) (by simp [HQ.out]) hS4.1); have RN4 := Lib.hid (St.rowq (q := (qn + 1)) (by simp [HQN.out]) hS4.2.1); clear hown4 hgrow4 hnew4 hS4))
              go_roundg ((ph2 (S.nd x) (O', N)).1.length + 2 * cnt S.nodes.length (setB C x))
              case measure => have h1 := HM.out; have h2 := HME.out; simp at h1 h2 ⊢; omega
              case rel =>
                refine ⟨(ph2 (S.nd x) (O', N)).1, (ph2 (S.nd x) (O', N)).2, setB C x, HX2.out, rfl, ?_⟩
                rw [HLR.out]
                simp only [ph2, ph, HL.out, HR.out, if_true, if_false]
                exact HST4.out
            · have hrb := ne0_true hr0
              have hrs := beq_eq_false_iff_ne.2 hr1
              have HR := Lib.hid (And.intro hr0 hr1)
              clear hr0 hr1
              go_wp2_with (first | (go_at_call 121; refine HCH.out.mono ?_; rintro e w2 ⟨rfl, hF2⟩; have HST3 := Lib.hid (HST2.out.nix hF2); have RO3 := Lib.hid (St.rowq HQ.out HST3.out.1); have RN3 := Lib.hid (St.rowq HQN.out HST3.out.2.1); clear hF2) | (go_at_call 124; refine (target_c _ _).mono ?_; rintro e w' ⟨rfl, rfl⟩) | (go_at_call 136; refine (strict_c _ _ (by omega)).mono ?_; rintro e w' ⟨rfl, rfl⟩) | (at_builtin; refine wpList_app _ rfl (.tmp 81) (.tmp 84) 105 rfl 108 _ 1 4 Try.underlying105 info_u32 rfl (by decide) _ q (u32Cells O') rfl (RO3.out.alloc _) ⟨w2.heap.size, 0, none⟩ 1 1 (u32Cell (r' / 2)) rfl rfl (by decide) (cells_new _ _ _) (u32_one _) HBO.out.1.1 HBO.out.1.2 ?_; intro g4 cap4 w4 hown4 hgrow4 hnew4; have hS4 := St2.app (by simp [HQ.out, HQN.out]) HST3.out (Fr.alloc _ _ _) hown4 hgrow4 hnew4; have HST4 := Lib.hid hS4; have RO4 := Lib.hid (St.rowq (q := (q + 1)) (by simp [HQ.out]) hS4.1); have RN4 := Lib.hid (St.rowq (q := qn) (by simp [HQN.out]) hS4.2.1); clear hown4 hgrow4 hnew4 hS4))
              go_roundg ((ph2 (S.nd x) (O', N)).1.length + 2 * cnt S.nodes.length (setB C x))
              case measure => have h1 := HM.out; have h2 := HME.out; simp at h1 h2 ⊢; omega
              case rel =>
                refine ⟨(ph2 (S.nd x) (O', N)).1, (ph2 (S.nd x) (O', N)).2, setB C x, HX2.out, rfl, ?_⟩
                rw [HLR.out]
                simp only [ph2, ph, HL.out, HR.out, if_true, if_false]
                exact HST4.out
          · have hlb := ne0_true hl0
            have hls := beq_iff_eq.2 hl1
            have HL := Lib.hid (And.intro hl0 hl1)
            clear hl0 hl1
            rcases HRR3.out with hr0 | ⟨hr0, hr1⟩ | ⟨hr0, hr1⟩
            · have hrb := ne0_false hr0
              have HR := Lib.hid hr0
              clear hr0
              go_wp2_with (first | (go_at_call 121; refine HCH.out.mono ?_; rintro e w2 ⟨rfl, hF2⟩; have HST3 := Lib.hid (HST2.out.nix hF2); have RO3 := Lib.hid (St.rowq HQ.out HST3.out.1); have RN3 := Lib.hid (St.rowq HQN.out HST3.out.2.1); clear hF2) | (go_at_call 124; refine (target_c _ _).mono ?_; rintro e w' ⟨rfl, rfl⟩) | (go_at_call 136; refine (strict_c _ _ (by omega)).mono ?_; rintro e w' ⟨rfl, rfl⟩) | (at_builtin; refine wpList_app _ rfl (.tmp 62) (.tmp 65) 105 rfl 108 _ 1 4 Try.underlying105 info_u32 rfl (by decide) _ qn (u32Cells N) rfl (RN3.out.alloc _) ⟨w2.heap.size, 0, none⟩ 1 1 (u32Cell (l / 2)) rfl rfl (by decide) (cells_new _ _ _) (u32_one _) HBN.out.1.1 HBN.out.1.2 ?_; intro g4 cap4 w4 hown4 hgrow4 hnew4; have hS4 := (St2.app (by simp [HQ.out, HQN.out]) HST3.out.swap (Fr.alloc _ _ _) hown4 hgrow4 hnew4).swap; have HST4 := Lib.hid hS4; have RO4 := Lib.hid (St.rowq (q := q) (by simp [HQ.out]) hS4.1); have RN4 := Lib.hid (St.rowq (q := (qn + 1)) (by simp [HQN.out]) hS4.2.1); clear hown4 hgrow4 hnew4 hS4))
              go_roundg ((ph2 (S.nd x) (O', N)).1.length + 2 * cnt S.nodes.length (setB C x))
              case measure => have h1 := HM.out; have h2 := HME.out; simp at h1 h2 ⊢; omega
              case rel =>
                refine ⟨(ph2 (S.nd x) (O', N)).1, (ph2 (S.nd x) (O', N)).2, setB C x, HX2.out, rfl, ?_⟩
                rw [HLR.out]
                simp only [ph2, ph, HL.out, HR.out, if_true, if_false]
                exact HST4.out
            · have hrb := ne0_true hr0
              have hrs := beq_iff_eq.2 hr1
              have HR := Lib.hid (And.intro hr0 hr1)
              clear hr0 hr1
              go_wp2_with (first | (go_at_call 121; refine HCH.out.mono ?_; rintro e w2 ⟨rfl, hF2⟩; have HST3 := Lib.hid (HST2.out.nix hF2); have RO3 := Lib.hid (St.rowq HQ.out HST3.out.1); have RN3 := Lib.hid (St.rowq HQN.out HST3.out.2.1); clear hF2) | (go_at_call 124; refine (target_c _ _).mono ?_; rintro e w' ⟨rfl, rfl⟩) | (go_at_call 136; refine (strict_c _ _ (by omega)).mono ?_; rintro e w' ⟨rfl, rfl⟩) | (at_builtin; refine wpList_app _ rfl (.tmp 62) (.tmp 65) 105 rfl 108 _ 1 4 Try.underlying105 info_u32 rfl (by decide) _ qn (u32Cells N) rfl (RN3.out.alloc _) ⟨w2.heap.size, 0, none⟩ 1 1 (u32Cell (l / 2)) rfl rfl (by decide) (cells_new _ _ _) (u32_one _) HBN.out.1.1 HBN.out.1.2 ?_; intro g4 cap4 w4 hown4 hgrow4 hnew4; have hS4 := (St2.app (by simp [HQ.out, HQN.out]) HST3.out.swap (Fr.alloc _ _ _) hown4 hgrow4 hnew4).swap; have HST4 := Lib.hid hS4; have RO4 := Lib.hid (St.rowq (q := q) (by simp [HQ.out]) hS4.1); have RN4 := Lib.hid (St.rowq (q := (qn + 1)) (by simp [HQN.out]) hS4.2.1); clear hown4 hgrow4 hnew4 hS4) | (at_builtin; refine wpList_app _ rfl (.tmp 76) (.tmp 79) 105 rfl 108 _ 1 4 Try.underlying105 info_u32 rfl (by decide) _ (qn + 1) (u32Cells (N ++ [l / 2])) rfl (RN4.out.alloc _) ⟨w4.heap.size, 0, none⟩ 1 1 (u32Cell (r' / 2)) rfl rfl (by decide) (cells_new _ _ _) (u32_one _) HBN.out.2.1 HBN.out.2.2 ?_; intro g5 cap5 w5 hown5 hgrow5 hnew5; have hS5 := (St2.app (by simp [HQ.out, HQN.out]) HST4.out.swap (Fr.alloc _ _ _) hown5 hgrow5 hnew5).swap; have HST5 := Lib.hid hS5; have RO5 := Lib.hid (St.rowq (q := q) (by simp [HQ.out]) hS5.1); have RN5 := Lib.hid (St.rowq (q := ((qn + 1) + 1)) (by simp [HQN.out]) hS5.2.1); clear hown5 hgrow5 hnew5 hS5))
              go_roundg ((ph2 (S.nd x) (O', N)).1.length + 2 * cnt S.nodes.length (setB C x))
              case measure => have h1 := HM.out; have h2 := HME.out; simp at h1 h2 ⊢; omega
              case rel =>
                refine ⟨(ph2 (S.nd x) (O', N)).1, (ph2 (S.nd x) (O', N)).2, setB C x, HX2.out, rfl, ?_⟩
                rw [HLR.out]
                simp only [ph2, ph, HL.out, HR.out, if_true, if_false]
                exact HST5.out
            · have hrb := ne0_true hr0
              have hrs := beq_eq_false_iff_ne.2 hr1
              have HR := Lib.hid (And.intro hr0 hr1)
              clear hr0 hr1
              go_wp2_with (first | (go_at_call 121; refine HCH.out.mono ?_; rintro e w2 ⟨rfl, hF2⟩; have HST3 := Lib.hid (HST2.out.nix hF2); have RO3 := Lib.hid (St.rowq HQ.out HST3.out.1); have RN3 := Lib.hid (St.rowq HQN.out HST3.out.2.1); clear hF2) | (go_at_call 124; refine (target_c _ _).mono ?_; rintro e w' ⟨rfl, rfl⟩) | (go_at_call 136; refine (strict_c _ _ (by omega)).mono ?_; rintro e w' ⟨rfl, rfl⟩) | (at_builtin; refine wpList_app _ rfl (.tmp 62) (.tmp 65) 105 rfl 108 _ 1 4 Try.underlying105 info_u32 rfl (by decide) _ qn (u32Cells N) rfl (RN3.out.alloc _) ⟨w2.heap.size, 0, none⟩ 1 1 (u32Cell (l / 2)) rfl rfl (by decide) (cells_new _ _ _) (u32_one _) HBN.out.1.1 HBN.out.1.2 ?_; intro g4 cap4 w4 hown4 hgrow4 hnew4; have hS4 := (St2.app (by simp [HQ.out, HQN.out]) HST3.out.swap (Fr.alloc _ _ _) hown4 hgrow4 hnew4).swap; have HST4 := Lib.hid hS4; have RO4 := Lib.hid (St.rowq (q := q) (by simp [HQ.out]) hS4.1); have RN4 := Lib.hid (St.rowq (q := (qn + 1)) (by simp [HQN.out]) hS4.2.1); clear hown4 hgrow4 hnew4 hS4) | (at_builtin; refine wpList_app _ rfl (.tmp 81) (.tmp 84) 105 rfl 108 _ 1 4 Try.underlying105 info_u32 rfl (by decide) _ q (u32Cells O') rfl (RO4.out.alloc _) ⟨w4.heap.size, 0, none⟩ 1 1 (u32Cell (r' / 2)) rfl rfl (by decide) (cells_new _ _ _) (u32_one _) HBO.out.1.1 HBO.out.1.2 ?_; intro g5 cap5 w5 hown5 hgrow5 hnew5; have hS5 := St2.app (by simp [HQ.out, HQN.out]) HST4.out (Fr.alloc _ _ _) hown5 hgrow5 hnew5; have HST5 := Lib.hid hS5; have RO5 := Lib.hid (St.rowq (q := (q + 1)) (by simp [HQ.out]) hS5.1); have RN5 := Lib.hid (St.rowq (q := (qn + 1)) (by simp [HQN.out]) hS5.2.1); clear hown5 hgrow5 hnew5 hS5))
              go_roundg ((ph2 (S.nd x) (O', N)).1.length + 2 * cnt S.nodes.length (setB C x))
              case measure => have h1 := HM.out; have h2 := HME.out; simp at h1 h2 ⊢; omega
              case rel =>
                refine ⟨(ph2 (S.nd x) (O', N)).1, (ph2 (S.nd x) (O', N)).2, setB C x, HX2.out, rfl, ?_⟩
                rw [HLR.out]
                simp only [ph2, ph, HL.out, HR.out, if_true, if_false]
                exact HST5.out
          · have hlb := ne0_true hl0
            have hls := beq_eq_false_iff_ne.2 hl1
            have HL := Lib.hid (And.intro hl0 hl1)
            clear hl0 hl1
            rcases HRR3.out with hr0 | ⟨hr0, hr1⟩ | ⟨hr0, hr1⟩
            · have hrb := ne0_false hr0
              have HR := Lib.hid hr0
              clear hr0
              go_wp2_with (first | (go_at_call 121; refine HCH.out.mono ?_; rintro e w2 ⟨rfl, hF2⟩; have HST3 := Lib.hid (HST2.out.nix hF2); have RO3 := Lib.hid (St.rowq HQ.out HST3.out.1); have RN3 := Lib.hid (St.rowq HQN.out HST3.out.2.1); clear hF2) | (go_at_call 124; refine (target_c _ _).mono ?_; rintro e w' ⟨rfl, rfl⟩) | (go_at_call 136; refine (strict_c _ _ (by omega)).mono ?_; rintro e w' ⟨rfl, rfl⟩) | (at_builtin; refine wpList_app _ rfl (.tmp 67) (.tmp 70) 105 rfl 108 _ 1 4 Try.underlying105 info_u32 rfl (by decide) _ q (u32Cells O') rfl (RO3.out.alloc _) ⟨w2.heap.size, 0, none⟩ 1 1 (u32Cell (l / 2)) rfl rfl (by decide) (cells_new _ _ _) (u32_one _) HBO.out.1.1 HBO.out.1.2 ?_; intro g4 cap4 w4 hown4 hgrow4 hnew4; have hS4 := St2.app (by simp [HQ.out, HQN.out]) HST3.out (Fr.alloc _ _ _) hown4 hgrow4 hnew4; have HST4 := Lib.hid hS4; have RO4 := Lib.hid (St.rowq (q := (q + 1)) (by simp [HQ.out]) hS4.1); have RN4 := Lib.hid (St.rowq (q := qn) (by simp [HQN.out]) hS4.2.1); clear hown4 hgrow4 hnew4 hS4))
              go_roundg ((ph2 (S.nd x) (O', N)).1.length + 2 * cnt S.nodes.length (setB C x))
              case measure => have h1 := HM.out; have h2 := HME.out; simp at h1 h2 ⊢; omega
              case rel =>
                refine ⟨(ph2 (S.nd x) (O', N)).1, (ph2 (S.nd x) (O', N)).2, setB C x, HX2.out, rfl, ?_⟩
                rw [HLR.out]
                simp only [ph2, ph, HL.out, HR.out, if_true, if_false]
                exact HST4.out
            · have hrb := ne0_true hr0
              have hrs := beq_iff_eq.2 hr1
              have HR := Lib.hid (And.intro hr0 hr1)
              clear hr0 hr1
              go_wp2_with (first | (go_at_call 121; refine HCH.out.mono ?_; rintro e w2 ⟨rfl, hF2⟩; have HST3 := Lib.hid (HST2.out.nix hF2); have RO3 := Lib.hid (St.rowq HQ.out HST3.out.1); have RN3 := Lib.hid (St.rowq HQN.out HST3.out.2.1); clear hF2) | (go_at_call 124; refine (target_c _ _).mono ?_; rintro e w' ⟨rfl, rfl⟩) | (go_at_call 136; refine (strict_c _ _ (by omega)).mono ?_; rintro e w' ⟨rfl, rfl⟩) | (at_builtin; refine wpList_app _ rfl (.tmp 67) (.tmp 70) 105 rfl 108 _ 1 4 Try.underlying105 info_u32 rfl (by decide) _ q (u32Cells O') rfl (RO3.out.alloc _) ⟨w2.heap.size, 0, none⟩ 1 1 (u32Cell (l / 2)) rfl rfl (by decide) (cells_new _ _ _) (u32_one _) HBO.out.1.1 HBO.out.1.2 ?_; intro g4 cap4 w4 hown4 hgrow4 hnew4; have hS4 := St2.app (by simp [HQ.out, HQN.out]) HST3.out (Fr.alloc _ _ _) hown4 hgrow4 hnew4; have HST4 := Lib.hid hS4; have RO4 := Lib.hid (St.rowq (q := (q + 1)) (by simp [HQ.out]) hS4.1); have RN4 := Lib.hid (St.rowq (q := qn) (by simp [HQN.out]) hS4.2.1); clear hown4 hgrow4 hnew4 hS4) | (at_builtin; refine wpList_app _ rfl (.tmp 76) (.tmp 79) 105 rfl 108 _ 1 4 Try.underlying105 info_u32 rfl (by decide) _ qn (u32Cells N) rfl (RN4.out.alloc _) ⟨w4.heap.size, 0, none⟩ 1 1 (u32Cell (r' / 2)) rfl rfl (by decide) (cells_new _ _ _) (u32_one _) HBN.out.1.1 HBN.out.1.2 ?_; intro g5 cap5 w5 hown5 hgrow5 hnew5; have hS5 := (St2.app (by simp [HQ.out, HQN.out]) HST4.out.swap (Fr.alloc _ _ _) hown5 hgrow5 hnew5).swap; have HST5 := Lib.hid hS5; have RO5 := Lib.hid (St.rowq (q := (q + 1)) (by simp [HQ.out]) hS5.1); have RN5 := Lib.hid (St.rowq (q := (qn + 1)) (by simp [HQN.out]) hS5.2.1); clear hown5 hgrow5 hnew5 hS5))
              go_roundg ((ph2 (S.nd x) (O', N)).1.length + 2 * cnt S.nodes.length (setB C x))
              case measure => have h1 := HM.out; have h2 := HME.out; simp at h1 h2 ⊢; omega
              case rel =>
                refine ⟨(ph2 (S.nd x) (O', N)).1, (ph2 (S.nd x) (O', N)).2, setB C x, HX2.out, rfl, ?_⟩
                rw [HLR.out]
                simp only [ph2, ph, HL.out, HR.out, if_true, if_false]
                exact HST5.out
            · have hrb := ne0_true hr0
              have hrs := beq_eq_false_iff_ne.2 hr1
              have HR := Lib.hid (And.intro hr0 hr1)
              clear hr0 hr1
              go_wp2_with (first | (go_at_call 121; refine HCH.out.mono ?_; rintro e w2 ⟨rfl, hF2⟩; have HST3 := Lib.hid (HST2.out.nix hF2); have RO3 := Lib.hid (St.rowq HQ.out HST3.out.1); have RN3 := Lib.hid (St.rowq HQN.out HST3.out.2.1); clear hF2) | (go_at_call 124; refine (target_c _ _).mono ?_; rintro e w' ⟨rfl, rfl⟩) | (go_at_call 136; refine (strict_c _ _ (by omega)).mono ?_; rintro e w' ⟨rfl, rfl⟩) | (at_builtin; refine wpList_app _ rfl (.tmp 67) (.tmp 70) 105 rfl 108 _ 1 4 Try.underlying105 info_u32 rfl (by decide) _ q (u32Cells O') rfl (RO3.out.alloc _) ⟨w2.heap.size, 0, none⟩ 1 1 (u32Cell (l / 2)) rfl rfl (by decide) (cells_new _ _ _) (u32_one _) HBO.out.1.1 HBO.out.1.2 ?_; intro g4 cap4 w4 hown4 hgrow4 hnew4; have hS4 := St2.app (by simp [HQ.out, HQN.out]) HST3.out (Fr.alloc _ _ _) hown4 hgrow4 hnew4; have HST4 := Lib.hid hS4; have RO4 := Lib.hid (St.rowq (q := (q + 1)) (by simp [HQ.out]) hS4.1); have RN4 := Lib.hid (St.rowq (q := qn) (by simp [HQN.out]) hS4.2.1); clear hown4 hgrow4 hnew4 hS4) | (at_builtin; refine wpList_app _ rfl (.tmp 81) (.tmp 84) 105 rfl 108 _ 1 4 Try.underlying105 info_u32 rfl (by decide) _ (q + 1) (u32Cells (O' ++ [l / 2])) rfl (RO4.out.alloc _) ⟨w4.heap.size, 0, none⟩ 1 1 (u32Cell (r' / 2)) rfl rfl (by decide) (cells_new _ _ _) (u32_one _) HBO.out.2.1 HBO.out.2.2 ?_; intro g5 cap5 w5 hown5 hgrow5 hnew5; have hS5 := St2.app (by simp [HQ.out, HQN.out]) HST4.out (Fr.alloc _ _ _) hown5 hgrow5 hnew5; have HST5 := Lib.hid hS5; have RO5 := Lib.hid (St.rowq (q := ((q + 1) + 1)) (by simp [HQ.out]) hS5.1); have RN5 := Lib.hid (St.rowq (q := qn) (by simp [HQN.out]) hS5.2.1); clear hown5 hgrow5 hnew5 hS5))
              go_roundg ((ph2 (S.nd x) (O', N)).1.length + 2 * cnt S.nodes.length (setB C x))
              case measure => have h1 := HM.out; have h2 := HME.out; simp at h1 h2 ⊢; omega
              case rel =>
                refine ⟨(ph2 (S.nd x) (O', N)).1, (ph2 (S.nd x) (O', N)).2, setB C x, HX2.out, rfl, ?_⟩
                rw [HLR.out]
                simp only [ph2, ph, HL.out, HR.out, if_true, if_false]
                exact HST5.out
end Go.Proofs.Ytapnmgkpljlgmaa
namespace Go.Proofs.Ytapnmgkpljlgmaa
open Go.RowKit

set_option maxHeartbeats 400000 in
theorem reaches_c {w : World} {p : Nat} {S : PS} {L : Lay} (h : Rep w p S L) (wf : WF0 S) (i j : Nat) (strict : Bool) (hi : i < S.nodes.length) :
    Calls Try.prog 106 #[.pointer (some ⟨p, 0, none⟩), .int .u32 (i : Nat), .int .u32 (j : Nat), .bool strict] w (Look w (.bool (reachB S.nd i j strict))) := by
  have fa := Fr.alloc w (.cells #[.int .u32 (j : Nat)] 108) Nix
  have h1 := h.nix fa
  have hc : (w.alloc (.cells #[.int .u32 (j : Nat)] 108)).cell? ⟨w.heap.size, 0, none⟩ = some (.int .u32 (j : Nat)) := cells_new w [.int .u32 (j : Nat)] _ 0 _ rfl
  have HF := Lib.hid fa
  cases strict
  · have hd := dfs_false h1 wf i j w.heap.size hi hc
    have HD := Lib.hid hd
    clear hd h h1 hc wf fa
    go_enter Try.func106, Try.ntmps106
    go_wp2_with (go_at_call 129; refine HD.out.mono ?_; rintro e w' ⟨rfl, hF⟩)
    go_ret
    exact ⟨rfl, HF.out.trans hF fun _ e => .inl e⟩
  · have hd := dfs_true h1 wf i j w.heap.size hi hc
    have HD := Lib.hid hd
    clear hd h h1 hc wf fa
    go_enter Try.func106, Try.ntmps106
    go_wp2_with (go_at_call 129; refine HD.out.mono ?_; rintro e w' ⟨rfl, hF⟩)
    go_ret
    exact ⟨rfl, HF.out.trans hF fun _ e => .inl e⟩

/-- The roots' value: a slice of so many elements; an element is in its cell. -/
theorem Rep.roots_at {w : World} {p : Nat} {S : PS} {L : Lay} (h : Rep w p S L) (hn : 0 < L.rl.length) :
    ∃ g cap, L.rv = .slice (some ⟨g, 0, none⟩) L.rl.length cap ∧ (L.rl.length : Int) ≤ 9223372036854775807 ∧ L.rl.length ≤ cap ∧ ∀ k, k < L.rl.length → w.cell? ⟨g, k, none⟩ = some (.int .u32 (L.rl.getD k 0 : Nat)) ∧ w.frozen? ⟨g, k, none⟩ = false := by
  obtain ⟨g, cap, hv, h1, h2⟩ := row_at h.hr hn
  have hr := h.hr
  rw [hv] at hr
  refine ⟨g, cap, hv, maxLen_int (Nat.le_trans h1 h2), h1, fun k hk => ⟨?_, hr.frozenAt k⟩⟩
  rw [hr.cellAt k (by omega), u32_cells_eq]
  simp [hk]
theorem Rep.roots_none {w : World} {p : Nat} {S : PS} {L : Lay} (h : Rep w p S L) (hn : L.rl.length = 0) : ∃ a c, L.rv = .slice a 0 c ∧ ∀ r, S.rt r = false := by
  have hl : L.rl = [] := List.eq_nil_of_length_eq_zero hn
  have hrt : ∀ r, S.rt r = false := by
    intro r
    cases e : S.rt r
    · rfl
    · have := (h.rm r).2 e; rw [hl] at this; simp at this
  rcases h.hr.2 with ⟨hv, _⟩ | ⟨g, cap, cur, hv, _⟩
  · exact ⟨none, 0, hv, hrt⟩
  · exact ⟨_, cap, by rw [hv, hn], hrt⟩

set_option maxHeartbeats 400000 in
theorem isroot_c {w : World} {p : Nat} {S : PS} {L : Lay} (h : Rep w p S L) (r : Nat) :
    Calls Try.prog 137 #[.pointer (some ⟨p, 0, none⟩), .int .u32 (r : Nat)] w (Look w (.bool (S.rt r))) := by
  have hc : w.cell? ⟨p, 4, none⟩ = some L.rv := by rw [cell_block h.hp]; rfl
  rcases Nat.eq_zero_or_pos L.rl.length with hn | hn
  · obtain ⟨a, c, hv, hrt⟩ := h.roots_none hn
    have HR := Lib.hid (hrt r)
    rw [hv] at hc
    clear h hn hv hrt
    go_enter Try.func137, Try.ntmps137
    go_wp2
    go_loopg [11] 0 (fun m i wr => i = .int .i64 0 ∧ wr = w)
    case atStart => exact ⟨rfl, rfl⟩
    case round =>
      obtain ⟨rfl, rfl⟩ := hrel
      go_wp2
      go_ret
      exact ⟨ret_bool HR.out.symm, Fr.refl _ _⟩
  · obtain ⟨g, cap, hv, hm, hcap, hcells⟩ := h.roots_at hn
    rw [hv] at hc
    have HC := Lib.hid hcells
    have HM := Lib.hid h.rm
    clear h hn hv hcells hcap
    obtain ⟨n, hnl⟩ : ∃ n, L.rl.length = n := ⟨_, rfl⟩
    rw [hnl] at hc hm
    have HN := Lib.hid hnl
    clear hnl
    go_enter Try.func137, Try.ntmps137
    go_wp2
    go_loopg [11] n (fun m i wr => wr = w ∧ ∃ k : Nat, m + k = n ∧ i = .int .i64 k ∧ ∀ j, j < k → L.rl.getD j 0 ≠ r)
    case atStart => exact ⟨rfl, 0, rfl, rfl, by simp⟩
    case round =>
      obtain ⟨rfl, k, hk, rfl, hne⟩ := hrel
      have HK := Lib.hid (And.intro hk hne)
      by_cases hlt : k < n
      · have hcell := (HC.out k (by rw [HN.out]; exact hlt)).1
        obtain ⟨x, hx⟩ : ∃ x, L.rl.getD k 0 = x := ⟨_, rfl⟩
        rw [hx] at hcell
        have HX := Lib.hid hx
        clear hk hne hx
        by_cases hxr : x = r
        · have hb : ((x : Int) == (r : Int)) = true := by simp [hxr]
          have HXR := Lib.hid hxr
          clear hxr
          go_wp2
          go_ret
          refine ⟨ret_bool ?_, Fr.refl _ _⟩
          have hmem : L.rl.getD k 0 ∈ L.rl := by
            rw [List.getD_eq_getElem?_getD, List.getElem?_eq_getElem (by rw [HN.out]; exact hlt)]; simp
          rw [HX.out, HXR.out] at hmem
          exact ((HM.out r).1 hmem).symm
        · have hb : ((x : Int) == (r : Int)) = false := by simp; omega
          have HXR := Lib.hid hxr
          clear hxr
          go_wp2
          go_roundg (n - (k + 1))
          case measure => have := HK.out.1; omega
          case rel =>
            refine ⟨rfl, k + 1, by omega, by go_num, fun j hj => ?_⟩
            by_cases hjk : j = k
            · subst hjk; rw [HX.out]; exact HXR.out
            · exact HK.out.2 j (by omega)
      · have hkn : k = n := by omega
        subst hkn
        clear hk hne
        go_wp2
        go_ret
        refine ⟨ret_bool ?_, Fr.refl _ _⟩
        cases e : S.rt r
        · rfl
        · have hmem := (HM.out r).2 e
          obtain ⟨j, hj, hje⟩ := List.getElem_of_mem hmem
          exact absurd (by rw [List.getD_eq_getElem?_getD, List.getElem?_eq_getElem hj, hje]; rfl) (HK.out.2 j (by rw [HN.out] at hj; exact hj))

set_option maxHeartbeats 400000 in
theorem findroot_c {w : World} {p : Nat} {S : PS} {L : Lay} (h : Rep w p S L) (wf : WF0 S) (i : Nat) (hrl : ∀ r, S.rt r = true → r < S.nodes.length) (hex : ∃ r, S.rt r = true ∧ reachB S.nd r i false = true) :
    Calls Try.prog 112 #[.pointer (some ⟨p, 0, none⟩), .int .u32 (i : Nat)] w fun e w' => ∃ r : Nat, (S.rt r = true ∧ reachB S.nd r i false = true) ∧ Look w (.int .u32 (r : Nat)) e w' := by
  have hc : w.cell? ⟨p, 4, none⟩ = some L.rv := by rw [cell_block h.hp]; rfl
  have hn : 0 < L.rl.length := by
    obtain ⟨r, hr, _⟩ := hex
    have := (h.rm r).2 hr
    exact List.length_pos_of_mem this
  obtain ⟨g, cap, hv, hm, hcap, hcells⟩ := h.roots_at hn
  have hgo : g < w.heap.size := h.lt g (h.orr g (by rw [hv]; rfl))
  rw [hv] at hc
  have HC := Lib.hid hcells
  have HM := Lib.hid h.rm
  have H := Lib.hid (And.intro h wf)
  have HE := Lib.hid hex
  have HRL := Lib.hid hrl
  have HGO := Lib.hid hgo
  clear h hn hv hcells hcap wf hex hrl hgo
  obtain ⟨n, hnl⟩ : ∃ n, L.rl.length = n := ⟨_, rfl⟩
  rw [hnl] at hc hm
  have HN := Lib.hid hnl
  clear hnl
  go_enter Try.func112, Try.ntmps112
  go_wp2
  clear hc
  go_loopg [12] n (fun m u wr => Fr w wr Nix ∧ ∃ k : Nat, m + k = n ∧ u = .int .i64 k ∧ ∀ j, j < k → reachB S.nd (L.rl.getD j 0) i false = false)
  case atStart => exact ⟨Fr.refl _ _, 0, rfl, rfl, by simp⟩
  case round =>
    obtain ⟨hF, k, hk, rfl, hne⟩ := hrel
    have HK := Lib.hid (And.intro hk (And.intro hne hF))
    by_cases hlt : k < n
    · have hcell := (HC.out k (by rw [HN.out]; exact hlt)).1
      have hcell : wr.cell? ⟨g, k, none⟩ = some (.int .u32 (L.rl.getD k 0 : Nat)) := (hF.cell (a := ⟨g, k, none⟩) HGO.out fun e => e).trans hcell
      obtain ⟨x, hx⟩ : ∃ x, L.rl.getD k 0 = x := ⟨_, rfl⟩
      rw [hx] at hcell
      have hmem : x ∈ L.rl := by
        rw [← hx, List.getD_eq_getElem?_getD, List.getElem?_eq_getElem (by rw [HN.out]; exact hlt)]; simp
      have hrt := (HM.out x).1 hmem
      have hre := reaches_c (H.out.1.nix hF) H.out.2 x i false (HRL.out x hrt)
      have HX := Lib.hid (And.intro hx hrt)
      have HRE := Lib.hid hre
      clear hk hne hx hrt hre hmem hF
      obtain ⟨b, hb⟩ : ∃ b, reachB S.nd x i false = b := ⟨_, rfl⟩
      rw [hb] at HRE
      have HB := Lib.hid hb
      clear hb
      cases b
      · go_wp2_with (go_at_call 106; refine HRE.out.mono ?_; rintro e w2 ⟨rfl, hF2⟩; have HF2 := Lib.hid hF2; clear hF2)
        go_roundg (n - (k + 1))
        case measure => have := HK.out.1; omega
        case rel =>
          refine ⟨HK.out.2.2.trans HF2.out fun _ e => .inl e, k + 1, by omega, by go_num, fun j hj => ?_⟩
          by_cases hjk : j = k
          · subst hjk; rw [HX.out.1]; exact HB.out
          · exact HK.out.2.1 j (by omega)
      · go_wp2_with (go_at_call 106; refine HRE.out.mono ?_; rintro e w2 ⟨rfl, hF2⟩; have HF2 := Lib.hid hF2; clear hF2)
        go_ret
        exact ⟨x, ⟨HX.out.2, HB.out⟩, rfl, HK.out.2.2.trans HF2.out fun _ e => .inl e⟩
    · exfalso
      obtain ⟨r, hr, hri⟩ := HE.out
      obtain ⟨j, hj, hje⟩ := List.getElem_of_mem ((HM.out r).2 hr)
      have := hne j (by rw [HN.out] at hj; omega)
      rw [List.getD_eq_getElem?_getD, List.getElem?_eq_getElem hj, hje] at this
      simp only [Option.getD_some] at this
      rw [this] at hri; cases hri

theorem u32_set {l : List Nat} : ∀ {i : Nat} (e : Nat), i < l.length → (u32Cells l).set i (.int .u32 (e : Nat)) = u32Cells (l.set i e) := by
  intro i e h
  rw [u32_cells_eq, u32_cells_eq, List.map_set]

theorem nodup_set {l : List Nat} (h : l.Nodup) {e : Nat} (he : e ∉ l) : ∀ k, (l.set k e).Nodup := by
  induction l with
  | nil => intro k; simp
  | cons a l ih =>
    intro k
    simp only [List.nodup_cons] at h
    simp only [List.mem_cons, not_or] at he
    cases k with
    | zero => simp only [List.set_cons_zero, List.nodup_cons]; exact ⟨he.2, h.2⟩
    | succ k =>
      simp only [List.set_cons_succ, List.nodup_cons]
      refine ⟨fun hm => ?_, ih h.2 he.2 k⟩
      rcases List.mem_or_eq_of_mem_set hm with h1 | h1
      · exact h.1 h1
      · exact he.1 h1.symm
theorem mem_set_nodup {l : List Nat} (h : l.Nodup) {e o : Nat} : ∀ {k : Nat}, l[k]? = some o → ∀ r, r ∈ l.set k e ↔ r = e ∨ (r ∈ l ∧ r ≠ o) := by
  induction l with
  | nil => intro k hk; simp at hk
  | cons a l ih =>
    intro k hk r
    simp only [List.nodup_cons] at h
    cases k with
    | zero =>
      simp at hk; subst hk
      simp only [List.set_cons_zero, List.mem_cons]
      constructor
      · rintro (h1 | h1)
        · exact .inl h1
        · exact .inr ⟨.inr h1, fun e => h.1 (e ▸ h1)⟩
      · rintro (h1 | ⟨h1 | h1, h2⟩)
        · exact .inl h1
        · exact absurd h1 h2
        · exact .inr h1
    | succ k =>
      have hk' : l[k]? = some o := by simpa using hk
      simp only [List.set_cons_succ, List.mem_cons, ih h.2 hk']
      have hao : a ≠ o := fun e => h.1 (e ▸ List.mem_of_getElem? hk')
      constructor
      · rintro (h1 | h1 | ⟨h1, h2⟩)
        · exact .inr ⟨.inl h1, h1 ▸ hao⟩
        · exact .inl h1
        · exact .inr ⟨.inr h1, h2⟩
      · rintro (h1 | ⟨h1 | h1, h2⟩)
        · exact .inr (.inl h1)
        · exact .inl h1
        · exact .inr (.inr ⟨h1, h2⟩)

/-- A root is stored over another one. -/
theorem Rep.store_root {w : World} {p : Nat} {S : PS} {L : Lay} (h : Rep w p S L) {g cap k o e : Nat} (hv : L.rv = .slice (some ⟨g, 0, none⟩) L.rl.length cap) (hk : k < L.rl.length) (ho : L.rl.getD k 0 = o) (he : S.rt e = false) :
    ∃ L', Rep (w.setCell ⟨g, k, none⟩ (.int .u32 (e : Nat))) p { S with rt := upd (upd S.rt o false) e true } L' ∧ Ext w (w.setCell ⟨g, k, none⟩ (.int .u32 (e : Nat))) L L' := by
  have hr := h.hr
  rw [hv] at hr
  obtain ⟨s1, s2⟩ := hr.stored k (.int .u32 (e : Nat))
  rw [u32_set e hk] at s1
  have hgo : L.own g := h.orr g (by rw [hv]; rfl)
  have fr : Fr w (w.setCell ⟨g, k, none⟩ (.int .u32 (e : Nat))) (fun j => j = g) := Fr.setCell _ _ _ rfl
  obtain ⟨cur, hg⟩ := own_type hr (k := g) rfl
  obtain ⟨b1, _, b3, b4, b5, b6⟩ := h.but fr [108] (by rintro j rfl _; exact ⟨_, _, _, hg, by simp⟩)
  have hne : e ∉ L.rl := fun hm => by have := (h.rm e).1 hm; rw [he] at this; cases this
  have hok : L.rl[k]? = some o := by rw [← ho, List.getD_eq_getElem?_getD, List.getElem?_eq_getElem hk]; rfl
  refine ⟨{ L with rl := L.rl.set k e }, ⟨(b6 (by decide)).trans h.hp, b1 (by decide), ?_, b3 (by decide), b4, b5 (by decide), ?_, ?_, h.vq, h.op, h.ov, h.oq, h.on, h.orr, h.ou, fun j hj => Nat.lt_of_lt_of_le (h.lt j hj) fr.size⟩, fr.mono (by rintro j rfl; exact hgo), fun _ => .inl⟩
  · show Go.World.ownsRow _ 0 _ 1 L.rv (L.rl.set k e).length _
    rw [hv]; simpa using s1
  · exact nodup_set h.rn hne k
  · intro r
    show r ∈ L.rl.set k e ↔ _
    rw [mem_set_nodup h.rn hok]
    simp only [upd]
    by_cases hre : r = e
    · simp [hre]
    · by_cases hro : r = o
      · simp [hro]
      · simp [hre, hro, h.rm r]

set_option maxHeartbeats 400000 in
theorem changeroot_c {w : World} {p : Nat} {S : PS} {L : Lay} (h : Rep w p S L) (o e : Nat) (ho : S.rt o = true) (he : S.rt e = false) :
    Calls Try.prog 123 #[.pointer (some ⟨p, 0, none⟩), .int .u32 (o : Nat), .int .u32 (e : Nat)] w (Post p w L (.tuple #[]) { S with rt := upd (upd S.rt o false) e true }) := by
  have hc : w.cell? ⟨p, 4, none⟩ = some L.rv := by rw [cell_block h.hp]; rfl
  have hmo := (h.rm o).2 ho
  obtain ⟨g, cap, hv, hm, hcap, hcells⟩ := h.roots_at (List.length_pos_of_mem hmo)
  rw [hv] at hc
  have HC := Lib.hid hcells
  have H := Lib.hid (And.intro h (And.intro hmo (And.intro he hv)))
  clear h hv hcells hcap hmo ho he
  obtain ⟨n, hnl⟩ : ∃ n, L.rl.length = n := ⟨_, rfl⟩
  rw [hnl] at hc hm
  have HN := Lib.hid hnl
  clear hnl
  go_enter Try.func123, Try.ntmps123
  go_wp2
  go_loopg [12] n (fun m i wr => wr = w ∧ ∃ k : Nat, m + k = n ∧ i = .int .i64 k ∧ ∀ j, j < k → L.rl.getD j 0 ≠ o)
  case atStart => exact ⟨rfl, 0, rfl, rfl, by simp⟩
  case round =>
    obtain ⟨rfl, k, hk, rfl, hne⟩ := hrel
    have HK := Lib.hid (And.intro hk hne)
    by_cases hlt : k < n
    · have hcell := (HC.out k (by rw [HN.out]; exact hlt)).1
      have hfro := (HC.out k (by rw [HN.out]; exact hlt)).2
      obtain ⟨x, hx⟩ : ∃ x, L.rl.getD k 0 = x := ⟨_, rfl⟩
      rw [hx] at hcell
      have HX := Lib.hid hx
      clear hk hne hx
      by_cases hxr : x = o
      · have hb : ((x : Int) == (o : Int)) = true := by simp [hxr]
        have HR := Lib.hid (H.out.1.store_root H.out.2.2.2 (by rw [HN.out]; exact hlt) (HX.out.trans hxr) H.out.2.2.1)
        clear hxr
        go_wp2
        refine bodyPost_ret (results_none rfl _ _ _) rfl ?_
        exact ⟨rfl, HR.out⟩
      · have hb : ((x : Int) == (o : Int)) = false := by simp; omega
        have HXR := Lib.hid hxr
        clear hxr
        go_wp2
        go_roundg (n - (k + 1))
        case measure => have := HK.out.1; omega
        case rel =>
          refine ⟨rfl, k + 1, by omega, by go_num, fun j hj => ?_⟩
          by_cases hjk : j = k
          · subst hjk; rw [HX.out]; exact HXR.out
          · exact HK.out.2 j (by omega)
    · exfalso
      obtain ⟨j, hj, hje⟩ := List.getElem_of_mem H.out.2.1
      exact hne j (by rw [HN.out] at hj; omega) (by rw [List.getD_eq_getElem?_getD, List.getElem?_eq_getElem hj, hje]; rfl)
end Go.Proofs.Ytapnmgkpljlgmaa
