/- Undo: the walk. -/
import Derived.Test.YtapnmgkpljlgmaaG14
import Derived.Deep.RegionLaw
import Derived.Deep.RegionHeld3
set_option linter.unusedVariables false
set_option linter.unusedSimpArgs false
namespace Go.Proofs.Ytapnmgkpljlgmaa
open Go.RowKit

theorem wrap63 {n : Nat} (h : (n : Int) < 9223372036854775808) : IntKind.i64.wrap (n : Int) = n := by
  rw [IntKind.wrap_i64]; omega
theorem QMap.below {w : World} {b : Nat} {q : Nat → Nat → Bool} {own : Nat → Prop} (h : QMap w b q own) {i j : Nat} (hq : q i j = true) : j < i := by
  obtain ⟨es, clock, h1, h2, h3, h4, h5, h6⟩ := h
  exact h5 i j hq
theorem QMap.atKey {w : World} {b : Nat} {q : Nat → Nat → Bool} {own : Nat → Prop} (h : QMap w b q own) {i j : Nat} (hq : q i j = true) :
    ∃ g c, own g ∧ Bits w g ((i + 63) / 64) c (q i) ∧ QAt w b i g c ∧ ∀ n, (Instr.lookup 106 (.map (some b)) (.int .u32 (i : Nat)) false).run Try.prog (w.drewN n) = .ok (.slice (some ⟨g, 0, none⟩) ((i + 63) / 64) c) (w.drewN n) := by
  rcases h.two i with ⟨h0, _⟩ | ⟨g, c, hown, hB, hat, hl⟩
  · rw [h0 j] at hq; simp at hq
  · rcases h.look i with ⟨h0, _⟩ | ⟨g', c', _, _, hl'⟩
    · rw [h0 j] at hq; simp at hq
    · have e := (hl' 0).2
      change _ = _ at e
      have e2 : (Result.ok (Value.slice (some ⟨g, 0, none⟩) ((i + 63) / 64) c) w : Result Value) = .ok (Value.slice (some ⟨g', 0, none⟩) ((i + 63) / 64) c') w := hl.symm.trans e
      simp only [Result.ok.injEq, Value.slice.injEq, Option.some.injEq, Addr.mk.injEq, and_true, true_and] at e2
      obtain ⟨rfl, rfl⟩ := e2
      exact ⟨g, c, hown, hB, hat, fun n => (hl' n).2⟩
theorem QAt.drew {w : World} {b i g c : Nat} (h : QAt w b i g c) : QAt w.drew b i g c := h
theorem i32_ne0 {n : Nat} (h : n ≠ 0) : (!((n : Int) == 0)) = true := by simp; omega
theorem take_cut {α} (l : List α) (m : Nat) (a b : α) : (((l.set m a).set m b).take m) = l.take m := by
  rw [List.set_set, List.take_set_of_le (Nat.le_refl m)]
theorem nodeX_eq (S : PS) {m k : Nat} (h : k + 1 = m) :
    ({ ((S.setl m 0).setr m 0) with nodes := ((S.setl m 0).setr m 0).nodes.take m, last := k } : PS) = { S with last := k, nodes := S.nodes.take (k + 1) } := by
  subst h
  simp only [PS.setr, PS.setl, take_cut]
set_option maxRecDepth 10000 in
set_option maxHeartbeats 8000000 in
theorem Undo_c {w : World} {p : Nat} {S S' : PS} {L : Lay} (h : Rep w p S L) (hu : Undone S S') (h0 : S.lg ≠ []) (hl : S.lg.length < Lim) (hrb : ∀ T : PS, T.rt = T.rt) :
    Calls Try.prog 98 #[.pointer (some ⟨p, 0, none⟩)] w (Post p w L (.tuple #[]) S') := by
  obtain ⟨u, rest, hlg⟩ : ∃ u rest, S.lg = u :: rest := by
    cases e : S.lg with
    | nil => exact absurd e h0
    | cons u rest => exact ⟨u, rest, rfl⟩
  obtain ⟨g, cap, hv, h1, h2, hc, _⟩ := h.un_at hlg
  have hlim : rest.length + 1 < Lim := by rw [hlg] at hl; exact hl
  obtain ⟨n, hn⟩ : ∃ n, rest.length = n := ⟨_, rfl⟩
  rw [hn] at hc
  have hpos : ((n : Int) + 1 == 0) = false := by rw [beq_eq_false_iff_ne]; omega
  have hcap : (n : Int) + 1 ≤ 9223372036854775807 := by unfold Lim at hlim; omega
  have H := Lib.hid (And.intro h (And.intro hu hl))
  clear h hu hl h0 hlg hv h1 h2 hlim hn hrb
  go_enter Try.func98, Try.ntmps98
  go_wp2_with fail
  clear hc hpos hcap
  go_loopg [2] S.lg.length (fun m u wr => ∃ S1 L1, Undone S1 S' ∧ S1.lg.length = m ∧ m ≤ S.lg.length ∧ Rep wr p S1 L1 ∧ Ext w wr L L1)
  case atStart => exact ⟨S, L, H.out.2.1, rfl, Nat.le_refl _, H.out.1, Ext.refl w L⟩
  case round =>
    obtain ⟨S1, L1, hU, hm, hle, hR, hE⟩ := hrel
    have H1 := Lib.hid (And.intro hR (And.intro hE (And.intro hm hle)))
    clear hR hE hm hle
    rcases hU.cases' with ⟨h, rfl⟩ | ⟨u, rest, h, hcase⟩
    · have HL := Lib.hid h
      obtain ⟨c1, c2, hv, hc⟩ : ∃ a c, L1.uv = .slice a 0 c ∧ wr.cell? ⟨p, 6, none⟩ = some (.slice a 0 c) := by
        have hu := H1.out.1.hu
        rw [HL.out] at hu
        rcases hu.2 with ⟨e1, _⟩ | ⟨g, c, _, e1, _⟩
        · exact ⟨none, 0, e1, by rw [cell_block H1.out.1.hp, ← e1]; rfl⟩
        · exact ⟨_, c, e1, by rw [cell_block H1.out.1.hp, e1]; rfl⟩
      clear h hv hU
      go_wp2
      go_end0
      exact ⟨rfl, L1, H1.out.1, H1.out.2.1⟩
    · obtain ⟨g, cap, hv, k1, k2, hc, c0, c1, c2, c3⟩ := H1.out.1.un_at h
      have HC := Lib.hid hcase
      clear hcase hU
      have hlim : rest.length + 1 < Lim := by have := H1.out.2.2; have := H.out.2.2; have e : S1.lg.length = rest.length + 1 := (by rw [h]; rfl); omega
      obtain ⟨n, hn⟩ : ∃ n, rest.length = n := ⟨_, rfl⟩
      have HP := Lib.hid (And.intro h (And.intro hv hn))
      rw [hn] at hc c0 c1 c2 c3 k1
      have hgt : decide (((0 : Int)) < (n : Int) + 1) = true := by rw [decide_eq_true_eq]; omega
      have hcap : (n : Int) + 1 ≤ 9223372036854775807 := by unfold Lim at hlim; omega
      have hcap2 : (cap : Int) ≤ 9223372036854775807 := by unfold maxLen at k2; omega
      clear h hv hn hlim
      obtain ⟨ut, ui, ud, ue⟩ := u
      simp only at c0 c1 c2 c3
      have hwr : IntKind.i64.wrap (n : Int) = n := wrap63 (by omega)
      have fA := Fr.alloc wr (Obj.cells #[.int .u8 0, .int .u32 0, .int .i32 0, .int .u32 0] 133) Nix
      have lp := heap_lt H1.out.1.hp
      have lg := H1.out.1.lt g (H1.out.1.ou g (by rw [HP.out.2.1]; rfl))
      have hcA := (fA.cell (a := ⟨p, 6, none⟩) lp fun e => e).trans hc
      have d0 := (fA.cell (a := ⟨g, n * 4, none⟩) lg fun e => e).trans c0
      have d1 := (fA.cell (a := ⟨g, n * 4 + 1, none⟩) lg fun e => e).trans c1
      have d2 := (fA.cell (a := ⟨g, n * 4 + 2, none⟩) lg fun e => e).trans c2
      have d3 := (fA.cell (a := ⟨g, n * 4 + 3, none⟩) lg fun e => e).trans c3
      clear fA lp lg
      go_upto_region 3 with fail
      go_region
      clear hcA d0 d1 d2 d3 c0 c1 c2 c3 hc
      obtain ⟨w2, hw2⟩ : ∃ w2, (wr.alloc (Obj.cells #[.int .u8 (ut : Nat), .int .u32 (ui : Nat), .int .i32 (ud : Nat), .int .u32 (ue : Nat)] 133)).drew = w2 := ⟨_, rfl⟩
      rw [hw2]
      have fA : Fr wr w2 Nix := hw2 ▸ ((Fr.alloc wr (Obj.cells #[.int .u8 (ut : Nat), .int .u32 (ui : Nat), .int .i32 (ud : Nat), .int .u32 (ue : Nat)] 133) Nix).trans (Fr.drewN _ 1 Nix) fun _ e => e.elim)
      have hB2 : w2.heap[wr.heap.size]? = some (.cells #[.int .u8 (ut : Nat), .int .u32 (ui : Nat), .int .i32 (ud : Nat), .int .u32 (ue : Nat)] 133 (0, 0)) := hw2 ▸ heap_alloc_new wr _
      have hno : ¬ L1.own wr.heap.size := fun ho => Nat.lt_irrefl _ (H1.out.1.lt _ ho)
      have H2 := Lib.hid (And.intro (H1.out.1.nix fA) (And.intro (H1.out.2.1.trans (Ext.nix fA)) (And.intro hB2 (And.intro hno H1.out.2.1.fr.size))))
      clear hw2 fA hB2 hno
      generalize wr.heap.size = t at *
      have hc : w2.cell? ⟨p, 6, none⟩ = some (.slice (some ⟨g, 0, none⟩) (n + 1) cap) := by rw [cell_block H2.out.1.hp, ← HP.out.2.2, ← HP.out.2.1]; rfl
      obtain ⟨hfz, hR3, hE3⟩ := H2.out.1.pop HP.out.1 (by rw [← HP.out.2.2]; exact HP.out.2.1) HP.out.2.2
      have H3 := Lib.hid (And.intro hR3 hE3)
      clear hR3 hE3
      go_upto_region 4 with fail
      go_region
      have hR4 := H3.out.1.drewN 1
      have hE4 : Ext w ((w2.setCell ⟨p, 6, none⟩ (.slice (some ⟨g, 0, none⟩) n cap)).drewN 1) L { L1 with uv := .slice (some ⟨g, 0, none⟩) n cap } := (H2.out.2.1.trans H3.out.2).trans (Ext.nix (Fr.drewN _ 1 _))
      have hB4 : ((w2.setCell ⟨p, 6, none⟩ (.slice (some ⟨g, 0, none⟩) n cap)).drewN 1).heap[t]? = some (.cells #[.int .u8 (ut : Nat), .int .u32 (ui : Nat), .int .i32 (ud : Nat), .int .u32 (ue : Nat)] 133 (0, 0)) :=
        (H3.out.2.fr.block t (heap_lt H2.out.2.2.1) H2.out.2.2.2.1).trans H2.out.2.2.1
      obtain ⟨w3, hw3⟩ : ∃ w3, (w2.setCell ⟨p, 6, none⟩ (.slice (some ⟨g, 0, none⟩) n cap)).drew = w3 := ⟨_, rfl⟩
      change Rep ((w2.setCell ⟨p, 6, none⟩ (.slice (some ⟨g, 0, none⟩) n cap)).drew) _ _ _ at hR4
      change Ext _ ((w2.setCell ⟨p, 6, none⟩ (.slice (some ⟨g, 0, none⟩) n cap)).drew) _ _ at hE4
      change ((w2.setCell ⟨p, 6, none⟩ (.slice (some ⟨g, 0, none⟩) n cap)).drew).heap[t]? = _ at hB4
      rw [hw3] at hR4 hE4 hB4 ⊢
      obtain ⟨L3, hL3⟩ : ∃ L3, ({ L1 with uv := .slice (some ⟨g, 0, none⟩) n cap } : Lay) = L3 := ⟨_, rfl⟩
      have hn3 : ¬ L3.own t := by rw [← hL3]; exact H2.out.2.2.2.1
      rw [hL3] at hR4 hE4
      have H4 := Lib.hid (And.intro hR4 (And.intro hE4 (And.intro hB4 hn3)))
      have HM := Lib.hid (show rest.length < S1.lg.length ∧ rest.length ≤ S.lg.length by have e : S1.lg.length = rest.length + 1 := (by rw [HP.out.1]; rfl); have := H1.out.2.2; omega)
      have HD : ∀ {a i d e : Nat}, w3.heap[t]? = some (.cells #[.int .u8 (a : Nat), .int .u32 (i : Nat), .int .i32 (d : Nat), .int .u32 (e : Nat)] 133 (0, 0)) →
          w3.cell? ⟨t, 0, none⟩ = some (.int .u8 (a : Nat)) ∧ w3.cell? ⟨t, 1, none⟩ = some (.int .u32 (i : Nat)) ∧ w3.cell? ⟨t, 2, none⟩ = some (.int .i32 (d : Nat)) ∧ w3.cell? ⟨t, 3, none⟩ = some (.int .u32 (e : Nat)) :=
        fun h => ⟨by rw [cell_block h]; rfl, by rw [cell_block h]; rfl, by rw [cell_block h]; rfl, by rw [cell_block h]; rfl⟩
      obtain ⟨c0, c1, c2, c3⟩ := HD H4.out.2.2.1
      clear hw3 hR4 hE4 hB4 hn3 hL3 hc hfz hgt hcap hcap2 hwr HD k1
      rcases HC.out with ⟨hu1, rfl⟩ | ⟨T, ok, k⟩
      · simp only at hu1
        subst hu1
        clear c1 c2 c3
        simp only [Int.cast_ofNat_Int] at c0
        go_wp2
        go_end0
        exact ⟨rfl, L3, H4.out.1, H4.out.2.1⟩
      · have HK := Lib.hid k
        have HO := Lib.hid ok
        clear k
        cases ok with
        | chl i id e h =>
          as_aux_lemma =>
            have HH := Lib.hid h
            clear h
            simp only [Int.cast_ofNat_Int] at c0
            go_wp2_with fail
            refine (setchl_c H4.out.1 ui ue HH.out).mono ?_
            rintro e w4 ⟨rfl, L4, hR, hE⟩
            have H5 := Lib.hid (And.intro hR (H4.out.2.1.trans hE))
            clear hR hE
            go_wp2
            go_roundg rest.length
            case measure => exact H1.out.2.2.1 ▸ HM.out.1
            case rel => exact ⟨_, L4, HK.out, rfl, HM.out.2, H5.out⟩
        | chr i id e h =>
          as_aux_lemma =>
            have HH := Lib.hid h
            clear h
            simp only [Int.cast_ofNat_Int] at c0
            go_wp2_with fail
            refine (setchr_c H4.out.1 ui ue HH.out).mono ?_
            rintro e w4 ⟨rfl, L4, hR, hE⟩
            have H5 := Lib.hid (And.intro hR (H4.out.2.1.trans hE))
            clear hR hE
            go_wp2
            go_roundg rest.length
            case measure => exact H1.out.2.2.1 ▸ HM.out.1
            case rel => exact ⟨_, L4, HK.out, rfl, HM.out.2, H5.out⟩
        | neq i a e h ha =>
          as_aux_lemma =>
            obtain ⟨gq, cq, hown, hB, hat, hlk⟩ := H4.out.1.hq.atKey h
            have hlt := H4.out.1.hq.below h
            have hd := Fr.drew w3 Nix
            have HQ := Lib.hid (And.intro (H4.out.1.nix hd) (And.intro (H4.out.2.1.trans (Ext.nix hd)) (And.intro (hB.kept (hd.block _ hB.lt fun e => e)) (hat.drew))))
            have HLT := Lib.hid hlt
            have hwu : IntKind.u32.wrap (ud : Int) = ud := by rw [IntKind.wrap_u32]; omega
            have hcv : w3.cell? ⟨p, 5, none⟩ = some (.map (some L3.qb)) := by rw [cell_block H4.out.1.hp]; rfl
            have hHA := Lib.hid ha
            clear h hat hlt hd ha
            obtain ⟨kq, hkq⟩ : ∃ kq, (ud + 63) / 64 = kq := ⟨_, rfl⟩
            rw [hkq] at HQ hlk hB
            have HKQ := Lib.hid hkq
            clear hkq c3
            simp only [Int.cast_ofNat_Int] at c0
            have hl1 : (Instr.lookup 106 (.map (some L3.qb)) (.int .u32 (ud : Nat)) false).run Try.prog w3.drew = .ok (.slice (some ⟨gq, 0, none⟩) kq cq) w3.drew := hlk 1
            have hpt : p ≠ gq ∧ t ≠ gq := by
              constructor
              · rintro rfl
                obtain ⟨cur, b1, _⟩ := hB
                have hp := H4.out.1.hp
                rw [b1] at hp; simp at hp
              · rintro rfl; exact H4.out.2.2.2 hown
            have HPT := Lib.hid hpt
            have HC1 := Lib.hid (And.intro hcv (And.intro c1 c2))
            clear hlk hpt hB hown
            go_upto_region 13 with fail
            go_region_held3 (fun w' => w'.cell? ⟨p, 5, none⟩ = some (.map (some L3.qb)) ∧ w'.cell? ⟨t, 1, none⟩ = some (.int .u32 (ui : Nat)) ∧ w'.cell? ⟨t, 2, none⟩ = some (.int .i32 (ud : Nat))) (first | exact HC1.out | exact hk)
              (first
                | (go_at_call 120; refine (Clear_c HQ.out.2.2.1 ui (by have := HLT.out; have := HKQ.out; omega) (by have := HLT.out; have := hHA.out; omega)).mono ?_; rintro e w4 ⟨rfl, hB4, hF4⟩; have hk : w4.cell? ⟨p, 5, none⟩ = some (.map (some L3.qb)) ∧ w4.cell? ⟨t, 1, none⟩ = some (.int .u32 (ui : Nat)) ∧ w4.cell? ⟨t, 2, none⟩ = some (.int .i32 (ud : Nat)) := ⟨(hF4.cell (a := ⟨p, 5, none⟩) (block_lt_of_cell HC1.out.1) HPT.out.1).trans HC1.out.1, (hF4.cell (a := ⟨t, 1, none⟩) (block_lt_of_cell HC1.out.2.1) HPT.out.2).trans HC1.out.2.1, (hF4.cell (a := ⟨t, 2, none⟩) (block_lt_of_cell HC1.out.2.2) HPT.out.2).trans HC1.out.2.2⟩; have H5 := Lib.hid (And.intro hB4 hF4); clear hB4 hF4))
            have h6 := HQ.out.1.set_bits HQ.out.2.2.2 (by rw [HKQ.out]; exact H5.out.1) H5.out.2 (fun j hj => H4.out.1.hq.below (i := ud) (by unfold clrB at hj; simp only [Bool.and_eq_true] at hj; exact hj.1))
            rw [upd_clrQ] at h6
            have H6 := Lib.hid (And.intro h6.1 (HQ.out.2.1.trans h6.2))
            clear h6 hk
            go_wp2
            go_roundg rest.length
            case measure => exact H1.out.2.2.1 ▸ HM.out.1
            case rel => exact ⟨_, _, HK.out, rfl, HM.out.2, H6.out⟩
        | nodeX k e h hl hkb =>
          as_aux_lemma =>
            have HH := Lib.hid (And.intro (show S1.last = k + 1 from h) (And.intro (show S1.nodes.length = k + 2 from hl) hkb))
            clear h hl hkb
            obtain ⟨m, hm⟩ : ∃ m, k + 1 = m := ⟨_, rfl⟩
            rw [hm] at c1
            have HM1 := Lib.hid hm
            have hcl : w3.cell? ⟨p, 0, none⟩ = some (.int .u32 (m : Nat)) := by rw [cell_block H4.out.1.hp, ← hm, ← HH.out.1]; rfl
            have hb1 := neq_false (rfl : m = m)
            clear hm
            simp only [Int.cast_ofNat_Int] at c0 c2
            go_upto_region 15 with fail
            go_quiet (fail)
            clear hcl
            have hF5 := Fr.drewN w3 nq Nix
            have hB5 : (w3.drewN nq).heap[t]? = w3.heap[t]? := rfl
            have H5 := Lib.hid (And.intro (H4.out.1.nix hF5) (And.intro (H4.out.2.1.trans (Ext.nix hF5)) (hB5.trans H4.out.2.2.1)))
            clear hF5 hB5
            go_wp2_with fail
            have HLm := Lib.hid (show m < S1.nodes.length by have := HH.out.2.1; have := HM1.out; omega)
            refine (setchl_c H5.out.1 m 0 HLm.out).mono ?_
            rintro e w5 ⟨rfl, L5, hR, hE⟩
            have hB6 := (hE.fr.block t (heap_lt H5.out.2.2) H4.out.2.2.2).trans H5.out.2.2
            have hn6 : ¬ L5.own t := fun ho => by
              rcases hE.own t ho with h | h
              · exact H4.out.2.2.2 h
              · have := heap_lt H5.out.2.2; omega
            have H6 := Lib.hid (And.intro hR (And.intro (H5.out.2.1.trans hE) (And.intro hB6 hn6)))
            clear hR hE hB6 hn6 c0 c1 c2 c3
            have c1 : w5.cell? ⟨t, 1, none⟩ = some (.int .u32 (m : Nat)) := by rw [cell_block H6.out.2.2.1, ← HM1.out]; rfl
            go_wp2_with fail
            refine (setchr_c H6.out.1 m 0 (by rw [PS.setl_len]; exact HLm.out)).mono ?_
            rintro e w6 ⟨rfl, L6, hR, hE⟩
            have hB7 := (hE.fr.block t (heap_lt H6.out.2.2.1) H6.out.2.2.2).trans H6.out.2.2.1
            have H7 := Lib.hid (And.intro hR (And.intro (H6.out.2.1.trans hE) hB7))
            clear hR hE hB7 c1
            have c1 : w6.cell? ⟨t, 1, none⟩ = some (.int .u32 (m : Nat)) := by rw [cell_block H7.out.2.2, ← HM1.out]; rfl
            have hlen : (((({ S1 with lg := rest } : PS).setl m 0).setr m 0)).nodes.length = m + 1 := by rw [PS.setr_len, PS.setl_len]; show S1.nodes.length = _; rw [HH.out.2.1, ← HM1.out]
            obtain ⟨gn, capn, hvn, hmn, hcn, _⟩ := H7.out.1.nodes_at (i := 0) (by rw [hlen]; omega)
            have HV := Lib.hid hvn
            have hle := row_le H7.out.1.hn hvn
            rw [hlen] at hcn hle
            obtain ⟨hfz, hR8, hE8⟩ := H7.out.1.nodes_cut hvn rfl (m := m) (by rw [hlen]; omega)
            have H8 := Lib.hid (And.intro hR8 (H7.out.2.1.trans hE8))
            have hle1 : (capn : Int) ≤ 9223372036854775807 := by have := hle.2; unfold maxLen at this; omega
            have hle2 : (m : Int) ≤ capn := by have := hle.1; omega
            have hm32 : (m : Int) < 4294967296 := by have := HM1.out; have := HH.out.2.2; omega
            clear hvn hlen hmn hR8 hE8
            go_upto_region 23 with fail
            go_region
            obtain ⟨w7, hw7⟩ : ∃ w7, (w6.setCell ⟨p, 3, none⟩ (.slice (some ⟨gn, 0, none⟩) m capn)).drew = w7 := ⟨_, rfl⟩
            rw [hw7]
            have fA : Fr (w6.setCell ⟨p, 3, none⟩ (.slice (some ⟨gn, 0, none⟩) m capn)) w7 Nix := hw7 ▸ Fr.drewN _ 1 Nix
            have H9 := Lib.hid (And.intro (H8.out.1.nix fA) (H8.out.2.trans (Ext.nix fA)))
            clear hw7 fA hfz hle1 hle2 hcn c1 hle hb1
            have hcl : w7.cell? ⟨p, 0, none⟩ = some (.int .u32 (m : Nat)) := by rw [cell_block H9.out.1.hp, ← HM1.out]; show some (Value.int .u32 (S1.last : Nat)) = _; rw [HH.out.1]
            have hfz := frozen_block (j := 0) H9.out.1.hp
            have hm0 : 0 < (m : Int) := by have := HM1.out; omega
            have h10 := And.intro ((nodeX_eq { S1 with lg := rest } HM1.out) ▸ (H9.out.1.store_last k).1) (H9.out.2.trans (H9.out.1.store_last k).2)
            rw [show ((k : Nat) : Int) = m - 1 by have := HM1.out; omega] at h10
            have H10 := Lib.hid h10
            clear h10
            go_wp2
            go_roundg rest.length
            case measure => exact H1.out.2.2.1 ▸ HM.out.1
            case rel => exact ⟨_, _, HK.out, rfl, HM.out.2, H10.out⟩
        | nodeV k id e h hl hkb hid hv =>
          as_aux_lemma =>
            have HH := Lib.hid (And.intro (show S1.last = k + 1 from h) (And.intro (show S1.nodes.length = k + 2 from hl) (And.intro hkb (And.intro hid (show S1.vl ud = k + 1 from hv)))))
            clear h hl hkb hid hv
            obtain ⟨m, hm⟩ : ∃ m, k + 1 = m := ⟨_, rfl⟩
            rw [hm] at c1
            have HM1 := Lib.hid hm
            have hcl : w3.cell? ⟨p, 0, none⟩ = some (.int .u32 (m : Nat)) := by rw [cell_block H4.out.1.hp, ← hm, ← HH.out.1]; rfl
            have hb1 := neq_false (rfl : m = m)
            have hb0 := ne0_true HH.out.2.2.2.1
            clear hm
            simp only [Int.cast_ofNat_Int] at c0
            go_upto_region 15 with fail
            go_quiet (fail)
            clear hcl
            have hF5 := Fr.drewN w3 nq Nix
            have hB5 : (w3.drewN nq).heap[t]? = w3.heap[t]? := rfl
            obtain ⟨w4, hw4⟩ : ∃ w4, w3.drewN nq = w4 := ⟨_, rfl⟩
            have H5 := Lib.hid (And.intro (H4.out.1.nix hF5) (And.intro (H4.out.2.1.trans (Ext.nix hF5)) (hB5.trans H4.out.2.2.1)))
            rw [hw4] at H5 ⊢
            clear hF5 hB5 hw4 c0 c1 c2 c3
            have c1 : w4.cell? ⟨t, 1, none⟩ = some (.int .u32 (m : Nat)) := by rw [cell_block H5.out.2.2, ← HM1.out]; rfl
            have c2 : w4.cell? ⟨t, 2, none⟩ = some (.int .i32 (ud : Nat)) := by rw [cell_block H5.out.2.2]; rfl
            have hcv : w4.cell? ⟨p, 2, none⟩ = some (.map (some L3.vb)) := by rw [cell_block H5.out.1.hp]; rfl
            have hlk := fun n => (run_lookup_v (W := w4.drewN n) H5.out.1.hv ud).2
            have HE := Lib.hid (show S1.vl ud = m from HH.out.2.2.2.2.trans HM1.out)
            simp only [HE.out] at hlk
            go_upto_region 18 with fail
            go_quiet (fail)
            have hF6 := Fr.drewN w4 nq Nix
            have hB6 : (w4.drewN nq).heap[t]? = w4.heap[t]? := rfl
            obtain ⟨w5, hw5⟩ : ∃ w5, w4.drewN nq = w5 := ⟨_, rfl⟩
            have H6 := Lib.hid (And.intro (H5.out.1.nix hF6) (And.intro (H5.out.2.1.trans (Ext.nix hF6)) (hB6.trans H5.out.2.2)))
            rw [hw5] at H6 ⊢
            clear hF6 hB6 hw5 c1 c2 hcv hlk
            have c2 : w5.cell? ⟨t, 2, none⟩ = some (.int .i32 (ud : Nat)) := by rw [cell_block H6.out.2.2]; rfl
            have hcv : w5.cell? ⟨p, 2, none⟩ = some (.map (some L3.vb)) := by rw [cell_block H6.out.1.hp]; rfl
            obtain ⟨o, ho, hv⟩ := H6.out.1.hv.drop ud (by show S1.vl ud ≠ 0; rw [HE.out, ← HM1.out]; omega) 0
            have HV := Lib.hid (H6.out.1.val_put hv)
            clear hv
            have hd : (Builtin.delete_ #[103, 111] 0 #[.map (some L3.vb), .int .i32 (ud : Nat)]).run Try.prog w5.drew = .ok (.tuple #[]) ((putObj w5 L3.vb o).drew) := ho 1
            clear ho
            go_upto_region 20 with fail
            go_region
            clear hd hcv c2
            have hF7 := Fr.drewN (putObj w5 L3.vb o) 1 Nix
            have hB7 : ((putObj w5 L3.vb o).drew).heap[t]? = _ := (HV.out.2.fr.block t (heap_lt H6.out.2.2) H4.out.2.2.2).trans H6.out.2.2
            obtain ⟨w6, hw6⟩ : ∃ w6, (putObj w5 L3.vb o).drew = w6 := ⟨_, rfl⟩
            have h7a := And.intro (HV.out.1.nix hF7) (And.intro ((H6.out.2.1.trans HV.out.2).trans (Ext.nix hF7)) hB7)
            change Rep ((putObj w5 L3.vb o).drew) _ _ _ ∧ Ext _ ((putObj w5 L3.vb o).drew) _ _ ∧ _ at h7a
            rw [hw6] at h7a ⊢
            have H7a := Lib.hid h7a
            clear hF7 hB7 hw6 h7a
            have c1 : w6.cell? ⟨t, 1, none⟩ = some (.int .u32 (m : Nat)) := by rw [cell_block H7a.out.2.2, ← HM1.out]; rfl
            go_wp2_with fail
            have HLm := Lib.hid (show m < S1.nodes.length by have := HH.out.2.1; have := HM1.out; omega)
            refine (setchl_c H7a.out.1 m 0 HLm.out).mono ?_
            rintro e wA ⟨rfl, L5, hR, hE⟩
            have hB6 := (hE.fr.block t (heap_lt H7a.out.2.2) H4.out.2.2.2).trans H7a.out.2.2
            have hn6 : ¬ L5.own t := fun ho => by
              rcases hE.own t ho with h | h
              · exact H4.out.2.2.2 h
              · have := heap_lt H7a.out.2.2; omega
            have H6 := Lib.hid (And.intro hR (And.intro (H7a.out.2.1.trans hE) (And.intro hB6 hn6)))
            clear hR hE hB6 hn6 c1
            have c1 : wA.cell? ⟨t, 1, none⟩ = some (.int .u32 (m : Nat)) := by rw [cell_block H6.out.2.2.1, ← HM1.out]; rfl
            go_wp2_with fail
            refine (setchr_c H6.out.1 m 0 (by rw [PS.setl_len]; exact HLm.out)).mono ?_
            rintro e wB ⟨rfl, L6, hR, hE⟩
            have hB7 := (hE.fr.block t (heap_lt H6.out.2.2.1) H6.out.2.2.2).trans H6.out.2.2.1
            have H7 := Lib.hid (And.intro hR (And.intro (H6.out.2.1.trans hE) hB7))
            clear hR hE hB7 c1
            have c1 : wB.cell? ⟨t, 1, none⟩ = some (.int .u32 (m : Nat)) := by rw [cell_block H7.out.2.2, ← HM1.out]; rfl
            have hlen : (((({ S1 with vl := upd S1.vl ud 0, lg := rest } : PS).setl m 0).setr m 0)).nodes.length = m + 1 := by rw [PS.setr_len, PS.setl_len]; show S1.nodes.length = _; rw [HH.out.2.1, ← HM1.out]
            obtain ⟨gn, capn, hvn, hmn, hcn, _⟩ := H7.out.1.nodes_at (i := 0) (by rw [hlen]; omega)
            have HV := Lib.hid hvn
            have hle := row_le H7.out.1.hn hvn
            rw [hlen] at hcn hle
            obtain ⟨hfz, hR8, hE8⟩ := H7.out.1.nodes_cut hvn rfl (m := m) (by rw [hlen]; omega)
            have H8 := Lib.hid (And.intro hR8 (H7.out.2.1.trans hE8))
            have hle1 : (capn : Int) ≤ 9223372036854775807 := by have := hle.2; unfold maxLen at this; omega
            have hle2 : (m : Int) ≤ capn := by have := hle.1; omega
            have hm32 : (m : Int) < 4294967296 := by have := HM1.out; have := HH.out.2.2; omega
            clear hvn hlen hmn hR8 hE8
            go_upto_region 23 with fail
            go_region
            obtain ⟨wC, hwC⟩ : ∃ wC, (wB.setCell ⟨p, 3, none⟩ (.slice (some ⟨gn, 0, none⟩) m capn)).drew = wC := ⟨_, rfl⟩
            rw [hwC]
            have fA : Fr (wB.setCell ⟨p, 3, none⟩ (.slice (some ⟨gn, 0, none⟩) m capn)) wC Nix := hwC ▸ Fr.drewN _ 1 Nix
            have H9 := Lib.hid (And.intro (H8.out.1.nix fA) (H8.out.2.trans (Ext.nix fA)))
            clear hwC fA hfz hle1 hle2 hcn c1 hle hb1
            have hcl : wC.cell? ⟨p, 0, none⟩ = some (.int .u32 (m : Nat)) := by rw [cell_block H9.out.1.hp, ← HM1.out]; show some (Value.int .u32 (S1.last : Nat)) = _; rw [HH.out.1]
            have hfz := frozen_block (j := 0) H9.out.1.hp
            have hm0 : 0 < (m : Int) := by have := HM1.out; omega
            have h10 := And.intro ((nodeX_eq { S1 with vl := upd S1.vl ud 0, lg := rest } HM1.out) ▸ (H9.out.1.store_last k).1) (H9.out.2.trans (H9.out.1.store_last k).2)
            rw [show ((k : Nat) : Int) = m - 1 by have := HM1.out; omega] at h10
            have H10 := Lib.hid h10
            clear h10
            go_wp2
            go_roundg rest.length
            case measure => exact H1.out.2.2.1 ▸ HM.out.1
            case rel => exact ⟨_, _, HK.out, rfl, HM.out.2, H10.out⟩
        | alias0 id e h =>
          as_aux_lemma =>
            have hcv : w3.cell? ⟨p, 2, none⟩ = some (.map (some L3.vb)) := by rw [cell_block H4.out.1.hp]; rfl
            have hlk := fun n => (run_lookup_v (W := w3.drewN n) H4.out.1.hv ud).2
            obtain ⟨o, ho, hv⟩ := H4.out.1.hv.drop ud h 0
            have HV := Lib.hid (H4.out.1.val_put hv)
            clear h hv
            simp only [Int.cast_ofNat_Int] at c0 c1
            go_upto_region 26 with fail
            go_quiet (fail)
            go_wp2
            have H5 := Lib.hid (And.intro (HV.out.1.drewN nq) ((H4.out.2.1.trans HV.out.2).trans (Ext.nix (Fr.drewN _ nq _))))
            go_roundg rest.length
            case measure => exact H1.out.2.2.1 ▸ HM.out.1
            case rel => exact ⟨_, _, HK.out, rfl, HM.out.2, H5.out⟩
        | alias i id e hi h =>
          as_aux_lemma =>
            have HH := Lib.hid (And.intro hi h)
            have hcv : w3.cell? ⟨p, 2, none⟩ = some (.map (some L3.vb)) := by rw [cell_block H4.out.1.hp]; rfl
            have hlk := fun n => (run_lookup_v (W := w3.drewN n) H4.out.1.hv ud).2
            obtain ⟨o, ho, hv⟩ := H4.out.1.hv.put ud ui hi
            have HV := Lib.hid (H4.out.1.val_put hv)
            have hb1 := eq0_false hi
            have hb2 := eqq_false h
            clear h hv hi
            simp only [Int.cast_ofNat_Int] at c0
            go_upto_region 26 with fail
            go_quiet (fail)
            go_wp2
            have H5 := Lib.hid (And.intro (HV.out.1.drewN nq) ((H4.out.2.1.trans HV.out.2).trans (Ext.nix (Fr.drewN _ nq _))))
            go_roundg rest.length
            case measure => exact H1.out.2.2.1 ▸ HM.out.1
            case rel => exact ⟨_, _, HK.out, rfl, HM.out.2, H5.out⟩
        | root i id e h h0 hr =>
          as_aux_lemma =>
            have HH := Lib.hid (And.intro h (And.intro h0 hr))
            clear h h0 hr
            simp only [Int.cast_ofNat_Int] at c0
            have hch := children_c H4.out.1 ui HH.out.1
            rw [HH.out.2.1] at hch
            go_wp2_with fail
            refine hch.mono ?_
            clear hch
            rintro e w4 ⟨rfl, hF⟩
            have H5 := Lib.hid (And.intro (H4.out.1.nix hF) (H4.out.2.1.trans (Ext.nix hF)))
            clear hF c0 c1 c2 c3
            go_wp2_with fail
            refine (removeroot_c H5.out.1 ui HH.out.2.2).mono ?_
            rintro e w5 ⟨rfl, L6, hR, hE⟩
            have H6 := Lib.hid (And.intro hR (H5.out.2.trans hE))
            clear hR hE
            go_wp2
            go_roundg rest.length
            case measure => exact H1.out.2.2.1 ▸ HM.out.1
            case rel => exact ⟨_, L6, HK.out, rfl, HM.out.2, H6.out⟩
        | chroot i id e h h0 hr ho =>
          as_aux_lemma =>
            have HH := Lib.hid (And.intro h (And.intro h0 (And.intro hr ho)))
            clear h h0 hr ho
            simp only [Int.cast_ofNat_Int] at c0
            have hch := children_c H4.out.1 ui HH.out.1
            rw [HH.out.2.1] at hch
            go_wp2_with fail
            refine hch.mono ?_
            clear hch
            rintro e w4 ⟨rfl, hF⟩
            have H5 := Lib.hid (And.intro (H4.out.1.nix hF) (H4.out.2.1.trans (Ext.nix hF)))
            have c3' : w4.cell? ⟨t, 3, none⟩ = some (.int .u32 (ue : Nat)) := (hF.cell (a := ⟨t, 3, none⟩) (heap_lt H4.out.2.2.1) fun e => e).trans c3
            clear hF c0 c1 c2 c3
            go_wp2_with fail
            refine (target_c ue _).mono ?_
            rintro e w9 ⟨rfl, rfl⟩
            go_wp2_with fail
            refine (changeroot_c H5.out.1 ui (ue / 2) HH.out.2.2.1 HH.out.2.2.2).mono ?_
            rintro e w5 ⟨rfl, L6, hR, hE⟩
            have H6 := Lib.hid (And.intro hR (H5.out.2.trans hE))
            clear hR hE
            go_wp2
            go_roundg rest.length
            case measure => exact H1.out.2.2.1 ▸ HM.out.1
            case rel => exact ⟨_, L6, HK.out, rfl, HM.out.2, H6.out⟩
        | merge i id e h hr hl hrr hne hro hsz hel =>
          as_aux_lemma =>
            have HH := Lib.hid (And.intro h (And.intro hr (And.intro hl (And.intro hrr (And.intro hne (And.intro hro (And.intro hsz hel)))))))
            clear h hr hl hrr hne hro hsz hel
            simp only [Int.cast_ofNat_Int] at c0
            have hch := children_c H4.out.1 ui HH.out.1
            obtain ⟨e1, he1⟩ : ∃ e1, (PS.nd { S1 with lg := rest } ui).1 = e1 := ⟨_, rfl⟩
            obtain ⟨e2, he2⟩ : ∃ e2, (PS.nd { S1 with lg := rest } ui).2 = e2 := ⟨_, rfl⟩
            have hh := HH.out
            rw [he1, he2] at hh hch
            have HJ := Lib.hid hh
            have HE12 := Lib.hid (And.intro he1 he2)
            clear hh he1 he2
            go_wp2_with fail
            refine hch.mono ?_
            clear hch
            rintro e w4 ⟨rfl, hF⟩
            have H5 := Lib.hid (And.intro (H4.out.1.nix hF) (H4.out.2.1.trans (Ext.nix hF)))
            clear hF c0 c1 c2 c3
            go_wp2_with fail
            refine (target_c e1 _).mono ?_
            rintro e w9 ⟨rfl, rfl⟩
            go_wp2_with fail
            refine (changeroot_c H5.out.1 ui (e1 / 2) HJ.out.2.1 HJ.out.2.2.1).mono ?_
            rintro e w5 ⟨rfl, L6, hR, hE⟩
            have H6 := Lib.hid (And.intro hR (H5.out.2.trans hE))
            clear hR hE
            have hc4 : w5.cell? ⟨p, 4, none⟩ = some L6.rv := by rw [cell_block H6.out.1.hp]; rfl
            have hHA := H6.out.1.hr
            have hnr : (upd (upd S1.rt ui false) (e1 / 2) true) (e2 / 2) = false := by
              have h1 := HJ.out.2.2.2.1
              have h2 := HJ.out.2.2.2.2.1
              have h1 : S1.rt (e2 / 2) = false := h1
              simp [upd, h1, Ne.symm h2]
            have hlr := lim4 (H6.out.1.rl_len (n := S1.nodes.length) (fun r hr => by
              have h1 := HJ.out.2.2.2.2.2.1
              have hr : upd (upd S1.rt ui false) (e1 / 2) true r = true := hr
              have h2 : e1 / 2 < S1.nodes.length := HJ.out.2.2.2.2.2.2.2
              show r < S1.nodes.length
              by_cases q : r = e1 / 2
              · omega
              · by_cases q2 : r = ui
                · exact q2 ▸ HJ.out.1
                · exact h1 r (by simpa [upd, q, q2] using hr))) (by have := HJ.out.2.2.2.2.2.2.1; have h : S1.nodes.length < 2147483648 := this; unfold Lim; omega)
            obtain ⟨ii, i1, i2, i3, i4⟩ := info_parts (P := Try.prog) info_u32
            obtain ⟨v', W1, hrun, r2, r3, r4, g9, cap9, rfl⟩ := run_app (P := Try.prog) (w5.alloc (.cells #[.int .u32 ((e2 / 2 : Nat) : Int)] 108)).drew 105 105 108 ii _ 1 4 Try.underlying105 i1 i2 i3 i4 rfl (by decide) _ _ _ (show Go.World.ownsRow (w5.alloc (.cells #[.int .u32 ((e2 / 2 : Nat) : Int)] 108)).drew _ _ _ _ _ _ from hHA.alloc _) ⟨w5.heap.size, 0, none⟩ 1 1 (u32Cell (e2 / 2)) rfl (cells_new _ _ _) (u32_one _) (by decide) hlr.1 hlr.2
            obtain ⟨hcc, hff, L7, hR7, hE7⟩ := H6.out.1.roots_app ((Fr.alloc w5 (.cells #[.int .u32 ((e2 / 2 : Nat) : Int)] 108) Nix).trans (Fr.drew _ Nix) fun _ e => e.elim) hnr r2 r3 ((r4 g9 rfl).imp id And.left)
            have h7 := And.intro hR7 (H6.out.2.trans hE7)
            rw [← HE12.out.1, ← HE12.out.2] at h7
            have H7 := Lib.hid h7
            clear h7
            have e22 : ((e2 / 2 : Nat) : Int) = (e2 : Int) / 2 := by omega
            have hc5 : (w5.alloc (.cells #[.int .u32 ((e2 / 2 : Nat) : Int)] 108)).cell? ⟨p, 4, none⟩ = some L6.rv := ((Fr.alloc w5 (.cells #[.int .u32 ((e2 / 2 : Nat) : Int)] 108) Nix).cell (a := ⟨p, 4, none⟩) (heap_lt H6.out.1.hp) fun e => e).trans hc4
            rw [e22] at hc5 hrun
            have HX := Lib.hid hrun
            clear e22
            clear hR7 hE7 hrun r2 r3 r4 hlr hnr hHA i1 i2 i3 i4
            go_upto_region 49 with fail
            go_region_law (first | (refine step_append_eq rfl (.tmp 232) (.tmp 235) 105 rfl _ _ _ W1 (by simp [Act.eval, Act.put]) (by simp [Act.eval, Act.put]) HX.out ?_) | (go_simp; go_at_call 124; refine (target_c e2 _).mono ?_; rintro e w9 ⟨rfl, rfl⟩))
            all_goals
              go_wp2
              go_roundg rest.length
              case measure => exact H1.out.2.2.1 ▸ HM.out.1
              case rel => exact ⟨_, L7, HK.out, rfl, HM.out.2, H7.out⟩
end Go.Proofs.Ytapnmgkpljlgmaa
