/- dfs, as CheckIntegrity calls it: the state of the search, with a set of its own that the closure marks. dfs, as CheckIntegrity calls it: all nodes under the root are marked, none of them was. CheckIntegrity: of a poset that is as it should be none of its panics comes. -/
import Derived.Test.YtapnmgkpljlgmaaG02
import Derived.Test.YtapnmgkpljlgmaaG08
import Derived.Test.YtapnmgkpljlgmaaG15
import Derived.Test.YtapnmgkpljlgmaaG18
import Derived.Test.YtapnmgkpljlgmaaG07
import Derived.Test.YtapnmgkpljlgmaaG03
import Derived.Deep.QuietTactic
import Derived.BigQuiet
import Derived.Laws.BitsAllLaws
set_option linter.unusedVariables false
set_option linter.unusedSimpArgs false
namespace Go.Proofs.Ytapnmgkpljlgmaa
open Go.RowKit

/-- The state of the search: the open list's row, the closed set C in block gc, the set D that the closure marks in block gs. -/
def SSt (w : World) (gs ks cs gc k : Nat) (wr : World) (v : Value) (O : List Nat) (C D : Nat → Bool) : Prop :=
  ∃ g cap, v = .slice (some ⟨g, 0, none⟩) O.length cap ∧ w.heap.size ≤ g ∧ wr.ownsRow 0 108 1 v O.length (u32Cells O) ∧ Bits wr gc k k C ∧ Fr w wr (· = gs) ∧ w.heap.size ≤ gc ∧ Bits wr gs ks cs D ∧ gs < w.heap.size
section
variable {w wr wa w1 : World} {gs ks cs gc k q : Nat} {v : Value} {O : List Nat} {C D : Nat → Bool}
theorem SSt.app (h : SSt w gs ks cs gc k wr v O C D) (ha : Fr wr wa Nix) {g' cap' y : Nat}
    (hown : w1.ownsRow 0 108 1 (.slice (some ⟨g', 0, none⟩) (O.length + 1) cap') (O.length + 1) (u32Cells O ++ u32Cell y)) (hg : wa.grownBy w1 v.ownBlock) (hn : v.ownBlock = some g' ∨ wa.heap.size ≤ g') :
    SSt w gs ks cs gc k w1 (.slice (some ⟨g', 0, none⟩) (O.length + 1) cap') (O ++ [y]) C D := by
  obtain ⟨g, cap, rfl, h1, h2, h3, h4, h5, h6, h7⟩ := h
  have hne := h3.not_row h2 (by decide)
  have f1 : Fr wr w1 (fun k => k = g) := (ha.mono fun _ e => e.elim).trans (Fr.grown (F := fun k => k = g) hg (by intro k hk; simp [Value.ownBlock] at hk; exact hk.symm)) fun _ => .inl
  refine ⟨g', cap', by simp, ?_, by simpa [u32Cells] using hown, h3.kept (f1.block gc h3.lt ?_), h4.trans f1 ?_, h5, h6.kept (f1.block gs h6.lt (by omega)), h7⟩
  · rcases hn with hn | hn
    · simp [Value.ownBlock] at hn; omega
    · have := ha.size; have := h4.size; omega
  · rintro rfl; exact hne rfl
  · rintro i rfl; exact .inr h1
theorem SSt.pop {g cap x : Nat} (h : SSt w gs ks cs gc k wr (.slice (some ⟨g, 0, none⟩) (O.length + 1) cap) (O ++ [x]) C D) :
    SSt w gs ks cs gc k wr (.slice (some ⟨g, 0, none⟩) O.length cap) O C D ∧ wr.cell? ⟨g, O.length, none⟩ = some (.int .u32 (x : Nat)) := by
  obtain ⟨g0, cap0, h0, h1, h2, h3, h4, h5, h6, h7⟩ := h
  simp only [Value.slice.injEq, Option.some.injEq, Addr.mk.injEq, and_true] at h0
  obtain ⟨rfl, _, rfl⟩ := h0
  simp only [List.length_append, List.length_singleton] at h2
  have hc := h2.cellAt O.length (by omega)
  refine ⟨⟨g, cap, rfl, h1, ?_, h3, h4, h5, h6, h7⟩, ?_⟩
  · rcases h2.2 with ⟨h0, _⟩ | ⟨g', cap', cur, h0, b1, b2, b3, b4, b5, b6⟩
    · simp at h0
    · simp only [Value.slice.injEq, Option.some.injEq, Addr.mk.injEq, and_true, true_and] at h0
      obtain ⟨rfl, rfl⟩ := h0
      refine ⟨by rw [u32_len], .inr ⟨g, cap, cur, rfl, b1, b2, by omega, b4, b5, ?_⟩⟩
      have := congrArg (List.take (O.length * 1)) b6
      rw [List.take_take, Nat.min_eq_left (by omega)] at this
      rw [this]
      simp only [u32Cells, List.flatMap_append]
      rw [List.take_append_of_le_length (by rw [← u32Cells, u32_len]; exact Nat.le_refl _)]
      rw [List.take_of_length_le (by rw [← u32Cells, u32_len]; exact Nat.le_refl _)]
  · rw [hc, u32_cells_eq]; simp
theorem SSt.setC {C' : Nat → Bool} (h : SSt w gs ks cs gc k wr v O C D) (hB : Bits w1 gc k k C') (hf : Fr wr w1 (· = gc)) : SSt w gs ks cs gc k w1 v O C' D := by
  obtain ⟨g, cap, rfl, h1, h2, h3, h4, h5, h6, h7⟩ := h
  exact ⟨g, cap, rfl, h1, hf.row h2 (by intro j hj e; subst e; exact h3.not_row h2 (by decide) hj), hB, h4.trans hf (by rintro i rfl; exact .inr h5), h5, h6.kept (hf.block gs h6.lt (by omega)), h7⟩
theorem SSt.setD {D' : Nat → Bool} (h : SSt w gs ks cs gc k wr v O C D) (hB : Bits w1 gs ks cs D') (hf : Fr wr w1 (· = gs)) : SSt w gs ks cs gc k w1 v O C D' := by
  obtain ⟨g, cap, rfl, h1, h2, h3, h4, h5, h6, h7⟩ := h
  exact ⟨g, cap, rfl, h1, hf.row h2 (by intro j hj e; subst e; exact h6.not_row h2 (by decide) hj), h3.kept (hf.block gc h3.lt (by omega)), h4.trans hf (by rintro i rfl; exact .inl rfl), h5, hB, h7⟩
theorem SSt.nix (h : SSt w gs ks cs gc k wr v O C D) (hf : Fr wr w1 Nix) : SSt w gs ks cs gc k w1 v O C D := by
  obtain ⟨g, cap, rfl, h1, h2, h3, h4, h5, h6, h7⟩ := h
  exact ⟨g, cap, rfl, h1, hf.row h2 fun _ _ e => e, h3.kept (hf.block _ h3.lt fun e => e), h4.trans hf (fun _ e => e.elim), h5, h6.kept (hf.block _ h6.lt fun e => e), h7⟩
theorem SSt.row (h : SSt w gs ks cs gc k wr v O C D) : wr.ownsRow 0 108 1 v O.length (u32Cells O) := by
  obtain ⟨g, cap, rfl, h1, h2, _⟩ := h
  exact h2
theorem SSt.bits (h : SSt w gs ks cs gc k wr v O C D) : Bits wr gc k k C := by
  obtain ⟨g, cap, rfl, h1, h2, h3, _⟩ := h
  exact h3
theorem SSt.seen (h : SSt w gs ks cs gc k wr v O C D) : Bits wr gs ks cs D := by
  obtain ⟨g, cap, rfl, h1, h2, h3, h4, h5, h6, _⟩ := h
  exact h6
theorem SSt.fr (h : SSt w gs ks cs gc k wr v O C D) : Fr w wr (· = gs) := by
  obtain ⟨g, cap, rfl, h1, h2, h3, h4, _⟩ := h
  exact h4
theorem SSt.shape (h : SSt w gs ks cs gc k wr v O C D) : ∃ g cap, v = .slice (some ⟨g, 0, none⟩) O.length cap := by
  obtain ⟨g, cap, rfl, _⟩ := h
  exact ⟨g, cap, rfl⟩
theorem SSt.caps {g n cap : Nat} (h : SSt w gs ks cs gc k wr (.slice (some ⟨g, 0, none⟩) n cap) O C D) : n = O.length ∧ n ≤ cap ∧ (cap : Int) ≤ 9223372036854775807 := by
  obtain ⟨g0, cap0, h0, h1, h2, _⟩ := h
  simp only [Value.slice.injEq, Option.some.injEq, Addr.mk.injEq, and_true] at h0
  obtain ⟨rfl, rfl, rfl⟩ := h0
  rcases h2.2 with ⟨h0, _⟩ | ⟨g', cap', cur, h0, b1, b2, b3, b4, b5, b6⟩
  · simp at h0
  · simp only [Value.slice.injEq, Option.some.injEq, Addr.mk.injEq, and_true, true_and] at h0
    obtain ⟨rfl, rfl⟩ := h0
    refine ⟨rfl, b3, ?_⟩
    unfold maxLen at b4; omega
theorem SSt.appq (hq : O.length = q) (h : SSt w gs ks cs gc k wr v O C D) (ha : Fr wr wa Nix) {g' cap' y : Nat}
    (hown : w1.ownsRow 0 108 1 (.slice (some ⟨g', 0, none⟩) (q + 1) cap') (q + 1) (u32Cells O ++ u32Cell y)) (hg : wa.grownBy w1 v.ownBlock) (hn : v.ownBlock = some g' ∨ wa.heap.size ≤ g') :
    SSt w gs ks cs gc k w1 (.slice (some ⟨g', 0, none⟩) (q + 1) cap') (O ++ [y]) C D ∧ w1.ownsRow 0 108 1 (.slice (some ⟨g', 0, none⟩) (q + 1) cap') (q + 1) (u32Cells (O ++ [y])) := by
  subst hq
  exact ⟨h.app ha hown hg hn, by simpa [u32Cells] using hown⟩
theorem SSt.rowq (hq : O.length = q) (h : SSt w gs ks cs gc k wr v O C D) : wr.ownsRow 0 108 1 v q (u32Cells O) := hq ▸ h.row
end
theorem SSt.start {w w' : World} {gs ks cs k r : Nat} {D : Nat → Bool} (hB : Bits w' w.heap.size k k (fun _ => false)) (hF : Fr w w' Nix) (hD : Bits w gs ks cs D) :
    SSt w gs ks cs w.heap.size k (w'.alloc (.cells ((madeCells #[.int .u32 0] 64).setIfInBounds 0 (.int .u32 (r : Nat))) 108)) (.slice (some ⟨w'.heap.size, 0, none⟩) 1 64) [r] (fun _ => false) D := by
  have f := Fr.alloc w' (.cells ((madeCells #[.int .u32 0] 64).setIfInBounds 0 (.int .u32 (r : Nat))) 108) Nix
  have f2 := hF.trans f (fun _ e => e.elim)
  refine ⟨w'.heap.size, 64, rfl, hF.size, ⟨rfl, .inr ⟨w'.heap.size, 64, _, rfl, Nat.zero_le _, heap_alloc_new w' _, by simp, by unfold maxLen; omega, by simp [madeCells], by rw [Array.toList_setIfInBounds, toList_madeCells_one]; rfl⟩⟩, hB.kept (f.block _ hB.lt fun e => e), f2.mono fun _ e => e.elim, Nat.le_refl _, hD.kept (f2.block _ hD.lt fun e => e), hD.lt⟩

/-- Where the open list has come to its end, all is closed that the root leads to. -/
theorem D2.full {nd : Nat → Nat × Nat} {n r : Nat} {d : Nat → Prop} {C : Nat → Bool} (h : D2 nd n (fun a => a = r) d [] C) {x : Nat} {f : Bool} (hp : Pth nd r x f) : C x = true := by
  have hr : C r = true := by simpa using h.s r rfl
  refine Pth.ind (c := x) (M := fun y _ => C y = true → C x = true) id ?_ hp hr
  intro y b s t e _ ih hc
  exact ih (by simpa using (h.c y hc).2 b s e)
def orB (Z C : Nat → Bool) : Nat → Bool := fun i => Z i || C i
theorem orB_set (Z C : Nat → Bool) (x : Nat) : setB (orB Z C) x = orB Z (setB C x) := by
  funext i
  unfold setB orB
  rw [Bool.or_assoc]
/-- The rounds of the search: what is closed lies under the root. -/
def RS2 (nd : Nat → Nat × Nat) (n r : Nat) (Z : Nat → Bool) (w : World) (gs ks cs gc k m : Nat) (v : Value) (wr : World) : Prop :=
  ∃ O C, D2 nd n (fun a => a = r) (fun _ => False) O C ∧ m = O.length + 2 * cnt n C ∧ SSt w gs ks cs gc k wr v O C (orB Z C) ∧ ∀ y, C y = true → ∃ f, Pth nd r y f
set_option maxHeartbeats 1000000 in
theorem seen1_c {w : World} {gs ks cs c x : Nat} {D : Nat → Bool} (hc : w.cell? ⟨c, 0, none⟩ = some (.slice (some ⟨gs, 0, none⟩) ks cs)) (hB : Bits w gs ks cs D) (hD : D x = false) (hx : x / 64 < ks) (hx2 : x < 4294967296) :
    Calls Try.prog 139 #[.int .u32 (x : Nat), .pointer (some ⟨c, 0, none⟩)] w fun e w' => e = .returned (.bool false) ∧ Bits w' gs ks cs (setB D x) ∧ Fr w w' (· = gs) := by
  have HB := Lib.hid hB
  have HD := Lib.hid hD
  clear hB hD
  go_enter Try.func139, Try.ntmps139
  go_wp2_with fail
  refine (Test_c HB.out x hx hx2).mono ?_
  rintro e w1 ⟨rfl, rfl⟩
  rw [HD.out]
  go_wp2_with fail
  refine (Set_c HB.out x hx hx2).mono ?_
  rintro e w2 ⟨rfl, hB2, hF2⟩
  have H2 := Lib.hid (And.intro hB2 hF2)
  clear hB2 hF2 hc
  go_wp2
  go_ret
  exact ⟨rfl, H2.out⟩
end Go.Proofs.Ytapnmgkpljlgmaa
namespace Go.Proofs.Ytapnmgkpljlgmaa
open Go.RowKit
set_option maxRecDepth 3000 in
set_option maxHeartbeats 2000000 in
theorem dfs_seen {w : World} {p : Nat} {S : PS} {L : Lay} (h : Rep w p S L) (wf : WF0 S) {r c gs cs : Nat} {Z : Nat → Bool} (hr : r < S.nodes.length) (hc : w.cell? ⟨c, 0, none⟩ = some (.slice (some ⟨gs, 0, none⟩) ((S.nodes.length + 63) / 64) cs)) (hcs : c ≠ gs) (hgs : ∀ g, L.own g → g ≠ gs)
    (hB0 : Bits w gs ((S.nodes.length + 63) / 64) cs Z) (hZ : ∀ x f, Pth S.nd r x f → Z x = false) :
    Calls Try.prog 129 #[.pointer (some ⟨p, 0, none⟩), .int .u32 (r : Nat), .bool false, .func (.func 139) #[] #[.pointer (some ⟨c, 0, none⟩)]] w fun e w' =>
      e = .returned (.bool false) ∧ Fr w w' (· = gs) ∧ Bits w' gs ((S.nodes.length + 63) / 64) cs (orB Z fun i => reachB S.nd r i false) := by
  obtain ⟨ks, hks⟩ : ∃ ks, (S.nodes.length + 63) / 64 = ks := ⟨_, rfl⟩
  rw [hks] at hc hB0 ⊢
  have HKS := Lib.hid hks
  have HZ := Lib.hid hZ
  have HGS := Lib.hid hgs
  have HCS := Lib.hid hcs
  have HB0 := Lib.hid hB0
  clear hks hZ hgs hcs hB0
  have hp0 : w.cell? ⟨p, 0, none⟩ = some (.int .u32 (S.last : Nat)) := by rw [cell_block h.hp]; rfl
  have hs := wf.sz
  have hla := wf.la
  have hm1 := make64 1 (.inr rfl)
  have hm0 : (madeCells #[Value.int IntKind.u32 0] 64)[0]? = some (.int .u32 0) := by rw [← Array.getElem?_toList, toList_madeCells_one]; rfl
  have H := Lib.hid (And.intro h wf)
  have HC := Lib.hid hc
  have HR := Lib.hid hr
  have hs1 : S.last < 2147483647 := by omega
  have HS := Lib.hid (And.intro hs hla)
  have hN : S.last + 1 = S.nodes.length := hla
  have HN := Lib.hid hN
  have hsz : S.last + 1 < 2147483648 := by omega
  clear h wf hc hr hs hla hN
  simp only [Int.cast_ofNat_Int] at hm1
  go_enter Try.func129, Try.ntmps129
  go_wp2_with (go_at_call 114; refine (newBitset_c (S.last + 1) _ (by omega)).mono ?_; rintro e w' ⟨rfl, hB, hF, hlt⟩)
  have h0 : RS2 S.nd S.nodes.length r Z w gs ks cs w.heap.size ((S.last + 1 + 63) / 64) (1 + 2 * S.nodes.length) (.slice (some ⟨w'.heap.size, 0, none⟩) 1 64) (w'.alloc (.cells ((madeCells #[.int .u32 0] 64).setIfInBounds 0 (.int .u32 (r : Nat))) 108)) :=
    ⟨[r], fun _ => false, D2.start _ HR.out, by rw [cnt_none]; rfl, by rw [show orB Z (fun _ => false) = Z from funext fun i => Bool.or_false _]; exact SSt.start hB hF HB0.out, fun y hy => by cases hy⟩
  have H0 := Lib.hid h0
  clear h0 hB hF hlt hm0 hm1 hp0
  generalize hk : (S.last + 1 + 63) / 64 = k at *
  have HK := Lib.hid hk
  clear hk
  go_loopg [10] (1 + 2 * S.nodes.length) (fun m v wr => RS2 S.nd S.nodes.length r Z w gs ks cs w.heap.size k m v wr)
  case atStart => exact H0.out
  case round =>
    obtain ⟨O, C, hD, hm, hSt, hRC⟩ := hrel
    have HRC := Lib.hid hRC
    clear hRC
    rcases List.eq_nil_or_concat O with rfl | ⟨O', x, rfl⟩
    · obtain ⟨g, cap, rfl⟩ := hSt.shape
      have hfull : (fun i => reachB S.nd r i false) = C := by
        funext y
        rw [Bool.eq_iff_iff, (reachB_iff S.nd r y).1]
        exact ⟨fun ⟨f, hf⟩ => hD.full hf, fun hy => HRC.out y hy⟩
      have HF := Lib.hid (show Fr w wr (· = gs) ∧ Bits wr gs ks cs (orB Z fun i => reachB S.nd r i false) from ⟨hSt.fr, by rw [hfull]; exact hSt.seen⟩)
      clear hD hSt hm hfull
      go_wp2
      go_ret
      exact ⟨rfl, HF.out⟩
    · rw [List.concat_eq_append] at hD hSt hm
      obtain ⟨g, cap, hv⟩ := hSt.shape
      obtain ⟨q, hq⟩ : ∃ q, O'.length = q := ⟨_, rfl⟩
      simp only [List.length_append, List.length_singleton, hq] at hv
      subst hv
      rw [← hq] at hSt
      obtain ⟨hSt1, hcx⟩ := hSt.pop
      obtain ⟨_, hcap0, hcap2⟩ := hSt.caps
      have hcap : O'.length ≤ cap := by omega
      clear hcap0 hcap2
      have hxn := hD.lt
      have hlen : O'.length ≤ 10000000000 := by
        have h1 := hD.m
        have h2 := HS.out.1
        simp at h1
        omega
      have hx32 : x < 4294967296 := by have := HS.out.1; omega
      have hxk : x / 64 < k := by have := HK.out; have := HN.out; omega
      have hB := hSt1.bits
      have HD := Lib.hid hD
      have HST := Lib.hid hSt1
      have HM := Lib.hid hm
      have hcd : wr.cell? ⟨c, 0, none⟩ = some (.slice (some ⟨gs, 0, none⟩) ks cs) := (hSt1.fr.cell (a := ⟨c, 0, none⟩) (World.block_lt_of_cell? w _ HC.out) (fun e => HCS.out e)).trans HC.out
      have hxp := (hD.o x (by simp)).2
      have HZX := Lib.hid (show Z x = false by obtain ⟨a, f, rfl, hp⟩ := hxp; exact HZ.out x f hp)
      have HXP := Lib.hid (show ∃ f, Pth S.nd r x f by obtain ⟨a, f, rfl, hp⟩ := hxp; exact ⟨f, hp⟩)
      have HSN := Lib.hid hSt1.seen
      have hxs : x / 64 < ks := by have := HKS.out; omega
      clear hxp
      clear hD hSt1 hSt hm
      rw [hq] at hcx hcap hlen HST
      have HQ := Lib.hid hq
      clear hq
      by_cases hCx : C x = true
      · go_wp2_with (go_at_call 127; refine (Test_c hB x hxk hx32).mono ?_; rintro e w' ⟨rfl, rfl⟩)
        go_roundg (q + 2 * cnt S.nodes.length C)
        case measure => have h1 := HM.out; have h2 := HQ.out; simp at h1; omega
        case rel => exact ⟨O', C, HD.out.skip hCx, by rw [HQ.out], HST.out, HRC.out⟩
      · have hCx : C x = false := by simpa using hCx
        · have HDX := Lib.hid (show orB Z C x = false by unfold orB; rw [HZX.out, hCx]; rfl)
          go_wp2_with (first | (go_at_call 127; refine (Test_c hB x hxk hx32).mono ?_; rintro e w' ⟨rfl, rfl⟩) | (go_at_call 139; refine (seen1_c hcd HSN.out HDX.out hxs hx32).mono ?_; rintro e w5 ⟨rfl, hD1, hF5⟩; have HST1 := Lib.hid (HST.out.setD hD1 hF5); clear hD1 hF5) | (go_at_call 115; refine (Set_c HST1.out.bits x hxk hx32).mono ?_; rintro e w1 ⟨rfl, hB1, hF1⟩))
          have hSt2 := HST1.out.setC hB1 hF1
          rw [orB_set] at hSt2
          have hR2 := H.out.1.kept hSt2.fr (fun g hg e => HGS.out g hg e)
          have HRC2 := Lib.hid (show ∀ y, setB C x y = true → ∃ f, Pth S.nd r y f from fun y hy => by
            unfold setB at hy
            rw [Bool.or_eq_true, decide_eq_true_eq] at hy
            rcases hy with hy | rfl
            · exact HRC.out y hy
            · exact HXP.out)
          have HR2 := Lib.hid hR2
          have HX2 := Lib.hid (HD.out.step H.out.2.ir hCx (fun e => e))
          have hx2 : x < S.nodes.length := hxn
          have HST2 := Lib.hid hSt2
          have hCx' := hCx
          clear hB hcx hcd hCx hB1 hF1 hSt2 hR2 hxk HST hxs
          obtain ⟨l, r', hlr⟩ : ∃ l r', S.nd x = (l, r') := ⟨_, _, rfl⟩
          have HLR := Lib.hid hlr
          have hch := children_c HR2.out x hx2
          rw [hlr] at hch
          have HCH := Lib.hid hch
          clear hlr hch
          have hb1 : (q + 1) * 4 ≤ 140737488355328 ∧ q + 1 ≤ 1000000000000 ∧ (q + 1 + 1) * 4 ≤ 140737488355328 ∧ q + 1 + 1 ≤ 1000000000000 := by omega
          have HB1 := Lib.hid hb1
          have hme := cnt_set hCx' S.nodes.length hx2
          have hkl := kids_len (S.nd x)
          have HME := Lib.hid (And.intro hme hkl)
          clear hb1 hme hkl hlen hCx'
          by_cases hl0 : l = 0
          · have hlb := ne0_false hl0
            have HL0 := Lib.hid hl0
            clear hl0
            by_cases hr0 : r' = 0
            · have hrb := ne0_false hr0
              have HR0 := Lib.hid hr0
              clear hr0
              go_wp2_with (first | (go_at_call 121; refine HCH.out.mono ?_; rintro e w2 ⟨rfl, hF2⟩; have HST3 := Lib.hid (HST2.out.nix hF2); have HSR3 := Lib.hid (SSt.rowq HQ.out HST3.out); clear hF2))
              go_roundg ((O' ++ kids (S.nd x)).length + 2 * cnt S.nodes.length (setB C x))
              case measure => have h1 := HM.out; have h2 := HME.out; simp at h1 ⊢; omega
              case rel =>
                refine ⟨O' ++ kids (S.nd x), setB C x, HX2.out, rfl, ?_, HRC2.out⟩
                rw [HLR.out]
                simp only [kids, kid, HL0.out, HR0.out, if_true, if_false, List.append_nil, List.nil_append, ← List.append_assoc]
                exact HST3.out
            · have hrb := ne0_true hr0
              have HR0 := Lib.hid hr0
              clear hr0
              go_wp2_with (first | (go_at_call 121; refine HCH.out.mono ?_; rintro e w2 ⟨rfl, hF2⟩; have HST3 := Lib.hid (HST2.out.nix hF2); have HSR3 := Lib.hid (SSt.rowq HQ.out HST3.out); clear hF2) | (go_at_call 124; refine (target_c _ _).mono ?_; rintro e w' ⟨rfl, rfl⟩) | (at_builtin; refine wpList_app _ rfl (.tmp 128) (.tmp 131) 105 rfl 108 _ 1 4 Try.underlying105 info_u32 rfl (by decide) _ q (u32Cells O') rfl (HSR3.out.alloc _) ⟨w2.heap.size, 0, none⟩ 1 1 (u32Cell (r' / 2)) rfl rfl (by decide) (cells_new _ _ _) (u32_one _) HB1.out.1 HB1.out.2.1 ?_; intro g1 cap1 w3 hown1 hgrow1 hnew1))
              obtain ⟨hS4, _⟩ := SSt.appq HQ.out HST3.out (Fr.alloc _ _ _) hown1 hgrow1 hnew1
              have HST4 := Lib.hid hS4
              clear hown1 hgrow1 hnew1 hS4
              go_wp2
              go_roundg ((O' ++ kids (S.nd x)).length + 2 * cnt S.nodes.length (setB C x))
              case measure => have h1 := HM.out; have h2 := HME.out; simp at h1 ⊢; omega
              case rel =>
                refine ⟨O' ++ kids (S.nd x), setB C x, HX2.out, rfl, ?_, HRC2.out⟩
                rw [HLR.out]
                simp only [kids, kid, HL0.out, HR0.out, if_true, if_false, List.append_nil, List.nil_append, ← List.append_assoc]
                exact HST4.out
          · have hlb := ne0_true hl0
            have HL0 := Lib.hid hl0
            clear hl0
            by_cases hr0 : r' = 0
            · have hrb := ne0_false hr0
              have HR0 := Lib.hid hr0
              clear hr0
              go_wp2_with (first | (go_at_call 121; refine HCH.out.mono ?_; rintro e w2 ⟨rfl, hF2⟩; have HST3 := Lib.hid (HST2.out.nix hF2); have HSR3 := Lib.hid (SSt.rowq HQ.out HST3.out); clear hF2) | (go_at_call 124; refine (target_c _ _).mono ?_; rintro e w' ⟨rfl, rfl⟩) | (at_builtin; refine wpList_app _ rfl (.tmp 121) (.tmp 124) 105 rfl 108 _ 1 4 Try.underlying105 info_u32 rfl (by decide) _ q (u32Cells O') rfl (HSR3.out.alloc _) ⟨w2.heap.size, 0, none⟩ 1 1 (u32Cell (l / 2)) rfl rfl (by decide) (cells_new _ _ _) (u32_one _) HB1.out.1 HB1.out.2.1 ?_; intro g1 cap1 w3 hown1 hgrow1 hnew1))
              obtain ⟨hS4, _⟩ := SSt.appq HQ.out HST3.out (Fr.alloc _ _ _) hown1 hgrow1 hnew1
              have HST4 := Lib.hid hS4
              clear hown1 hgrow1 hnew1 hS4
              go_wp2
              go_roundg ((O' ++ kids (S.nd x)).length + 2 * cnt S.nodes.length (setB C x))
              case measure => have h1 := HM.out; have h2 := HME.out; simp at h1 ⊢; omega
              case rel =>
                refine ⟨O' ++ kids (S.nd x), setB C x, HX2.out, rfl, ?_, HRC2.out⟩
                rw [HLR.out]
                simp only [kids, kid, HL0.out, HR0.out, if_true, if_false, List.append_nil, List.nil_append, ← List.append_assoc]
                exact HST4.out
            · have hrb := ne0_true hr0
              have HR0 := Lib.hid hr0
              clear hr0
              go_wp2_with (first | (go_at_call 121; refine HCH.out.mono ?_; rintro e w2 ⟨rfl, hF2⟩; have HST3 := Lib.hid (HST2.out.nix hF2); have HSR3 := Lib.hid (SSt.rowq HQ.out HST3.out); clear hF2) | (go_at_call 124; refine (target_c _ _).mono ?_; rintro e w' ⟨rfl, rfl⟩) | (at_builtin; refine wpList_app _ rfl (.tmp 121) (.tmp 124) 105 rfl 108 _ 1 4 Try.underlying105 info_u32 rfl (by decide) _ q (u32Cells O') rfl (HSR3.out.alloc _) ⟨w2.heap.size, 0, none⟩ 1 1 (u32Cell (l / 2)) rfl rfl (by decide) (cells_new _ _ _) (u32_one _) HB1.out.1 HB1.out.2.1 ?_; intro g1 cap1 w3 hown1 hgrow1 hnew1; obtain ⟨hS4, hr4⟩ := SSt.appq HQ.out HST3.out (Fr.alloc _ _ _) hown1 hgrow1 hnew1; have HST4 := Lib.hid hS4; have HSR4 := Lib.hid hr4; clear hown1 hgrow1 hnew1 hS4 hr4) | (at_builtin; refine wpList_app _ rfl (.tmp 128) (.tmp 131) 105 rfl 108 _ 1 4 Try.underlying105 info_u32 rfl (by decide) _ (q + 1) (u32Cells (O' ++ [l / 2])) rfl (HSR4.out.alloc _) ⟨w3.heap.size, 0, none⟩ 1 1 (u32Cell (r' / 2)) rfl rfl (by decide) (cells_new _ _ _) (u32_one _) HB1.out.2.2.1 HB1.out.2.2.2 ?_; intro g2 cap2 w4 hown2 hgrow2 hnew2; obtain ⟨hS5, _⟩ := SSt.appq (by simp [HQ.out]) HST4.out (Fr.alloc _ _ _) hown2 hgrow2 hnew2; have HST5 := Lib.hid hS5; clear hown2 hgrow2 hnew2 hS5))
              go_roundg ((O' ++ kids (S.nd x)).length + 2 * cnt S.nodes.length (setB C x))
              case measure => have h1 := HM.out; have h2 := HME.out; simp at h1 ⊢; omega
              case rel =>
                refine ⟨O' ++ kids (S.nd x), setB C x, HX2.out, rfl, ?_, HRC2.out⟩
                rw [HLR.out]
                simp only [kids, kid, HL0.out, HR0.out, if_true, if_false, List.append_nil, List.nil_append, ← List.append_assoc]
                exact HST5.out
end Go.Proofs.Ytapnmgkpljlgmaa
namespace Go.Proofs.Ytapnmgkpljlgmaa
open Go.RowKit

/-- Which nodes the first k roots lead to. -/
noncomputable def seenK (S : PS) (rl : List Nat) (k : Nat) : Nat → Bool := fun i => (rl.take k).any fun r => reachB S.nd r i false
theorem take_snoc' {α : Type} {l : List α} {k : Nat} {z : α} (h : l[k]? = some z) : l.take (k + 1) = l.take k ++ [z] := by
  rw [List.take_add_one, h]; rfl
theorem seenK_succ {S : PS} {rl : List Nat} {k r : Nat} (h : rl[k]? = some r) : orB (seenK S rl k) (fun i => reachB S.nd r i false) = seenK S rl (k + 1) := by
  funext i
  unfold orB seenK
  rw [take_snoc' h, List.any_append, List.any_cons, List.any_nil, Bool.or_false]
theorem seenK_new {S : PS} {rl : List Nat} {k r x : Nat} {f : Bool} (ok : OK S) (hn : rl.Nodup) (hm : ∀ r, r ∈ rl ↔ S.rt r = true) (h : rl[k]? = some r) (hp : Pth S.nd r x f) : seenK S rl k x = false := by
  cases e : seenK S rl k x
  · rfl
  · obtain ⟨r', h1, h2⟩ := List.any_eq_true.1 e
    have m' : r' ∈ rl := List.mem_of_mem_take h1
    have m : r ∈ rl := List.mem_of_getElem? h
    have hr : r' = r := ok.rs.dj ((hm r').1 m') ((hm r).1 m) (reach_le.1 h2) ⟨f, pth_iff.1 hp⟩
    subst hr
    obtain ⟨j, hj, e2⟩ := List.mem_iff_getElem.1 h1
    rw [List.getElem_take] at e2
    rw [List.length_take] at hj
    have hk := (List.getElem?_eq_some_iff.1 h).1
    have ek : rl[k] = r' := by rw [List.getElem?_eq_getElem hk] at h; exact Option.some.inj h
    have := (List.getElem_inj (h₀ := by omega) (h₁ := hk) hn).1 (e2.trans ek.symm)
    omega
theorem seenK_all {S : PS} {rl : List Nat} {x : Nat} (ok : OK S) (hm : ∀ r, r ∈ rl ↔ S.rt r = true) (hx : live S x) : seenK S rl rl.length x = true := by
  obtain ⟨r, h1, h2⟩ := ok.under hx
  unfold seenK
  rw [List.take_length]
  exact List.any_eq_true.2 ⟨r, (hm r).2 h1, reach_le.2 h2⟩
theorem or_zero {l r : Nat} (hl : l < 4294967296) (hr : r < 4294967296) : (bits .or .u32 (l : Int) (r : Int) != 0) = decide ((l, r) ≠ (0, 0)) := by
  rw [u32_or_nat l r hl hr]
  rw [Bool.eq_iff_iff, bne_iff_ne, decide_eq_true_eq, ne_eq, ne_eq, Prod.mk.injEq]
  have e : ((l ||| r : Nat) : Int) = 0 ↔ l ||| r = 0 := by omega
  rw [e, Nat.or_eq_zero_iff]
def ckLoop (w2 : World) (gs ks cs : Nat) (S : PS) (rl : List Nat) (m : Nat) (u : Value) (wr : World) : Prop :=
  ∃ k : Nat, m + k = rl.length ∧ u = .int .i64 (k : Nat) ∧ Fr w2 wr (· = gs) ∧ Bits wr gs ks cs (seenK S rl k)
theorem nodes_at {w : World} {p : Nat} {S : PS} {L : Lay} (h : Rep w p S L) {i g cap : Nat} (hi : i < S.nodes.length) (hv : L.nv = .slice (some ⟨g, 0, none⟩) S.nodes.length cap) :
    w.cell? ⟨g, i * 2, none⟩ = some (.int .u32 ((S.nd i).1 : Nat)) ∧ w.cell? ⟨g, i * 2 + 1, none⟩ = some (.int .u32 ((S.nd i).2 : Nat)) := by
  have hn := h.hn
  have hl := hn.1
  rw [hv] at hn
  obtain ⟨h1, h2⟩ := node_get hi
  rw [node_len] at hl
  refine ⟨?_, ?_⟩
  · exact (hn.cellAt (i * 2) (show i * 2 < S.nodes.length * 2 by omega)).trans h1
  · exact (hn.cellAt (i * 2 + 1) (show i * 2 + 1 < S.nodes.length * 2 by omega)).trans h2
set_option maxRecDepth 200000 in
set_option maxHeartbeats 8000000 in
theorem CheckIntegrity_c {w : World} {p : Nat} {S : PS} {L : Lay} (h : Rep w p S L) (ok : OK S) :
    Calls Try.prog 126 #[.pointer (some ⟨p, 0, none⟩)] w fun e w' => e = .returned (.tuple #[]) ∧ Fr w w' Nix := by
  have wf : WF0 S := ok.toWF0
  have hp0 : w.cell? ⟨p, 0, none⟩ = some (.int .u32 (S.last : Nat)) := by rw [cell_block h.hp]; rfl
  have hmf : ∀ (fn : Fn) (first cap : Array Value) (w : World), (Instr.makeFunc fn first cap).run Try.prog w = .ok (.func fn first cap) w := fun _ _ _ _ => rfl
  have hs := wf.sz
  have hla := wf.la
  have hs1 : S.last < 2147483647 := by omega
  have hsz : S.last + 1 < 2147483648 := by omega
  have H := Lib.hid (And.intro h (And.intro ok wf))
  have HN := Lib.hid (And.intro hla hs)
  clear h ok wf hla hs
  go_enter Try.func126, Try.ntmps126
  go_wp2_with fail
  refine (newBitset_c (S.last + 1) _ (by omega)).mono ?_
  rintro e w1 ⟨rfl, hB, hF, hlt⟩
  rw [HN.out.1] at hB ⊢
  obtain ⟨ks, hks⟩ : ∃ ks, (S.nodes.length + 63) / 64 = ks := ⟨_, rfl⟩
  obtain ⟨gs, hgs⟩ : ∃ gs, w.heap.size = gs := ⟨_, rfl⟩
  rw [hks, hgs] at hB
  rw [hgs] at hlt
  rw [hks, hgs]
  have HKS := Lib.hid hks
  have HGS := Lib.hid hgs
  have H1 := Lib.hid (And.intro hB (And.intro hF hlt))
  clear hB hF hlt hks hgs hp0 hs1 hsz
  go_upto_region 1 with fail
  obtain ⟨w2, hw2⟩ : ∃ w2, w1.alloc (.cells #[.slice (some ⟨gs, 0, none⟩) ks ks] 127) = w2 := ⟨_, rfl⟩
  obtain ⟨c, hcc⟩ : ∃ c, w1.heap.size = c := ⟨_, rfl⟩
  have hc2 : w2.cell? ⟨c, 0, none⟩ = some (.slice (some ⟨gs, 0, none⟩) ks ks) := by
    rw [← hw2, ← hcc]
    have := heap_alloc_new w1 (.cells #[.slice (some ⟨gs, 0, none⟩) ks ks] 127)
    rw [cell_block this]; rfl
  have hf2 : Fr w1 w2 Nix := hw2 ▸ Fr.al w1 (.cells #[.slice (some ⟨gs, 0, none⟩) ks ks] 127)
  rw [hw2, hcc]
  have HC := Lib.hid (And.intro hc2 (And.intro (show c ≠ gs by have := H1.out.2.2; omega) (block_lt_of_cell hc2)))
  have HF2 := Lib.hid (H1.out.2.1.t hf2)
  have HB2 := Lib.hid (H1.out.1.kept (hf2.block _ H1.out.1.lt fun e => e))
  have HR2 := Lib.hid (H.out.1.nix HF2.out)
  have HOG := Lib.hid (show ∀ g, L.own g → g ≠ gs from fun g hg e => by have := H.out.1.lt g hg; have := HGS.out; omega)
  clear hw2 hcc hc2 hf2 H1
  have c4 : w2.cell? ⟨p, 4, none⟩ = some L.rv := by rw [cell_block HR2.out.hp]; rfl
  obtain ⟨R, hR⟩ : ∃ R, L.rl.length = R := ⟨_, rfl⟩
  obtain ⟨Ar, cr, hrv⟩ : ∃ A c, L.rv = .slice A R c := by
    rcases Nat.eq_zero_or_pos L.rl.length with e | e
    · obtain ⟨a, c, h1, _⟩ := HR2.out.roots_none e
      exact ⟨a, c, by rw [h1, ← hR, e]⟩
    · obtain ⟨g, cap, h1, _⟩ := HR2.out.roots_at e
      exact ⟨_, cap, by rw [h1, hR]⟩
  have hRi : (R : Int) ≤ 9223372036854775807 := by
    rcases Nat.eq_zero_or_pos L.rl.length with e | e
    · omega
    · obtain ⟨g, cap, h1, h2, _⟩ := HR2.out.roots_at e
      omega
  rw [hrv] at c4
  have HRV := Lib.hid (And.intro hR hrv)
  clear hR hrv
  go_wp2_with fail
  clear c4
  go_loopg [21] R (fun m u wr => ckLoop w2 gs ks ks S L.rl m u wr)
  case atStart =>
    refine ⟨0, HRV.out.1.symm, rfl, Fr.refl _ _, ?_⟩
    exact HB2.out
  case round =>
    obtain ⟨k, hmk, rfl, hF, hB⟩ := hrel
    have HMK := Lib.hid hmk
    have HF := Lib.hid hF
    have HB := Lib.hid hB
    have HRr := Lib.hid (HR2.out.kept hF fun g hg e => HOG.out g hg e)
    have hcr : wr.cell? ⟨c, 0, none⟩ = some (.slice (some ⟨gs, 0, none⟩) ks ks) := (hF.cell (a := ⟨c, 0, none⟩) HC.out.2.2 (fun e => HC.out.2.1 e)).trans HC.out.1
    have HCR := Lib.hid hcr
    clear hmk hF hB
    by_cases hlt : k < R
    · have hkl : k < L.rl.length := by rw [HRV.out.1]; exact hlt
      obtain ⟨g, cap, hv, _, _, hcell⟩ := HRr.out.roots_at (by omega)
      have hv2 := HRV.out.2
      rw [hv] at hv2
      simp only [Value.slice.injEq] at hv2
      obtain ⟨rfl, _, rfl⟩ := hv2
      obtain ⟨hc4, _⟩ := hcell k hkl
      obtain ⟨r, hr⟩ : ∃ r, L.rl.getD k 0 = r := ⟨_, rfl⟩
      rw [hr] at hc4
      have hrk : L.rl[k]? = some r := by rw [← hr, List.getD_eq_getElem?_getD, List.getElem?_eq_getElem hkl]; rfl
      have hrt : S.rt r = true := (HRr.out.rm r).1 (List.mem_of_getElem? hrk)
      have hr0 : ((r : Int) == 0) = false := eq0_false (by rintro rfl; rw [H.out.2.1.r0] at hrt; cases hrt)
      have HK := Lib.hid (And.intro hrk (H.out.2.1.ro r hrt))
      clear hcell hv hr hrk hrt hkl
      go_wp2_with fail
      refine (dfs_seen HRr.out H.out.2.2 HK.out.2 (by rw [HKS.out]; exact HCR.out) HC.out.2.1 HOG.out (by rw [HKS.out]; exact HB.out) (fun x f hp => seenK_new H.out.2.1 HRr.out.rn HRr.out.rm HK.out.1 hp)).mono ?_
      rintro e w3 ⟨rfl, hF3, hB3⟩
      rw [HKS.out, seenK_succ HK.out.1] at hB3
      have HF3 := Lib.hid (HF.out.trans hF3 fun _ e => .inl e)
      have HB3 := Lib.hid hB3
      clear hF3 hB3 hc4 hr0 hcr
      go_wp2
      go_roundg (R - (k + 1))
      case measure => have := HMK.out; have := HRV.out.1; omega
      case rel => exact ⟨k + 1, by have := HMK.out; have := HRV.out.1; omega, by rw [Int.natCast_add]; rfl, HF3.out, HB3.out⟩
    · have hk : k = L.rl.length := by have := HMK.out; have := HRV.out.1; omega
      subst hk
      generalize wr = wa at *
      have c2 : wa.cell? ⟨p, 2, none⟩ = some (.map (some L.vb)) := by rw [cell_block HRr.out.hp]; rfl
      obtain ⟨o, hrg, cnt, hRg⟩ := HRr.out.hv.range
      have HRG := Lib.hid hRg
      have HF0 := Lib.hid (Fr.al wa o)
      obtain ⟨rb, hrb⟩ : ∃ rb, wa.heap.size = rb := ⟨_, rfl⟩
      have HRB := Lib.hid (show gs ≠ rb ∧ c ≠ rb by
        have := HB.out.lt
        have := block_lt_of_cell hcr
        simp only at this
        omega)
      clear hRg hcr
      go_wp2_with fail
      clear c2 hrg
      obtain ⟨w3, hw3⟩ : ∃ w3, wa.alloc o = w3 := ⟨_, rfl⟩
      rw [hw3] at HRG HF0 ⊢
      rw [hrb] at HRG
      clear hw3
      have HRBS := Lib.hid hrb
      clear hrb
      have hRGS := HRG.out
      go_loopg [6] cnt (fun m u wx => ∃ done, Rng wx L.vb rb S.vl done m ∧ Fr w3 wx (· = rb))
      case atStart => exact ⟨[], hRGS, Fr.refl _ _⟩
      case round =>
        clear hRGS
        obtain ⟨done, hRg, hFx⟩ := hrel
        have HFX := Lib.hid hFx
        have HBX := Lib.hid ((HB.out.kept (HF0.out.block _ HB.out.lt fun e => e)))
        have HCX := Lib.hid ((HF0.out.cell (a := ⟨c, 0, none⟩) (block_lt_of_cell HCR.out) (fun e => e)).trans HCR.out)
        rcases hRg.next with ⟨_, hrun⟩ | ⟨id, w4, cnt4, _, hid, hlt4, hF4, hRg4, hrun, hent⟩
        · generalize wr = wx at *
          have HFE := Lib.hid (show Fr wa wx Nix from (HF0.out.trans hFx fun i hi => .inr (by rw [HRBS.out]; omega)))
          have HRE := Lib.hid (HRr.out.nix HFE.out)
          have HBE := Lib.hid (HB.out.kept (HFE.out.block _ HB.out.lt fun e => e))
          have hce : wx.cell? ⟨c, 0, none⟩ = some (.slice (some ⟨gs, 0, none⟩) ks ks) := (HFE.out.cell (a := ⟨c, 0, none⟩) (block_lt_of_cell HCR.out) (fun e => e)).trans HCR.out
          have HCE := Lib.hid hce
          have hlp := H.out.2.1.pos
          obtain ⟨gn, cn, hnv, hn1, hn2⟩ := row_at HRE.out.hn hlp
          have c3 : wx.cell? ⟨p, 3, none⟩ = some L.nv := by rw [cell_block HRE.out.hp]; rfl
          rw [hnv] at c3
          obtain ⟨N, hN⟩ : ∃ N, S.nodes.length = N := ⟨_, rfl⟩
          rw [hN] at c3
          have HNN := Lib.hid (And.intro hN hnv)
          have hNi : (N : Int) < 2147483648 := by have := H.out.2.2.sz; omega
          clear hRg hFx hce hlp hnv hn1 hn2 hN
          go_wp2_with fail
          clear hrun c3
          go_loopg [52] N (fun m u wr => ∃ i : Nat, m + i = N ∧ u = .int .i64 (i : Nat) ∧ Fr wx wr Nix)
          case atStart => exact ⟨0, rfl, rfl, Fr.refl _ _⟩
          case round =>
            obtain ⟨i, hmi, rfl, hFy⟩ := hrel
            have HMI := Lib.hid hmi
            have HFY := Lib.hid hFy
            clear hmi
            by_cases hlti : i < N
            · obtain ⟨l, hl⟩ : ∃ l, (S.nd i).1 = l := ⟨_, rfl⟩
              obtain ⟨rr, hrr⟩ : ∃ r, (S.nd i).2 = r := ⟨_, rfl⟩
              obtain ⟨n0, n1⟩ := nodes_at (HRE.out.nix hFy) (i := i) (by rw [HNN.out.1]; exact hlti) HNN.out.2
              rw [hl] at n0
              rw [hrr] at n1
              have HLR := Lib.hid (show S.nd i = (l, rr) by rw [← hl, ← hrr])
              have htg := H.out.2.2.tgt i
              have hszz := H.out.2.2.sz
              rw [hl, hrr] at htg
              have hor := or_zero (l := l) (r := rr) (by omega) (by omega)
              have hi31 : i < 2147483648 := by omega
              have HL32 := Lib.hid (show l < 4294967296 ∧ rr < 4294967296 by omega)
              have HI31 := Lib.hid hi31
              clear hl hrr htg hszz hFy
              by_cases hz : (l, rr) = (0, 0)
              · rw [show decide ((l, rr) ≠ (0, 0)) = false by rw [decide_eq_false_iff_not]; exact fun q => q hz] at hor
                clear hz
                go_wp2
                go_roundg (N - (i + 1))
                case measure => have := HMI.out; omega
                case rel => exact ⟨i + 1, by have := HMI.out; omega, by rw [Int.natCast_add]; rfl, HFY.out.a _⟩
              · rw [show decide ((l, rr) ≠ (0, 0)) = true from decide_eq_true hz] at hor
                have HLV := Lib.hid (show live S i from .inr (by rw [HLR.out]; exact hz))
                have HI0 := Lib.hid (show i ≠ 0 by rintro rfl; have := H.out.2.1.n0; rw [HLR.out] at this; exact hz this)
                obtain ⟨rk, hrk⟩ := H.out.2.1.rk
                have HSL := Lib.hid (show l / 2 ≠ i ∧ rr / 2 ≠ i by
                  have hI0 := HI0.out
                  have hLR := HLR.out
                  refine ⟨fun e => ?_, fun e => ?_⟩
                  · have l0 : l ≠ 0 := by rintro rfl; simp at e; exact hI0 e.symm
                    have ed : Ed S.nd i i (decide (l % 2 = 1)) := by rw [Ed_at hLR]; exact .inl ⟨l0, e, rfl⟩
                    exact Nat.lt_irrefl _ (hrk _ _ _ ed)
                  · have l0 : rr ≠ 0 := by rintro rfl; simp at e; exact hI0 e.symm
                    have ed : Ed S.nd i i (decide (rr % 2 = 1)) := by rw [Ed_at hLR]; exact .inr ⟨l0, e, rfl⟩
                    exact Nat.lt_irrefl _ (hrk _ _ _ ed))
                have e1 : ((l : Int) / 2 == (i : Int)) = false := by rw [beq_eq_false_iff_ne]; have := HSL.out.1; omega
                have e2 : ((rr : Int) / 2 == (i : Int)) = false := by rw [beq_eq_false_iff_ne]; have := HSL.out.2; omega
                have hce : (wr.alloc (.cells #[.int .u32 (l : Nat), .int .u32 (rr : Nat)] 146)).cell? ⟨c, 0, none⟩ = some (.slice (some ⟨gs, 0, none⟩) ks ks) :=
                  ((HFY.out.a _).cell (a := ⟨c, 0, none⟩) (block_lt_of_cell HCE.out) (fun e => e)).trans HCE.out
                have HBY := Lib.hid (HBE.out.kept ((HFY.out.a (.cells #[.int .u32 (l : Nat), .int .u32 (rr : Nat)] 146)).block _ HBE.out.lt fun e => e))
                clear hz hrk
                go_wp2_with fail
                refine (Test_c HBY.out i (by have := HKS.out; have := HNN.out.1; omega) (by have := HI31.out; omega)).mono ?_
                rintro e w9 ⟨rfl, rfl⟩
                rw [seenK_all H.out.2.1 HRr.out.rm HLV.out]
                go_wp2_with fail
                refine (target_c l _).mono ?_
                rintro e w9 ⟨rfl, rfl⟩
                clear hor hmf
                go_wp2_with fail
                refine (target_c rr _).mono ?_
                rintro e w9 ⟨rfl, rfl⟩
                clear hce n0 n1
                go_wp2
                go_roundg (N - (i + 1))
                case measure => have := HMI.out; omega
                case rel => exact ⟨i + 1, by have := HMI.out; omega, by rw [Int.natCast_add]; rfl, HFY.out.a _⟩
            · go_wp2
              go_end0
              have f1 : Fr w wa Nix := HF2.out.trans HF.out fun i hi => .inr (by have := HGS.out; omega)
              exact ⟨rfl, (f1.t HFE.out).t HFY.out⟩
        · have HB4 := Lib.hid ((HBX.out.kept (HFX.out.block _ HBX.out.lt fun e => HRB.out.1 e)).kept (hF4.block _ (by have := (HBX.out.kept (HFX.out.block _ HBX.out.lt fun e => HRB.out.1 e)).lt; exact this) fun e => HRB.out.1 e))
          have hc4 : w4.cell? ⟨c, 0, none⟩ = some (.slice (some ⟨gs, 0, none⟩) ks ks) := by
            have h1 := (HFX.out.cell (a := ⟨c, 0, none⟩) (block_lt_of_cell HCX.out) (fun e => HRB.out.2 e)).trans HCX.out
            exact (hF4.cell (a := ⟨c, 0, none⟩) (block_lt_of_cell h1) (fun e => HRB.out.2 e)).trans h1
          have HF4 := Lib.hid (HFX.out.trans hF4 fun i hi => .inl hi)
          have HRG4 := Lib.hid (And.intro hRg4 hlt4)
          have HLV := Lib.hid (show live S (S.vl id) from .inl ⟨hid, id, rfl⟩)
          obtain ⟨x, hx⟩ : ∃ x, S.vl id = x := ⟨_, rfl⟩
          have HXL := Lib.hid (show x < S.nodes.length by rw [← hx]; exact H.out.2.1.va id)
          rw [hx] at hrun hent HLV
          have hszz := H.out.2.2.sz
          have HX32 := Lib.hid (show x < 4294967296 by have := HXL.out; omega)
          clear hRg hFx hid hlt4 hF4 hRg4 hx hszz
          go_wp2_with fail
          refine (Test_c HB4.out x (by have := HKS.out; have := HXL.out; omega) HX32.out).mono ?_
          rintro e w9 ⟨rfl, rfl⟩
          rw [seenK_all H.out.2.1 HRr.out.rm HLV.out]
          clear hrun hent hc4
          go_wp2
          go_roundg cnt4
          case measure => exact HRG4.out.2
          case rel => exact ⟨id :: done, HRG4.out.1, HF4.out⟩
end Go.Proofs.Ytapnmgkpljlgmaa
