/- dfs, as reaches calls it. dfs, as reaches calls it: the walk. -/
import Derived.Test.YtapnmgkpljlgmaaG01
import Derived.Deep.LoopGhost
set_option linter.unusedVariables false
set_option linter.unusedSimpArgs false
namespace Go.Proofs.Ytapnmgkpljlgmaa
open Go.RowKit

/-- What the poset's numbers keep to: lastidx is the last node, edges lead to nodes, there are fewer than 2^31. -/
structure WF0 (S : PS) : Prop where
  la : S.last + 1 = S.nodes.length
  sz : S.nodes.length < 2147483648
  ir : InR S.nd S.nodes.length
theorem WF0.lim {S : PS} (h : WF0 S) : S.nodes.length < Lim := by have := h.sz; unfold Lim; omega
theorem isE_self {e : Nat} (h : e ≠ 0) : isE e (e / 2) (decide (e % 2 = 1)) := ⟨h, rfl, rfl⟩
theorem WF0.tgt {S : PS} (h : WF0 S) (i : Nat) : (S.nd i).1 / 2 < S.nodes.length ∧ (S.nd i).2 / 2 < S.nodes.length := by
  have h0 : 0 < S.nodes.length := by have := h.la; omega
  constructor
  · by_cases e : (S.nd i).1 = 0
    · rw [e]; simpa using h0
    · exact h.ir i _ _ (.inl (isE_self e))
  · by_cases e : (S.nd i).2 = 0
    · rw [e]; simpa using h0
    · exact h.ir i _ _ (.inr (isE_self e))

/-- The state of the search: the open list's value and row, the closed set's words, and what has become of the world since w. -/
def St (w : World) (gc k : Nat) (wr : World) (v : Value) (O : List Nat) (C : Nat → Bool) : Prop :=
  ∃ g cap, v = .slice (some ⟨g, 0, none⟩) O.length cap ∧ w.heap.size ≤ g ∧ wr.ownsRow 0 108 1 v O.length (u32Cells O) ∧ Bits wr gc k k C ∧ Fr w wr Nix ∧ w.heap.size ≤ gc

theorem u32_one (n : Nat) : ∀ x ∈ u32Cell n, x.oneCell' = true := by simp [u32Cell, Value.oneCell']
theorem Bits.not_row {w : World} {g k c : Nat} {f : Nat → Bool} (h : Bits w g k c f) {e : TypeId} {size n : Nat} {xs : List Value} {v : Value} (hr : w.ownsRow 0 e size v n xs) (he : e ≠ 140) : v.ownBlock ≠ some g := by
  intro hv
  obtain ⟨cur, hc⟩ := own_type hr hv
  obtain ⟨cur', h1, _⟩ := h
  rw [hc] at h1; simp at h1; exact he h1.2

theorem St.app {w : World} {gc k : Nat} {wr wa w1 : World} {v : Value} {O : List Nat} {C : Nat → Bool} (h : St w gc k wr v O C) (ha : Fr wr wa Nix) {g' cap' y : Nat}
    (hown : w1.ownsRow 0 108 1 (.slice (some ⟨g', 0, none⟩) (O.length + 1) cap') (O.length + 1) (u32Cells O ++ u32Cell y)) (hg : wa.grownBy w1 v.ownBlock) (hn : v.ownBlock = some g' ∨ wa.heap.size ≤ g') :
    St w gc k w1 (.slice (some ⟨g', 0, none⟩) (O.length + 1) cap') (O ++ [y]) C := by
  obtain ⟨g, cap, rfl, h1, h2, h3, h4, h5⟩ := h
  have hne := h3.not_row h2 (by decide)
  have f1 : Fr wr w1 (fun k => k = g) := (ha.mono fun _ e => e.elim).trans (Fr.grown (F := fun k => k = g) hg (by intro k hk; simp [Value.ownBlock] at hk; exact hk.symm)) fun _ => .inl
  refine ⟨g', cap', by simp, ?_, by simpa [u32Cells] using hown, h3.kept (f1.block gc h3.lt ?_), h4.trans f1 ?_, h5⟩
  · rcases hn with hn | hn
    · simp [Value.ownBlock] at hn; omega
    · have := ha.size; have := h4.size; omega
  · rintro rfl; exact hne rfl
  · rintro i rfl; exact .inr h1
theorem St.pop {w : World} {gc k : Nat} {wr : World} {g cap x : Nat} {O : List Nat} {C : Nat → Bool} (h : St w gc k wr (.slice (some ⟨g, 0, none⟩) (O.length + 1) cap) (O ++ [x]) C) :
    St w gc k wr (.slice (some ⟨g, 0, none⟩) O.length cap) O C ∧ wr.cell? ⟨g, O.length, none⟩ = some (.int .u32 (x : Nat)) := by
  obtain ⟨g0, cap0, h0, h1, h2, h3, h4, h5⟩ := h
  simp only [Value.slice.injEq, Option.some.injEq, Addr.mk.injEq, and_true] at h0
  obtain ⟨rfl, _, rfl⟩ := h0
  simp only [List.length_append, List.length_singleton] at h2
  have hc := h2.cellAt O.length (by omega)
  refine ⟨⟨g, cap, rfl, h1, ?_, h3, h4, h5⟩, ?_⟩
  · rcases h2.2 with ⟨h0, _⟩ | ⟨g', cap', cur, h0, b1, b2, b3, b4, b5, b6⟩
    · simp at h0
    · simp only [Value.slice.injEq, Option.some.injEq, Addr.mk.injEq, and_true, true_and] at h0
      obtain ⟨rfl, rfl⟩ := h0
      refine ⟨by rw [u32_len], .inr ⟨g, cap, cur, rfl, b1, b2, by omega, b4, b5, ?_⟩⟩
      have := congrArg (List.take (O.length * 1)) b6
      rw [List.take_take, Nat.min_eq_left (by omega)] at this
      rw [this]
      simp only [u32Cells, List.flatMap_append]
      rw [List.take_append_of_le_length (by rw [← u32Cells, u32_len]; exact Nat.le_refl _)]
      rw [List.take_of_length_le (by rw [← u32Cells, u32_len]; exact Nat.le_refl _)]
  · rw [hc, u32_cells_eq]; simp
theorem St.setC {w : World} {gc k : Nat} {wr w1 : World} {v : Value} {O : List Nat} {C C' : Nat → Bool} (h : St w gc k wr v O C) (hB : Bits w1 gc k k C') (hf : Fr wr w1 (· = gc)) : St w gc k w1 v O C' := by
  obtain ⟨g, cap, rfl, h1, h2, h3, h4, h5⟩ := h
  exact ⟨g, cap, rfl, h1, hf.row h2 (by intro j hj e; subst e; exact h3.not_row h2 (by decide) hj), hB, h4.trans hf (by rintro i rfl; exact .inr h5), h5⟩
theorem St.nix {w : World} {gc k : Nat} {wr w1 : World} {v : Value} {O : List Nat} {C : Nat → Bool} (h : St w gc k wr v O C) (hf : Fr wr w1 Nix) : St w gc k w1 v O C := by
  obtain ⟨g, cap, rfl, h1, h2, h3, h4, h5⟩ := h
  exact ⟨g, cap, rfl, h1, hf.row h2 fun _ _ e => e, h3.kept (hf.block _ h3.lt fun e => e), h4.trans hf (fun _ e => e.elim), h5⟩
theorem St.row {w : World} {gc k : Nat} {wr : World} {v : Value} {O : List Nat} {C : Nat → Bool} (h : St w gc k wr v O C) : wr.ownsRow 0 108 1 v O.length (u32Cells O) := by
  obtain ⟨g, cap, rfl, h1, h2, h3, h4, h5⟩ := h
  exact h2
theorem St.bits {w : World} {gc k : Nat} {wr : World} {v : Value} {O : List Nat} {C : Nat → Bool} (h : St w gc k wr v O C) : Bits wr gc k k C := by
  obtain ⟨g, cap, rfl, h1, h2, h3, h4, h5⟩ := h
  exact h3
theorem St.fr {w : World} {gc k : Nat} {wr : World} {v : Value} {O : List Nat} {C : Nat → Bool} (h : St w gc k wr v O C) : Fr w wr Nix := by
  obtain ⟨g, cap, rfl, h1, h2, h3, h4, h5⟩ := h
  exact h4
theorem St.shape {w : World} {gc k : Nat} {wr : World} {v : Value} {O : List Nat} {C : Nat → Bool} (h : St w gc k wr v O C) : ∃ g cap, v = .slice (some ⟨g, 0, none⟩) O.length cap := by
  obtain ⟨g, cap, rfl, h1, h2, h3, h4, h5⟩ := h
  exact ⟨g, cap, rfl⟩
theorem St.caps {w : World} {gc k : Nat} {wr : World} {g n cap : Nat} {O : List Nat} {C : Nat → Bool} (h : St w gc k wr (.slice (some ⟨g, 0, none⟩) n cap) O C) : n = O.length ∧ n ≤ cap ∧ (cap : Int) ≤ 9223372036854775807 := by
  obtain ⟨g0, cap0, h0, h1, h2, _⟩ := h
  simp only [Value.slice.injEq, Option.some.injEq, Addr.mk.injEq, and_true] at h0
  obtain ⟨rfl, rfl, rfl⟩ := h0
  rcases h2.2 with ⟨h0, _⟩ | ⟨g', cap', cur, h0, b1, b2, b3, b4, b5, b6⟩
  · simp at h0
  · simp only [Value.slice.injEq, Option.some.injEq, Addr.mk.injEq, and_true, true_and] at h0
    obtain ⟨rfl, rfl⟩ := h0
    refine ⟨rfl, b3, ?_⟩
    unfold maxLen at b4; omega
theorem St.appq {w : World} {gc k q : Nat} {wr wa w1 : World} {v : Value} {O : List Nat} {C : Nat → Bool} (hq : O.length = q) (h : St w gc k wr v O C) (ha : Fr wr wa Nix) {g' cap' y : Nat}
    (hown : w1.ownsRow 0 108 1 (.slice (some ⟨g', 0, none⟩) (q + 1) cap') (q + 1) (u32Cells O ++ u32Cell y)) (hg : wa.grownBy w1 v.ownBlock) (hn : v.ownBlock = some g' ∨ wa.heap.size ≤ g') :
    St w gc k w1 (.slice (some ⟨g', 0, none⟩) (q + 1) cap') (O ++ [y]) C ∧ w1.ownsRow 0 108 1 (.slice (some ⟨g', 0, none⟩) (q + 1) cap') (q + 1) (u32Cells (O ++ [y])) := by
  subst hq
  exact ⟨h.app ha hown hg hn, by simpa [u32Cells] using hown⟩
theorem St.rowq {w : World} {gc k q : Nat} {wr : World} {v : Value} {O : List Nat} {C : Nat → Bool} (hq : O.length = q) (h : St w gc k wr v O C) : wr.ownsRow 0 108 1 v q (u32Cells O) := hq ▸ h.row

/-- Two lists side by side: open, and what strict edges lead to. -/
def St2 (w : World) (gc k : Nat) (wr : World) (v u : Value) (O N : List Nat) (C : Nat → Bool) : Prop :=
  St w gc k wr v O C ∧ St w gc k wr u N C ∧ v.ownBlock ≠ u.ownBlock
theorem St2.swap {w : World} {gc k : Nat} {wr : World} {v u : Value} {O N : List Nat} {C : Nat → Bool} (h : St2 w gc k wr v u O N C) : St2 w gc k wr u v N O C := ⟨h.2.1, h.1, fun e => h.2.2 e.symm⟩
theorem St2.setC {w : World} {gc k : Nat} {wr w1 : World} {v u : Value} {O N : List Nat} {C C' : Nat → Bool} (h : St2 w gc k wr v u O N C) (hB : Bits w1 gc k k C') (hf : Fr wr w1 (· = gc)) : St2 w gc k w1 v u O N C' :=
  ⟨h.1.setC hB hf, h.2.1.setC hB hf, h.2.2⟩
theorem St2.nix {w : World} {gc k : Nat} {wr w1 : World} {v u : Value} {O N : List Nat} {C : Nat → Bool} (h : St2 w gc k wr v u O N C) (hf : Fr wr w1 Nix) : St2 w gc k w1 v u O N C :=
  ⟨h.1.nix hf, h.2.1.nix hf, h.2.2⟩
theorem St2.app {w : World} {gc k q : Nat} {wr wa w1 : World} {v u : Value} {O N : List Nat} {C : Nat → Bool} (hq : O.length = q) (h : St2 w gc k wr v u O N C) (ha : Fr wr wa Nix) {g' cap' y : Nat}
    (hown : w1.ownsRow 0 108 1 (.slice (some ⟨g', 0, none⟩) (q + 1) cap') (q + 1) (u32Cells O ++ u32Cell y)) (hg : wa.grownBy w1 v.ownBlock) (hn : v.ownBlock = some g' ∨ wa.heap.size ≤ g') :
    St2 w gc k w1 (.slice (some ⟨g', 0, none⟩) (q + 1) cap') u (O ++ [y]) N C := by
  have h1 := (St.appq hq h.1 ha hown hg hn).1
  have f1 : Fr wr w1 (fun k => v.ownBlock = some k) := (ha.mono fun _ e => e.elim).trans (Fr.grown (F := fun k => v.ownBlock = some k) hg fun k hk => hk) fun _ => .inl
  obtain ⟨_, _, _, _, _, hB, _, _⟩ := id h1
  refine ⟨h1, ?_, ?_⟩
  · obtain ⟨g, cap, rfl, a1, a2, a3, a4, a5⟩ := h.2.1
    refine ⟨g, cap, rfl, a1, f1.row a2 ?_, hB, h1.fr, a5⟩
    intro j hj hv
    exact h.2.2 (hv.trans hj.symm)
  · intro e
    rcases hn with hn | hn
    · exact h.2.2 (hn.trans (by simpa [Value.ownBlock] using e))
    · obtain ⟨g, cap, rfl, a1, a2, _⟩ := h.2.1
      simp [Value.ownBlock] at e
      obtain ⟨cur, hc⟩ := own_type a2 (k := g) rfl
      have := heap_lt hc
      have := ha.size
      omega
theorem St2.pop {w : World} {gc k : Nat} {wr : World} {g cap x : Nat} {u : Value} {O N : List Nat} {C : Nat → Bool} (h : St2 w gc k wr (.slice (some ⟨g, 0, none⟩) (O.length + 1) cap) u (O ++ [x]) N C) :
    St2 w gc k wr (.slice (some ⟨g, 0, none⟩) O.length cap) u O N C ∧ wr.cell? ⟨g, O.length, none⟩ = some (.int .u32 (x : Nat)) :=
  ⟨⟨h.1.pop.1, h.2.1, h.2.2⟩, h.1.pop.2⟩
theorem D1.lt {nd : Nat → Nat × Nat} {n r : Nat} {O N : List Nat} {C : Nat → Bool} {x : Nat} (h : D1 nd n r (O ++ [x]) N C) : x < n := (h.o x (by simp)).1
end Go.Proofs.Ytapnmgkpljlgmaa
namespace Go.Proofs.Ytapnmgkpljlgmaa
open Go.RowKit

def R2 (nd : Nat → Nat × Nat) (n : Nat) (st d : Nat → Prop) (w : World) (gc k m : Nat) (v : Value) (wr : World) : Prop :=
  ∃ O C, D2 nd n st d O C ∧ m = O.length + 2 * cnt n C ∧ St w gc k wr v O C

theorem make64 (n : Nat) (hn : n = 0 ∨ n = 1) (w : World) : (Instr.makeSlice 105 (.int .i64 (n : Nat)) (.int .i64 64)).run Try.prog w = .ok (.slice (some ⟨w.heap.size, 0, none⟩) n 64) (w.alloc (.cells (madeCells #[.int .u32 0] 64) 108)) := by
  rcases hn with rfl | rfl
  · kernel_rfl
  · kernel_rfl

theorem St.start {w w' : World} {k r : Nat} (hB : Bits w' w.heap.size k k (fun _ => false)) (hF : Fr w w' Nix) :
    St w w.heap.size k (w'.alloc (.cells ((madeCells #[.int .u32 0] 64).setIfInBounds 0 (.int .u32 (r : Nat))) 108)) (.slice (some ⟨w'.heap.size, 0, none⟩) 1 64) [r] (fun _ => false) := by
  have f := Fr.alloc w' (.cells ((madeCells #[.int .u32 0] 64).setIfInBounds 0 (.int .u32 (r : Nat))) 108) Nix
  refine ⟨w'.heap.size, 64, rfl, hF.size, ⟨rfl, .inr ⟨w'.heap.size, 64, _, rfl, Nat.zero_le _, heap_alloc_new w' _, by simp, by unfold maxLen; omega, by simp [madeCells], by rw [Array.toList_setIfInBounds, toList_madeCells_one]; rfl⟩⟩, hB.kept (f.block _ hB.lt fun e => e), hF.trans f (fun _ e => e.elim), Nat.le_refl _⟩
theorem words_of {n x : Nat} (h : x < n) : x / 64 < (n + 63) / 64 := by omega
theorem D2.lt {nd : Nat → Nat × Nat} {n : Nat} {st d : Nat → Prop} {O : List Nat} {C : Nat → Bool} {x : Nat} (h : D2 nd n st d (O ++ [x]) C) : x < n := (h.o x (by simp)).1
theorem ne0_true {n : Nat} (h : n ≠ 0) : ((n : Int) != 0) = true := by simp; omega
theorem ne0_false {n : Nat} (h : n = 0) : ((n : Int) != 0) = false := by subst h; rfl

set_option maxRecDepth 3000 in
set_option maxHeartbeats 1000000 in
theorem dfs_false {w : World} {p : Nat} {S : PS} {L : Lay} (h : Rep w p S L) (wf : WF0 S) (r d c : Nat) (hr : r < S.nodes.length) (hc : w.cell? ⟨c, 0, none⟩ = some (.int .u32 (d : Nat))) :
    Calls Try.prog 129 #[.pointer (some ⟨p, 0, none⟩), .int .u32 (r : Nat), .bool false, .func (.func 130) #[] #[.pointer (some ⟨c, 0, none⟩)]] w fun e w' =>
      e = .returned (.bool (reachB S.nd r d false)) ∧ Fr w w' Nix := by
  have hp0 : w.cell? ⟨p, 0, none⟩ = some (.int .u32 (S.last : Nat)) := by rw [cell_block h.hp]; rfl
  have hs := wf.sz
  have hla := wf.la
  have hm1 := make64 1 (.inr rfl)
  have hm0 : (madeCells #[Value.int IntKind.u32 0] 64)[0]? = some (.int .u32 0) := by rw [← Array.getElem?_toList, toList_madeCells_one]; rfl
  have H := Lib.hid (And.intro h wf)
  have HC := Lib.hid hc
  have HR := Lib.hid hr
  have hs1 : S.last < 2147483647 := by omega
  have HS := Lib.hid (And.intro hs hla)
  have hN : S.last + 1 = S.nodes.length := hla
  have HN := Lib.hid hN
  have hsz : S.last + 1 < 2147483648 := by omega
  clear h wf hc hr hs hla hN
  simp only [Int.cast_ofNat_Int] at hm1
  go_enter Try.func129, Try.ntmps129
  go_wp2_with (go_at_call 114; refine (newBitset_c (S.last + 1) _ (by omega)).mono ?_; rintro e w' ⟨rfl, hB, hF, hlt⟩)
  have h0 : R2 S.nd S.nodes.length (fun a => a = r) (fun x => x = d) w w.heap.size ((S.last + 1 + 63) / 64) (1 + 2 * S.nodes.length) (.slice (some ⟨w'.heap.size, 0, none⟩) 1 64) (w'.alloc (.cells ((madeCells #[.int .u32 0] 64).setIfInBounds 0 (.int .u32 (r : Nat))) 108)) :=
    ⟨[r], fun _ => false, D2.start _ HR.out, by rw [cnt_none]; rfl, St.start hB hF⟩
  have H0 := Lib.hid h0
  clear h0 hB hF hlt hm0 hm1 hp0
  generalize hk : (S.last + 1 + 63) / 64 = k at *
  have HK := Lib.hid hk
  clear hk
  go_loopg [10] (1 + 2 * S.nodes.length) (fun m v wr => R2 S.nd S.nodes.length (fun a => a = r) (fun x => x = d) w w.heap.size k m v wr)
  case atStart => exact H0.out
  case round =>
    obtain ⟨O, C, hD, hm, hSt⟩ := hrel
    rcases List.eq_nil_or_concat O with rfl | ⟨O', x, rfl⟩
    · obtain ⟨g, cap, rfl⟩ := hSt.shape
      have hd := hD.none
      have HF := Lib.hid (And.intro hd hSt.fr)
      clear hD hSt hd hm
      go_wp2
      go_ret
      exact ⟨ret_bool (reachB_f fun ⟨f, hf⟩ => HF.out.1 ⟨r, d, f, rfl, rfl, hf⟩), HF.out.2⟩
    · rw [List.concat_eq_append] at hD hSt hm
      obtain ⟨g, cap, hv⟩ := hSt.shape
      obtain ⟨q, hq⟩ : ∃ q, O'.length = q := ⟨_, rfl⟩
      simp only [List.length_append, List.length_singleton, hq] at hv
      subst hv
      rw [← hq] at hSt
      obtain ⟨hSt1, hcx⟩ := hSt.pop
      obtain ⟨_, hcap0, hcap2⟩ := hSt.caps
      have hcap : O'.length ≤ cap := by omega
      clear hcap0 hcap2
      have hxn := hD.lt
      have hlen : O'.length ≤ 10000000000 := by
        have h1 := hD.m
        have h2 := HS.out.1
        simp at h1
        omega
      have hx32 : x < 4294967296 := by have := HS.out.1; omega
      have hxk : x / 64 < k := by have := HK.out; have := HN.out; omega
      have hB := hSt1.bits
      have HD := Lib.hid hD
      have HST := Lib.hid hSt1
      have HM := Lib.hid hm
      have hcd : wr.cell? ⟨c, 0, none⟩ = some (.int .u32 (d : Nat)) := (hSt1.fr.cell (a := ⟨c, 0, none⟩) (World.block_lt_of_cell? w _ HC.out) (fun e => e)).trans HC.out
      clear hD hSt1 hSt hm
      rw [hq] at hcx hcap hlen HST
      have HQ := Lib.hid hq
      clear hq
      by_cases hCx : C x = true
      · go_wp2_with (go_at_call 127; refine (Test_c hB x hxk hx32).mono ?_; rintro e w' ⟨rfl, rfl⟩)
        go_roundg (q + 2 * cnt S.nodes.length C)
        case measure => have h1 := HM.out; have h2 := HQ.out; simp at h1; omega
        case rel => exact ⟨O', C, HD.out.skip hCx, by rw [HQ.out], HST.out⟩
      · have hCx : C x = false := by simpa using hCx
        by_cases hxd : x = d
        · have hxd' : decide (x = d) = true := by simp [hxd]
          have HX := Lib.hid hxd
          clear hxd
          go_wp2_with (first | (go_at_call 127; refine (Test_c hB x hxk hx32).mono ?_; rintro e w' ⟨rfl, rfl⟩) | (go_at_call 130; refine (reaches1_c x d c _ hcd).mono ?_; rintro e w' ⟨rfl, rfl⟩))
          go_ret
          obtain ⟨_, a, f, ha, hp⟩ := HD.out.o x (by simp)
          exact ⟨ret_bool (reachB_t (f := f) (by rw [← ha, ← HX.out]; exact hp)), HST.out.fr⟩
        · have hxd' : decide (x = d) = false := by simp [hxd]
          have HX := Lib.hid hxd
          clear hxd
          go_wp2_with (first | (go_at_call 127; refine (Test_c hB x hxk hx32).mono ?_; rintro e w' ⟨rfl, rfl⟩) | (go_at_call 130; refine (reaches1_c x d c _ hcd).mono ?_; rintro e w' ⟨rfl, rfl⟩) | (go_at_call 115; refine (Set_c hB x hxk hx32).mono ?_; rintro e w1 ⟨rfl, hB1, hF1⟩))
          have hSt2 := HST.out.setC hB1 hF1
          have hR2 := H.out.1.nix hSt2.fr
          have HR2 := Lib.hid hR2
          have HX2 := Lib.hid (HD.out.step H.out.2.ir hCx HX.out)
          have hx2 : x < S.nodes.length := hxn
          have HST2 := Lib.hid hSt2
          have hCx' := hCx
          clear hB hcx hcd hCx hxd' hB1 hF1 hSt2 hR2 hxk HST
          obtain ⟨l, r', hlr⟩ : ∃ l r', S.nd x = (l, r') := ⟨_, _, rfl⟩
          have HLR := Lib.hid hlr
          have hch := children_c HR2.out x hx2
          rw [hlr] at hch
          have HCH := Lib.hid hch
          clear hlr hch
          have hb1 : (q + 1) * 4 ≤ 140737488355328 ∧ q + 1 ≤ 1000000000000 ∧ (q + 1 + 1) * 4 ≤ 140737488355328 ∧ q + 1 + 1 ≤ 1000000000000 := by omega
          have HB1 := Lib.hid hb1
          have hme := cnt_set hCx' S.nodes.length hx2
          have hkl := kids_len (S.nd x)
          have HME := Lib.hid (And.intro hme hkl)
          clear hb1 hme hkl hlen hCx'
          by_cases hl0 : l = 0
          · have hlb := ne0_false hl0
            have HL0 := Lib.hid hl0
            clear hl0
            by_cases hr0 : r' = 0
            · have hrb := ne0_false hr0
              have HR0 := Lib.hid hr0
              clear hr0
              go_wp2_with (first | (go_at_call 121; refine HCH.out.mono ?_; rintro e w2 ⟨rfl, hF2⟩; have HST3 := Lib.hid (HST2.out.nix hF2); have HSR3 := Lib.hid (St.rowq HQ.out HST3.out); clear hF2))
              go_roundg ((O' ++ kids (S.nd x)).length + 2 * cnt S.nodes.length (setB C x))
              case measure => have h1 := HM.out; have h2 := HME.out; simp at h1 ⊢; omega
              case rel =>
                refine ⟨O' ++ kids (S.nd x), setB C x, HX2.out, rfl, ?_⟩
                rw [HLR.out]
                simp only [kids, kid, HL0.out, HR0.out, if_true, if_false, List.append_nil, List.nil_append, ← List.append_assoc]
                exact HST3.out
            · have hrb := ne0_true hr0
              have HR0 := Lib.hid hr0
              clear hr0
              go_wp2_with (first | (go_at_call 121; refine HCH.out.mono ?_; rintro e w2 ⟨rfl, hF2⟩; have HST3 := Lib.hid (HST2.out.nix hF2); have HSR3 := Lib.hid (St.rowq HQ.out HST3.out); clear hF2) | (go_at_call 124; refine (target_c _ _).mono ?_; rintro e w' ⟨rfl, rfl⟩) | (at_builtin; refine wpList_app _ rfl (.tmp 128) (.tmp 131) 105 rfl 108 _ 1 4 Try.underlying105 info_u32 rfl (by decide) _ q (u32Cells O') rfl (HSR3.out.alloc _) ⟨w2.heap.size, 0, none⟩ 1 1 (u32Cell (r' / 2)) rfl rfl (by decide) (cells_new _ _ _) (u32_one _) HB1.out.1 HB1.out.2.1 ?_; intro g1 cap1 w3 hown1 hgrow1 hnew1))
              obtain ⟨hS4, _⟩ := St.appq HQ.out HST3.out (Fr.alloc _ _ _) hown1 hgrow1 hnew1
              have HST4 := Lib.hid hS4
              clear hown1 hgrow1 hnew1 hS4
              go_wp2
              go_roundg ((O' ++ kids (S.nd x)).length + 2 * cnt S.nodes.length (setB C x))
              case measure => have h1 := HM.out; have h2 := HME.out; simp at h1 ⊢; omega
              case rel =>
                refine ⟨O' ++ kids (S.nd x), setB C x, HX2.out, rfl, ?_⟩
                rw [HLR.out]
                simp only [kids, kid, HL0.out, HR0.out, if_true, if_false, List.append_nil, List.nil_append, ← List.append_assoc]
                exact HST4.out
          · have hlb := ne0_true hl0
            have HL0 := Lib.hid hl0
            clear hl0
            by_cases hr0 : r' = 0
            · have hrb := ne0_false hr0
              have HR0 := Lib.hid hr0
              clear hr0
              go_wp2_with (first | (go_at_call 121; refine HCH.out.mono ?_; rintro e w2 ⟨rfl, hF2⟩; have HST3 := Lib.hid (HST2.out.nix hF2); have HSR3 := Lib.hid (St.rowq HQ.out HST3.out); clear hF2) | (go_at_call 124; refine (target_c _ _).mono ?_; rintro e w' ⟨rfl, rfl⟩) | (at_builtin; refine wpList_app _ rfl (.tmp 121) (.tmp 124) 105 rfl 108 _ 1 4 Try.underlying105 info_u32 rfl (by decide) _ q (u32Cells O') rfl (HSR3.out.alloc _) ⟨w2.heap.size, 0, none⟩ 1 1 (u32Cell (l / 2)) rfl rfl (by decide) (cells_new _ _ _) (u32_one _) HB1.out.1 HB1.out.2.1 ?_; intro g1 cap1 w3 hown1 hgrow1 hnew1))
              obtain ⟨hS4, _⟩ := St.appq HQ.out HST3.out (Fr.alloc _ _ _) hown1 hgrow1 hnew1
              have HST4 := Lib.hid hS4
              clear hown1 hgrow1 hnew1 hS4
              go_wp2
              go_roundg ((O' ++ kids (S.nd x)).length + 2 * cnt S.nodes.length (setB C x))
              case measure => have h1 := HM.out; have h2 := HME.out; simp at h1 ⊢; omega
              case rel =>
                refine ⟨O' ++ kids (S.nd x), setB C x, HX2.out, rfl, ?_⟩
                rw [HLR.out]
                simp only [kids, kid, HL0.out, HR0.out, if_true, if_false, List.append_nil, List.nil_append, ← List.append_assoc]
                exact HST4.out
            · have hrb := ne0_true hr0
              have HR0 := Lib.hid hr0
              clear hr0
              go_wp2_with (first | (go_at_call 121; refine HCH.out.mono ?_; rintro e w2 ⟨rfl, hF2⟩; have HST3 := Lib.hid (HST2.out.nix hF2); have HSR3 := Lib.hid (St.rowq HQ.out HST3.out); clear hF2) | (go_at_call 124; refine (target_c _ _).mono ?_; rintro e w' ⟨rfl, rfl⟩) | (at_builtin; refine wpList_app _ rfl (.tmp 121) (.tmp 124) 105 rfl 108 _ 1 4 Try.underlying105 info_u32 rfl (by decide) _ q (u32Cells O') rfl (HSR3.out.alloc _) ⟨w2.heap.size, 0, none⟩ 1 1 (u32Cell (l / 2)) rfl rfl (by decide) (cells_new _ _ _) (u32_one _) HB1.out.1 HB1.out.2.1 ?_; intro g1 cap1 w3 hown1 hgrow1 hnew1; obtain ⟨hS4, hr4⟩ := St.appq HQ.out HST3.out (Fr.alloc _ _ _) hown1 hgrow1 hnew1; have HST4 := Lib.hid hS4; have HSR4 := Lib.hid hr4; clear hown1 hgrow1 hnew1 hS4 hr4) | (at_builtin; refine wpList_app _ rfl (.tmp 128) (.tmp 131) 105 rfl 108 _ 1 4 Try.underlying105 info_u32 rfl (by decide) _ (q + 1) (u32Cells (O' ++ [l / 2])) rfl (HSR4.out.alloc _) ⟨w3.heap.size, 0, none⟩ 1 1 (u32Cell (r' / 2)) rfl rfl (by decide) (cells_new _ _ _) (u32_one _) HB1.out.2.2.1 HB1.out.2.2.2 ?_; intro g2 cap2 w4 hown2 hgrow2 hnew2; obtain ⟨hS5, _⟩ := St.appq (by simp [HQ.out]) HST4.out (Fr.alloc _ _ _) hown2 hgrow2 hnew2; have HST5 := Lib.hid hS5; clear hown2 hgrow2 hnew2 hS5))
              go_roundg ((O' ++ kids (S.nd x)).length + 2 * cnt S.nodes.length (setB C x))
              case measure => have h1 := HM.out; have h2 := HME.out; simp at h1 ⊢; omega
              case rel =>
                refine ⟨O' ++ kids (S.nd x), setB C x, HX2.out, rfl, ?_⟩
                rw [HLR.out]
                simp only [kids, kid, HL0.out, HR0.out, if_true, if_false, List.append_nil, List.nil_append, ← List.append_assoc]
                exact HST5.out
end Go.Proofs.Ytapnmgkpljlgmaa
