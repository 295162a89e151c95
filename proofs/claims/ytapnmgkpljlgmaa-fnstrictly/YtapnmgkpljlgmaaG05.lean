/- isnoneq, v, mergeroot, aliasnewnode. The map of recorded pairs is written. setnoneq. -/
import Derived.Test.YtapnmgkpljlgmaaG04
set_option linter.unusedVariables false
set_option linter.unusedSimpArgs false
namespace Go.Proofs.Ytapnmgkpljlgmaa
open Go.RowKit

theorem QMap.look {w : World} {b : Nat} {q : Nat → Nat → Bool} {own : Nat → Prop} (h : QMap w b q own) (i : Nat) :
    ((∀ j, q i j = false) ∧ ∀ n, (Instr.lookup 106 (.map (some b)) (.int .u32 (i : Nat)) true).run Try.prog (w.drewN n) = .ok (.tuple #[.slice none 0 0, .bool false]) (w.drewN n) ∧
      (Instr.lookup 106 (.map (some b)) (.int .u32 (i : Nat)) false).run Try.prog (w.drewN n) = .ok (.slice none 0 0) (w.drewN n)) ∨
    (∃ g c, own g ∧ Bits w g ((i + 63) / 64) c (q i) ∧ ∀ n, (Instr.lookup 106 (.map (some b)) (.int .u32 (i : Nat)) true).run Try.prog (w.drewN n) = .ok (.tuple #[.slice (some ⟨g, 0, none⟩) ((i + 63) / 64) c, .bool true]) (w.drewN n) ∧
      (Instr.lookup 106 (.map (some b)) (.int .u32 (i : Nat)) false).run Try.prog (w.drewN n) = .ok (.slice (some ⟨g, 0, none⟩) ((i + 63) / 64) c) (w.drewN n)) := by
  obtain ⟨es, clock, h1, h2, h3, h4, h5, h6⟩ := h
  have hz : ∀ W, (zeroValue 127).run Try.prog W = .ok (.slice none 0 0) W := fun W => by kernel_rfl
  rcases h2.split (i : Nat) with hs | ⟨l, e, r, hs, hk, hl, hr⟩
  · refine .inl ⟨h6 i fun e he hk => ?_, fun n => ?_⟩
    · obtain ⟨x, hx, hne⟩ := hs e he
      rw [hk] at hx; simp at hx; exact hne hx.symm
    · have hl := run_lookup_none (P := Try.prog) (w := w.drewN n) Try.underlying106 Try.underlying108 (b := b) h1 hs (hz _)
      exact ⟨hl true, hl false⟩
  · obtain ⟨i', g, c, e1, e2, e3, e4⟩ := h3 e (by rw [hs]; simp)
    rw [hk] at e1
    simp only [Value.int.injEq, true_and, Int.natCast_inj] at e1
    subst e1
    refine .inr ⟨g, c, e3, e4, fun n => ?_⟩
    have hl := run_lookup_some (P := Try.prog) (w := w.drewN n) Try.underlying106 Try.underlying108 (b := b) h1 hs hk hl
    rw [e2] at hl
    exact ⟨hl true, hl false⟩

/-- Is it recorded that i and j are not equal. -/
def PS.ne (S : PS) (i j : Nat) : Bool := if i = j then false else if i < j then S.nq j i else S.nq i j

set_option maxHeartbeats 400000 in
theorem isnoneq_gt {w : World} {p : Nat} {S : PS} {L : Lay} (h : Rep w p S L) (i j a b : Nat) (hij : (i = a ∧ j = b ∧ b < a) ∨ (i = b ∧ j = a ∧ b < a)) (ha : a < 4294967296) :
    Calls Try.prog 105 #[.pointer (some ⟨p, 0, none⟩), .int .u32 (i : Nat), .int .u32 (j : Nat)] w (Look w (.bool (S.nq a b))) := by
  have hc : w.cell? ⟨p, 5, none⟩ = some (.map (some L.qb)) := by rw [cell_block h.hp]; rfl
  have hab : b < a := by rcases hij with ⟨_, _, h⟩ | ⟨_, _, h⟩ <;> exact h
  have hba : b / 64 < (a + 63) / 64 := by omega
  have hb32 : b < 4294967296 := by omega
  rcases h.hq.look a with ⟨hq, hl⟩ | ⟨g, c, hown, hB, hl⟩
  · have hl := (hl 0).1
    have HQ := Lib.hid (hq b)
    change Sem.run _ _ w = .ok _ w at hl
    clear h hq
    rcases hij with ⟨rfl, rfl, hlt⟩ | ⟨rfl, rfl, hlt⟩
    · have he : ((i : Int) == (j : Int)) = false := by rw [beq_eq_false_iff_ne]; omega
      have hd : ¬ ((i : Int) < (j : Int)) := by omega
      clear hab hlt
      go_enter Try.func105, Try.ntmps105
      go_wp2
      go_ret
      exact ⟨ret_bool HQ.out.symm, Fr.refl _ _⟩
    · have he : ((i : Int) == (j : Int)) = false := by rw [beq_eq_false_iff_ne]; omega
      have hd : decide ((i : Int) < (j : Int)) = true := by rw [decide_eq_true_iff]; omega
      clear hab
      go_enter Try.func105, Try.ntmps105
      go_wp2
      go_ret
      exact ⟨ret_bool HQ.out.symm, Fr.refl _ _⟩
  · have hl := (hl 0).1
    change Sem.run _ _ w = .ok _ w at hl
    have HT := Lib.hid (Test_c hB b hba hb32)
    clear h hB hba
    obtain ⟨k, hk⟩ : ∃ k, (a + 63) / 64 = k := ⟨_, rfl⟩
    rw [hk] at hl HT
    obtain ⟨t, ht⟩ : ∃ t, S.nq a b = t := ⟨_, rfl⟩
    rw [ht] at HT ⊢
    clear hk ht
    rcases hij with ⟨rfl, rfl, hlt⟩ | ⟨rfl, rfl, hlt⟩
    · have he : ((i : Int) == (j : Int)) = false := by rw [beq_eq_false_iff_ne]; omega
      have hd : ¬ ((i : Int) < (j : Int)) := by omega
      clear hab hlt
      cases t
      · go_enter Try.func105, Try.ntmps105
        go_wp2_with (go_at_call 127; refine HT.out.mono ?_; rintro e w' ⟨rfl, rfl⟩)
        go_ret
        exact ⟨rfl, Fr.refl _ _⟩
      · go_enter Try.func105, Try.ntmps105
        go_wp2_with (go_at_call 127; refine HT.out.mono ?_; rintro e w' ⟨rfl, rfl⟩)
        go_ret
        exact ⟨rfl, Fr.refl _ _⟩
    · have he : ((i : Int) == (j : Int)) = false := by rw [beq_eq_false_iff_ne]; omega
      have hd : decide ((i : Int) < (j : Int)) = true := by rw [decide_eq_true_iff]; omega
      clear hab
      cases t
      · go_enter Try.func105, Try.ntmps105
        go_wp2_with (go_at_call 127; refine HT.out.mono ?_; rintro e w' ⟨rfl, rfl⟩)
        go_ret
        exact ⟨rfl, Fr.refl _ _⟩
      · go_enter Try.func105, Try.ntmps105
        go_wp2_with (go_at_call 127; refine HT.out.mono ?_; rintro e w' ⟨rfl, rfl⟩)
        go_ret
        exact ⟨rfl, Fr.refl _ _⟩
set_option maxHeartbeats 400000 in
theorem isnoneq_same (p i : Nat) (w : World) :
    Calls Try.prog 105 #[.pointer (some ⟨p, 0, none⟩), .int .u32 (i : Nat), .int .u32 (i : Nat)] w (Look w (.bool false)) := by
  go_enter Try.func105, Try.ntmps105
  go_wp2
  go_ret
  exact ⟨rfl, Fr.refl _ _⟩
theorem isnoneq_c {w : World} {p : Nat} {S : PS} {L : Lay} (h : Rep w p S L) (i j : Nat) (hi : i < 4294967296) (hj : j < 4294967296) :
    Calls Try.prog 105 #[.pointer (some ⟨p, 0, none⟩), .int .u32 (i : Nat), .int .u32 (j : Nat)] w (Look w (.bool (S.ne i j))) := by
  unfold PS.ne
  by_cases h1 : i = j
  · rw [if_pos h1]; subst h1; exact isnoneq_same p i w
  · by_cases h2 : i < j
    · rw [if_neg h1, if_pos h2]; exact isnoneq_gt h i j j i (.inr ⟨rfl, rfl, h2⟩) hj
    · rw [if_neg h1, if_neg h2]; exact isnoneq_gt h i j i j (.inl ⟨rfl, rfl, by omega⟩) hi

set_option maxHeartbeats 400000 in
theorem v_c (x : Nat) (w : World) (hx : x < 2147483648) :
    Calls Try.prog 89 #[.int .i64 (x : Nat)] w fun e w' => e = .returned (.pointer (some ⟨w.heap.size, 0, none⟩)) ∧ w'.cell? ⟨w.heap.size, 0, none⟩ = some (.int .i32 (x : Nat)) ∧ Fr w w' Nix := by
  have h1 := cells_new w [.int .i32 (x : Nat)] 113 0 _ rfl
  have h2 := Fr.alloc w (.cells #[.int .i32 (x : Nat)] 113) Nix
  have H := Lib.hid (And.intro h1 h2)
  clear h1 h2
  go_enter Try.func89, Try.ntmps89
  go_wp2
  go_ret
  exact ⟨rfl, H.out⟩
end Go.Proofs.Ytapnmgkpljlgmaa
namespace Go.Proofs.Ytapnmgkpljlgmaa
open Go.RowKit

def setQ (q : Nat → Nat → Bool) (a b : Nat) : Nat → Nat → Bool := fun i j => q i j || (decide (i = a) && decide (j = b))
def clrQ (q : Nat → Nat → Bool) (a b : Nat) : Nat → Nat → Bool := fun i j => q i j && !(decide (i = a) && decide (j = b))

/-- The entry of key i is the row in block g. -/
def QAt (w : World) (b i g c : Nat) : Prop :=
  ∃ es clock l e r, w.heap[b]? = some (.map es clock) ∧ es.toList = l ++ e :: r ∧ e.key = .int .u32 (i : Nat) ∧ e.val = .slice (some ⟨g, 0, none⟩) ((i + 63) / 64) c

theorem QMap.two {w : World} {b : Nat} {q : Nat → Nat → Bool} {own : Nat → Prop} (h : QMap w b q own) (i : Nat) :
    ((∀ j, q i j = false) ∧ (∀ e cl, w.heap[b]? = some (.map e cl) → ∀ x ∈ e.toList, ∃ y : Int, x.key = .int .u32 y ∧ y ≠ (i : Nat)) ∧
      (Instr.lookup 106 (.map (some b)) (.int .u32 (i : Nat)) false).run Try.prog w = .ok (.slice none 0 0) w) ∨
    (∃ g c, own g ∧ Bits w g ((i + 63) / 64) c (q i) ∧ QAt w b i g c ∧
      (Instr.lookup 106 (.map (some b)) (.int .u32 (i : Nat)) false).run Try.prog w = .ok (.slice (some ⟨g, 0, none⟩) ((i + 63) / 64) c) w) := by
  obtain ⟨es, clock, h1, h2, h3, h4, h5, h6⟩ := h
  have hz : (zeroValue 127).run Try.prog w = .ok (.slice none 0 0) w := by kernel_rfl
  rcases h2.split (i : Nat) with hs | ⟨l, e, r, hs, hk, hl, hr⟩
  · refine .inl ⟨h6 i fun e he hk => ?_, fun e cl hb x hx => ?_, run_lookup_none (P := Try.prog) Try.underlying106 Try.underlying108 (b := b) h1 hs hz false⟩
    · obtain ⟨x, hx, hne⟩ := hs e he
      rw [hk] at hx; simp at hx; exact hne hx.symm
    · rw [h1] at hb; simp only [Option.some.injEq, Obj.map.injEq] at hb; obtain ⟨rfl, rfl⟩ := hb
      exact hs x hx
  · obtain ⟨i', g, c, e1, e2, e3, e4⟩ := h3 e (by rw [hs]; simp)
    rw [hk] at e1
    simp only [Value.int.injEq, true_and, Int.natCast_inj] at e1
    subst e1
    have hr := run_lookup_some (P := Try.prog) (w := w) Try.underlying106 Try.underlying108 (b := b) h1 hs hk hl false
    rw [e2] at hr
    exact .inr ⟨g, c, e3, e4, ⟨es, clock, l, e, r, h1, hs, hk, e2⟩, hr⟩

/-- One of the sets has been written. -/
theorem Rep.set_bits {w w' : World} {p : Nat} {S : PS} {L : Lay} (h : Rep w p S L) {a g c : Nat} {f : Nat → Bool} (hat : QAt w L.qb a g c) (hB : Bits w' g ((a + 63) / 64) c f) (hf : Fr w w' (· = g)) (hfa : ∀ j, f j = true → j < a) :
    Rep w' p { S with nq := upd S.nq a f } L ∧ Ext w w' L L := by
  obtain ⟨es, clock, l, e, r, g1, g2, g3, g4⟩ := hat
  obtain ⟨es0, clock0, h1, h2, h3, h4, h5, h6⟩ := h.hq
  rw [g1] at h1
  simp only [Option.some.injEq, Obj.map.injEq] at h1
  obtain ⟨rfl, rfl⟩ := h1
  obtain ⟨i', g', c', e1, e2, e3, e4⟩ := h3 e (by rw [g2]; simp)
  rw [g4] at e2
  simp only [Value.slice.injEq, Option.some.injEq, Addr.mk.injEq, and_true] at e2
  obtain ⟨rfl, _, rfl⟩ := e2
  rw [g3] at e1
  simp only [Value.int.injEq, true_and, Int.natCast_inj] at e1
  subst e1
  have hty : ∃ cur, w.heap[g]? = some (.cells cur 140 (0, 0)) := by obtain ⟨cur, b1, _⟩ := e4; exact ⟨cur, b1⟩
  obtain ⟨cur, hty⟩ := hty
  obtain ⟨b1, b2, b3, b4, _, b6⟩ := h.but hf [140] (by rintro j rfl _; exact ⟨_, _, _, hty, by simp⟩)
  have hqb : w'.heap[L.qb]? = some (.map es clock) := by
    rw [hf.block _ (heap_lt g1) (by rintro rfl; rw [g1] at hty; simp at hty)]; exact g1
  refine ⟨⟨(b6 (by decide)).trans h.hp, b1 (by decide), b2 (by decide), b3 (by decide), b4, ⟨es, clock, hqb, h2, ?_, h4, ?_, ?_⟩, h.rn, h.rm, h.vq, h.op, h.ov, h.oq, h.on, h.orr, h.ou, fun j hj => Nat.lt_of_lt_of_le (h.lt j hj) hf.size⟩, hf.mono (by rintro j rfl; exact e3), fun _ => .inl⟩
  · intro x hx
    obtain ⟨i, k, d, x1, x2, x3, x4⟩ := h3 x hx
    by_cases hia : i = a
    · subst hia
      have hxe : x = e := by
        rw [g2] at hx
        have hkn := h2.kn
        rw [g2] at hkn
        have hp := List.pairwise_append.1 hkn
        simp only [List.mem_append, List.mem_cons] at hx
        rcases hx with hx | rfl | hx
        · exact absurd (x1.trans g3.symm) (hp.2.2 x hx e (by simp))
        · rfl
        · exact absurd (g3.trans x1.symm) ((List.pairwise_cons.1 hp.2.1).1 x hx)
      subst hxe
      exact ⟨i, g, c, x1, g4, e3, by simpa [upd] using hB⟩
    · refine ⟨i, k, d, x1, x2, x3, ?_⟩
      have hkg : k ≠ g := by
        rintro rfl
        have hne : x ≠ e := by rintro rfl; rw [g3] at x1; simp at x1; omega
        rw [g2] at hx h4
        have hp := List.pairwise_append.1 h4
        have hv : x.val.ownBlock = e.val.ownBlock := by rw [x2, g4]; rfl
        simp only [List.mem_append, List.mem_cons] at hx
        rcases hx with hx | rfl | hx
        · exact hp.2.2 x hx e (by simp) hv
        · exact hne rfl
        · exact (List.pairwise_cons.1 hp.2.1).1 x hx hv.symm
      have := x4.kept (hf.block k x4.lt hkg)
      simpa [upd, hia] using this
  · intro i j hij
    by_cases hia : i = a
    · subst hia; exact hfa j (by simpa [upd] using hij)
    · exact h5 i j (by simpa [upd, hia] using hij)
  · intro i hi j
    have hia : i ≠ a := by
      rintro rfl
      exact hi e (by rw [g2]; simp) g3
    simpa [upd, hia] using h6 i hi j

theorem upd_setQ (q : Nat → Nat → Bool) (a b : Nat) : upd q a (setB (q a) b) = setQ q a b := by
  funext i j
  by_cases hi : i = a
  · subst hi; simp [upd, setB, setQ]
  · simp [upd, hi, setQ]
theorem upd_clrQ (q : Nat → Nat → Bool) (a b : Nat) : upd q a (clrB (q a) b) = clrQ q a b := by
  funext i j
  by_cases hi : i = a
  · subst hi; simp [upd, clrB, clrQ]
  · simp [upd, hi, clrQ]

/-- A new empty set has been made for key a, and is stored into the map. -/
theorem Rep.put_bits {w w2 : World} {p : Nat} {S : PS} {L : Lay} (h : Rep w p S L) {a g : Nat} (hno : ∀ e cl, w.heap[L.qb]? = some (.map e cl) → ∀ x ∈ e.toList, ∃ y : Int, x.key = .int .u32 y ∧ y ≠ (a : Nat))
    (hB : Bits w2 g ((a + 63) / 64) ((a + 63) / 64) (fun _ => false)) (hf : Fr w w2 Nix) (hg : w.heap.size ≤ g) (hqa : ∀ j, S.nq a j = false) :
    ∃ o, (Instr.mapUpdate 106 (.map (some L.qb)) (.int .u32 (a : Nat)) (.slice (some ⟨g, 0, none⟩) ((a + 63) / 64) ((a + 63) / 64))).run Try.prog w2 = .ok () (putObj w2 L.qb o) ∧
      ∃ L', Rep (putObj w2 L.qb o) p S L' ∧ Ext w (putObj w2 L.qb o) L L' ∧ L'.qb = L.qb ∧ QAt (putObj w2 L.qb o) L.qb a g ((a + 63) / 64) ∧ Bits (putObj w2 L.qb o) g ((a + 63) / 64) ((a + 63) / 64) (S.nq a) := by
  have h2 := h.nix hf
  obtain ⟨es, clock, q1, q2, q3, q4, q5, q6⟩ := h2.hq
  have q0 : w.heap[L.qb]? = some (.map es clock) := by rw [← hf.block _ (h.lt _ h.oq) (fun e => e)]; exact q1
  have hn := hno es clock q0
  have hrun := run_update_none (P := Try.prog) (w := w2) Try.underlying106 Try.underlying108 q1 hn (.slice (some ⟨g, 0, none⟩) ((a + 63) / 64) ((a + 63) / 64))
  refine ⟨_, hrun, { L with own := L.grow g }, ?_⟩
  obtain ⟨b1, b2, b3, b4, b5, _⟩ := h2.but_map (putObj_fr w2 L.qb (.map (es.push { key := .int .u32 (a : Nat), val := .slice (some ⟨g, 0, none⟩) ((a + 63) / 64) ((a + 63) / 64), born := clock }) (clock + 1))) ⟨es, clock, q1⟩
  have hgq : g ≠ L.qb := by have := h.lt _ h.oq; omega
  have hbg : Bits (putObj w2 L.qb (.map (es.push { key := .int .u32 (a : Nat), val := .slice (some ⟨g, 0, none⟩) ((a + 63) / 64) ((a + 63) / 64), born := clock }) (clock + 1))) g ((a + 63) / 64) ((a + 63) / 64) (S.nq a) := by
    have := hB.kept ((putObj_fr w2 L.qb (.map (es.push { key := .int .u32 (a : Nat), val := .slice (some ⟨g, 0, none⟩) ((a + 63) / 64) ((a + 63) / 64), born := clock }) (clock + 1))).block g hB.lt hgq)
    rwa [show (fun _ => false) = S.nq a from funext fun j => (hqa j).symm] at this
  have hkeep : ∀ k, L.own k → k ≠ L.qb → (putObj w2 L.qb (.map (es.push { key := .int .u32 (a : Nat), val := .slice (some ⟨g, 0, none⟩) ((a + 63) / 64) ((a + 63) / 64), born := clock }) (clock + 1))).heap[k]? = w2.heap[k]? := fun k hk hne => (putObj_fr _ _ _).block k (h2.lt k hk) hne
  refine ⟨⟨b4.trans h2.hp, b1, b2, b3, b5 h.vq, ⟨_, _, putObj_at _ (heap_lt q1), by simpa using q2.push hn _, ?_, ?_, q5, ?_⟩, h.rn, h.rm, h.vq, .inl h.op, .inl h.ov, .inl h.oq, fun k hk => .inl (h.on k hk), fun k hk => .inl (h.orr k hk), fun k hk => .inl (h.ou k hk), ?_⟩, ⟨?_, ?_⟩, rfl, ?_, hbg⟩
  · intro x hx
    simp only [Array.toList_push, List.mem_append, List.mem_singleton] at hx
    rcases hx with hx | rfl
    · obtain ⟨i, k, c, x1, x2, x3, x4⟩ := q3 x hx
      refine ⟨i, k, c, x1, x2, .inl x3, x4.kept (hkeep k x3 ?_)⟩
      rintro rfl
      obtain ⟨cur, y1, _⟩ := x4
      rw [q1] at y1; simp at y1
    · exact ⟨a, g, _, rfl, rfl, .inr rfl, hbg⟩
  · simp only [Array.toList_push]
    rw [List.pairwise_append]
    refine ⟨q4, by simp, fun x hx y hy => ?_⟩
    simp at hy; subst hy
    obtain ⟨i, k, c, x1, x2, x3, x4⟩ := q3 x (by simpa using hx)
    rw [x2]
    simp only [Value.ownBlock, ne_eq, Option.some.injEq]
    have := h.lt k x3
    omega
  · intro i hi j
    by_cases hia : i = a
    · subst hia; exact hqa j
    · exact q6 i (fun x hx => hi x (by simp only [Array.toList_push, List.mem_append]; exact .inl hx)) j
  · intro k hk
    have hs : w2.heap.size = (putObj w2 L.qb (.map (es.push { key := .int .u32 (a : Nat), val := .slice (some ⟨g, 0, none⟩) ((a + 63) / 64) ((a + 63) / 64), born := clock }) (clock + 1))).heap.size := by simp [putObj]
    rw [← hs]
    rcases hk with hk | rfl
    · exact h2.lt k hk
    · exact hB.lt
  · exact (hf.mono fun _ e => e.elim).trans ((putObj_fr w2 L.qb _).mono (by rintro k rfl; exact h.oq)) fun _ => .inl
  · rintro k (hk | rfl)
    · exact .inl hk
    · exact .inr hg
  · exact ⟨_, _, es.toList, { key := .int .u32 (a : Nat), val := .slice (some ⟨g, 0, none⟩) ((a + 63) / 64) ((a + 63) / 64), born := clock }, [], putObj_at _ (heap_lt q1), by simp, rfl, rfl⟩
end Go.Proofs.Ytapnmgkpljlgmaa
namespace Go.Proofs.Ytapnmgkpljlgmaa
open Go.RowKit

theorem nodup_cnt (n : Nat) : ∀ l : List Nat, l.Nodup → (∀ x ∈ l, x < n) → cnt n (fun x => decide (x ∈ l)) + l.length = n
  | [], _, _ => by simpa using cnt_none n
  | a :: t, h, hx => by
    simp only [List.nodup_cons] at h
    have ih := nodup_cnt n t h.2 (fun x hm => hx x (by simp [hm]))
    have h1 := cnt_set (C := fun x => decide (x ∈ t)) (x := a) (by simpa using h.1) n (hx a (by simp))
    have h2 : setB (fun x => decide (x ∈ t)) a = fun x => decide (x ∈ a :: t) := by
      funext y; unfold setB
      by_cases hy : y = a <;> simp [hy]
    rw [h2] at h1
    simp only [List.length_cons]; omega
theorem Rep.rl_len {w : World} {p : Nat} {S : PS} {L : Lay} (h : Rep w p S L) {n : Nat} (hr : ∀ r, S.rt r = true → r < n) : L.rl.length ≤ n := by
  have := nodup_cnt n L.rl h.rn (fun x hx => hr x ((h.rm x).1 hx))
  omega

theorem lookup_none {w : World} {p : Nat} {S : PS} {L : Lay} (h : Rep w p S L) {a id : Nat} (ha : IsV w L a id) (h0 : S.vl id = 0) :
    Calls Try.prog 103 #[.pointer (some ⟨p, 0, none⟩), .pointer (some ⟨a, 0, none⟩)] w (Look w (.tuple #[.int .u32 0, .bool false])) := by
  have := lookup_c h ha
  rw [h0] at this
  exact this
theorem lookup_some {w : World} {p : Nat} {S : PS} {L : Lay} (h : Rep w p S L) {a id : Nat} (ha : IsV w L a id) {i : Nat} (h0 : S.vl id = i) (hi : i ≠ 0) :
    Calls Try.prog 103 #[.pointer (some ⟨p, 0, none⟩), .pointer (some ⟨a, 0, none⟩)] w (Look w (.tuple #[.int .u32 (i : Nat), .bool true])) := by
  have := lookup_c h ha
  rw [h0, show (i != 0) = true by simpa using hi] at this
  exact this

/-- A new node of value id, which becomes a root. -/
def PS.newRoot (S : PS) (id : Nat) : PS := PS.push { (S.newV id) with rt := upd S.rt (S.last + 1) true } ⟨7, S.last + 1, 0, 0⟩
/-- The pair a, b is recorded. -/
def PS.mark (S : PS) (a b : Nat) : PS := if S.nq a b = true then S else PS.push { S with nq := setQ S.nq a b } ⟨4, b, a, 0⟩
def PS.mark2 (S : PS) (i j : Nat) : PS := if i < j then S.mark j i else S.mark i j
def PS.ensure (S : PS) (id : Nat) : PS := if S.vl id = 0 then S.newRoot id else S
/-- setnoneq, as the code does it. -/
def PS.setnoneq (S : PS) (x y : Nat) : PS := ((S.ensure x).ensure y).mark2 (((S.ensure x).ensure y).vl x) (((S.ensure x).ensure y).vl y)
end Go.Proofs.Ytapnmgkpljlgmaa
