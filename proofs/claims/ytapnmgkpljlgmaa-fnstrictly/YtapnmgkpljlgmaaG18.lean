/- The exported operations, in the words of what is known of the values. The operations by their numbers: what is known then, and the answer; what is known grows. The operations one after the other: what stays small, and what holds all along. impl.Apart, impl.Same, impl.Orders. -/
import Derived.Test.YtapnmgkpljlgmaaG17
import Derived.Test.YtapnmgkpljlgmaaG15
import Derived.Test.YtapnmgkpljlgmaaG16
set_option linter.unusedVariables false
set_option linter.unusedSimpArgs false
namespace Go.Proofs.Ytapnmgkpljlgmaa
open Go.RowKit

/-- At q lies a poset in state S; O: its blocks. -/
def At (w : World) (q : Nat) (S : PS) (O : Nat → Prop) : Prop := ∃ p L, w.cell? ⟨q, 0, none⟩ = some (.pointer (some ⟨p, 0, none⟩)) ∧ Rep w p S L ∧ ¬ L.own q ∧ ∀ g, O g ↔ L.own g ∨ g = q
theorem At.kept {w w' : World} {q : Nat} {S : PS} {O F : Nat → Prop} (h : At w q S O) (f : Fr w w' F) (hF : ∀ g, O g → ¬ F g) : At w' q S O := by
  obtain ⟨p, L, h1, h2, h3, h4⟩ := h
  exact ⟨p, L, (f.cell (a := ⟨q, 0, none⟩) (block_lt_of_cell h1) (hF q ((h4 q).2 (.inr rfl)))).trans h1, h2.kept f fun g hg => hF g ((h4 g).2 (.inl hg)), h3, h4⟩
theorem At.nix {w w' : World} {q : Nat} {S : PS} {O : Nat → Prop} (h : At w q S O) (f : Fr w w' Nix) : At w' q S O := h.kept f fun _ _ e => e
theorem At.lt {w : World} {q : Nat} {S : PS} {O : Nat → Prop} (h : At w q S O) {g : Nat} (hg : O g) : g < w.heap.size := by
  obtain ⟨p, L, h1, h2, h3, h4⟩ := h
  rcases (h4 g).1 hg with k | rfl
  · exact h2.lt g k
  · exact block_lt_of_cell h1
/-- Of what was there only the poset's own blocks have turned, and it owns nothing more of it. -/
structure Mov (w w' : World) (O O' : Nat → Prop) : Prop where
  fr : Fr w w' O
  own : ∀ g, O' g → O g ∨ w.heap.size ≤ g
theorem Mov.nix {w w' : World} {O : Nat → Prop} (f : Fr w w' Nix) : Mov w w' O O := ⟨f.mono fun _ e => e.elim, fun _ => .inl⟩
theorem Mov.trans {a b c : World} {O M N : Nat → Prop} (h : Mov a b O M) (k : Mov b c M N) : Mov a c O N :=
  ⟨h.fr.trans k.fr h.own, fun g hg => by
    rcases k.own g hg with h1 | h1
    · exact h.own g h1
    · exact .inr (Nat.le_trans h.fr.size h1)⟩
/-- The answer is r.2, what is known then is r.1. -/
def OpPost (w : World) (q : Nat) (O : Nat → Prop) (S : PS) (r : VS × Bool) (x y : Nat) (e : Ending) (w' : World) : Prop :=
  ∃ S' O', e = .returned (.bool r.2) ∧ At w' q S' O' ∧ Mov w w' O O' ∧ Eff S S' r.1 x y
def RB (w : World) (q p : Nat) (L : Lay) (K : PS → Bool → Prop) (b : Bool) (w' : World) : Prop :=
  ∃ S' L', K S' b ∧ Rep w' p S' L' ∧ Ext w w' L L' ∧ w'.cell? ⟨q, 0, none⟩ = some (.pointer (some ⟨p, 0, none⟩))
theorem RB.post {w w' : World} {q p : Nat} {L : Lay} {K : PS → Bool → Prop} {S : PS} {O : Nat → Prop} {r : VS × Bool} {x y : Nat} {e : Ending} (h3 : ¬ L.own q) (hq : q < w.heap.size) (h4 : ∀ g, O g ↔ L.own g ∨ g = q) (hK : ∀ S' b, K S' b → Eff S S' r.1 x y ∧ b = r.2) (h : BoolPost (RB w q p L K) e w') : OpPost w q O S r x y e w' := by
  obtain ⟨b, rfl, S', L', k1, k2, k3, k4⟩ := h
  obtain ⟨e1, rfl⟩ := hK _ _ k1
  refine ⟨S', fun g => L'.own g ∨ g = q, rfl, ⟨p, L', k4, k2, fun ho => ?_, fun _ => Iff.rfl⟩, ⟨k3.fr.mono fun g hg => (h4 g).2 (.inl hg), ?_⟩, e1⟩
  · rcases k3.own q ho with e | e
    · exact h3 e
    · omega
  · rintro g (hg | rfl)
    · rcases k3.own g hg with e | e
      · exact .inl ((h4 g).2 (.inl e))
      · exact .inr e
    · exact .inl ((h4 g).2 (.inr rfl))
theorem isv_new {w w' : World} {p : Nat} {S : PS} {L : Lay} (h : Rep w p S L) {a x : Nat} (ha : w.heap.size ≤ a) (hc : w'.cell? ⟨a, 0, none⟩ = some (.int .i32 (x : Nat))) : IsV w' L a x :=
  ⟨hc, fun ho => by have := h.lt a ho; omega⟩
theorem qcell {w w' : World} {q p : Nat} {L L' : Lay} (h : w.cell? ⟨q, 0, none⟩ = some (.pointer (some ⟨p, 0, none⟩))) (h3 : ¬ L.own q) (e : Ext w w' L L') : w'.cell? ⟨q, 0, none⟩ = some (.pointer (some ⟨p, 0, none⟩)) :=
  (e.fr.cell (a := ⟨q, 0, none⟩) (block_lt_of_cell h) h3).trans h

theorem atOrdered {w : World} {q : Nat} {S : PS} {O : Nat → Prop} (h : At w q S O) (ok : OK S) {x y : Nat} (hxy : x ≠ y) (hxl : x < 12) (hyl : y < 12) :
    Calls Try.prog 74 #[.pointer (some ⟨q, 0, none⟩), .int .i64 ((x + 1 : Nat) : Int), .int .i64 ((y + 1 : Nat) : Int)] w fun e w' => e = .returned (.bool (S.abs.lt x y)) ∧ Fr w w' Nix := by
  obtain ⟨p, L, h1, h2, h3, h4⟩ := h
  refine (wOrdered (R := fun b w' => b = (S.abs.lt x y) ∧ Fr w w' Nix) h1 (by omega) (by omega) (fun b w' k => (k.2.cell (a := ⟨q, 0, none⟩) (block_lt_of_cell h1) fun e => e).trans h1) fun w' a1 a2 hF ha1 ha2 hc1 hc2 => ?_).mono fun e w' k => by obtain ⟨b, rfl, rfl, k⟩ := k; exact ⟨rfl, k⟩
  refine (Ordered_c (h2.nix hF) ok.toWF1 (isv_new h2 ha1 hc1) (isv_new h2 ha2 hc2) (by omega)).mono fun e w2 k => ?_
  obtain ⟨rfl, hF2⟩ := k
  exact ⟨_, rfl, qOrd_abs ok x y, hF.t hF2⟩

theorem atOrderedOrEqual {w : World} {q : Nat} {S : PS} {O : Nat → Prop} (h : At w q S O) (ok : OK S) {x y : Nat} (hxy : x ≠ y) (hxl : x < 12) (hyl : y < 12) :
    Calls Try.prog 77 #[.pointer (some ⟨q, 0, none⟩), .int .i64 ((x + 1 : Nat) : Int), .int .i64 ((y + 1 : Nat) : Int)] w fun e w' => e = .returned (.bool (S.abs.le x y)) ∧ Fr w w' Nix := by
  obtain ⟨p, L, h1, h2, h3, h4⟩ := h
  refine (wOrderedOrEqual (R := fun b w' => b = (S.abs.le x y) ∧ Fr w w' Nix) h1 (by omega) (by omega) (fun b w' k => (k.2.cell (a := ⟨q, 0, none⟩) (block_lt_of_cell h1) fun e => e).trans h1) fun w' a1 a2 hF ha1 ha2 hc1 hc2 => ?_).mono fun e w' k => by obtain ⟨b, rfl, rfl, k⟩ := k; exact ⟨rfl, k⟩
  refine (OrderedOrEqual_c (h2.nix hF) ok.toWF1 (isv_new h2 ha1 hc1) (isv_new h2 ha2 hc2) (by omega)).mono fun e w2 k => ?_
  obtain ⟨rfl, hF2⟩ := k
  exact ⟨_, rfl, qLe_abs hxy, hF.t hF2⟩

theorem atEqual {w : World} {q : Nat} {S : PS} {O : Nat → Prop} (h : At w q S O) (ok : OK S) {x y : Nat} (hxy : x ≠ y) (hxl : x < 12) (hyl : y < 12) :
    Calls Try.prog 72 #[.pointer (some ⟨q, 0, none⟩), .int .i64 ((x + 1 : Nat) : Int), .int .i64 ((y + 1 : Nat) : Int)] w fun e w' => e = .returned (.bool (S.abs.eq x y)) ∧ Fr w w' Nix := by
  obtain ⟨p, L, h1, h2, h3, h4⟩ := h
  refine (wEqual (R := fun b w' => b = (S.abs.eq x y) ∧ Fr w w' Nix) h1 (by omega) (by omega) (fun b w' k => (k.2.cell (a := ⟨q, 0, none⟩) (block_lt_of_cell h1) fun e => e).trans h1) fun w' a1 a2 hF ha1 ha2 hc1 hc2 => ?_).mono fun e w' k => by obtain ⟨b, rfl, rfl, k⟩ := k; exact ⟨rfl, k⟩
  refine (Equal_c (h2.nix hF) ok.toWF1 (isv_new h2 ha1 hc1) (isv_new h2 ha2 hc2) (by omega)).mono fun e w2 k => ?_
  obtain ⟨rfl, hF2⟩ := k
  exact ⟨_, rfl, qEq_abs ok hxy, hF.t hF2⟩

theorem atNonEqual {w : World} {q : Nat} {S : PS} {O : Nat → Prop} (h : At w q S O) (ok : OK S) {x y : Nat} (hxy : x ≠ y) (hxl : x < 12) (hyl : y < 12) :
    Calls Try.prog 70 #[.pointer (some ⟨q, 0, none⟩), .int .i64 ((x + 1 : Nat) : Int), .int .i64 ((y + 1 : Nat) : Int)] w fun e w' => e = .returned (.bool (S.abs.ne x y || S.abs.lt x y || S.abs.lt y x)) ∧ Fr w w' Nix := by
  obtain ⟨p, L, h1, h2, h3, h4⟩ := h
  refine (wNonEqual (R := fun b w' => b = (S.abs.ne x y || S.abs.lt x y || S.abs.lt y x) ∧ Fr w w' Nix) h1 (by omega) (by omega) (fun b w' k => (k.2.cell (a := ⟨q, 0, none⟩) (block_lt_of_cell h1) fun e => e).trans h1) fun w' a1 a2 hF ha1 ha2 hc1 hc2 => ?_).mono fun e w' k => by obtain ⟨b, rfl, rfl, k⟩ := k; exact ⟨rfl, k⟩
  refine (NonEqual_c (h2.nix hF) ok.toWF1 (isv_new h2 ha1 hc1) (isv_new h2 ha2 hc2) (by omega)).mono fun e w2 k => ?_
  obtain ⟨rfl, hF2⟩ := k
  exact ⟨_, rfl, qNe_abs ok x y, hF.t hF2⟩

theorem atSetOrder {w : World} {q : Nat} {S : PS} {O : Nat → Prop} (h : At w q S O) (ok : OK S) (vok : VOK S.abs) (room : Room S) {x y : Nat} (hxy : x ≠ y) (hxl : x < 12) (hyl : y < 12) :
    Calls Try.prog 73 #[.pointer (some ⟨q, 0, none⟩), .int .i64 ((x + 1 : Nat) : Int), .int .i64 ((y + 1 : Nat) : Int)] w (OpPost w q O S (S.abs.setO x y true) x y) := by
  obtain ⟨p, L, h1, h2, h3, h4⟩ := h
  refine (wSetOrder (R := RB w q p L (S.SetO (x + 1) (y + 1) true)) h1 (by omega) (by omega) (fun b w' k => k.choose_spec.choose_spec.2.2.2) fun w' a1 a2 hF ha1 ha2 hc1 hc2 => ?_).mono fun e w' k => RB.post h3 (block_lt_of_cell h1) h4 (fun S' b k => setO_eff ok vok room hxy hxl hyl true k) k
  refine (SetOrder_c (h2.nix hF) ok.toWF1 ok.rootOK room (isv_new h2 ha1 hc1) (isv_new h2 ha2 hc2) (by omega)).mono fun e w2 k => ?_
  obtain ⟨S', b, k1, rfl, L', k2, k3⟩ := k
  have k4 := (Ext.nix (L := L) hF).trans k3
  exact ⟨b, rfl, S', L', k1, k2, k4, qcell h1 h3 k4⟩

theorem atSetOrderOrEqual {w : World} {q : Nat} {S : PS} {O : Nat → Prop} (h : At w q S O) (ok : OK S) (vok : VOK S.abs) (room : Room S) {x y : Nat} (hxy : x ≠ y) (hxl : x < 12) (hyl : y < 12) :
    Calls Try.prog 76 #[.pointer (some ⟨q, 0, none⟩), .int .i64 ((x + 1 : Nat) : Int), .int .i64 ((y + 1 : Nat) : Int)] w (OpPost w q O S (S.abs.setO x y false) x y) := by
  obtain ⟨p, L, h1, h2, h3, h4⟩ := h
  refine (wSetOrderOrEqual (R := RB w q p L (S.SetO (x + 1) (y + 1) false)) h1 (by omega) (by omega) (fun b w' k => k.choose_spec.choose_spec.2.2.2) fun w' a1 a2 hF ha1 ha2 hc1 hc2 => ?_).mono fun e w' k => RB.post h3 (block_lt_of_cell h1) h4 (fun S' b k => setO_eff ok vok room hxy hxl hyl false k) k
  refine (SetOrderOrEqual_c (h2.nix hF) ok.toWF1 ok.rootOK room (isv_new h2 ha1 hc1) (isv_new h2 ha2 hc2) (by omega)).mono fun e w2 k => ?_
  obtain ⟨S', b, k1, rfl, L', k2, k3⟩ := k
  have k4 := (Ext.nix (L := L) hF).trans k3
  exact ⟨b, rfl, S', L', k1, k2, k4, qcell h1 h3 k4⟩

theorem atSetEqual {w : World} {q : Nat} {S : PS} {O : Nat → Prop} (h : At w q S O) (ok : OK S) (vok : VOK S.abs) (room : Room S) {x y : Nat} (hxy : x ≠ y) (hxl : x < 12) (hyl : y < 12) :
    Calls Try.prog 71 #[.pointer (some ⟨q, 0, none⟩), .int .i64 ((x + 1 : Nat) : Int), .int .i64 ((y + 1 : Nat) : Int)] w (OpPost w q O S (S.abs.setE x y) x y) := by
  obtain ⟨p, L, h1, h2, h3, h4⟩ := h
  refine (wSetEqual (R := RB w q p L (S.SetE (x + 1) (y + 1))) h1 (by omega) (by omega) (fun b w' k => k.choose_spec.choose_spec.2.2.2) fun w' a1 a2 hF ha1 ha2 hc1 hc2 => ?_).mono fun e w' k => RB.post h3 (block_lt_of_cell h1) h4 (fun S' b k => setE_eff ok vok room hxy hxl hyl k) k
  refine (SetEqual_c (h2.nix hF) ok.toWF1 ok.rootOK room (isv_new h2 ha1 hc1) (isv_new h2 ha2 hc2) (by omega)).mono fun e w2 k => ?_
  obtain ⟨S', b, k1, rfl, L', k2, k3⟩ := k
  have k4 := (Ext.nix (L := L) hF).trans k3
  exact ⟨b, rfl, S', L', k1, k2, k4, qcell h1 h3 k4⟩

theorem atSetNonEqual {w : World} {q : Nat} {S : PS} {O : Nat → Prop} (h : At w q S O) (ok : OK S) (vok : VOK S.abs) (room : Room S) {x y : Nat} (hxy : x ≠ y) (hxl : x < 12) (hyl : y < 12) :
    Calls Try.prog 69 #[.pointer (some ⟨q, 0, none⟩), .int .i64 ((x + 1 : Nat) : Int), .int .i64 ((y + 1 : Nat) : Int)] w (OpPost w q O S (S.abs.setN x y) x y) := by
  obtain ⟨p, L, h1, h2, h3, h4⟩ := h
  refine (wSetNonEqual (R := RB w q p L (fun S' b => S' = (S.setNE (x + 1) (y + 1)).1 ∧ b = (S.setNE (x + 1) (y + 1)).2)) h1 (by omega) (by omega) (fun b w' k => k.choose_spec.choose_spec.2.2.2) fun w' a1 a2 hF ha1 ha2 hc1 hc2 => ?_).mono fun e w' k => RB.post h3 (block_lt_of_cell h1) h4 (fun S' b k => by obtain ⟨rfl, rfl⟩ := k; exact setN_eff ok vok room hxy hxl hyl) k
  refine (SetNonEqual_c (h2.nix hF) ok.toWF1 room (isv_new h2 ha1 hc1) (isv_new h2 ha2 hc2) (by omega)).mono fun e w2 k => ?_
  obtain ⟨rfl, L', k2, k3⟩ := k
  have k4 := (Ext.nix (L := L) hF).trans k3
  exact ⟨_, rfl, _, L', ⟨rfl, rfl⟩, k2, k4, qcell h1 h3 k4⟩
end Go.Proofs.Ytapnmgkpljlgmaa
namespace Go.Proofs.Ytapnmgkpljlgmaa

/-- The operation with number op about x and y: what is known then, and the answer. -/
def VS.ans (V : VS) (op x y : Nat) : VS × Bool :=
  if op = 0 then V.setO x y true else if op = 1 then V.setO x y false else if op = 2 then V.setE x y else if op = 3 then V.setN x y
  else if op = 4 then (V, V.lt x y) else if op = 5 then (V, V.le x y) else if op = 6 then (V, V.eq x y) else (V, V.ne x y || V.lt x y || V.lt y x)
theorem ans_ok {V : VS} (h : VOK V) (op x y : Nat) : VOK (V.ans op x y).1 := by
  unfold VS.ans
  repeat' split
  all_goals first | exact setO_ok h _ _ _ | exact setE_ok h _ _ | exact setN_ok h _ _ | exact h

/-! ## what is known grows -/
structure Grows (V W : VS) : Prop where
  le : ∀ {a b}, V.le a b = true → W.le a b = true
  lt : ∀ {a b}, V.lt a b = true → W.lt a b = true
theorem Grows.refl (V : VS) : Grows V V := ⟨id, id⟩
theorem Grows.trans {U V W : VS} (h : Grows U V) (k : Grows V W) : Grows U W := ⟨fun q => k.le (h.le q), fun q => k.lt (h.lt q)⟩
theorem Grows.eq {V W : VS} (h : Grows V W) {a b : Nat} (q : V.eq a b = true) : W.eq a b = true := by
  rw [VS.eq_iff] at *; exact ⟨h.le q.1, h.le q.2⟩
theorem grows_add (V : VS) (x y : Nat) (s : Bool) : Grows V (V.add x y s) := ⟨fun q => VS.add_le.2 (.inl q), fun q => VS.add_lt.2 (.inl q)⟩
theorem grows_fold (V : VS) (r : Nat) : Grows V (V.fold r) := ⟨id, id⟩
theorem grows_mark (V : VS) (x y : Nat) : Grows V (V.mark x y) := ⟨id, id⟩
theorem setO_grows (V : VS) (x y : Nat) (st : Bool) : Grows V (V.setO x y st).1 := by
  unfold VS.setO
  repeat' split
  all_goals first | exact .refl _ | exact grows_add _ _ _ _ | exact (grows_add _ _ _ _).trans (grows_fold _ _)
theorem setE_grows (V : VS) (x y : Nat) : Grows V (V.setE x y).1 := by
  unfold VS.setE
  split
  · exact .refl _
  · split
    · exact .refl _
    · split
      · split
        · exact .refl _
        · exact (grows_add _ _ _ _).trans (grows_fold _ _)
      · split
        · split
          · exact .refl _
          · exact (grows_add _ _ _ _).trans (grows_fold _ _)
        · exact ((grows_add _ _ _ _).trans (grows_add _ _ _ _)).trans (grows_fold _ _)
theorem setN_grows (V : VS) (x y : Nat) : Grows V (V.setN x y).1 := by
  unfold VS.setN
  repeat' split
  all_goals first | exact .refl _ | exact grows_mark _ _ _ | exact (grows_mark _ _ _).trans (grows_add _ _ _ _)
theorem ans_grows (V : VS) (op x y : Nat) : Grows V (V.ans op x y).1 := by
  unfold VS.ans
  repeat' split
  all_goals first | exact setO_grows _ _ _ _ | exact setE_grows _ _ _ | exact setN_grows _ _ _ | exact .refl _
end Go.Proofs.Ytapnmgkpljlgmaa
namespace Go.Proofs.Ytapnmgkpljlgmaa

/-! ## how many classes there are -/
def isRep (V : VS) (x : Nat) : Bool := (List.range x).all fun y => !V.eq y x
theorem isRep_iff {V : VS} {x : Nat} : isRep V x = true ↔ ∀ y, y < x → V.eq y x ≠ true := by simp [isRep]
def reps (V : VS) : Nat → Nat
  | 0 => 0
  | n + 1 => reps V n + if isRep V n = true then 1 else 0
theorem reps_le {V W : VS} (h : Grows V W) : ∀ n, reps W n ≤ reps V n
  | 0 => Nat.le_refl _
  | n + 1 => by
    have ih := reps_le h n
    have : isRep W n = true → isRep V n = true := by
      rw [isRep_iff, isRep_iff]
      exact fun k y hy q => k y hy (h.eq q)
    simp only [reps]
    by_cases h1 : isRep W n = true
    · rw [if_pos h1, if_pos (this h1)]; omega
    · rw [if_neg h1]; split <;> omega
theorem reps_lt {V W : VS} (h : Grows V W) {x : Nat} (h1 : isRep V x = true) (h2 : isRep W x ≠ true) : ∀ n, x < n → reps W n < reps V n
  | 0, hn => by omega
  | n + 1, hn => by
    simp only [reps]
    by_cases e : x = n
    · subst e
      have := reps_le h x
      rw [if_pos h1, if_neg h2]; omega
    · have := reps_lt h h1 h2 n (by omega)
      have : isRep W n = true → isRep V n = true := by
        rw [isRep_iff, isRep_iff]
        exact fun k y hy q => k y hy (h.eq q)
      by_cases h3 : isRep W n = true
      · rw [if_pos h3, if_pos (this h3)]; omega
      · rw [if_neg h3]; split <;> omega
theorem reps_bound (V : VS) : ∀ n, reps V n ≤ n
  | 0 => Nat.le_refl _
  | n + 1 => by have := reps_bound V n; simp only [reps]; split <;> omega
theorem reps_pos (V : VS) : ∀ n, 0 < n → 1 ≤ reps V n
  | 1, _ => by simp [reps, isRep]
  | n + 2, _ => by have := reps_pos V (n + 1) (by omega); simp only [reps] at this ⊢; omega
theorem rep_of {V : VS} (o : VO V) : ∀ n x, x ≤ n → ∃ r, r ≤ x ∧ V.eq r x = true ∧ isRep V r = true
  | 0, x, h => ⟨x, Nat.le_refl _, o.eqr x, by have : x = 0 := by omega
                                              subst this; simp [isRep]⟩
  | n + 1, x, h => by
    by_cases hx : isRep V x = true
    · exact ⟨x, Nat.le_refl _, o.eqr x, hx⟩
    · have : ∃ y, y < x ∧ V.eq y x = true := by
        by_cases q : ∃ y, y < x ∧ V.eq y x = true
        · exact q
        · exact absurd (isRep_iff.2 fun y hy k => q ⟨y, hy, k⟩) hx
      obtain ⟨y, hy, he⟩ := this
      obtain ⟨r, h1, h2, h3⟩ := rep_of o n y (by omega)
      exact ⟨r, by omega, o.eqt h2 he, h3⟩
theorem reps_merge {V W : VS} (o : VO V) (p : VO W) (h : Grows V W) {x y n : Nat} (hx : x < n) (hy : y < n) (h1 : V.eq x y ≠ true) (h2 : W.eq x y = true) : reps W n < reps V n := by
  obtain ⟨a, a1, a2, a3⟩ := rep_of o x x (Nat.le_refl _)
  obtain ⟨b, b1, b2, b3⟩ := rep_of o y y (Nat.le_refl _)
  have hab : a ≠ b := by rintro rfl; exact h1 (o.eqt (VO.eqs a2) b2)
  have hW : W.eq a b = true := p.eqt (p.eqt (h.eq a2) h2) (VO.eqs (h.eq b2))
  rcases Nat.lt_or_gt_of_ne hab with q | q
  · exact reps_lt h b3 (fun k => isRep_iff.1 k a q hW) n (by omega)
  · exact reps_lt h a3 (fun k => isRep_iff.1 k b q (VO.eqs hW)) n (by omega)

/-! ## what holds all along -/
def pw (V : VS) : Nat := 3 ^ (12 - reps V 12)
theorem pow_le (k : Nat) (h : k ≤ 11) : 3 ^ k ≤ 177147 := by
  have : 3 ^ k ≤ 3 ^ 11 := Nat.pow_le_pow_right (by omega) h
  omega
theorem pw_le (V : VS) : 1 ≤ pw V ∧ pw V ≤ 177147 := by
  have := reps_pos V 12 (by omega)
  exact ⟨Nat.pow_pos (by omega), pow_le _ (by omega)⟩
structure LI (t : Nat) (S : PS) : Prop where
  ok : OK S
  vok : VOK S.abs
  ln : S.nodes.length ≤ (5 * t + 1) * pw S.abs
  lg : S.lg.length ≤ 2000 * (t + 1) * pw S.abs
theorem mul_bd {a b c d : Nat} (h : a ≤ c) (k : b ≤ d) : a * b ≤ c * d := Nat.mul_le_mul h k
theorem LI.room {t : Nat} {S : PS} (h : LI t S) (ht : t ≤ 260) : Room S := by
  have h1 := Nat.le_trans h.ln (mul_bd (show 5 * t + 1 ≤ 1301 by omega) (pw_le S.abs).2)
  have h2 := Nat.le_trans h.lg (mul_bd (show 2000 * (t + 1) ≤ 522000 by omega) (pw_le S.abs).2)
  refine ⟨by omega, ?_, fun x hx => ?_⟩
  · unfold Lim; omega
  · have := h.ok.ids x hx; omega
theorem LI.step {t : Nat} {S S' : PS} {V' : VS} {x y : Nat} (h : LI t S) (e : Eff S S' V' x y) (g : Grows S.abs V') (v : VOK V') (hx : x < 12) (hy : y < 12) : LI (t + 1) S' := by
  have hV : S'.abs = V' := e.abs
  have p1 := (pw_le V').1
  have hln := h.ln
  have hlg := h.lg
  have hr := reps_le g 12
  refine ⟨e.ok, by rw [hV]; exact v, ?_, ?_⟩ <;> rw [hV]
  · rcases e.sz with ⟨s1, _⟩ | ⟨s1, _, s3, s4⟩
    · have hp : pw S.abs ≤ pw V' := Nat.pow_le_pow_right (by omega) (by omega)
      have m := Nat.mul_le_mul_left (5 * t + 1) hp
      have : (5 * (t + 1) + 1) * pw V' = (5 * t + 1) * pw V' + 5 * pw V' := by rw [← Nat.add_mul]; congr 1
      omega
    · have hl := reps_merge h.vok.toVO v.toVO g hx hy s3 s4
      have hb := reps_bound S.abs 12
      have hp : 3 * pw S.abs ≤ pw V' := by
        unfold pw
        have : 3 * 3 ^ (12 - reps S.abs 12) = 3 ^ (12 - reps S.abs 12 + 1) := by rw [Nat.pow_succ]; omega
        rw [this]
        exact Nat.pow_le_pow_right (by omega) (by omega)
      have m := Nat.mul_le_mul_left (5 * t + 1) hp
      have : (5 * (t + 1) + 1) * pw V' = (5 * t + 1) * pw V' + 5 * pw V' := by rw [← Nat.add_mul]; congr 1
      have : (5 * t + 1) * (3 * pw S.abs) = 3 * ((5 * t + 1) * pw S.abs) := by rw [Nat.mul_left_comm]
      omega
  · have ex : 2000 * (t + 1 + 1) * pw V' = 2000 * (t + 1) * pw V' + 2000 * pw V' := by rw [← Nat.add_mul]; congr 1
    rcases e.sz with ⟨_, s2⟩ | ⟨_, s2, s3, s4⟩
    · have hp : pw S.abs ≤ pw V' := Nat.pow_le_pow_right (by omega) (by omega)
      have m := Nat.mul_le_mul_left (2000 * (t + 1)) hp
      omega
    · have hl := reps_merge h.vok.toVO v.toVO g hx hy s3 s4
      have hb := reps_bound S.abs 12
      have hp : 3 * pw S.abs ≤ pw V' := by
        unfold pw
        have : 3 * 3 ^ (12 - reps S.abs 12) = 3 ^ (12 - reps S.abs 12 + 1) := by rw [Nat.pow_succ]; omega
        rw [this]
        exact Nat.pow_le_pow_right (by omega) (by omega)
      have m := Nat.mul_le_mul_left (2000 * (t + 1)) hp
      have e1 : 2000 * (t + 1) * (3 * pw S.abs) = 3 * (2000 * (t + 1) * pw S.abs) := by rw [Nat.mul_left_comm]
      have e2 : (5 * t + 1) * pw S.abs ≤ 2000 * (t + 1) * pw S.abs := Nat.mul_le_mul_right _ (by omega)
      have e3 : 10 * ((5 * t + 1) * pw S.abs) ≤ 2 * (2000 * (t + 1) * pw S.abs) := by
        have : 10 * (5 * t + 1) * pw S.abs ≤ 2 * (2000 * (t + 1)) * pw S.abs := Nat.mul_le_mul_right _ (by omega)
        rw [Nat.mul_assoc, Nat.mul_assoc 2] at this
        exact this
      omega
theorem LI.more {t u : Nat} {S : PS} (h : LI t S) (hu : t ≤ u) : LI u S :=
  ⟨h.ok, h.vok, Nat.le_trans h.ln (Nat.mul_le_mul_right _ (by omega)), Nat.le_trans h.lg (Nat.mul_le_mul_right _ (by omega))⟩

/-! ## telling a row of facts -/
def tell (op : Nat) (l : List (Nat × Nat)) : VS × List Bool := l.foldl (fun s p => ((s.1.ans op p.1 p.2).1, s.2 ++ [(s.1.ans op p.1 p.2).2])) (VS.nil, [])
theorem tell_snoc (op : Nat) (l : List (Nat × Nat)) (p : Nat × Nat) : tell op (l ++ [p]) = (((tell op l).1.ans op p.1 p.2).1, (tell op l).2 ++ [((tell op l).1.ans op p.1 p.2).2]) := by
  unfold tell; rw [List.foldl_append]; rfl
end Go.Proofs.Ytapnmgkpljlgmaa
namespace Go.Proofs.Ytapnmgkpljlgmaa
open Go.RowKit

theorem init_nd (i : Nat) : PS.init.nd i = (0, 0) := by
  unfold PS.nd PS.init
  rcases i with _ | i <;> simp
theorem init_ed {a b : Nat} {s : Bool} : ¬ Ed PS.init.nd a b s := by
  intro e; rw [Ed_at (init_nd a)] at e
  rcases e with e | e <;> exact isE_zero e
theorem init_abs : PS.init.abs = VS.nil := by
  apply VS.ext'
  · intro a; rw [abs_kn]; simp [PS.init, VS.nil]
  · intro a b; rw [abs_le]; simp [PS.init, VS.nil]
  · intro a b; rw [abs_lt]; simp [PS.init, VS.nil]
  · intro a b; rw [abs_ne]; simp [PS.init, VS.nil]
theorem init_ok : OK PS.init :=
  ⟨⟨⟨⟨rfl, by simp [PS.init], fun x y s e => (init_ed e).elim⟩, fun r h => by simp [PS.init] at h, fun id => by simp [PS.init], fun i j h => by simp [PS.init] at h⟩, fun i j s e => (init_ed e).elim, init_nd 0, ⟨fun _ => 0, fun a b s e => (init_ed e).elim⟩, rfl, fun id h => by simp [PS.init] at h⟩,
    ⟨fun h => by simp [PS.init] at h, fun x hx => by
      rcases hx with ⟨h1, id, h2⟩ | hx
      · exact absurd h2.symm h1
      · exact absurd (init_nd x) hx⟩⟩
theorem init_li : LI 0 PS.init := ⟨init_ok, by rw [init_abs]; exact VOK.nil, by have := (pw_le PS.init.abs).1; simp [PS.init] at *; omega, by simp [PS.init]⟩

/-- The poset and what holds of it, behind t operations; the answer b. -/
def OpL (w : World) (q t : Nat) (O : Nat → Prop) (r : VS × Bool) (e : Ending) (w' : World) : Prop :=
  ∃ S' O', e = .returned (.bool r.2) ∧ At w' q S' O' ∧ Mov w w' O O' ∧ LI t S' ∧ S'.abs = r.1

theorem oplSetOrder {w : World} {q t : Nat} {S : PS} {O : Nat → Prop} (h : At w q S O) (li : LI t S) (ht : t ≤ 260) {x y : Nat} (hxy : x ≠ y) (hxl : x < 12) (hyl : y < 12) :
    Calls Try.prog 73 #[.pointer (some ⟨q, 0, none⟩), .int .i64 ((x : Int) + 1), .int .i64 ((y : Int) + 1)] w (OpL w q (t + 1) O (S.abs.ans 0 x y)) := by
  refine (atSetOrder h li.ok li.vok (li.room ht) hxy hxl hyl).mono fun e w' k => ?_
  obtain ⟨S', O', k1, k2, k3, k4⟩ := k
  exact ⟨S', O', k1, k2, k3, li.step k4 (ans_grows S.abs 0 x y) (ans_ok li.vok 0 x y) hxl hyl, k4.abs⟩

theorem oplSetOrderOrEqual {w : World} {q t : Nat} {S : PS} {O : Nat → Prop} (h : At w q S O) (li : LI t S) (ht : t ≤ 260) {x y : Nat} (hxy : x ≠ y) (hxl : x < 12) (hyl : y < 12) :
    Calls Try.prog 76 #[.pointer (some ⟨q, 0, none⟩), .int .i64 ((x : Int) + 1), .int .i64 ((y : Int) + 1)] w (OpL w q (t + 1) O (S.abs.ans 1 x y)) := by
  refine (atSetOrderOrEqual h li.ok li.vok (li.room ht) hxy hxl hyl).mono fun e w' k => ?_
  obtain ⟨S', O', k1, k2, k3, k4⟩ := k
  exact ⟨S', O', k1, k2, k3, li.step k4 (ans_grows S.abs 1 x y) (ans_ok li.vok 1 x y) hxl hyl, k4.abs⟩

theorem oplSetEqual {w : World} {q t : Nat} {S : PS} {O : Nat → Prop} (h : At w q S O) (li : LI t S) (ht : t ≤ 260) {x y : Nat} (hxy : x ≠ y) (hxl : x < 12) (hyl : y < 12) :
    Calls Try.prog 71 #[.pointer (some ⟨q, 0, none⟩), .int .i64 ((x : Int) + 1), .int .i64 ((y : Int) + 1)] w (OpL w q (t + 1) O (S.abs.ans 2 x y)) := by
  refine (atSetEqual h li.ok li.vok (li.room ht) hxy hxl hyl).mono fun e w' k => ?_
  obtain ⟨S', O', k1, k2, k3, k4⟩ := k
  exact ⟨S', O', k1, k2, k3, li.step k4 (ans_grows S.abs 2 x y) (ans_ok li.vok 2 x y) hxl hyl, k4.abs⟩

theorem oplSetNonEqual {w : World} {q t : Nat} {S : PS} {O : Nat → Prop} (h : At w q S O) (li : LI t S) (ht : t ≤ 260) {x y : Nat} (hxy : x ≠ y) (hxl : x < 12) (hyl : y < 12) :
    Calls Try.prog 69 #[.pointer (some ⟨q, 0, none⟩), .int .i64 ((x : Int) + 1), .int .i64 ((y : Int) + 1)] w (OpL w q (t + 1) O (S.abs.ans 3 x y)) := by
  refine (atSetNonEqual h li.ok li.vok (li.room ht) hxy hxl hyl).mono fun e w' k => ?_
  obtain ⟨S', O', k1, k2, k3, k4⟩ := k
  exact ⟨S', O', k1, k2, k3, li.step k4 (ans_grows S.abs 3 x y) (ans_ok li.vok 3 x y) hxl hyl, k4.abs⟩

theorem askOrdered {w : World} {q t : Nat} {S : PS} {O : Nat → Prop} (h : At w q S O) (li : LI t S) {x y : Nat} (hxy : x ≠ y) (hxl : x < 12) (hyl : y < 12) :
    Calls Try.prog 74 #[.pointer (some ⟨q, 0, none⟩), .int .i64 ((x : Int) + 1), .int .i64 ((y : Int) + 1)] w (fun e w' => e = .returned (.bool (S.abs.ans 4 x y).2) ∧ Fr w w' Nix) :=
  atOrdered h li.ok hxy hxl hyl

theorem askOrderedOrEqual {w : World} {q t : Nat} {S : PS} {O : Nat → Prop} (h : At w q S O) (li : LI t S) {x y : Nat} (hxy : x ≠ y) (hxl : x < 12) (hyl : y < 12) :
    Calls Try.prog 77 #[.pointer (some ⟨q, 0, none⟩), .int .i64 ((x : Int) + 1), .int .i64 ((y : Int) + 1)] w (fun e w' => e = .returned (.bool (S.abs.ans 5 x y).2) ∧ Fr w w' Nix) :=
  atOrderedOrEqual h li.ok hxy hxl hyl

theorem askEqual {w : World} {q t : Nat} {S : PS} {O : Nat → Prop} (h : At w q S O) (li : LI t S) {x y : Nat} (hxy : x ≠ y) (hxl : x < 12) (hyl : y < 12) :
    Calls Try.prog 72 #[.pointer (some ⟨q, 0, none⟩), .int .i64 ((x : Int) + 1), .int .i64 ((y : Int) + 1)] w (fun e w' => e = .returned (.bool (S.abs.ans 6 x y).2) ∧ Fr w w' Nix) :=
  atEqual h li.ok hxy hxl hyl

theorem askNonEqual {w : World} {q t : Nat} {S : PS} {O : Nat → Prop} (h : At w q S O) (li : LI t S) {x y : Nat} (hxy : x ≠ y) (hxl : x < 12) (hyl : y < 12) :
    Calls Try.prog 70 #[.pointer (some ⟨q, 0, none⟩), .int .i64 ((x : Int) + 1), .int .i64 ((y : Int) + 1)] w (fun e w' => e = .returned (.bool (S.abs.ans 7 x y).2) ∧ Fr w w' Nix) :=
  atNonEqual h li.ok hxy hxl hyl

def bls (l : List Bool) : List Value := l.map Value.bool
def tks (op : Nat) (l : List (Nat × Nat)) (k : Nat) : List Value := bls (tell op (l.take k)).2
theorem tks_succ {op : Nat} {l : List (Nat × Nat)} {k : Nat} {x y : Nat} (h : l[k]? = some (x, y)) : tks op l (k + 1) = tks op l k ++ [.bool ((tell op (l.take k)).1.ans op x y).2] := by
  unfold tks bls; rw [take_snoc h, tell_snoc]; simp
def nn (l : List (Nat × Nat)) : List (Int × Int) := l.map fun p => ((p.1 : Int), (p.2 : Int))
theorem nn_len (l : List (Nat × Nat)) : (nn l).length = l.length := by simp [nn]
theorem nn_at {l : List (Nat × Nat)} {k : Nat} {px py : Int} (h : (nn l)[k]? = some (px, py)) (hl : ∀ p ∈ l, p.1 < 12 ∧ p.2 < 12 ∧ p.1 ≠ p.2) : ∃ x y : Nat, px = x ∧ py = y ∧ l[k]? = some (x, y) ∧ x < 12 ∧ y < 12 ∧ x ≠ y := by
  unfold nn at h
  rw [List.getElem?_map, Option.map_eq_some_iff] at h
  obtain ⟨⟨x, y⟩, h1, h2⟩ := h
  simp only [Prod.mk.injEq] at h2
  have := hl _ (List.mem_of_getElem? h1)
  exact ⟨x, y, h2.1.symm, h2.2.symm, h1, this⟩
/-- The answers of telling, and the last one. -/
def ToldPost (w : World) (n : Nat) (l : List (Nat × Nat)) (op ask x y : Nat) (e : Ending) (w' : World) : Prop :=
  ∃ v, e = .returned (.tuple #[v, .bool ((tell op l).1.ans ask x y).2]) ∧ Fsh w w' 4 1 v n (bls (tell op l).2)
theorem told_op {w wr w2 : World} {q : Nat} {S' : PS} {O O' : Nat → Prop} {T : TypeId} {size n : Nat} {v : Value} {xs : List Value} (h : Fsh w wr T size v n xs) (hO : ∀ g, O g → w.heap.size ≤ g) (hD : ∀ g, v.ownBlock = some g → ¬ O g) (_hA : At w2 q S' O') (m : Mov wr w2 O O') :
    Fsh w w2 T size v n xs ∧ (∀ g, O' g → w.heap.size ≤ g) ∧ ∀ g, v.ownBlock = some g → ¬ O' g := by
  refine ⟨⟨m.fr.row h.own hD, h.new, h.fr.trans m.fr fun i hi => .inr (hO i hi), h.shp⟩, fun g hg => ?_, fun g hg ho => ?_⟩
  · rcases m.own g hg with e | e
    · exact hO g e
    · exact Nat.le_trans h.fr.size e
  · rcases m.own g ho with e | e
    · exact hD g hg e
    · obtain ⟨cur, hc⟩ := own_type h.own hg
      have := heap_lt hc; omega
theorem told_app {w w2 wa w3 : World} {q : Nat} {S' : PS} {O' : Nat → Prop} {T : TypeId} {size n m g cap : Nat} {v : Value} {xs news : List Value} (h : Fsh w w2 T size v n xs ∧ (∀ g, O' g → w.heap.size ≤ g) ∧ ∀ g, v.ownBlock = some g → ¬ O' g) (hA : At w2 q S' O') (ha : Fr w2 wa Nix)
    (hown : w3.ownsRow 0 T size (.slice (some ⟨g, 0, none⟩) (n + m) cap) (n + m) (xs ++ news)) (hg : wa.grownBy w3 v.ownBlock) (hn : v.ownBlock = some g ∨ wa.heap.size ≤ g) :
    Fsh w w3 T size (.slice (some ⟨g, 0, none⟩) (n + m) cap) (n + m) (xs ++ news) ∧ At w3 q S' O' ∧ ∀ k, (Value.slice (some ⟨g, 0, none⟩) (n + m) cap).ownBlock = some k → ¬ O' k := by
  refine ⟨h.1.app ha hown hg hn, (hA.nix ha).kept (F := fun k => v.ownBlock = some k) (Fr.grown hg fun k hk => hk) fun k hk e => h.2.2 k e hk, fun k hk ho => ?_⟩
  simp only [Value.ownBlock, Option.some.injEq] at hk
  subst hk
  rcases hn with hn | hn
  · exact h.2.2 _ hn ho
  · have := hA.lt ho; have := ha.size; omega

def ApartLoop (w : World) (q : Nat) (l : List (Nat × Nat)) (n m : Nat) (v u : Value) (wr : World) : Prop :=
  ∃ (k : Nat) (S : PS) (O : Nat → Prop), m + k = n ∧ u = .int .i64 (k : Nat) ∧ Fsh w wr 4 1 v k (tks 3 l k) ∧ At wr q S O ∧ LI k S ∧ S.abs = (tell 3 (l.take k)).1 ∧ (∀ g, O g → w.heap.size ≤ g) ∧ ∀ g, v.ownBlock = some g → ¬ O g
set_option maxRecDepth 10000 in
set_option maxHeartbeats 4000000 in
theorem Apart_c {A : Option Addr} {n c x y : Nat} {vals : Int} {l : List (Nat × Nat)} {w : World} (h : Rd w 2 A n (z2s (nn l))) (hn : n ≤ 64) (hl : ∀ p ∈ l, p.1 < 12 ∧ p.2 < 12 ∧ p.1 ≠ p.2) (hxy : x ≠ y) (hx : x < 12) (hy : y < 12) :
    Calls Try.prog 35 #[.int .i64 vals, .slice A n c, .int .i64 (x : Nat), .int .i64 (y : Nat)] w (ToldPost w n l 3 7 x y) := by
  have hlen : l.length = n := by have := h.1; rw [z2s_len, nn_len] at this; omega
  have H := Lib.hid (And.intro h (And.intro hl hlen))
  have HN := Lib.hid hn
  have HX := Lib.hid (And.intro hxy (And.intro hx hy))
  have hm : (n : Int) ≤ 9223372036854775807 := by omega
  have hxi : (x : Int) ≤ 12 := by omega
  have hyi : (y : Int) ≤ 12 := by omega
  clear h hn hl hxy hx hy hlen
  go_enter Try.func35, Try.ntmps35
  go_wp2_with fail
  refine (NewPoset_c w).mono ?_
  rintro e w1 ⟨q, p, L, rfl, k1, k2, k3, k4, k5, k6⟩
  have HP := Lib.hid (And.intro (show At w1 q PS.init (fun g => L.own g ∨ g = q) from ⟨p, L, k1, k2, k6, fun _ => Iff.rfl⟩) (And.intro k3 (show ∀ g, (L.own g ∨ g = q) → w.heap.size ≤ g from fun g hg => hg.elim (k4 g) (fun e => e ▸ k5))))
  clear k1 k2 k3 k4 k5 k6
  go_wp2_with fail
  go_loopg [11, 18] n (fun m v u wr => ApartLoop w q l n m v u wr)
  case atStart =>
    refine ⟨0, PS.init, fun g => L.own g ∨ g = q, rfl, rfl, (Fsh.empty w1 4 1).base HP.out.2.1, HP.out.1.nix (Fr.al _ _), init_li, init_abs, HP.out.2.2, fun g hg ho => ?_⟩
    simp only [Value.ownBlock, Option.some.injEq] at hg
    have := HP.out.1.lt ho
    omega
  case round =>
    obtain ⟨k, S, O, hmk, rfl, hF, hA, hLI, hab, hO, hD⟩ := hrel
    have HF := Lib.hid hF
    have HA := Lib.hid (And.intro hA (And.intro hLI (And.intro hab (And.intro hO hD))))
    have HMK := Lib.hid hmk
    clear hF hmk hA hLI hab hO hD
    by_cases hlt : k < n
    · obtain ⟨ad, px, py, rfl, hz, hc⟩ := rd2 (H.out.1.nix HF.out.fr) hlt
      obtain ⟨X, Y, rfl, rfl, hz2, hX, hY, hXY⟩ := nn_at hz H.out.2.1
      have HZ := Lib.hid (And.intro hz2 (And.intro hX (And.intro hY hXY)))
      have HC := Lib.hid hc
      have hXi : (X : Int) ≤ 12 := by omega
      have hYi : (Y : Int) ≤ 12 := by omega
      clear hz hc hz2 hX hY hXY
      have HA2 := Lib.hid (HA.out.1.nix (Fr.al wr (Obj.cells #[.int .i64 (X : Int), .int .i64 (Y : Int)] 27)))
      go_wp2_with (first
        | (with_reducible refine wpList_ld (o := ⟨some 21, _, _, _, _, _⟩) rfl 27 (.tmp 20) rfl _ rfl #[.int .i64 (X : Int), .int .i64 (Y : Int)] _ HC.out Try.underlying27 rfl (by kernel_rfl) ?_)
        | fail)
      refine (oplSetNonEqual HA2.out HA.out.2.1 (by have := HN.out; omega) HZ.out.2.2.2 HZ.out.2.1 HZ.out.2.2.1).mono ?_
      rintro e w2 ⟨S', O', rfl, j1, j2, j3, j4⟩
      have HT := Lib.hid (told_op (HF.out.nix (Fr.al wr (Obj.cells #[.int .i64 (X : Int), .int .i64 (Y : Int)] 27))) HA.out.2.2.2.1 HA.out.2.2.2.2 j1 j2)
      have HJ := Lib.hid (And.intro j1 (And.intro j3 (j4.trans (by rw [HA.out.2.2.1]))))
      obtain ⟨b, hb⟩ : ∃ b, (S.abs.ans 3 X Y).2 = b := ⟨_, rfl⟩
      have HB := Lib.hid (show ((tell 3 (l.take k)).1.ans 3 X Y).2 = b by rw [← HA.out.2.2.1]; exact hb)
      rw [hb]
      clear j1 j2 j3 j4 hb
      have hown := HT.out.1.own
      have HL := Lib.hid (show (k + 1) * 1 ≤ 140737488355328 ∧ k + 1 ≤ 1000000000000 by have := HN.out; omega)
      go_wp2_with (at_builtin; refine wpList_app _ rfl _ _ 28 rfl 4 _ 1 1 Try.underlying28 (by kernel_rfl : _ = some (some (.bool false), 1, 1)) rfl (by decide) _ _ _ rfl (hown.alloc _) ⟨w2.heap.size, 0, none⟩ 1 1 [.bool b] rfl rfl (by decide) (cells_at _ _ rfl _ _) (by simp [Value.oneCell']) HL.out.1 HL.out.2 ?_)
      intro g cap w3 hown1 hgrow1 hnew1
      have hG := Lib.hid (told_app HT.out HJ.out.1 (Fr.al _ _) hown1 hgrow1 (by simpa using hnew1))
      clear hown1 hgrow1 hnew1 hown
      go_wp2
      go_roundg (n - (k + 1))
      case measure => have := HMK.out; omega
      case rel =>
        refine ⟨k + 1, S', O', by have := HMK.out; omega, by rw [Int.natCast_add]; rfl, ?_, hG.out.2.1, HJ.out.2.1, ?_, HT.out.2.1, hG.out.2.2⟩
        · rw [tks_succ HZ.out.1, HB.out]; exact hG.out.1
        · rw [take_snoc HZ.out.1, tell_snoc]; exact HJ.out.2.2
    · have hk : k = n := by have := HMK.out; omega
      subst hk
      have e : l.take k = l := List.take_of_length_le (by rw [H.out.2.2]; exact Nat.le_refl _)
      have HE := Lib.hid e
      clear e
      obtain ⟨A0, c0, rfl⟩ := HF.out.shp
      go_wp2_with fail
      refine (askNonEqual HA.out.1 HA.out.2.1 HX.out.1 HX.out.2.1 HX.out.2.2).mono ?_
      rintro e w2 ⟨rfl, hF2⟩
      have HF2 := Lib.hid hF2
      clear hF2
      rw [show S.abs = (tell 3 l).1 by rw [HA.out.2.2.1, HE.out]]
      go_wp2
      go_ret2
      refine ⟨_, rfl, ?_⟩
      have := HF.out.nix HF2.out
      unfold tks at this
      rwa [HE.out] at this

def SameLoop (w : World) (q : Nat) (l : List (Nat × Nat)) (n m : Nat) (v u : Value) (wr : World) : Prop :=
  ∃ (k : Nat) (S : PS) (O : Nat → Prop), m + k = n ∧ u = .int .i64 (k : Nat) ∧ Fsh w wr 4 1 v k (tks 2 l k) ∧ At wr q S O ∧ LI k S ∧ S.abs = (tell 2 (l.take k)).1 ∧ (∀ g, O g → w.heap.size ≤ g) ∧ ∀ g, v.ownBlock = some g → ¬ O g
set_option maxRecDepth 10000 in
set_option maxHeartbeats 4000000 in
theorem Same_c {A : Option Addr} {n c x y : Nat} {vals : Int} {l : List (Nat × Nat)} {w : World} (h : Rd w 2 A n (z2s (nn l))) (hn : n ≤ 64) (hl : ∀ p ∈ l, p.1 < 12 ∧ p.2 < 12 ∧ p.1 ≠ p.2) (hxy : x ≠ y) (hx : x < 12) (hy : y < 12) :
    Calls Try.prog 36 #[.int .i64 vals, .slice A n c, .int .i64 (x : Nat), .int .i64 (y : Nat)] w (ToldPost w n l 2 6 x y) := by
  have hlen : l.length = n := by have := h.1; rw [z2s_len, nn_len] at this; omega
  have H := Lib.hid (And.intro h (And.intro hl hlen))
  have HN := Lib.hid hn
  have HX := Lib.hid (And.intro hxy (And.intro hx hy))
  have hm : (n : Int) ≤ 9223372036854775807 := by omega
  have hxi : (x : Int) ≤ 12 := by omega
  have hyi : (y : Int) ≤ 12 := by omega
  clear h hn hl hxy hx hy hlen
  go_enter Try.func36, Try.ntmps36
  go_wp2_with fail
  refine (NewPoset_c w).mono ?_
  rintro e w1 ⟨q, p, L, rfl, k1, k2, k3, k4, k5, k6⟩
  have HP := Lib.hid (And.intro (show At w1 q PS.init (fun g => L.own g ∨ g = q) from ⟨p, L, k1, k2, k6, fun _ => Iff.rfl⟩) (And.intro k3 (show ∀ g, (L.own g ∨ g = q) → w.heap.size ≤ g from fun g hg => hg.elim (k4 g) (fun e => e ▸ k5))))
  clear k1 k2 k3 k4 k5 k6
  go_wp2_with fail
  go_loopg [11, 18] n (fun m v u wr => SameLoop w q l n m v u wr)
  case atStart =>
    refine ⟨0, PS.init, fun g => L.own g ∨ g = q, rfl, rfl, (Fsh.empty w1 4 1).base HP.out.2.1, HP.out.1.nix (Fr.al _ _), init_li, init_abs, HP.out.2.2, fun g hg ho => ?_⟩
    simp only [Value.ownBlock, Option.some.injEq] at hg
    have := HP.out.1.lt ho
    omega
  case round =>
    obtain ⟨k, S, O, hmk, rfl, hF, hA, hLI, hab, hO, hD⟩ := hrel
    have HF := Lib.hid hF
    have HA := Lib.hid (And.intro hA (And.intro hLI (And.intro hab (And.intro hO hD))))
    have HMK := Lib.hid hmk
    clear hF hmk hA hLI hab hO hD
    by_cases hlt : k < n
    · obtain ⟨ad, px, py, rfl, hz, hc⟩ := rd2 (H.out.1.nix HF.out.fr) hlt
      obtain ⟨X, Y, rfl, rfl, hz2, hX, hY, hXY⟩ := nn_at hz H.out.2.1
      have HZ := Lib.hid (And.intro hz2 (And.intro hX (And.intro hY hXY)))
      have HC := Lib.hid hc
      have hXi : (X : Int) ≤ 12 := by omega
      have hYi : (Y : Int) ≤ 12 := by omega
      clear hz hc hz2 hX hY hXY
      have HA2 := Lib.hid (HA.out.1.nix (Fr.al wr (Obj.cells #[.int .i64 (X : Int), .int .i64 (Y : Int)] 27)))
      go_wp2_with (first
        | (with_reducible refine wpList_ld (o := ⟨some 21, _, _, _, _, _⟩) rfl 27 (.tmp 20) rfl _ rfl #[.int .i64 (X : Int), .int .i64 (Y : Int)] _ HC.out Try.underlying27 rfl (by kernel_rfl) ?_)
        | fail)
      refine (oplSetEqual HA2.out HA.out.2.1 (by have := HN.out; omega) HZ.out.2.2.2 HZ.out.2.1 HZ.out.2.2.1).mono ?_
      rintro e w2 ⟨S', O', rfl, j1, j2, j3, j4⟩
      have HT := Lib.hid (told_op (HF.out.nix (Fr.al wr (Obj.cells #[.int .i64 (X : Int), .int .i64 (Y : Int)] 27))) HA.out.2.2.2.1 HA.out.2.2.2.2 j1 j2)
      have HJ := Lib.hid (And.intro j1 (And.intro j3 (j4.trans (by rw [HA.out.2.2.1]))))
      obtain ⟨b, hb⟩ : ∃ b, (S.abs.ans 2 X Y).2 = b := ⟨_, rfl⟩
      have HB := Lib.hid (show ((tell 2 (l.take k)).1.ans 2 X Y).2 = b by rw [← HA.out.2.2.1]; exact hb)
      rw [hb]
      clear j1 j2 j3 j4 hb
      have hown := HT.out.1.own
      have HL := Lib.hid (show (k + 1) * 1 ≤ 140737488355328 ∧ k + 1 ≤ 1000000000000 by have := HN.out; omega)
      go_wp2_with (at_builtin; refine wpList_app _ rfl _ _ 28 rfl 4 _ 1 1 Try.underlying28 (by kernel_rfl : _ = some (some (.bool false), 1, 1)) rfl (by decide) _ _ _ rfl (hown.alloc _) ⟨w2.heap.size, 0, none⟩ 1 1 [.bool b] rfl rfl (by decide) (cells_at _ _ rfl _ _) (by simp [Value.oneCell']) HL.out.1 HL.out.2 ?_)
      intro g cap w3 hown1 hgrow1 hnew1
      have hG := Lib.hid (told_app HT.out HJ.out.1 (Fr.al _ _) hown1 hgrow1 (by simpa using hnew1))
      clear hown1 hgrow1 hnew1 hown
      go_wp2
      go_roundg (n - (k + 1))
      case measure => have := HMK.out; omega
      case rel =>
        refine ⟨k + 1, S', O', by have := HMK.out; omega, by rw [Int.natCast_add]; rfl, ?_, hG.out.2.1, HJ.out.2.1, ?_, HT.out.2.1, hG.out.2.2⟩
        · rw [tks_succ HZ.out.1, HB.out]; exact hG.out.1
        · rw [take_snoc HZ.out.1, tell_snoc]; exact HJ.out.2.2
    · have hk : k = n := by have := HMK.out; omega
      subst hk
      have e : l.take k = l := List.take_of_length_le (by rw [H.out.2.2]; exact Nat.le_refl _)
      have HE := Lib.hid e
      clear e
      obtain ⟨A0, c0, rfl⟩ := HF.out.shp
      go_wp2_with fail
      refine (askEqual HA.out.1 HA.out.2.1 HX.out.1 HX.out.2.1 HX.out.2.2).mono ?_
      rintro e w2 ⟨rfl, hF2⟩
      have HF2 := Lib.hid hF2
      clear hF2
      rw [show S.abs = (tell 2 l).1 by rw [HA.out.2.2.1, HE.out]]
      go_wp2
      go_ret2
      refine ⟨_, rfl, ?_⟩
      have := HF.out.nix HF2.out
      unfold tks at this
      rwa [HE.out] at this

def OrdersLoop (w : World) (q : Nat) (l : List (Nat × Nat)) (n m : Nat) (v u : Value) (wr : World) : Prop :=
  ∃ (k : Nat) (S : PS) (O : Nat → Prop), m + k = n ∧ u = .int .i64 (k : Nat) ∧ Fsh w wr 4 1 v k (tks 0 l k) ∧ At wr q S O ∧ LI k S ∧ S.abs = (tell 0 (l.take k)).1 ∧ (∀ g, O g → w.heap.size ≤ g) ∧ ∀ g, v.ownBlock = some g → ¬ O g
set_option maxRecDepth 10000 in
set_option maxHeartbeats 4000000 in
theorem Orders_c {A : Option Addr} {n c x y : Nat} {vals : Int} {l : List (Nat × Nat)} {w : World} (h : Rd w 2 A n (z2s (nn l))) (hn : n ≤ 64) (hl : ∀ p ∈ l, p.1 < 12 ∧ p.2 < 12 ∧ p.1 ≠ p.2) (hxy : x ≠ y) (hx : x < 12) (hy : y < 12) :
    Calls Try.prog 39 #[.int .i64 vals, .slice A n c, .int .i64 (x : Nat), .int .i64 (y : Nat)] w (ToldPost w n l 0 4 x y) := by
  have hlen : l.length = n := by have := h.1; rw [z2s_len, nn_len] at this; omega
  have H := Lib.hid (And.intro h (And.intro hl hlen))
  have HN := Lib.hid hn
  have HX := Lib.hid (And.intro hxy (And.intro hx hy))
  have hm : (n : Int) ≤ 9223372036854775807 := by omega
  have hxi : (x : Int) ≤ 12 := by omega
  have hyi : (y : Int) ≤ 12 := by omega
  clear h hn hl hxy hx hy hlen
  go_enter Try.func39, Try.ntmps39
  go_wp2_with fail
  refine (NewPoset_c w).mono ?_
  rintro e w1 ⟨q, p, L, rfl, k1, k2, k3, k4, k5, k6⟩
  have HP := Lib.hid (And.intro (show At w1 q PS.init (fun g => L.own g ∨ g = q) from ⟨p, L, k1, k2, k6, fun _ => Iff.rfl⟩) (And.intro k3 (show ∀ g, (L.own g ∨ g = q) → w.heap.size ≤ g from fun g hg => hg.elim (k4 g) (fun e => e ▸ k5))))
  clear k1 k2 k3 k4 k5 k6
  go_wp2_with fail
  go_loopg [11, 18] n (fun m v u wr => OrdersLoop w q l n m v u wr)
  case atStart =>
    refine ⟨0, PS.init, fun g => L.own g ∨ g = q, rfl, rfl, (Fsh.empty w1 4 1).base HP.out.2.1, HP.out.1.nix (Fr.al _ _), init_li, init_abs, HP.out.2.2, fun g hg ho => ?_⟩
    simp only [Value.ownBlock, Option.some.injEq] at hg
    have := HP.out.1.lt ho
    omega
  case round =>
    obtain ⟨k, S, O, hmk, rfl, hF, hA, hLI, hab, hO, hD⟩ := hrel
    have HF := Lib.hid hF
    have HA := Lib.hid (And.intro hA (And.intro hLI (And.intro hab (And.intro hO hD))))
    have HMK := Lib.hid hmk
    clear hF hmk hA hLI hab hO hD
    by_cases hlt : k < n
    · obtain ⟨ad, px, py, rfl, hz, hc⟩ := rd2 (H.out.1.nix HF.out.fr) hlt
      obtain ⟨X, Y, rfl, rfl, hz2, hX, hY, hXY⟩ := nn_at hz H.out.2.1
      have HZ := Lib.hid (And.intro hz2 (And.intro hX (And.intro hY hXY)))
      have HC := Lib.hid hc
      have hXi : (X : Int) ≤ 12 := by omega
      have hYi : (Y : Int) ≤ 12 := by omega
      clear hz hc hz2 hX hY hXY
      have HA2 := Lib.hid (HA.out.1.nix (Fr.al wr (Obj.cells #[.int .i64 (X : Int), .int .i64 (Y : Int)] 27)))
      go_wp2_with (first
        | (with_reducible refine wpList_ld (o := ⟨some 21, _, _, _, _, _⟩) rfl 27 (.tmp 20) rfl _ rfl #[.int .i64 (X : Int), .int .i64 (Y : Int)] _ HC.out Try.underlying27 rfl (by kernel_rfl) ?_)
        | fail)
      refine (oplSetOrder HA2.out HA.out.2.1 (by have := HN.out; omega) HZ.out.2.2.2 HZ.out.2.1 HZ.out.2.2.1).mono ?_
      rintro e w2 ⟨S', O', rfl, j1, j2, j3, j4⟩
      have HT := Lib.hid (told_op (HF.out.nix (Fr.al wr (Obj.cells #[.int .i64 (X : Int), .int .i64 (Y : Int)] 27))) HA.out.2.2.2.1 HA.out.2.2.2.2 j1 j2)
      have HJ := Lib.hid (And.intro j1 (And.intro j3 (j4.trans (by rw [HA.out.2.2.1]))))
      obtain ⟨b, hb⟩ : ∃ b, (S.abs.ans 0 X Y).2 = b := ⟨_, rfl⟩
      have HB := Lib.hid (show ((tell 0 (l.take k)).1.ans 0 X Y).2 = b by rw [← HA.out.2.2.1]; exact hb)
      rw [hb]
      clear j1 j2 j3 j4 hb
      have hown := HT.out.1.own
      have HL := Lib.hid (show (k + 1) * 1 ≤ 140737488355328 ∧ k + 1 ≤ 1000000000000 by have := HN.out; omega)
      go_wp2_with (at_builtin; refine wpList_app _ rfl _ _ 28 rfl 4 _ 1 1 Try.underlying28 (by kernel_rfl : _ = some (some (.bool false), 1, 1)) rfl (by decide) _ _ _ rfl (hown.alloc _) ⟨w2.heap.size, 0, none⟩ 1 1 [.bool b] rfl rfl (by decide) (cells_at _ _ rfl _ _) (by simp [Value.oneCell']) HL.out.1 HL.out.2 ?_)
      intro g cap w3 hown1 hgrow1 hnew1
      have hG := Lib.hid (told_app HT.out HJ.out.1 (Fr.al _ _) hown1 hgrow1 (by simpa using hnew1))
      clear hown1 hgrow1 hnew1 hown
      go_wp2
      go_roundg (n - (k + 1))
      case measure => have := HMK.out; omega
      case rel =>
        refine ⟨k + 1, S', O', by have := HMK.out; omega, by rw [Int.natCast_add]; rfl, ?_, hG.out.2.1, HJ.out.2.1, ?_, HT.out.2.1, hG.out.2.2⟩
        · rw [tks_succ HZ.out.1, HB.out]; exact hG.out.1
        · rw [take_snoc HZ.out.1, tell_snoc]; exact HJ.out.2.2
    · have hk : k = n := by have := HMK.out; omega
      subst hk
      have e : l.take k = l := List.take_of_length_le (by rw [H.out.2.2]; exact Nat.le_refl _)
      have HE := Lib.hid e
      clear e
      obtain ⟨A0, c0, rfl⟩ := HF.out.shp
      go_wp2_with fail
      refine (askOrdered HA.out.1 HA.out.2.1 HX.out.1 HX.out.2.1 HX.out.2.2).mono ?_
      rintro e w2 ⟨rfl, hF2⟩
      have HF2 := Lib.hid hF2
      clear hF2
      rw [show S.abs = (tell 0 l).1 by rw [HA.out.2.2.1, HE.out]]
      go_wp2
      go_ret2
      refine ⟨_, rfl, ?_⟩
      have := HF.out.nix HF2.out
      unfold tks at this
      rwa [HE.out] at this
end Go.Proofs.Ytapnmgkpljlgmaa
