/- The poset with the states that Undo leads back to; Checkpoint, Undo, and the facts. Scripts as the laws have them: triples of numbers; what makes a script fit for a run; all questions. ssaposet.Run: the calls of a script, one after the other. -/
import Derived.Test.YtapnmgkpljlgmaaG22
import Derived.Test.YtapnmgkpljlgmaaG20
import Derived.Test.YtapnmgkpljlgmaaG21
set_option linter.unusedVariables false
set_option linter.unusedSimpArgs false
namespace Go.Proofs.Ytapnmgkpljlgmaa
open Go.RowKit

/-- The states that one Undo after the other leads back to. -/
inductive Chain (t : Nat) : PS → List PS → Prop
  | nil (S : PS) : Chain t S []
  | cons {S T : PS} {stk : List PS} : Undone S T → LI t T → Chain t T stk → Chain t S (T :: stk)
theorem Chain.rev {t : Nat} {S S' : PS} {stk : List PS} (h : Chain t S stk) (r : Rev S S') : Chain t S' stk := by
  cases h with
  | nil => exact .nil _
  | cons a b c => exact .cons (r _ a) b c
theorem Chain.more {t u : Nat} {S : PS} {stk : List PS} (h : Chain t S stk) (k : t ≤ u) : Chain u S stk := by
  induction h with
  | nil => exact .nil _
  | cons a b _ ih => exact .cons a (b.more k) ih
theorem push_undone (S : PS) (i id e : Nat) : Undone (S.push ⟨1, i, id, e⟩) S := Undone.stop (S.push ⟨1, i, id, e⟩) i id e S.lg rfl
theorem push_abs (S : PS) (u : Un) : (S.push u).abs = S.abs := abs_same rfl rfl rfl
theorem LI.push {t : Nat} {S : PS} (h : LI t S) : LI (t + 1) (S.push ⟨1, 0, 0, 0⟩) := by
  have hp := (pw_le S.abs).1
  refine ⟨h.ok.push _, by rw [push_abs]; exact h.vok, ?_, ?_⟩
  · rw [push_abs]; exact Nat.le_trans h.ln (Nat.mul_le_mul_right _ (by omega))
  · rw [push_abs]
    have := h.lg
    have e : 2000 * (t + 1 + 1) * pw S.abs = 2000 * (t + 1) * pw S.abs + 2000 * pw S.abs := by rw [← Nat.add_mul]; congr 1
    show S.lg.length + 1 ≤ _
    omega
theorem LI.lim {t : Nat} {S : PS} (h : LI t S) (ht : t ≤ 260) : S.lg.length < Lim := by
  have h2 := Nat.le_trans h.lg (mul_bd (show 2000 * (t + 1) ≤ 522000 by omega) (pw_le S.abs).2)
  unfold Lim; omega

/-- At q lies a poset whose values and checkpoints are m, behind t facts and checkpoints; below these checkpoints lie those of bot. -/
def RSt (bot : List PS) (w : World) (q t : Nat) (m : MS) (O : Nat → Prop) : Prop := ∃ S stk, At w q S O ∧ LI t S ∧ Chain t S (stk ++ bot) ∧ m = (S.abs, stk.map PS.abs)
theorem RSt.nix {bot : List PS} {w w' : World} {q t : Nat} {m : MS} {O : Nat → Prop} (h : RSt bot w q t m O) (f : Fr w w' Nix) : RSt bot w' q t m O := by
  obtain ⟨S, stk, h1, h2, h3, h4⟩ := h
  exact ⟨S, stk, h1.nix f, h2, h3, h4⟩
theorem RSt.kept {bot : List PS} {w w' : World} {q t : Nat} {m : MS} {O F : Nat → Prop} (h : RSt bot w q t m O) (f : Fr w w' F) (hF : ∀ g, O g → ¬ F g) : RSt bot w' q t m O := by
  obtain ⟨S, stk, h1, h2, h3, h4⟩ := h
  exact ⟨S, stk, h1.kept f hF, h2, h3, h4⟩
theorem RSt.lt {bot : List PS} {w : World} {q t : Nat} {m : MS} {O : Nat → Prop} (h : RSt bot w q t m O) {g : Nat} (hg : O g) : g < w.heap.size := by
  obtain ⟨S, stk, h1, _⟩ := h; exact h1.lt hg
/-- The poset has gone on to m', with the answer b. -/
def RPost (bot : List PS) (w : World) (q t : Nat) (O : Nat → Prop) (v : Value) (m' : MS) (e : Ending) (w' : World) : Prop := ∃ O', e = .returned v ∧ RSt bot w' q t m' O' ∧ Mov w w' O O'
set_option maxHeartbeats 1000000 in
theorem wCheckpoint {w : World} {q p : Nat} {S : PS} {L : Lay} (hq : w.cell? ⟨q, 0, none⟩ = some (.pointer (some ⟨p, 0, none⟩))) (h : Rep w p S L) (hl : S.lg.length < Lim) :
    Calls Try.prog 78 #[.pointer (some ⟨q, 0, none⟩)] w (Post p w L (.tuple #[]) (S.push ⟨1, 0, 0, 0⟩)) := by
  have H := Lib.hid h
  have HL := Lib.hid hl
  clear h hl
  go_enter Try.func78, Try.ntmps78
  go_wp2_with fail
  refine (Checkpoint_c H.out HL.out).mono ?_
  rintro e w1 ⟨rfl, hR⟩
  have HR := Lib.hid hR
  clear hR hq
  go_wp2
  go_end0
  exact ⟨rfl, HR.out⟩
set_option maxHeartbeats 1000000 in
theorem wUndo {w : World} {q p : Nat} {S S' : PS} {L : Lay} (hq : w.cell? ⟨q, 0, none⟩ = some (.pointer (some ⟨p, 0, none⟩))) (h : Rep w p S L) (hu : Undone S S') (hl : S.lg.length < Lim) :
    Calls Try.prog 80 #[.pointer (some ⟨q, 0, none⟩)] w (Post p w L (.tuple #[]) S') := by
  have H := Lib.hid h
  have HL := Lib.hid hl
  have HU := Lib.hid hu
  clear h hl hu
  go_enter Try.func80, Try.ntmps80
  go_wp2_with fail
  refine (Undo_c H.out HU.out HU.out.ne HL.out (fun _ => rfl)).mono ?_
  rintro e w1 ⟨rfl, hR⟩
  have HR := Lib.hid hR
  clear hR hq
  go_wp2
  go_end0
  exact ⟨rfl, HR.out⟩
/-- What a call without an answer does to the exported poset. -/
theorem at_post {w w' : World} {q p : Nat} {S' : PS} {L : Lay} {O : Nat → Prop} {e : Ending} (h1 : w.cell? ⟨q, 0, none⟩ = some (.pointer (some ⟨p, 0, none⟩))) (h3 : ¬ L.own q) (h4 : ∀ g, O g ↔ L.own g ∨ g = q) (h : Post p w L (.tuple #[]) S' e w') :
    ∃ O', e = .returned (.tuple #[]) ∧ At w' q S' O' ∧ Mov w w' O O' := by
  obtain ⟨rfl, L', k2, k3⟩ := h
  refine ⟨fun g => L'.own g ∨ g = q, rfl, ⟨p, L', qcell h1 h3 k3, k2, fun ho => ?_, fun _ => Iff.rfl⟩, ⟨k3.fr.mono fun g hg => (h4 g).2 (.inl hg), ?_⟩⟩
  · rcases k3.own q ho with e | e
    · exact h3 e
    · have := block_lt_of_cell h1; simp only at this; omega
  · rintro g (hg | rfl)
    · rcases k3.own g hg with e | e
      · exact .inl ((h4 g).2 (.inl e))
      · exact .inr e
    · exact .inl ((h4 g).2 (.inr rfl))
theorem rsCheckpoint {bot : List PS} {w : World} {q t : Nat} {m : MS} {O : Nat → Prop} (h : RSt bot w q t m O) (ht : t ≤ 259) :
    Calls Try.prog 78 #[.pointer (some ⟨q, 0, none⟩)] w (RPost bot w q (t + 1) O (.tuple #[]) (m.1, m.1 :: m.2)) := by
  obtain ⟨S, stk, ⟨p, L, h1, h2, h3, h4⟩, li, ch, rfl⟩ := h
  refine (wCheckpoint h1 h2 (li.lim (by omega))).mono fun e w' k => ?_
  obtain ⟨O', k1, k2, k3⟩ := at_post h1 h3 h4 k
  exact ⟨O', k1, ⟨_, S :: stk, k2, li.push, .cons (push_undone S 0 0 0) (li.more (by omega)) (ch.more (by omega)), by rw [push_abs]; rfl⟩, k3⟩
theorem rsUndo {bot : List PS} {w : World} {q t : Nat} {m : MS} {O : Nat → Prop} (h : RSt bot w q t m O) (ht : t ≤ 260) (hm : m.2 ≠ []) :
    Calls Try.prog 80 #[.pointer (some ⟨q, 0, none⟩)] w (RPost bot w q t O (.tuple #[]) (m.2.headD m.1, m.2.tail)) := by
  obtain ⟨S, stk, ⟨p, L, h1, h2, h3, h4⟩, li, ch, rfl⟩ := h
  cases stk with
  | nil => exact absurd rfl hm
  | cons T stk =>
    cases ch with
    | cons a b c =>
      refine (wUndo h1 h2 a (li.lim (by omega))).mono fun e w' k => ?_
      obtain ⟨O', k1, k2, k3⟩ := at_post h1 h3 h4 k
      exact ⟨O', k1, ⟨_, _, k2, b, c, rfl⟩, k3⟩
/-- The last Undo leads back to the state below. -/
theorem rsLast {T : PS} {w : World} {q t : Nat} {V : VS} {O : Nat → Prop} (h : RSt [T] w q t (V, []) O) (ht : t ≤ 260) :
    Calls Try.prog 80 #[.pointer (some ⟨q, 0, none⟩)] w fun e w' => ∃ O', e = .returned (.tuple #[]) ∧ At w' q T O' ∧ Mov w w' O O' := by
  obtain ⟨S, stk, ⟨p, L, h1, h2, h3, h4⟩, li, ch, hm⟩ := h
  have : stk = [] := by
    simp only [Prod.mk.injEq] at hm
    exact List.map_eq_nil_iff.1 hm.2.symm
  subst this
  cases ch with
  | cons a b c => exact (wUndo h1 h2 a (li.lim (by omega))).mono fun e w' k => at_post h1 h3 h4 k

theorem rsSetOrder {bot : List PS} {w : World} {q t : Nat} {m : MS} {O : Nat → Prop} (h : RSt bot w q t m O) (ht : t ≤ 259) {x y : Nat} (hxy : x ≠ y) (hxl : x < 12) (hyl : y < 12) :
    Calls Try.prog 73 #[.pointer (some ⟨q, 0, none⟩), .int .i64 ((x : Int) + 1), .int .i64 ((y : Int) + 1)] w (RPost bot w q (t + 1) O (.bool (m.1.ans 0 x y).2) ((m.1.ans 0 x y).1, m.2)) := by
  obtain ⟨S, stk, h, li, ch, rfl⟩ := h
  refine (atSetOrder h li.ok li.vok (li.room (by omega)) hxy hxl hyl).mono fun e w' k => ?_
  obtain ⟨S', O', k1, k2, k3, k4⟩ := k
  exact ⟨O', k1, ⟨S', stk, k2, li.step k4 (ans_grows S.abs 0 x y) (ans_ok li.vok 0 x y) hxl hyl, (ch.rev k4.rev).more (by omega), by rw [k4.abs]; rfl⟩, k3⟩

theorem rsSetOrderOrEqual {bot : List PS} {w : World} {q t : Nat} {m : MS} {O : Nat → Prop} (h : RSt bot w q t m O) (ht : t ≤ 259) {x y : Nat} (hxy : x ≠ y) (hxl : x < 12) (hyl : y < 12) :
    Calls Try.prog 76 #[.pointer (some ⟨q, 0, none⟩), .int .i64 ((x : Int) + 1), .int .i64 ((y : Int) + 1)] w (RPost bot w q (t + 1) O (.bool (m.1.ans 1 x y).2) ((m.1.ans 1 x y).1, m.2)) := by
  obtain ⟨S, stk, h, li, ch, rfl⟩ := h
  refine (atSetOrderOrEqual h li.ok li.vok (li.room (by omega)) hxy hxl hyl).mono fun e w' k => ?_
  obtain ⟨S', O', k1, k2, k3, k4⟩ := k
  exact ⟨O', k1, ⟨S', stk, k2, li.step k4 (ans_grows S.abs 1 x y) (ans_ok li.vok 1 x y) hxl hyl, (ch.rev k4.rev).more (by omega), by rw [k4.abs]; rfl⟩, k3⟩

theorem rsSetEqual {bot : List PS} {w : World} {q t : Nat} {m : MS} {O : Nat → Prop} (h : RSt bot w q t m O) (ht : t ≤ 259) {x y : Nat} (hxy : x ≠ y) (hxl : x < 12) (hyl : y < 12) :
    Calls Try.prog 71 #[.pointer (some ⟨q, 0, none⟩), .int .i64 ((x : Int) + 1), .int .i64 ((y : Int) + 1)] w (RPost bot w q (t + 1) O (.bool (m.1.ans 2 x y).2) ((m.1.ans 2 x y).1, m.2)) := by
  obtain ⟨S, stk, h, li, ch, rfl⟩ := h
  refine (atSetEqual h li.ok li.vok (li.room (by omega)) hxy hxl hyl).mono fun e w' k => ?_
  obtain ⟨S', O', k1, k2, k3, k4⟩ := k
  exact ⟨O', k1, ⟨S', stk, k2, li.step k4 (ans_grows S.abs 2 x y) (ans_ok li.vok 2 x y) hxl hyl, (ch.rev k4.rev).more (by omega), by rw [k4.abs]; rfl⟩, k3⟩

theorem rsSetNonEqual {bot : List PS} {w : World} {q t : Nat} {m : MS} {O : Nat → Prop} (h : RSt bot w q t m O) (ht : t ≤ 259) {x y : Nat} (hxy : x ≠ y) (hxl : x < 12) (hyl : y < 12) :
    Calls Try.prog 69 #[.pointer (some ⟨q, 0, none⟩), .int .i64 ((x : Int) + 1), .int .i64 ((y : Int) + 1)] w (RPost bot w q (t + 1) O (.bool (m.1.ans 3 x y).2) ((m.1.ans 3 x y).1, m.2)) := by
  obtain ⟨S, stk, h, li, ch, rfl⟩ := h
  refine (atSetNonEqual h li.ok li.vok (li.room (by omega)) hxy hxl hyl).mono fun e w' k => ?_
  obtain ⟨S', O', k1, k2, k3, k4⟩ := k
  exact ⟨O', k1, ⟨S', stk, k2, li.step k4 (ans_grows S.abs 3 x y) (ans_ok li.vok 3 x y) hxl hyl, (ch.rev k4.rev).more (by omega), by rw [k4.abs]; rfl⟩, k3⟩

theorem rsOrdered {bot : List PS} {w : World} {q t : Nat} {m : MS} {O : Nat → Prop} (h : RSt bot w q t m O) {x y : Nat} (hxy : x ≠ y) (hxl : x < 12) (hyl : y < 12) :
    Calls Try.prog 74 #[.pointer (some ⟨q, 0, none⟩), .int .i64 ((x : Int) + 1), .int .i64 ((y : Int) + 1)] w (RPost bot w q t O (.bool (m.1.ans 4 x y).2) ((m.1.ans 4 x y).1, m.2)) := by
  obtain ⟨S, stk, h, li, ch, rfl⟩ := h
  refine (askOrdered h li hxy hxl hyl).mono fun e w' k => ?_
  obtain ⟨rfl, k⟩ := k
  exact ⟨O, rfl, ⟨S, stk, h.nix k, li, ch, rfl⟩, Mov.nix k⟩

theorem rsOrderedOrEqual {bot : List PS} {w : World} {q t : Nat} {m : MS} {O : Nat → Prop} (h : RSt bot w q t m O) {x y : Nat} (hxy : x ≠ y) (hxl : x < 12) (hyl : y < 12) :
    Calls Try.prog 77 #[.pointer (some ⟨q, 0, none⟩), .int .i64 ((x : Int) + 1), .int .i64 ((y : Int) + 1)] w (RPost bot w q t O (.bool (m.1.ans 5 x y).2) ((m.1.ans 5 x y).1, m.2)) := by
  obtain ⟨S, stk, h, li, ch, rfl⟩ := h
  refine (askOrderedOrEqual h li hxy hxl hyl).mono fun e w' k => ?_
  obtain ⟨rfl, k⟩ := k
  exact ⟨O, rfl, ⟨S, stk, h.nix k, li, ch, rfl⟩, Mov.nix k⟩

theorem rsEqual {bot : List PS} {w : World} {q t : Nat} {m : MS} {O : Nat → Prop} (h : RSt bot w q t m O) {x y : Nat} (hxy : x ≠ y) (hxl : x < 12) (hyl : y < 12) :
    Calls Try.prog 72 #[.pointer (some ⟨q, 0, none⟩), .int .i64 ((x : Int) + 1), .int .i64 ((y : Int) + 1)] w (RPost bot w q t O (.bool (m.1.ans 6 x y).2) ((m.1.ans 6 x y).1, m.2)) := by
  obtain ⟨S, stk, h, li, ch, rfl⟩ := h
  refine (askEqual h li hxy hxl hyl).mono fun e w' k => ?_
  obtain ⟨rfl, k⟩ := k
  exact ⟨O, rfl, ⟨S, stk, h.nix k, li, ch, rfl⟩, Mov.nix k⟩

theorem rsNonEqual {bot : List PS} {w : World} {q t : Nat} {m : MS} {O : Nat → Prop} (h : RSt bot w q t m O) {x y : Nat} (hxy : x ≠ y) (hxl : x < 12) (hyl : y < 12) :
    Calls Try.prog 70 #[.pointer (some ⟨q, 0, none⟩), .int .i64 ((x : Int) + 1), .int .i64 ((y : Int) + 1)] w (RPost bot w q t O (.bool (m.1.ans 7 x y).2) ((m.1.ans 7 x y).1, m.2)) := by
  obtain ⟨S, stk, h, li, ch, rfl⟩ := h
  refine (askNonEqual h li hxy hxl hyl).mono fun e w' k => ?_
  obtain ⟨rfl, k⟩ := k
  exact ⟨O, rfl, ⟨S, stk, h.nix k, li, ch, rfl⟩, Mov.nix k⟩
end Go.Proofs.Ytapnmgkpljlgmaa
namespace Go.Proofs.Ytapnmgkpljlgmaa

def stz (z : Z3) : Stp := ⟨z.1.toNat, z.2.1.toNat, z.2.2.toNat⟩
def sts (l : List Z3) : List Stp := l.map stz
theorem sts_app (a b : List Z3) : sts (a ++ b) = sts a ++ sts b := List.map_append
theorem sts_len (l : List Z3) : (sts l).length = l.length := List.length_map ..
structure WfZ (v : Int) (z : Z3) : Prop where
  lo : 0 ≤ z.1
  hi : z.1 ≤ 9
  ok : z.1 ≠ 8 → z.1 ≠ 9 → 0 ≤ z.2.1 ∧ 0 ≤ z.2.2 ∧ z.2.1 < v ∧ z.2.2 < v ∧ z.2.1 ≠ z.2.2
theorem WfZ.wf {v : Int} {z : Z3} (h : WfZ v z) : WfS v.toNat (stz z) := by
  obtain ⟨h1, h2, h3⟩ := h
  unfold WfS stz
  simp only
  refine ⟨by omega, fun h => ?_⟩
  have := h3 (by omega) (by omega)
  omega
theorem WfZ.mono {u v : Int} {z : Z3} (h : WfZ u z) (k : u ≤ v) : WfZ v z := ⟨h.lo, h.hi, fun a b => by have := h.ok a b; omega⟩
theorem goodF_deep {v : Int} : ∀ (l : List Z3) (d : Nat), goodF v d l = true → Deep d (sts l)
  | [], _, _ => trivial
  | z :: l, d, h => by
    unfold goodF at h
    split at h
    · cases h
    · rename_i h1
      split at h
      · cases h
      · split at h
        · cases h
        · rename_i h3
          unfold Go.Proofs.Ytapnmgkpljlgmaa.dep at h h3
          show Deep d (stz z :: sts l)
          unfold Deep
          by_cases q8 : z.1 = 8
          · rw [if_pos q8] at h
            rw [if_pos (show (stz z).op = 8 by unfold stz; simp only; omega)]
            exact goodF_deep l (d + 1) (by rw [Int.natCast_add]; exact h)
          · rw [if_neg q8] at h h3
            rw [if_neg (show ¬ (stz z).op = 8 by unfold stz; simp only; omega)]
            by_cases q9 : z.1 = 9
            · rw [if_pos q9] at h h3
              rw [if_pos (show (stz z).op = 9 by unfold stz; simp only; omega)]
              have e : ((d - 1 : Nat) : Int) = (d : Int) - 1 := by omega
              exact ⟨by omega, goodF_deep l (d - 1) (by rw [e]; exact h)⟩
            · rw [if_neg q9] at h
              rw [if_neg (show ¬ (stz z).op = 9 by unfold stz; simp only; omega)]
              exact goodF_deep l d h
structure GoodZ (v : Int) (l : List Z3) : Prop where
  v0 : 0 ≤ v
  v12 : v ≤ 12
  len : l.length ≤ 64
  wf : ∀ z ∈ l, WfZ v z
  deep : Deep 0 (sts l)
theorem goodB_z {v : Int} {l : List Z3} (h : goodB v l = true) : GoodZ v l := by
  obtain ⟨h1, h2, h3, h4⟩ := goodB_iff h
  exact ⟨h1, h2, h3, fun z hz => by obtain ⟨a, b, c⟩ := goodF_mem _ _ h4 z hz; exact ⟨a, b, c⟩, goodF_deep l 0 h4⟩
theorem GoodZ.good {v : Int} {l : List Z3} (h : GoodZ v l) : GoodS v.toNat 0 (sts l) := ⟨fun s hs => by
  obtain ⟨z, hz, rfl⟩ := List.mem_map.1 hs
  exact (h.wf z hz).wf, h.deep⟩

/-! ## what can be run -/
def sets (l : List Z3) : Nat := (l.filter fun z => decide (z.1 < 4 ∨ 7 < z.1)).length
theorem sets_app (a b : List Z3) : sets (a ++ b) = sets a + sets b := by unfold sets; rw [List.filter_append, List.length_append]
theorem sets_le (a : List Z3) : sets a ≤ a.length := List.length_filter_le _ _
theorem sets_take (a : List Z3) (k : Nat) : sets (a.take k) ≤ sets a := by
  have := sets_app (a.take k) (a.drop k)
  rw [List.take_append_drop] at this; omega
structure RunOK (l : List Z3) : Prop where
  wf : ∀ z ∈ l, WfZ 12 z
  deep : Deep 0 (sts l)
  cnt : sets l ≤ 260
  len : l.length ≤ 4000
theorem GoodZ.run {v : Int} {l : List Z3} (h : GoodZ v l) : RunOK l := ⟨fun z hz => (h.wf z hz).mono h.v12, h.deep, by have := sets_le l; have := h.len; omega, by have := h.len; omega⟩
theorem Deep_flat : ∀ (d : Nat) (l : List Stp), (∀ s ∈ l, s.op ≤ 7) → Deep d l
  | _, [], _ => trivial
  | d, s :: l, h => by
    unfold Deep
    have := h s (by simp)
    rw [if_neg (by omega), if_neg (by omega)]
    exact Deep_flat d l fun t ht => h t (by simp [ht])
theorem Deep_app : ∀ (a b : List Stp) (d : Nat), Deep d a → Deep (dpt d a) b → Deep d (a ++ b)
  | [], _, _, _, h => h
  | s :: a, b, d, h, k => by
    show Deep d (s :: (a ++ b))
    unfold Deep at h ⊢
    unfold dpt at k
    split
    · rename_i q
      rw [if_pos q] at h k
      exact Deep_app a b _ h k
    · rename_i q
      rw [if_neg q] at h k
      split
      · rename_i q2
        rw [if_pos q2] at h k
        exact ⟨h.1, Deep_app a b _ h.2 k⟩
      · rename_i q2
        rw [if_neg q2] at h k
        exact Deep_app a b _ h k
theorem RunOK.app {a b : List Z3} (h : RunOK a) (hb : ∀ z ∈ b, WfZ 12 z ∧ z.1 ≤ 7) (hc : sets a + sets b ≤ 260) (hl : a.length + b.length ≤ 4000) : RunOK (a ++ b) where
  wf := fun z hz => by
    rcases List.mem_append.1 hz with hz | hz
    · exact h.wf z hz
    · exact (hb z hz).1
  deep := by
    rw [sts_app]
    refine Deep_app _ _ _ h.deep (Deep_flat _ _ fun s hs => ?_)
    obtain ⟨z, hz, rfl⟩ := List.mem_map.1 hs
    have := (hb z hz).2
    show z.1.toNat ≤ 7; omega
  cnt := by rw [sets_app]; exact hc
  len := by rw [List.length_append]; exact hl
theorem sets_asks {q : List Z3} (h : ∀ z ∈ q, 4 ≤ z.1 ∧ z.1 ≤ 7) : sets q = 0 := by
  unfold sets
  rw [List.length_eq_zero_iff, List.filter_eq_nil_iff]
  intro z hz
  have := h z hz
  simp; omega
/-- Questions about two values that are not the same one. -/
def AskZ (v : Int) (q : List Z3) : Prop := ∀ z ∈ q, WfZ v z ∧ 4 ≤ z.1 ∧ z.1 ≤ 7
theorem AskZ.sts {v : Int} {q : List Z3} (h : AskZ v q) : ∀ s ∈ sts q, Ask s := fun s hs => by
  obtain ⟨z, hz, rfl⟩ := List.mem_map.1 hs
  have := (h z hz).2
  unfold Ask stz; simp only; omega
theorem RunOK.ask {v : Int} {a b : List Z3} (h : RunOK a) (hv : v ≤ 12) (hb : AskZ v b) (hl : a.length + b.length ≤ 4000) : RunOK (a ++ b) :=
  h.app (fun z hz => ⟨(hb z hz).1.mono hv, (hb z hz).2.2⟩) (by rw [sets_asks fun z hz => (hb z hz).2]; exact h.cnt) hl

/-! ## all questions -/
def qY (op x : Nat) : Nat → List Z3
  | 0 => []
  | k + 1 => if x = k then qY op x k else qY op x k ++ [((op : Int), (x : Int), (k : Int))]
def qX (op v : Nat) : Nat → List Z3
  | 0 => []
  | k + 1 => qX op v k ++ qY op k v
def qO (f v : Nat) : Nat → List Z3
  | 0 => []
  | k + 1 => qO f v k ++ qX (f + k) v v
theorem qY_mem {op x : Nat} {z : Z3} : ∀ k, z ∈ qY op x k → ∃ y : Nat, y < k ∧ y ≠ x ∧ z = ((op : Int), (x : Int), (y : Int))
  | 0, h => by simp [qY] at h
  | k + 1, h => by
    unfold qY at h
    split at h
    · obtain ⟨y, h1, h2, h3⟩ := qY_mem k h; exact ⟨y, by omega, h2, h3⟩
    · rcases List.mem_append.1 h with h | h
      · obtain ⟨y, h1, h2, h3⟩ := qY_mem k h; exact ⟨y, by omega, h2, h3⟩
      · rw [List.mem_singleton] at h
        exact ⟨k, by omega, fun e => by omega, h⟩
theorem qX_mem {op v : Nat} {z : Z3} : ∀ k, z ∈ qX op v k → ∃ x y : Nat, x < k ∧ y < v ∧ y ≠ x ∧ z = ((op : Int), (x : Int), (y : Int))
  | 0, h => by simp [qX] at h
  | k + 1, h => by
    unfold qX at h
    rcases List.mem_append.1 h with h | h
    · obtain ⟨x, y, h1, h2, h3, h4⟩ := qX_mem k h; exact ⟨x, y, by omega, h2, h3, h4⟩
    · obtain ⟨y, h1, h2, h3⟩ := qY_mem v h; exact ⟨k, y, by omega, h1, h2, h3⟩
theorem qO_mem {f v : Nat} {z : Z3} : ∀ k, z ∈ qO f v k → ∃ o x y : Nat, o < k ∧ x < v ∧ y < v ∧ y ≠ x ∧ z = (((f + o : Nat) : Int), (x : Int), (y : Int))
  | 0, h => by simp [qO] at h
  | k + 1, h => by
    unfold qO at h
    rcases List.mem_append.1 h with h | h
    · obtain ⟨o, x, y, h1, h2, h3, h4, h5⟩ := qO_mem k h; exact ⟨o, x, y, by omega, h2, h3, h4, h5⟩
    · obtain ⟨x, y, h1, h2, h3, h4⟩ := qX_mem v h; exact ⟨k, x, y, by omega, h1, h2, h3, h4⟩
theorem qY_len (op x : Nat) : ∀ k, (qY op x k).length ≤ k
  | 0 => by simp [qY]
  | k + 1 => by have := qY_len op x k; unfold qY; split <;> simp <;> omega
theorem qX_len (op v : Nat) : ∀ k, (qX op v k).length ≤ k * v
  | 0 => by simp [qX]
  | k + 1 => by have h1 := qX_len op v k; have h2 := qY_len op k v; unfold qX; rw [List.length_append, Nat.add_mul, Nat.one_mul]; omega
theorem qO_len (f v : Nat) : ∀ k, (qO f v k).length ≤ k * (v * v)
  | 0 => by simp [qO]
  | k + 1 => by have h1 := qO_len f v k; have h2 := qX_len (f + k) v v; unfold qO; rw [List.length_append, Nat.add_mul, Nat.one_mul]; omega
def quests (v f t : Nat) : List Z3 := qO f v (t + 1 - f)
theorem quests_ask {v f t : Nat} (h : 4 ≤ f) (ht : t ≤ 7) : AskZ v (quests v f t) := fun z hz => by
  obtain ⟨o, x, y, h1, h2, h3, h4, rfl⟩ := qO_mem _ hz
  refine ⟨⟨?_, ?_, fun _ _ => ?_⟩, ?_, ?_⟩ <;> simp only <;> omega
theorem sq_le {v : Nat} (h : v ≤ 12) : v * v ≤ 144 := Nat.mul_le_mul h h
theorem quests_len {v f t : Nat} (hv : v ≤ 12) (h : 4 ≤ f) (ht : t ≤ 7) : (quests v f t).length ≤ 576 := by
  have h1 := qO_len f v (t + 1 - f)
  have h2 := Nat.mul_le_mul (show t + 1 - f ≤ 4 by omega) (sq_le hv)
  unfold quests; omega
theorem quests_all {v f t : Nat} {z : Z3} (hz : z ∈ quests v f t) (hf : f ≤ t + 1) : (f : Int) ≤ z.1 ∧ z.1 ≤ t := by
  obtain ⟨o, x, y, h1, h2, h3, h4, rfl⟩ := qO_mem _ hz
  simp only; omega

/-! ## answers -/
def outz (l : List Z3) : List Bool := outs (sts l)
theorem outz_len (l : List Z3) : (outz l).length = l.length := by unfold outz; rw [outs_len, sts_len]
def Sz (l : List Z3) : VS := MSt (sts l)
theorem Sz_ok (l : List Z3) : VOK (Sz l) := St_ok _
def qz (V : VS) (z : Z3) : Bool := qa V (stz z)
theorem outs_asks (a q : List Stp) (h : ∀ s ∈ q, Ask s) : outs (a ++ q) = outs a ++ q.map (qa (MSt a)) := by
  show (mrun m00 (a ++ q)).2 = _
  rw [mrun_app, mrun_ask _ h]; rfl
theorem St_asks (a q : List Stp) (h : ∀ s ∈ q, Ask s) : MSt (a ++ q) = MSt a := by
  unfold MSt; rw [mrun_app, mrun_ask _ h]
theorem outz_ask {v : Int} (a : List Z3) {q : List Z3} (h : AskZ v q) : outz (a ++ q) = outz a ++ q.map (qz (Sz a)) := by
  unfold outz; rw [sts_app, outs_asks _ _ h.sts]
  congr 1
  unfold sts; rw [List.map_map]; rfl
theorem Sz_ask {v : Int} (a : List Z3) {q : List Z3} (h : AskZ v q) : Sz (a ++ q) = Sz a := by
  unfold Sz; rw [sts_app, St_asks _ _ h.sts]
theorem outz_set (a : List Z3) {z : Z3} (h : (stz z).op ≤ 3) : outz (a ++ [z]) = outz a ++ [qz (Sz a) z] := by
  unfold outz; rw [sts_app]; exact outs_snoc' _ (by show (stz z).op ≠ 8; omega) (by show (stz z).op ≠ 9; omega)
theorem Sz_set (a : List Z3) {z : Z3} (h : (stz z).op ≤ 3) : Sz (a ++ [z]) = ((Sz a).ans (stz z).op (stz z).x (stz z).y).1 := by
  unfold Sz; rw [sts_app]; exact St_snoc _ (by show (stz z).op ≠ 8; omega) (by show (stz z).op ≠ 9; omega)
end Go.Proofs.Ytapnmgkpljlgmaa
namespace Go.Proofs.Ytapnmgkpljlgmaa
open Go.RowKit

/-- A step as the package has it. -/
def kz (z : Z3) : Z3 := (if z.1 = 8 ∨ z.1 = 9 then z.1 - 4 else if 4 ≤ z.1 ∧ z.1 ≤ 7 then z.1 + 2 else z.1, IntKind.i64.wrap (z.2.1 + 1), IntKind.i64.wrap (z.2.2 + 1))
theorem RSt.more {bot : List PS} {w : World} {q t u : Nat} {m : MS} {O : Nat → Prop} (h : RSt bot w q t m O) (k : t ≤ u) : RSt bot w q u m O := by
  obtain ⟨S, stk, h1, h2, h3, h4⟩ := h
  exact ⟨S, stk, h1, h2.more k, h3.more k, h4⟩
theorem sets_snoc {l : List Z3} {k : Nat} {z : Z3} (h : l[k]? = some z) : sets (l.take (k + 1)) = sets (l.take k) + sets [z] := by rw [take_snoc h, sets_app]
theorem sets_one (z : Z3) : sets [z] = if z.1 < 4 ∨ 7 < z.1 then 1 else 0 := by
  unfold sets
  by_cases h : z.1 < 4 ∨ 7 < z.1 <;> simp [h]
theorem mrun_take {l : List Z3} {k : Nat} {z : Z3} (h : l[k]? = some z) : mrun m00 (sts (l.take (k + 1))) = ((mstep (mrun m00 (sts (l.take k))).1 (stz z)).1, (mrun m00 (sts (l.take k))).2 ++ [(mstep (mrun m00 (sts (l.take k))).1 (stz z)).2]) := by
  rw [take_snoc h, sts_app]; exact mrun_snoc _ _ _
structure RunL (bot : List PS) (w wr : World) (q : Nat) (l : List Z3) (k : Nat) (v : Value) (O : Nat → Prop) : Prop where
  own : wr.ownsRow 0 4 1 v k (bls (outz (l.take k)))
  new : ∀ g, v.ownBlock = some g → w.heap.size ≤ g ∧ ¬ O g
  fr : Fr w wr Nix
  st : RSt bot wr q (sets (l.take k)) (mrun m00 (sts (l.take k))).1 O
  on : ∀ g, O g → w.heap.size ≤ g
structure RunM (bot : List PS) (w wr : World) (q : Nat) (l : List Z3) (k : Nat) (v : Value) (b : Bool) (O : Nat → Prop) : Prop where
  own : wr.ownsRow 0 4 1 v k (bls (outz (l.take k)))
  new : ∀ g, v.ownBlock = some g → w.heap.size ≤ g ∧ ¬ O g
  fr : Fr w wr Nix
  st : RSt bot wr q (sets (l.take (k + 1))) (mrun m00 (sts (l.take (k + 1)))).1 O
  on : ∀ g, O g → w.heap.size ≤ g
  out : outz (l.take (k + 1)) = outz (l.take k) ++ [b]
theorem RunL.step {bot : List PS} {w wr wa w2 : World} {q k t' : Nat} {l : List Z3} {v : Value} {O O' : Nat → Prop} {z : Z3} {m' : MS} {b : Bool} (h : RunL bot w wr q l k v O) (hz : l[k]? = some z) (ha : Fr wr wa Nix)
    (hs : mstep (mrun m00 (sts (l.take k))).1 (stz z) = (m', b)) (ht : t' ≤ sets (l.take (k + 1))) (hR : RSt bot w2 q t' m' O') (hM : Mov wa w2 O O') : RunM bot w w2 q l k v b O' := by
  have hv : ∀ g, v.ownBlock = some g → ¬ O g := fun g hg => (h.new g hg).2
  have own1 : wa.ownsRow 0 4 1 v k (bls (outz (l.take k))) := ha.row h.own fun _ _ e => e
  refine ⟨hM.fr.row own1 hv, fun g hg => ⟨(h.new g hg).1, fun ho => ?_⟩, (h.fr.t ha).trans hM.fr fun i hi => .inr (h.on i hi), ?_, fun g hg => ?_, ?_⟩
  · rcases hM.own g ho with e | e
    · exact hv g hg e
    · have : g < wa.heap.size := by
        rcases own1.2 with ⟨e1, _⟩ | ⟨g', c, cur, e1, _, e2, _⟩
        · rw [e1] at hg; cases hg
        · rw [e1] at hg; cases hg; exact heap_lt e2
      omega
  · rw [mrun_take hz, hs]; exact hR.more ht
  · rcases hM.own g hg with e | e
    · exact h.on g e
    · have := h.fr.size; have := ha.size; omega
  · show (mrun m00 (sts (l.take (k + 1)))).2 = _
    rw [mrun_take hz, hs]; rfl
theorem RunM.app {bot : List PS} {w wr wa w3 : World} {q k g cap : Nat} {l : List Z3} {v : Value} {b : Bool} {O : Nat → Prop} (h : RunM bot w wr q l k v b O) (ha : Fr wr wa Nix)
    (hown : w3.ownsRow 0 4 1 (.slice (some ⟨g, 0, none⟩) (k + 1) cap) (k + 1) (bls (outz (l.take k)) ++ [.bool b])) (hg : wa.grownBy w3 v.ownBlock) (hn : v.ownBlock = some g ∨ wa.heap.size ≤ g) :
    RunL bot w w3 q l (k + 1) (.slice (some ⟨g, 0, none⟩) (k + 1) cap) O := by
  have f3 : Fr wa w3 (fun k => v.ownBlock = some k) := Fr.grown hg fun k hk => hk
  refine ⟨?_, fun i hi => ?_, (h.fr.t ha).trans f3 fun i hi => .inr (h.new i hi).1, (h.st.nix ha).kept f3 fun i hi e => (h.new i e).2 hi, h.on⟩
  · rw [h.out, bls_app]; exact hown
  · simp only [Value.ownBlock, Option.some.injEq] at hi
    subst hi
    rcases hn with hn | hn
    · exact h.new _ hn
    · have := h.fr.size; have := ha.size
      exact ⟨by omega, fun ho => by have := (h.st.nix ha).lt ho; omega⟩
def RunLoop (w : World) (q : Nat) (l : List Z3) (n m : Nat) (v u : Value) (wr : World) : Prop :=
  ∃ (k : Nat) (O : Nat → Prop), m + k = n ∧ u = .int .i64 (k : Nat) ∧ RunL [] w wr q l k v O
/-- What a step of a script is. -/
theorem step_kind {z : Z3} (h : WfZ 12 z) : (∃ (o : Nat) (x y : Nat), o ≤ 7 ∧ x ≠ y ∧ x < 12 ∧ y < 12 ∧ z = ((o : Int), (x : Int), (y : Int))) ∨ (∃ x y : Int, z = (8, x, y)) ∨ ∃ x y : Int, z = (9, x, y) := by
  obtain ⟨o, x, y⟩ := z
  by_cases q8 : o = 8
  · subst q8; exact .inr (.inl ⟨x, y, rfl⟩)
  · by_cases q9 : o = 9
    · subst q9; exact .inr (.inr ⟨x, y, rfl⟩)
    · have h1 := h.lo; have h2 := h.hi
      have := h.ok q8 q9
      simp only at h1 h2 this
      refine .inl ⟨o.toNat, x.toNat, y.toNat, by omega, by omega, by omega, by omega, ?_⟩
      rw [Int.toNat_of_nonneg h1, Int.toNat_of_nonneg this.1, Int.toNat_of_nonneg this.2.1]
theorem wrap_one {x : Nat} (h : x < 12) : IntKind.i64.wrap ((x : Int) + 1) = (x : Int) + 1 := by rw [IntKind.wrap_i64]; omega
theorem mstep_op (m : MS) {o x y : Nat} (h : o ≤ 7) : mstep m ⟨o, x, y⟩ = (((m.1.ans o x y).1, m.2), (m.1.ans o x y).2) := by
  unfold mstep; rw [if_neg (by simp only; omega), if_neg (by simp only; omega)]
theorem deep_at {l : List Z3} (h : Deep 0 (sts l)) {k : Nat} {z : Z3} (hz : l[k]? = some z) (h9 : (stz z).op = 9) : (mrun m00 (sts (l.take k))).1.2 ≠ [] := by
  have key : ∀ (a : List Stp) (m : MS) (s : Stp) (b : List Stp), Deep m.2.length (a ++ s :: b) → s.op = 9 → (mrun m a).1.2 ≠ [] := by
    intro a
    induction a with
    | nil =>
      intro m s b h h9 e
      have h : Deep m.2.length (s :: b) := h
      unfold Deep at h
      rw [if_neg (by omega), if_pos h9] at h
      have e : m.2 = [] := e
      rw [e] at h; exact absurd h.1 (by decide)
    | cons t a ih =>
      intro m s b h h9
      have h : Deep m.2.length (t :: (a ++ s :: b)) := h
      unfold Deep at h
      show (mrun (mstep m t).1 a).1.2 ≠ []
      refine ih _ s b ?_ h9
      unfold mstep
      split at h
      · rename_i q; rw [if_pos q]; exact h
      · rename_i q
        rw [if_neg q]
        split at h
        · rename_i q2; rw [if_pos q2]; simp only [List.length_tail]; exact h.2
        · rename_i q2; rw [if_neg q2]; exact h
  have e : sts l = sts (l.take k) ++ stz z :: sts (l.drop (k + 1)) := by
    have h1 : l = l.take k ++ l.drop k := (List.take_append_drop k l).symm
    rw [drop_at hz] at h1
    have := congrArg sts h1
    rw [sts_app] at this
    exact this
  exact key _ m00 (stz z) _ (by rw [← e]; exact h) h9
set_option maxRecDepth 10000 in
set_option maxHeartbeats 16000000 in
theorem pRun_c {A : Option Addr} {n c : Nat} {l : List Z3} {w : World} (h : Rd w 3 A n (z3s (l.map kz))) (ok : RunOK l) :
    Calls Try.prog 83 #[.slice A n c] w fun e w' => ∃ v, e = .returned v ∧ Fr w w' Nix ∧ (∀ g, v.ownBlock = some g → w.heap.size ≤ g) ∧ w'.ownsRow 0 4 1 v n (bls (outz l)) := by
  have hlen : l.length = n := by have := h.1; rw [z3s_len, List.length_map] at this; omega
  have H := Lib.hid (And.intro h (And.intro ok hlen))
  have hm : (n : Int) ≤ 4000 := by have := ok.len; omega
  clear h ok hlen
  go_enter Try.func83, Try.ntmps83
  go_wp2_with fail
  refine (NewPoset_c w).mono ?_
  rintro e w1 ⟨q, p, L, rfl, k1, k2, k3, k4, k5, k6⟩
  have HP := Lib.hid (And.intro (show At w1 q PS.init (fun g => L.own g ∨ g = q) from ⟨p, L, k1, k2, k6, fun _ => Iff.rfl⟩) (And.intro k3 (show ∀ g, (L.own g ∨ g = q) → w.heap.size ≤ g from fun g hg => hg.elim (k4 g) (fun e => e ▸ k5))))
  clear k1 k2 k3 k4 k5 k6
  go_wp2_with fail
  go_loopg [4, 11] n (fun m v u wr => RunLoop w q l n m v u wr)
  case atStart =>
    refine ⟨0, fun g => L.own g ∨ g = q, rfl, rfl, ⟨⟨rfl, .inl ⟨rfl, rfl⟩⟩, fun g hg => (by cases hg), HP.out.2.1, ⟨PS.init, [], HP.out.1, init_li, .nil _, by rw [init_abs]; rfl⟩, HP.out.2.2⟩⟩
  case round =>
    obtain ⟨k, O, hmk, rfl, hL⟩ := hrel
    have HL := Lib.hid hL
    have HMK := Lib.hid hmk
    clear hL hmk
    by_cases hlt : k < n
    · obtain ⟨z, hz⟩ : ∃ z, l[k]? = some z := ⟨_, List.getElem?_eq_getElem (by have := H.out.2.2; omega)⟩
      obtain ⟨ad, po, px, py, rfl, hzz, hc⟩ := rd3 (H.out.1.nix HL.out.fr) hlt
      have wz := H.out.2.1.wf z (List.mem_of_getElem? hz)
      rw [List.getElem?_map, hz] at hzz
      simp only [Option.map_some, Option.some.injEq] at hzz
      have hcnt : sets (l.take k) + sets [z] ≤ 260 := by
        have := sets_take l (k + 1)
        rw [sets_snoc hz] at this
        have := H.out.2.1.cnt
        omega
      have HS := Lib.hid (sets_snoc hz)
      have HN := Lib.hid (show (k + 1) * 1 ≤ 140737488355328 ∧ k + 1 ≤ 1000000000000 by omega)
      rcases step_kind wz with ⟨o, x, y, ho, hxy, hx, hy, rfl⟩ | ⟨x, y, rfl⟩ | ⟨x, y, rfl⟩
      · have hzz2 : (((if (o : Int) = 8 ∨ (o : Int) = 9 then (o : Int) - 4 else if 4 ≤ (o : Int) ∧ (o : Int) ≤ 7 then (o : Int) + 2 else (o : Int)), (x : Int) + 1, (y : Int) + 1) : Z3) = (po, px, py) := by
          rw [← hzz]; unfold kz; rw [wrap_one hx, wrap_one hy]
        simp only [Prod.mk.injEq] at hzz2
        obtain ⟨e1, rfl, rfl⟩ := hzz2
        have hxi : (x : Int) ≤ 12 := by omega
        have hyi : (y : Int) ≤ 12 := by omega
        have hcase : o = 0 ∨ o = 1 ∨ o = 2 ∨ o = 3 ∨ o = 4 ∨ o = 5 ∨ o = 6 ∨ o = 7 := by omega
        have HX := Lib.hid (And.intro hxy (And.intro hx hy))
        have HZ := Lib.hid hz
        have HC := Lib.hid hc
        have HE := Lib.hid e1
        have HT := Lib.hid hcnt
        clear hz hzz hc e1 hcnt ho hxy hx hy wz
        rcases hcase with rfl | rfl | rfl | rfl | rfl | rfl | rfl | rfl
        · as_aux_lemma =>
          obtain rfl : (0 : Int) = po := by have := HE.out; simpa using this
          have HA2 := Lib.hid (HL.out.st.nix (Fr.al wr (Obj.cells #[.int .i64 0, .int .i64 ((x : Int) + 1), .int .i64 ((y : Int) + 1)] 101)))
          go_wp2_with (first
            | (with_reducible refine wpList_ld (o := ⟨some 14, _, _, _, _, _⟩) rfl 101 (.tmp 13) rfl _ rfl #[.int .i64 0, .int .i64 ((x : Int) + 1), .int .i64 ((y : Int) + 1)] _ HC.out Try.underlying101 rfl (by kernel_rfl) ?_)
            | fail)
          have HE0 := Lib.hid (show sets [(((0 : Nat) : Int), (x : Int), (y : Int))] = 1 by rw [sets_one]; rfl)
          have HT1 := Lib.hid (show sets (l.take k) + 1 ≤ 260 by have := HT.out; have := HE0.out; omega)
          have HTT := Lib.hid (show sets (l.take k) + 1 ≤ sets (l.take (k + 1)) by rw [HS.out]; have := HE0.out; omega)
          refine (rsSetOrder HA2.out (by have := HT1.out; omega) HX.out.1 HX.out.2.1 HX.out.2.2).mono ?_
          rintro e w2 ⟨O', rfl, j2, j3⟩
          have HM := Lib.hid (HL.out.step (b := ((mrun m00 (sts (l.take k))).1.1.ans 0 x y).2) HZ.out (Fr.al _ _) (mstep_op _ (by omega)) HTT.out j2 j3)
          obtain ⟨b, hb⟩ : ∃ b, ((mrun m00 (sts (l.take k))).1.1.ans 0 x y).2 = b := ⟨_, rfl⟩
          rw [hb] at HM ⊢
          have hown := HM.out.own
          clear j2 j3 hb
          go_wp2_with (at_builtin; refine wpList_app _ rfl _ _ 28 rfl 4 _ 1 1 Try.underlying28 (by kernel_rfl : _ = some (some (.bool false), 1, 1)) rfl (by decide) _ _ _ rfl (hown.alloc _) ⟨w2.heap.size, 0, none⟩ 1 1 [.bool b] rfl rfl (by decide) (cells_at _ _ rfl _ _) (by simp [Value.oneCell']) HN.out.1 HN.out.2 ?_)
          intro g cap w3 hown1 hgrow1 hnew1
          have hG := Lib.hid (HM.out.app (Fr.al _ _) hown1 hgrow1 (by simpa using hnew1))
          clear hown1 hgrow1 hnew1 hown
          go_wp2
          go_roundg (n - (k + 1))
          case measure => have := HMK.out; omega
          case rel => exact ⟨k + 1, O', by have := HMK.out; omega, by rw [Int.natCast_add]; rfl, hG.out⟩
        · as_aux_lemma =>
          obtain rfl : (1 : Int) = po := by have := HE.out; simpa using this
          have HA2 := Lib.hid (HL.out.st.nix (Fr.al wr (Obj.cells #[.int .i64 1, .int .i64 ((x : Int) + 1), .int .i64 ((y : Int) + 1)] 101)))
          go_wp2_with (first
            | (with_reducible refine wpList_ld (o := ⟨some 14, _, _, _, _, _⟩) rfl 101 (.tmp 13) rfl _ rfl #[.int .i64 1, .int .i64 ((x : Int) + 1), .int .i64 ((y : Int) + 1)] _ HC.out Try.underlying101 rfl (by kernel_rfl) ?_)
            | fail)
          have HE0 := Lib.hid (show sets [(((1 : Nat) : Int), (x : Int), (y : Int))] = 1 by rw [sets_one]; rfl)
          have HT1 := Lib.hid (show sets (l.take k) + 1 ≤ 260 by have := HT.out; have := HE0.out; omega)
          have HTT := Lib.hid (show sets (l.take k) + 1 ≤ sets (l.take (k + 1)) by rw [HS.out]; have := HE0.out; omega)
          refine (rsSetOrderOrEqual HA2.out (by have := HT1.out; omega) HX.out.1 HX.out.2.1 HX.out.2.2).mono ?_
          rintro e w2 ⟨O', rfl, j2, j3⟩
          have HM := Lib.hid (HL.out.step (b := ((mrun m00 (sts (l.take k))).1.1.ans 1 x y).2) HZ.out (Fr.al _ _) (mstep_op _ (by omega)) HTT.out j2 j3)
          obtain ⟨b, hb⟩ : ∃ b, ((mrun m00 (sts (l.take k))).1.1.ans 1 x y).2 = b := ⟨_, rfl⟩
          rw [hb] at HM ⊢
          have hown := HM.out.own
          clear j2 j3 hb
          go_wp2_with (at_builtin; refine wpList_app _ rfl _ _ 28 rfl 4 _ 1 1 Try.underlying28 (by kernel_rfl : _ = some (some (.bool false), 1, 1)) rfl (by decide) _ _ _ rfl (hown.alloc _) ⟨w2.heap.size, 0, none⟩ 1 1 [.bool b] rfl rfl (by decide) (cells_at _ _ rfl _ _) (by simp [Value.oneCell']) HN.out.1 HN.out.2 ?_)
          intro g cap w3 hown1 hgrow1 hnew1
          have hG := Lib.hid (HM.out.app (Fr.al _ _) hown1 hgrow1 (by simpa using hnew1))
          clear hown1 hgrow1 hnew1 hown
          go_wp2
          go_roundg (n - (k + 1))
          case measure => have := HMK.out; omega
          case rel => exact ⟨k + 1, O', by have := HMK.out; omega, by rw [Int.natCast_add]; rfl, hG.out⟩
        · as_aux_lemma =>
          obtain rfl : (2 : Int) = po := by have := HE.out; simpa using this
          have HA2 := Lib.hid (HL.out.st.nix (Fr.al wr (Obj.cells #[.int .i64 2, .int .i64 ((x : Int) + 1), .int .i64 ((y : Int) + 1)] 101)))
          go_wp2_with (first
            | (with_reducible refine wpList_ld (o := ⟨some 14, _, _, _, _, _⟩) rfl 101 (.tmp 13) rfl _ rfl #[.int .i64 2, .int .i64 ((x : Int) + 1), .int .i64 ((y : Int) + 1)] _ HC.out Try.underlying101 rfl (by kernel_rfl) ?_)
            | fail)
          have HE0 := Lib.hid (show sets [(((2 : Nat) : Int), (x : Int), (y : Int))] = 1 by rw [sets_one]; rfl)
          have HT1 := Lib.hid (show sets (l.take k) + 1 ≤ 260 by have := HT.out; have := HE0.out; omega)
          have HTT := Lib.hid (show sets (l.take k) + 1 ≤ sets (l.take (k + 1)) by rw [HS.out]; have := HE0.out; omega)
          refine (rsSetEqual HA2.out (by have := HT1.out; omega) HX.out.1 HX.out.2.1 HX.out.2.2).mono ?_
          rintro e w2 ⟨O', rfl, j2, j3⟩
          have HM := Lib.hid (HL.out.step (b := ((mrun m00 (sts (l.take k))).1.1.ans 2 x y).2) HZ.out (Fr.al _ _) (mstep_op _ (by omega)) HTT.out j2 j3)
          obtain ⟨b, hb⟩ : ∃ b, ((mrun m00 (sts (l.take k))).1.1.ans 2 x y).2 = b := ⟨_, rfl⟩
          rw [hb] at HM ⊢
          have hown := HM.out.own
          clear j2 j3 hb
          go_wp2_with (at_builtin; refine wpList_app _ rfl _ _ 28 rfl 4 _ 1 1 Try.underlying28 (by kernel_rfl : _ = some (some (.bool false), 1, 1)) rfl (by decide) _ _ _ rfl (hown.alloc _) ⟨w2.heap.size, 0, none⟩ 1 1 [.bool b] rfl rfl (by decide) (cells_at _ _ rfl _ _) (by simp [Value.oneCell']) HN.out.1 HN.out.2 ?_)
          intro g cap w3 hown1 hgrow1 hnew1
          have hG := Lib.hid (HM.out.app (Fr.al _ _) hown1 hgrow1 (by simpa using hnew1))
          clear hown1 hgrow1 hnew1 hown
          go_wp2
          go_roundg (n - (k + 1))
          case measure => have := HMK.out; omega
          case rel => exact ⟨k + 1, O', by have := HMK.out; omega, by rw [Int.natCast_add]; rfl, hG.out⟩
        · as_aux_lemma =>
          obtain rfl : (3 : Int) = po := by have := HE.out; simpa using this
          have HA2 := Lib.hid (HL.out.st.nix (Fr.al wr (Obj.cells #[.int .i64 3, .int .i64 ((x : Int) + 1), .int .i64 ((y : Int) + 1)] 101)))
          go_wp2_with (first
            | (with_reducible refine wpList_ld (o := ⟨some 14, _, _, _, _, _⟩) rfl 101 (.tmp 13) rfl _ rfl #[.int .i64 3, .int .i64 ((x : Int) + 1), .int .i64 ((y : Int) + 1)] _ HC.out Try.underlying101 rfl (by kernel_rfl) ?_)
            | fail)
          have HE0 := Lib.hid (show sets [(((3 : Nat) : Int), (x : Int), (y : Int))] = 1 by rw [sets_one]; rfl)
          have HT1 := Lib.hid (show sets (l.take k) + 1 ≤ 260 by have := HT.out; have := HE0.out; omega)
          have HTT := Lib.hid (show sets (l.take k) + 1 ≤ sets (l.take (k + 1)) by rw [HS.out]; have := HE0.out; omega)
          refine (rsSetNonEqual HA2.out (by have := HT1.out; omega) HX.out.1 HX.out.2.1 HX.out.2.2).mono ?_
          rintro e w2 ⟨O', rfl, j2, j3⟩
          have HM := Lib.hid (HL.out.step (b := ((mrun m00 (sts (l.take k))).1.1.ans 3 x y).2) HZ.out (Fr.al _ _) (mstep_op _ (by omega)) HTT.out j2 j3)
          obtain ⟨b, hb⟩ : ∃ b, ((mrun m00 (sts (l.take k))).1.1.ans 3 x y).2 = b := ⟨_, rfl⟩
          rw [hb] at HM ⊢
          have hown := HM.out.own
          clear j2 j3 hb
          go_wp2_with (at_builtin; refine wpList_app _ rfl _ _ 28 rfl 4 _ 1 1 Try.underlying28 (by kernel_rfl : _ = some (some (.bool false), 1, 1)) rfl (by decide) _ _ _ rfl (hown.alloc _) ⟨w2.heap.size, 0, none⟩ 1 1 [.bool b] rfl rfl (by decide) (cells_at _ _ rfl _ _) (by simp [Value.oneCell']) HN.out.1 HN.out.2 ?_)
          intro g cap w3 hown1 hgrow1 hnew1
          have hG := Lib.hid (HM.out.app (Fr.al _ _) hown1 hgrow1 (by simpa using hnew1))
          clear hown1 hgrow1 hnew1 hown
          go_wp2
          go_roundg (n - (k + 1))
          case measure => have := HMK.out; omega
          case rel => exact ⟨k + 1, O', by have := HMK.out; omega, by rw [Int.natCast_add]; rfl, hG.out⟩
        · as_aux_lemma =>
          obtain rfl : (6 : Int) = po := by have := HE.out; simpa using this
          have HA2 := Lib.hid (HL.out.st.nix (Fr.al wr (Obj.cells #[.int .i64 6, .int .i64 ((x : Int) + 1), .int .i64 ((y : Int) + 1)] 101)))
          go_wp2_with (first
            | (with_reducible refine wpList_ld (o := ⟨some 14, _, _, _, _, _⟩) rfl 101 (.tmp 13) rfl _ rfl #[.int .i64 6, .int .i64 ((x : Int) + 1), .int .i64 ((y : Int) + 1)] _ HC.out Try.underlying101 rfl (by kernel_rfl) ?_)
            | fail)
          have HE0 := Lib.hid (show sets [(((4 : Nat) : Int), (x : Int), (y : Int))] = 0 by rw [sets_one]; rfl)
          have HT1 := Lib.hid (show sets (l.take k) ≤ 260 by have := HT.out; have := HE0.out; omega)
          have HTT := Lib.hid (show sets (l.take k) ≤ sets (l.take (k + 1)) by rw [HS.out]; have := HE0.out; omega)
          refine (rsOrdered HA2.out HX.out.1 HX.out.2.1 HX.out.2.2).mono ?_
          rintro e w2 ⟨O', rfl, j2, j3⟩
          have HM := Lib.hid (HL.out.step (b := ((mrun m00 (sts (l.take k))).1.1.ans 4 x y).2) HZ.out (Fr.al _ _) (mstep_op _ (by omega)) HTT.out j2 j3)
          obtain ⟨b, hb⟩ : ∃ b, ((mrun m00 (sts (l.take k))).1.1.ans 4 x y).2 = b := ⟨_, rfl⟩
          rw [hb] at HM ⊢
          have hown := HM.out.own
          clear j2 j3 hb
          go_wp2_with (at_builtin; refine wpList_app _ rfl _ _ 28 rfl 4 _ 1 1 Try.underlying28 (by kernel_rfl : _ = some (some (.bool false), 1, 1)) rfl (by decide) _ _ _ rfl (hown.alloc _) ⟨w2.heap.size, 0, none⟩ 1 1 [.bool b] rfl rfl (by decide) (cells_at _ _ rfl _ _) (by simp [Value.oneCell']) HN.out.1 HN.out.2 ?_)
          intro g cap w3 hown1 hgrow1 hnew1
          have hG := Lib.hid (HM.out.app (Fr.al _ _) hown1 hgrow1 (by simpa using hnew1))
          clear hown1 hgrow1 hnew1 hown
          go_wp2
          go_roundg (n - (k + 1))
          case measure => have := HMK.out; omega
          case rel => exact ⟨k + 1, O', by have := HMK.out; omega, by rw [Int.natCast_add]; rfl, hG.out⟩
        · as_aux_lemma =>
          obtain rfl : (7 : Int) = po := by have := HE.out; simpa using this
          have HA2 := Lib.hid (HL.out.st.nix (Fr.al wr (Obj.cells #[.int .i64 7, .int .i64 ((x : Int) + 1), .int .i64 ((y : Int) + 1)] 101)))
          go_wp2_with (first
            | (with_reducible refine wpList_ld (o := ⟨some 14, _, _, _, _, _⟩) rfl 101 (.tmp 13) rfl _ rfl #[.int .i64 7, .int .i64 ((x : Int) + 1), .int .i64 ((y : Int) + 1)] _ HC.out Try.underlying101 rfl (by kernel_rfl) ?_)
            | fail)
          have HE0 := Lib.hid (show sets [(((5 : Nat) : Int), (x : Int), (y : Int))] = 0 by rw [sets_one]; rfl)
          have HT1 := Lib.hid (show sets (l.take k) ≤ 260 by have := HT.out; have := HE0.out; omega)
          have HTT := Lib.hid (show sets (l.take k) ≤ sets (l.take (k + 1)) by rw [HS.out]; have := HE0.out; omega)
          refine (rsOrderedOrEqual HA2.out HX.out.1 HX.out.2.1 HX.out.2.2).mono ?_
          rintro e w2 ⟨O', rfl, j2, j3⟩
          have HM := Lib.hid (HL.out.step (b := ((mrun m00 (sts (l.take k))).1.1.ans 5 x y).2) HZ.out (Fr.al _ _) (mstep_op _ (by omega)) HTT.out j2 j3)
          obtain ⟨b, hb⟩ : ∃ b, ((mrun m00 (sts (l.take k))).1.1.ans 5 x y).2 = b := ⟨_, rfl⟩
          rw [hb] at HM ⊢
          have hown := HM.out.own
          clear j2 j3 hb
          go_wp2_with (at_builtin; refine wpList_app _ rfl _ _ 28 rfl 4 _ 1 1 Try.underlying28 (by kernel_rfl : _ = some (some (.bool false), 1, 1)) rfl (by decide) _ _ _ rfl (hown.alloc _) ⟨w2.heap.size, 0, none⟩ 1 1 [.bool b] rfl rfl (by decide) (cells_at _ _ rfl _ _) (by simp [Value.oneCell']) HN.out.1 HN.out.2 ?_)
          intro g cap w3 hown1 hgrow1 hnew1
          have hG := Lib.hid (HM.out.app (Fr.al _ _) hown1 hgrow1 (by simpa using hnew1))
          clear hown1 hgrow1 hnew1 hown
          go_wp2
          go_roundg (n - (k + 1))
          case measure => have := HMK.out; omega
          case rel => exact ⟨k + 1, O', by have := HMK.out; omega, by rw [Int.natCast_add]; rfl, hG.out⟩
        · as_aux_lemma =>
          obtain rfl : (8 : Int) = po := by have := HE.out; simpa using this
          have HA2 := Lib.hid (HL.out.st.nix (Fr.al wr (Obj.cells #[.int .i64 8, .int .i64 ((x : Int) + 1), .int .i64 ((y : Int) + 1)] 101)))
          go_wp2_with (first
            | (with_reducible refine wpList_ld (o := ⟨some 14, _, _, _, _, _⟩) rfl 101 (.tmp 13) rfl _ rfl #[.int .i64 8, .int .i64 ((x : Int) + 1), .int .i64 ((y : Int) + 1)] _ HC.out Try.underlying101 rfl (by kernel_rfl) ?_)
            | fail)
          have HE0 := Lib.hid (show sets [(((6 : Nat) : Int), (x : Int), (y : Int))] = 0 by rw [sets_one]; rfl)
          have HT1 := Lib.hid (show sets (l.take k) ≤ 260 by have := HT.out; have := HE0.out; omega)
          have HTT := Lib.hid (show sets (l.take k) ≤ sets (l.take (k + 1)) by rw [HS.out]; have := HE0.out; omega)
          refine (rsEqual HA2.out HX.out.1 HX.out.2.1 HX.out.2.2).mono ?_
          rintro e w2 ⟨O', rfl, j2, j3⟩
          have HM := Lib.hid (HL.out.step (b := ((mrun m00 (sts (l.take k))).1.1.ans 6 x y).2) HZ.out (Fr.al _ _) (mstep_op _ (by omega)) HTT.out j2 j3)
          obtain ⟨b, hb⟩ : ∃ b, ((mrun m00 (sts (l.take k))).1.1.ans 6 x y).2 = b := ⟨_, rfl⟩
          rw [hb] at HM ⊢
          have hown := HM.out.own
          clear j2 j3 hb
          go_wp2_with (at_builtin; refine wpList_app _ rfl _ _ 28 rfl 4 _ 1 1 Try.underlying28 (by kernel_rfl : _ = some (some (.bool false), 1, 1)) rfl (by decide) _ _ _ rfl (hown.alloc _) ⟨w2.heap.size, 0, none⟩ 1 1 [.bool b] rfl rfl (by decide) (cells_at _ _ rfl _ _) (by simp [Value.oneCell']) HN.out.1 HN.out.2 ?_)
          intro g cap w3 hown1 hgrow1 hnew1
          have hG := Lib.hid (HM.out.app (Fr.al _ _) hown1 hgrow1 (by simpa using hnew1))
          clear hown1 hgrow1 hnew1 hown
          go_wp2
          go_roundg (n - (k + 1))
          case measure => have := HMK.out; omega
          case rel => exact ⟨k + 1, O', by have := HMK.out; omega, by rw [Int.natCast_add]; rfl, hG.out⟩
        · as_aux_lemma =>
          obtain rfl : (9 : Int) = po := by have := HE.out; simpa using this
          have HA2 := Lib.hid (HL.out.st.nix (Fr.al wr (Obj.cells #[.int .i64 9, .int .i64 ((x : Int) + 1), .int .i64 ((y : Int) + 1)] 101)))
          go_wp2_with (first
            | (with_reducible refine wpList_ld (o := ⟨some 14, _, _, _, _, _⟩) rfl 101 (.tmp 13) rfl _ rfl #[.int .i64 9, .int .i64 ((x : Int) + 1), .int .i64 ((y : Int) + 1)] _ HC.out Try.underlying101 rfl (by kernel_rfl) ?_)
            | fail)
          have HE0 := Lib.hid (show sets [(((7 : Nat) : Int), (x : Int), (y : Int))] = 0 by rw [sets_one]; rfl)
          have HT1 := Lib.hid (show sets (l.take k) ≤ 260 by have := HT.out; have := HE0.out; omega)
          have HTT := Lib.hid (show sets (l.take k) ≤ sets (l.take (k + 1)) by rw [HS.out]; have := HE0.out; omega)
          refine (rsNonEqual HA2.out HX.out.1 HX.out.2.1 HX.out.2.2).mono ?_
          rintro e w2 ⟨O', rfl, j2, j3⟩
          have HM := Lib.hid (HL.out.step (b := ((mrun m00 (sts (l.take k))).1.1.ans 7 x y).2) HZ.out (Fr.al _ _) (mstep_op _ (by omega)) HTT.out j2 j3)
          obtain ⟨b, hb⟩ : ∃ b, ((mrun m00 (sts (l.take k))).1.1.ans 7 x y).2 = b := ⟨_, rfl⟩
          rw [hb] at HM ⊢
          have hown := HM.out.own
          clear j2 j3 hb
          go_wp2_with (at_builtin; refine wpList_app _ rfl _ _ 28 rfl 4 _ 1 1 Try.underlying28 (by kernel_rfl : _ = some (some (.bool false), 1, 1)) rfl (by decide) _ _ _ rfl (hown.alloc _) ⟨w2.heap.size, 0, none⟩ 1 1 [.bool b] rfl rfl (by decide) (cells_at _ _ rfl _ _) (by simp [Value.oneCell']) HN.out.1 HN.out.2 ?_)
          intro g cap w3 hown1 hgrow1 hnew1
          have hG := Lib.hid (HM.out.app (Fr.al _ _) hown1 hgrow1 (by simpa using hnew1))
          clear hown1 hgrow1 hnew1 hown
          go_wp2
          go_roundg (n - (k + 1))
          case measure => have := HMK.out; omega
          case rel => exact ⟨k + 1, O', by have := HMK.out; omega, by rw [Int.natCast_add]; rfl, hG.out⟩
      · as_aux_lemma =>
        have hzz2 : (((4 : Int), IntKind.i64.wrap (x + 1), IntKind.i64.wrap (y + 1)) : Z3) = (po, px, py) := by rw [← hzz]; rfl
        simp only [Prod.mk.injEq] at hzz2
        obtain ⟨rfl, e2, e3⟩ := hzz2
        have HZ := Lib.hid hz
        have HC := Lib.hid hc
        have HT := Lib.hid hcnt
        clear hz hzz hc hcnt wz e2 e3
        have HA2 := Lib.hid (HL.out.st.nix (Fr.al wr (Obj.cells #[.int .i64 4, .int .i64 px, .int .i64 py] 101)))
        go_wp2_with (first
          | (with_reducible refine wpList_ld (o := ⟨some 14, _, _, _, _, _⟩) rfl 101 (.tmp 13) rfl _ rfl #[.int .i64 4, .int .i64 px, .int .i64 py] _ HC.out Try.underlying101 rfl (by kernel_rfl) ?_)
          | fail)
        have HE1 := Lib.hid (show sets [((8 : Int), x, y)] = 1 by rw [sets_one]; rfl)
        have HTT := Lib.hid (show sets (l.take k) + 1 ≤ sets (l.take (k + 1)) by have e := HE1.out; rw [HS.out]; omega)
        refine (rsCheckpoint HA2.out (by have := HT.out; have := HE1.out; omega)).mono ?_
        rintro e w2 ⟨O', rfl, j2, j3⟩
        have HM := Lib.hid (HL.out.step (b := true) HZ.out (Fr.al _ _) rfl HTT.out j2 j3)
        have hown := HM.out.own
        clear j2 j3
        go_wp2_with (at_builtin; refine wpList_app _ rfl _ _ 28 rfl 4 _ 1 1 Try.underlying28 (by kernel_rfl : _ = some (some (.bool false), 1, 1)) rfl (by decide) _ _ _ rfl (hown.alloc _) ⟨w2.heap.size, 0, none⟩ 1 1 [.bool true] rfl rfl (by decide) (cells_at _ _ rfl _ _) (by simp [Value.oneCell']) HN.out.1 HN.out.2 ?_)
        intro g cap w3 hown1 hgrow1 hnew1
        have hG := Lib.hid (HM.out.app (Fr.al _ _) hown1 hgrow1 (by simpa using hnew1))
        clear hown1 hgrow1 hnew1 hown
        go_wp2
        go_roundg (n - (k + 1))
        case measure => have := HMK.out; omega
        case rel => exact ⟨k + 1, O', by have := HMK.out; omega, by rw [Int.natCast_add]; rfl, hG.out⟩
      · as_aux_lemma =>
        have hzz2 : (((5 : Int), IntKind.i64.wrap (x + 1), IntKind.i64.wrap (y + 1)) : Z3) = (po, px, py) := by rw [← hzz]; rfl
        simp only [Prod.mk.injEq] at hzz2
        obtain ⟨rfl, e2, e3⟩ := hzz2
        have HZ := Lib.hid hz
        have HC := Lib.hid hc
        have HT := Lib.hid hcnt
        clear hz hzz hc hcnt wz e2 e3
        have HA2 := Lib.hid (HL.out.st.nix (Fr.al wr (Obj.cells #[.int .i64 5, .int .i64 px, .int .i64 py] 101)))
        go_wp2_with (first
          | (with_reducible refine wpList_ld (o := ⟨some 14, _, _, _, _, _⟩) rfl 101 (.tmp 13) rfl _ rfl #[.int .i64 5, .int .i64 px, .int .i64 py] _ HC.out Try.underlying101 rfl (by kernel_rfl) ?_)
          | fail)
        have HE1 := Lib.hid (show sets [((9 : Int), x, y)] = 1 by rw [sets_one]; rfl)
        have HTT := Lib.hid (show sets (l.take k) ≤ sets (l.take (k + 1)) by have e := HE1.out; rw [HS.out]; omega)
        refine (rsUndo HA2.out (by have := HT.out; have := HE1.out; omega) (deep_at H.out.2.1.deep HZ.out rfl)).mono ?_
        rintro e w2 ⟨O', rfl, j2, j3⟩
        have HM := Lib.hid (HL.out.step (b := true) HZ.out (Fr.al _ _) rfl HTT.out j2 j3)
        have hown := HM.out.own
        clear j2 j3
        go_wp2_with (at_builtin; refine wpList_app _ rfl _ _ 28 rfl 4 _ 1 1 Try.underlying28 (by kernel_rfl : _ = some (some (.bool false), 1, 1)) rfl (by decide) _ _ _ rfl (hown.alloc _) ⟨w2.heap.size, 0, none⟩ 1 1 [.bool true] rfl rfl (by decide) (cells_at _ _ rfl _ _) (by simp [Value.oneCell']) HN.out.1 HN.out.2 ?_)
        intro g cap w3 hown1 hgrow1 hnew1
        have hG := Lib.hid (HM.out.app (Fr.al _ _) hown1 hgrow1 (by simpa using hnew1))
        clear hown1 hgrow1 hnew1 hown
        go_wp2
        go_roundg (n - (k + 1))
        case measure => have := HMK.out; omega
        case rel => exact ⟨k + 1, O', by have := HMK.out; omega, by rw [Int.natCast_add]; rfl, hG.out⟩
    · have hk : k = n := by have := HMK.out; omega
      subst hk
      have e : l.take k = l := List.take_of_length_le (by rw [H.out.2.2]; exact Nat.le_refl _)
      have HE := Lib.hid e
      clear e
      go_wp2
      go_ret
      refine ⟨_, rfl, HL.out.fr, fun g hg => (HL.out.new g hg).1, ?_⟩
      have := HL.out.own
      rwa [HE.out] at this
end Go.Proofs.Ytapnmgkpljlgmaa
