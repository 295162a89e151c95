/- Undo: taking a pass off the chain; taking a node off the row. What Undo does, pass by pass. -/
import Derived.Test.YtapnmgkpljlgmaaG13
set_option linter.unusedVariables false
set_option linter.unusedSimpArgs false
namespace Go.Proofs.Ytapnmgkpljlgmaa
open Go.RowKit

theorem row_shrink {w : World} {e : TypeId} {size n m g cap : Nat} {xs : List Value} (h : w.ownsRow 0 e size (.slice (some ⟨g, 0, none⟩) n cap) n xs) (hm : m ≤ n) :
    w.ownsRow 0 e size (.slice (some ⟨g, 0, none⟩) m cap) m (xs.take (m * size)) := by
  obtain ⟨h1, h2⟩ := h
  have hle : m * size ≤ n * size := Nat.mul_le_mul_right _ hm
  refine ⟨by rw [List.length_take, h1]; omega, ?_⟩
  rcases h2 with ⟨h2, _⟩ | ⟨g', cap', cur, h2, h3, h4, h5, h6, h7, h8⟩
  · simp at h2
  · simp only [Value.slice.injEq, Option.some.injEq] at h2
    obtain ⟨hg, _, hc⟩ := h2
    refine .inr ⟨g', cap', cur, ?_, h3, h4, by omega, h6, h7, ?_⟩
    · rw [hg]; simp [hc]
    · rw [← h8, List.take_take, Nat.min_eq_left hle]

theorem unCells_snoc (l : List Un) (u : Un) : unCells (l ++ [u]) = unCells l ++ unCell u := by simp [unCells]
theorem unCells_len (l : List Un) : (unCells l).length = l.length * 4 := by
  induction l with
  | nil => rfl
  | cons u l ih => simp only [unCells, List.flatMap_cons, List.length_append, List.length_cons] at ih ⊢; rw [ih]; simp [unCell]; omega
theorem nodeCells_len (l : List (Nat × Nat)) : (nodeCells l).length = l.length * 2 := by
  induction l with
  | nil => rfl
  | cons u l ih => simp only [nodeCells, List.flatMap_cons, List.length_append, List.length_cons] at ih ⊢; rw [ih]; simp [nodeCell]; omega
theorem nodeCells_take (l : List (Nat × Nat)) (m : Nat) : (nodeCells l).take (m * 2) = nodeCells (l.take m) := by
  induction l generalizing m with
  | nil => simp [nodeCells]
  | cons u l ih =>
    cases m with
    | zero => simp [nodeCells]
    | succ m =>
      have e : (m + 1) * 2 = m * 2 + 1 + 1 := by omega
      rw [e]
      have := ih m
      simp only [nodeCells, List.flatMap_cons, nodeCell, List.cons_append, List.nil_append, List.take_succ_cons] at this ⊢
      rw [this]

theorem row_le {w : World} {e : TypeId} {size n g cap : Nat} {v : Value} {xs : List Value} (h : w.ownsRow 0 e size v n xs) (hv : v = .slice (some ⟨g, 0, none⟩) n cap) : n ≤ cap ∧ cap ≤ maxLen := by
  subst hv
  rcases h.2 with ⟨h2, _⟩ | ⟨g', cap', cur, h2, h3, h4, h5, h6, h7, h8⟩
  · simp at h2
  · simp only [Value.slice.injEq] at h2
    have := h2.2.2
    omega
/-- The newest pass, on the heap. -/
theorem Rep.un_at {w : World} {p : Nat} {S : PS} {L : Lay} (h : Rep w p S L) {u : Un} {rest : List Un} (hl : S.lg = u :: rest) :
    ∃ g cap, L.uv = .slice (some ⟨g, 0, none⟩) (rest.length + 1) cap ∧ rest.length + 1 ≤ cap ∧ cap ≤ maxLen ∧ w.cell? ⟨p, 6, none⟩ = some (.slice (some ⟨g, 0, none⟩) (rest.length + 1) cap) ∧
      w.cell? ⟨g, rest.length * 4, none⟩ = some (.int .u8 (u.typ : Nat)) ∧ w.cell? ⟨g, rest.length * 4 + 1, none⟩ = some (.int .u32 (u.idx : Nat)) ∧
      w.cell? ⟨g, rest.length * 4 + 2, none⟩ = some (.int .i32 (u.id : Nat)) ∧ w.cell? ⟨g, rest.length * 4 + 3, none⟩ = some (.int .u32 (u.edge : Nat)) := by
  have hlen : S.lg.length = rest.length + 1 := by rw [hl]; rfl
  obtain ⟨g, cap, hv, h1, h2⟩ := row_at h.hu (by omega)
  have hu := h.hu
  rw [hv] at hu
  have hx : unCells S.lg.reverse = unCells rest.reverse ++ unCell u := by rw [hl, List.reverse_cons, unCells_snoc]
  have hln : (unCells rest.reverse).length = rest.length * 4 := by rw [unCells_len, List.length_reverse]
  have at' : ∀ k, k < 4 → (unCells S.lg.reverse)[rest.length * 4 + k]? = (unCell u)[k]? := by
    intro k hk
    rw [hx, List.getElem?_append_right (by omega), hln]
    congr 1; omega
  have c0 := hu.cellAt (rest.length * 4 + 0) (by omega)
  have c1 := hu.cellAt (rest.length * 4 + 1) (by omega)
  have c2 := hu.cellAt (rest.length * 4 + 2) (by omega)
  have c3 := hu.cellAt (rest.length * 4 + 3) (by omega)
  rw [at' 0 (by omega)] at c0
  rw [at' 1 (by omega)] at c1
  rw [at' 2 (by omega)] at c2
  rw [at' 3 (by omega)] at c3
  rw [hlen] at hv h1
  refine ⟨g, cap, hv, h1, h2, ?_, c0, c1, c2, c3⟩
  rw [cell_block h.hp, ← hv]; rfl

/-- The newest pass is taken off. -/
theorem Rep.pop {w : World} {p : Nat} {S : PS} {L : Lay} (h : Rep w p S L) {u : Un} {rest : List Un} (hl : S.lg = u :: rest) {g cap n : Nat} (hv : L.uv = .slice (some ⟨g, 0, none⟩) (n + 1) cap) (hn : rest.length = n) :
    w.frozen? ⟨p, 6, none⟩ = false ∧ Rep (w.setCell ⟨p, 6, none⟩ (.slice (some ⟨g, 0, none⟩) n cap)) p { S with lg := rest } { L with uv := .slice (some ⟨g, 0, none⟩) n cap } ∧
      Ext w (w.setCell ⟨p, 6, none⟩ (.slice (some ⟨g, 0, none⟩) n cap)) L { L with uv := .slice (some ⟨g, 0, none⟩) n cap } := by
  subst hn
  have f := Fr.setCell (F := fun k => k = p) w ⟨p, 6, none⟩ (.slice (some ⟨g, 0, none⟩) rest.length cap) rfl
  obtain ⟨b1, b2, b3, b4, b5, _⟩ := h.but f [110] h.p_only
  have b3 := b3 (by decide)
  rw [hv, show S.lg.length = rest.length + 1 by rw [hl]; rfl] at b3
  have hsh := row_shrink b3 (m := rest.length) (by omega)
  have hx : unCells S.lg.reverse = unCells rest.reverse ++ unCell u := by rw [hl, List.reverse_cons, unCells_snoc]
  rw [hx, List.take_left' (by rw [unCells_len, List.length_reverse])] at hsh
  refine ⟨frozen_block h.hp, ⟨?_, b1 (by decide), b2 (by decide), hsh, b4, b5 (by decide), h.rn, h.rm, h.vq, h.op, h.ov, h.oq, h.on, h.orr, ?_, fun k hk => Nat.lt_of_lt_of_le (h.lt k hk) f.size⟩, f.mono (by rintro k rfl; exact h.op), fun _ => .inl⟩
  · rw [set_block _ h.hp]; simp
  · intro k hk; exact h.ou k (by rw [hv]; exact hk)

/-- The row of nodes is cut. -/
theorem Rep.nodes_cut {w : World} {p : Nat} {S : PS} {L : Lay} (h : Rep w p S L) {g cap m n : Nat} (hv : L.nv = .slice (some ⟨g, 0, none⟩) n cap) (hn : S.nodes.length = n) (hm : m ≤ n) :
    w.frozen? ⟨p, 3, none⟩ = false ∧ Rep (w.setCell ⟨p, 3, none⟩ (.slice (some ⟨g, 0, none⟩) m cap)) p { S with nodes := S.nodes.take m } { L with nv := .slice (some ⟨g, 0, none⟩) m cap } ∧
      Ext w (w.setCell ⟨p, 3, none⟩ (.slice (some ⟨g, 0, none⟩) m cap)) L { L with nv := .slice (some ⟨g, 0, none⟩) m cap } := by
  subst hn
  have f := Fr.setCell (F := fun k => k = p) w ⟨p, 3, none⟩ (.slice (some ⟨g, 0, none⟩) m cap) rfl
  obtain ⟨b1, b2, b3, b4, b5, _⟩ := h.but f [110] h.p_only
  have b1 := b1 (by decide)
  rw [hv] at b1
  have hsh := row_shrink b1 hm
  rw [nodeCells_take] at hsh
  have hlen : (S.nodes.take m).length = m := by rw [List.length_take]; omega
  refine ⟨frozen_block h.hp, ⟨?_, ?_, b2 (by decide), b3 (by decide), b4, b5 (by decide), h.rn, h.rm, h.vq, h.op, h.ov, h.oq, ?_, h.orr, h.ou, fun k hk => Nat.lt_of_lt_of_le (h.lt k hk) f.size⟩, f.mono (by rintro k rfl; exact h.op), fun _ => .inl⟩
  · rw [set_block _ h.hp]; simp
  · show Go.World.ownsRow _ 0 _ 2 _ (S.nodes.take m).length _
    rw [hlen]; exact hsh
  · intro k hk; exact h.on k (by rw [hv]; exact hk)
end Go.Proofs.Ytapnmgkpljlgmaa
namespace Go.Proofs.Ytapnmgkpljlgmaa
open Go.RowKit

/-- What one pass takes back: the state with the pass off, the pass, the state behind it. -/
inductive PUn : PS → Un → PS → Prop
  | chl (S : PS) (i id e : Nat) (h : i < S.nodes.length) : PUn S ⟨2, i, id, e⟩ (S.setl i e)
  | chr (S : PS) (i id e : Nat) (h : i < S.nodes.length) : PUn S ⟨3, i, id, e⟩ (S.setr i e)
  | neq (S : PS) (i a e : Nat) (h : S.nq a i = true) (ha : a < 2147483648) : PUn S ⟨4, i, a, e⟩ { S with nq := clrQ S.nq a i }
  | nodeX (S : PS) (k e : Nat) (h : S.last = k + 1) (hl : S.nodes.length = k + 2) (hb : k < 2147483646) : PUn S ⟨5, k + 1, 0, e⟩ { S with last := k, nodes := S.nodes.take (k + 1) }
  | nodeV (S : PS) (k id e : Nat) (h : S.last = k + 1) (hl : S.nodes.length = k + 2) (hb : k < 2147483646) (hid : id ≠ 0) (hv : S.vl id = k + 1) : PUn S ⟨5, k + 1, id, e⟩ { S with last := k, nodes := S.nodes.take (k + 1), vl := upd S.vl id 0 }
  | alias0 (S : PS) (id e : Nat) (h : S.vl id ≠ 0) : PUn S ⟨6, 0, id, e⟩ { S with vl := upd S.vl id 0 }
  | alias (S : PS) (i id e : Nat) (hi : i ≠ 0) (h : S.vl id ≠ i) : PUn S ⟨6, i, id, e⟩ { S with vl := upd S.vl id i }
  | root (S : PS) (i id e : Nat) (h : i < S.nodes.length) (h0 : S.nd i = (0, 0)) (hr : S.rt i = true) : PUn S ⟨7, i, id, e⟩ { S with rt := upd S.rt i false }
  | chroot (S : PS) (i id e : Nat) (h : i < S.nodes.length) (h0 : S.nd i = (0, 0)) (hr : S.rt i = true) (ho : S.rt (e / 2) = false) : PUn S ⟨8, i, id, e⟩ { S with rt := upd (upd S.rt i false) (e / 2) true }
  | merge (S : PS) (i id e : Nat) (h : i < S.nodes.length) (hr : S.rt i = true) (hl : S.rt ((S.nd i).1 / 2) = false) (hrr : S.rt ((S.nd i).2 / 2) = false) (hne : (S.nd i).1 / 2 ≠ (S.nd i).2 / 2) (hro : ∀ r, S.rt r = true → r < S.nodes.length) (hsz : S.nodes.length < 2147483648) (hel : (S.nd i).1 / 2 < S.nodes.length) :
      PUn S ⟨9, i, id, e⟩ { S with rt := upd (upd (upd S.rt i false) ((S.nd i).1 / 2) true) ((S.nd i).2 / 2) true }

/-- What Undo does. -/
inductive Undone : PS → PS → Prop
  | stop (S : PS) (i id e : Nat) (rest : List Un) (h : S.lg = ⟨1, i, id, e⟩ :: rest) : Undone S { S with lg := rest }
  | step (S : PS) (u : Un) (rest : List Un) (T S' : PS) (h : S.lg = u :: rest) (ok : PUn { S with lg := rest } u T) (k : Undone T S') : Undone S S'

theorem Undone.cases' {S S' : PS} (h : Undone S S') : (S.lg = [] ∧ S' = S) ∨ ∃ u rest, S.lg = u :: rest ∧ ((u.typ = 1 ∧ S' = { S with lg := rest }) ∨ ∃ T, PUn { S with lg := rest } u T ∧ Undone T S') := by
  cases h with
  | stop _ i id e rest h => exact .inr ⟨_, rest, h, .inl ⟨rfl, rfl⟩⟩
  | step _ u rest T _ h ok k => exact .inr ⟨u, rest, h, .inr ⟨T, ok, k⟩⟩
theorem Undone.ne {S S' : PS} (h : Undone S S') : S.lg ≠ [] := by
  cases h with
  | stop _ i id e rest h => rw [h]; simp
  | step _ u rest T _ h ok k => rw [h]; simp
theorem PUn.lg {S T : PS} {u : Un} (h : PUn S u T) : T.lg = S.lg := by cases h <;> rfl

end Go.Proofs.Ytapnmgkpljlgmaa
