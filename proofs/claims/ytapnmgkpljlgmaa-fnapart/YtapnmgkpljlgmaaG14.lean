/- What Undo does, pass by pass. -/
import Derived.Test.YtapnmgkpljlgmaaG13
namespace Go.Proofs.Ytapnmgkpljlgmaa
open Go.RowKit

/-- What one pass takes back: the state with the pass off, the pass, the state behind it. -/
inductive PUn : PS → Un → PS → Prop
  | chl (S : PS) (i id e : Nat) (h : i < S.nodes.length) : PUn S ⟨2, i, id, e⟩ (S.setl i e)
  | chr (S : PS) (i id e : Nat) (h : i < S.nodes.length) : PUn S ⟨3, i, id, e⟩ (S.setr i e)
  | neq (S : PS) (i a e : Nat) (h : S.nq a i = true) (ha : a < 2147483648) : PUn S ⟨4, i, a, e⟩ { S with nq := clrQ S.nq a i }
  | nodeX (S : PS) (k e : Nat) (h : S.last = k + 1) (hl : S.nodes.length = k + 2) (hb : k < 2147483646) : PUn S ⟨5, k + 1, 0, e⟩ { S with last := k, nodes := S.nodes.take (k + 1) }
  | nodeV (S : PS) (k id e : Nat) (h : S.last = k + 1) (hl : S.nodes.length = k + 2) (hb : k < 2147483646) (hid : id ≠ 0) (hv : S.vl id = k + 1) : PUn S ⟨5, k + 1, id, e⟩ { S with last := k, nodes := S.nodes.take (k + 1), vl := upd S.vl id 0 }
  | alias0 (S : PS) (id e : Nat) (h : S.vl id ≠ 0) : PUn S ⟨6, 0, id, e⟩ { S with vl := upd S.vl id 0 }
  | alias (S : PS) (i id e : Nat) (hi : i ≠ 0) (h : S.vl id ≠ i) : PUn S ⟨6, i, id, e⟩ { S with vl := upd S.vl id i }
  | root (S : PS) (i id e : Nat) (h : i < S.nodes.length) (h0 : S.nd i = (0, 0)) (hr : S.rt i = true) : PUn S ⟨7, i, id, e⟩ { S with rt := upd S.rt i false }
  | chroot (S : PS) (i id e : Nat) (h : i < S.nodes.length) (h0 : S.nd i = (0, 0)) (hr : S.rt i = true) (ho : S.rt (e / 2) = false) : PUn S ⟨8, i, id, e⟩ { S with rt := upd (upd S.rt i false) (e / 2) true }
  | merge (S : PS) (i id e : Nat) (h : i < S.nodes.length) (hr : S.rt i = true) (hl : S.rt ((S.nd i).1 / 2) = false) (hrr : S.rt ((S.nd i).2 / 2) = false) (hne : (S.nd i).1 / 2 ≠ (S.nd i).2 / 2) :
      PUn S ⟨9, i, id, e⟩ { S with rt := upd (upd (upd S.rt i false) ((S.nd i).1 / 2) true) ((S.nd i).2 / 2) true }

/-- What Undo does. -/
inductive Undone : PS → PS → Prop
  | empty (S : PS) (h : S.lg = []) : Undone S S
  | stop (S : PS) (i id e : Nat) (rest : List Un) (h : S.lg = ⟨1, i, id, e⟩ :: rest) : Undone S { S with lg := rest }
  | step (S : PS) (u : Un) (rest : List Un) (T S' : PS) (h : S.lg = u :: rest) (ok : PUn { S with lg := rest } u T) (k : Undone T S') : Undone S S'

theorem Undone.cases' {S S' : PS} (h : Undone S S') : (S.lg = [] ∧ S' = S) ∨ ∃ u rest, S.lg = u :: rest ∧ ((u.typ = 1 ∧ S' = { S with lg := rest }) ∨ ∃ T, PUn { S with lg := rest } u T ∧ Undone T S') := by
  cases h with
  | empty _ h => exact .inl ⟨h, rfl⟩
  | stop _ i id e rest h => exact .inr ⟨_, rest, h, .inl ⟨rfl, rfl⟩⟩
  | step _ u rest T _ h ok k => exact .inr ⟨u, rest, h, .inr ⟨T, ok, k⟩⟩
theorem PUn.lg {S T : PS} {u : Un} (h : PUn S u T) : T.lg = S.lg := by cases h <;> rfl

end Go.Proofs.Ytapnmgkpljlgmaa
