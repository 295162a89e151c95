/- The ring's script. -/
import Derived.Test.YtapnmgkpljlgmaaHMRo
import Derived.Test.YtapnmgkpljlgmaaG38
set_option linter.unusedVariables false
set_option linter.unusedSimpArgs false
namespace Go.Proofs.Ytapnmgkpljlgmaa
open Go.RowKit

def ringF (row : List Nat) (i : Nat) : List Z3 := [(6, ((row.getD (i + 1) 0 : Nat) : Int), ((row.getD 0 0 : Nat) : Int)), (0, ((row.getD (i + 1) 0 : Nat) : Int), ((row.getD i 0 : Nat) : Int))]
def ringZ (row : List Nat) (k : Nat) : List Z3 := (List.range k).flatMap (ringF row)
theorem ringZ_succ (row : List Nat) (k : Nat) : z3s (ringZ row (k + 1)) = z3s (ringZ row k) ++ z3s (ringF row k) := by
  unfold ringZ
  rw [List.range_succ, List.flatMap_append, z3s_app]
  congr 1
theorem ringZ_len (row : List Nat) : ∀ k, (ringZ row k).length = 2 * k
  | 0 => rfl
  | k + 1 => by
    have ih := ringZ_len row k
    have e : ringZ row (k + 1) = ringZ row k ++ ringF row k := by unfold ringZ; rw [List.range_succ, List.flatMap_append]; simp
    rw [e, List.length_append, ih]
    show 2 * k + 2 = _
    omega
theorem ringZ_sts (row : List Nat) : sts (ringZ row (row.length - 1)) = ringAsk row := by
  unfold sts ringZ ringAsk
  rw [List.map_flatMap]
  congr 1
theorem ring_z {V : Nat} {row : List Nat} (h : RowOK V row) (s : Int) :
    ∃ t, outz (linkZ row s (row.length - 1) ++ ([((1 : Int), ((row.getD (row.length - 1) 0 : Nat) : Int), ((row.getD 0 0 : Nat) : Int))] ++ ringZ row (row.length - 1))) = List.replicate (row.length - 1) true ++ ((!less row s) :: t) ∧ t.length = 2 * (row.length - 1) ∧ (less row s = false → t = ringAns (row.length - 1)) := by
  obtain ⟨t, h1, h2⟩ := ring_law h s
  have e : outz (linkZ row s (row.length - 1) ++ ([((1 : Int), ((row.getD (row.length - 1) 0 : Nat) : Int), ((row.getD 0 0 : Nat) : Int))] ++ ringZ row (row.length - 1))) = List.replicate (row.length - 1) true ++ ((!less row s) :: t) := by
    unfold outz
    rw [sts_app, sts_app, linkZ_sts, ringZ_sts]
    exact h1
  refine ⟨t, e, ?_, h2⟩
  have := congrArg List.length e
  rw [outz_len] at this
  simp only [List.length_append, List.length_cons, List.length_nil, List.length_replicate, linkZ_len, ringZ_len] at this
  omega
theorem ring_run {V : Nat} {row : List Nat} (h : RowOK V row) (hV : V ≤ 12) (hl : row.length ≤ V) (s : Int) : RunOK (linkZ row s (row.length - 1) ++ ([((1 : Int), ((row.getD (row.length - 1) 0 : Nat) : Int), ((row.getD 0 0 : Nat) : Int))] ++ ringZ row (row.length - 1))) := by
  have g := link_good h hV hl s
  have h2 := h.two
  have a0 := h.at (i := 0) (by omega)
  have ak := h.at (i := row.length - 1) (by omega)
  have nk := h.ne (i := 0) (j := row.length - 1) (by omega) (by omega) (by omega)
  have hb : ∀ z ∈ ([((1 : Int), ((row.getD (row.length - 1) 0 : Nat) : Int), ((row.getD 0 0 : Nat) : Int))] ++ ringZ row (row.length - 1) : List Z3), WfZ 12 z ∧ z.1 ≤ 7 := fun z hz => by
    rcases List.mem_append.1 hz with hz | hz
    · rw [List.mem_singleton.1 hz]
      exact ⟨⟨by simp, by simp, fun _ _ => by simp only; omega⟩, by simp⟩
    · obtain ⟨i, hi, hz⟩ := List.mem_flatMap.1 hz
      have hi := List.mem_range.1 hi
      have a1 := h.at (i := i) (by omega)
      have a2 := h.at (i := i + 1) (by omega)
      have n0 := h.ne (i := 0) (j := i + 1) (by omega) (by omega) (by omega)
      have n1 := h.ne (i := i) (j := i + 1) (by omega) (by omega) (by omega)
      unfold ringF at hz
      simp only [List.mem_cons, List.not_mem_nil, or_false] at hz
      rcases hz with rfl | rfl <;> exact ⟨⟨by simp, by simp, fun _ _ => by simp only; omega⟩, by simp⟩
  have l1 := sets_le (linkZ row s (row.length - 1))
  have l2 := sets_le ([((1 : Int), ((row.getD (row.length - 1) 0 : Nat) : Int), ((row.getD 0 0 : Nat) : Int))] ++ ringZ row (row.length - 1))
  rw [linkZ_len] at l1
  rw [List.length_append, ringZ_len] at l2
  simp only [List.length_cons, List.length_nil] at l2
  exact g.run.app hb (by omega) (by rw [linkZ_len, List.length_append, ringZ_len]; simp only [List.length_cons, List.length_nil]; omega)
def ringLoop (w : World) (row : List Nat) (p : Nat) (X Y : Nat) (n m : Nat) (a u : Value) (wr : World) : Prop :=
  ∃ k i : Nat, i = k + 1 ∧ m + i = n ∧ u = .int .i64 (i : Nat) ∧ Fsh w wr 40 3 a (2 * k) (z3s (ringZ row k)) ∧ Box3 wr p 1 (Y : Nat) (X : Nat) ∧ p < w.heap.size
end Go.Proofs.Ytapnmgkpljlgmaa
