/- Two3 rows of the call's own side by side; the star's and the ring's scripts. -/
import Derived.Test.YtapnmgkpljlgmaaG37
set_option linter.unusedVariables false
set_option linter.unusedSimpArgs false
namespace Go.Proofs.Ytapnmgkpljlgmaa
open Go.RowKit

structure Two3 (w wr : World) (a b : Value) (n m : Nat) (xs ys : List Value) : Prop where
  fa : Fsh w wr 40 3 a n xs
  fb : Fsh w wr 40 3 b m ys
  ne : ∀ g, a.ownBlock = some g → b.ownBlock ≠ some g
section
variable {w wr wa w1 : World} {a b : Value} {n m g cap k : Nat} {xs ys news : List Value}
theorem Two3.nix (h : Two3 w wr a b n m xs ys) (f : Fr wr w1 Nix) : Two3 w w1 a b n m xs ys := ⟨h.fa.nix f, h.fb.nix f, h.ne⟩
theorem Two3.appA (h : Two3 w wr a b n m xs ys) (ha : Fr wr wa Nix) (hown : w1.ownsRow 0 40 3 (.slice (some ⟨g, 0, none⟩) (n + k) cap) (n + k) (xs ++ news)) (hg : wa.grownBy w1 a.ownBlock) (hn : a.ownBlock = some g ∨ wa.heap.size ≤ g) :
    Two3 w w1 (.slice (some ⟨g, 0, none⟩) (n + k) cap) b (n + k) m (xs ++ news) ys := by
  have fr : Fr wa w1 (fun k => a.ownBlock = some k) := Fr.grown (F := fun k => a.ownBlock = some k) hg fun k hk => hk
  refine ⟨h.fa.app ha hown hg hn, (h.fb.nix ha).kept fr (fun i hi e => h.ne i e hi) (fun i hi => h.fa.new i hi), fun i hi hb => ?_⟩
  simp only [Value.ownBlock, Option.some.injEq] at hi
  subst hi
  rcases hn with hn | hn
  · exact h.ne _ hn hb
  · have := (h.fb.nix ha).lt hb; omega
theorem Two3.appB (h : Two3 w wr a b n m xs ys) (ha : Fr wr wa Nix) (hown : w1.ownsRow 0 40 3 (.slice (some ⟨g, 0, none⟩) (m + k) cap) (m + k) (ys ++ news)) (hg : wa.grownBy w1 b.ownBlock) (hn : b.ownBlock = some g ∨ wa.heap.size ≤ g) :
    Two3 w w1 a (.slice (some ⟨g, 0, none⟩) (m + k) cap) n (m + k) xs (ys ++ news) := by
  have fr : Fr wa w1 (fun k => b.ownBlock = some k) := Fr.grown (F := fun k => b.ownBlock = some k) hg fun k hk => hk
  refine ⟨(h.fa.nix ha).kept fr (fun i hi e => h.ne i hi e) (fun i hi => h.fb.new i hi), h.fb.app ha hown hg hn, fun i hi hb => ?_⟩
  simp only [Value.ownBlock, Option.some.injEq] at hb
  subst hb
  rcases hn with hn | hn
  · exact h.ne _ hi hn
  · have := (h.fa.nix ha).lt hi; omega
/-- A block that is no row of the two is as it was. -/
theorem grown_cell {x : Value} {q j : Nat} (hg : wa.grownBy w1 a.ownBlock) (hq : a.ownBlock ≠ some q) (h : wa.cell? ⟨q, j, none⟩ = some x) : w1.cell? ⟨q, j, none⟩ = some x := by
  have fr : Fr wa w1 (fun k => a.ownBlock = some k) := Fr.grown (F := fun k => a.ownBlock = some k) hg fun k hk => hk
  exact (fr.cell (a := ⟨q, j, none⟩) (block_lt_of_cell h) hq).trans h
end
theorem two3_empty (w : World) : Two3 w ((w.alloc (.cells #[] 40)).alloc (.cells #[] 40)) (.slice (some ⟨w.heap.size, 0, none⟩) 0 0) (.slice (some ⟨w.heap.size + 1, 0, none⟩) 0 0) 0 0 [] [] := by
  have h1 := (Fsh.empty w 40 3).nix (Fr.al _ (.cells #[] 40))
  have h2 := (Fsh.empty (w.alloc (.cells #[] 40)) 40 3).base (Fr.al w _)
  rw [size_alloc] at h2
  refine ⟨h1, h2, fun g hg e => ?_⟩
  simp only [Value.ownBlock, Option.some.injEq] at hg e
  omega

/-! ## the star -/
def rayF (row : List Nat) (g : Bool) (i : Nat) : Z3 := if g = true then (0, ((row.getD (i + 1) 0 : Nat) : Int), ((row.getD 0 0 : Nat) : Int)) else (0, ((row.getD 0 0 : Nat) : Int), ((row.getD (i + 1) 0 : Nat) : Int))
def rayZ (row : List Nat) (g : Bool) (k : Nat) : List Z3 := (List.range k).map (rayF row g)
def starF (row : List Nat) (g : Bool) (i : Nat) : List Z3 := [(4, (rayF row g i).2.1, (rayF row g i).2.2), (7, (rayF row g i).2.2, (rayF row g i).2.1)] ++ if 0 < i then [(5, ((row.getD (i + 1) 0 : Nat) : Int), ((row.getD i 0 : Nat) : Int)), (7, ((row.getD (i + 1) 0 : Nat) : Int), ((row.getD i 0 : Nat) : Int))] else []
def starZ (row : List Nat) (g : Bool) (k : Nat) : List Z3 := (List.range k).flatMap (starF row g)
theorem rayZ_succ (row : List Nat) (g : Bool) (k : Nat) : z3s (rayZ row g (k + 1)) = z3s (rayZ row g k) ++ z3c (rayF row g k) := by
  unfold rayZ
  rw [List.range_succ, List.map_append, z3s_app]
  rfl
theorem starZ_succ (row : List Nat) (g : Bool) (k : Nat) : z3s (starZ row g (k + 1)) = z3s (starZ row g k) ++ z3s (starF row g k) := by
  unfold starZ
  rw [List.range_succ, List.flatMap_append, z3s_app]
  congr 1
  simp
theorem starF_len (row : List Nat) (g : Bool) (i : Nat) : (starF row g i).length = if 0 < i then 4 else 2 := by
  unfold starF
  split <;> rfl
theorem starZ_len (row : List Nat) (g : Bool) : ∀ k, (starZ row g k).length = if 0 < k then 4 * k - 2 else 0
  | 0 => rfl
  | k + 1 => by
    have ih := starZ_len row g k
    have e : starZ row g (k + 1) = starZ row g k ++ starF row g k := by unfold starZ; rw [List.range_succ, List.flatMap_append]; simp
    rw [e, List.length_append, ih, starF_len, if_pos (Nat.succ_pos k)]
    by_cases q : 0 < k
    · rw [if_pos q, if_pos q]; omega
    · rw [if_neg q, if_neg q]; omega
theorem rayZ_len (row : List Nat) (g : Bool) (k : Nat) : (rayZ row g k).length = k := by simp [rayZ]
theorem stz_rayF (row : List Nat) (g : Bool) (i : Nat) : stz (rayF row g i) = ray row g i := by
  unfold rayF ray
  cases g <;> rfl
theorem rayZ_sts (row : List Nat) (g : Bool) : sts (rayZ row g (row.length - 1)) = rays row g := by
  unfold sts rayZ rays
  rw [List.map_map]
  exact List.map_congr_left fun i _ => stz_rayF row g i
theorem starZ_sts (row : List Nat) (g : Bool) (k : Nat) : sts (starZ row g k) = starAsk row g k := by
  unfold sts starZ starAsk
  rw [List.map_flatMap]
  congr 1
  funext i
  unfold starF starQ
  rw [← stz_rayF]
  by_cases q : 0 < i
  · rw [if_pos q, if_pos q]; rfl
  · rw [if_neg q, if_neg q]; rfl
theorem star_z {V : Nat} {row : List Nat} (h : RowOK V row) (g : Bool) : outz (rayZ row g (row.length - 1) ++ starZ row g (row.length - 1)) = List.replicate (row.length - 1) true ++ starAns (row.length - 1) := by
  unfold outz
  rw [sts_app, rayZ_sts, starZ_sts]
  exact star_law h g
theorem star_wf {V : Nat} {row : List Nat} (h : RowOK V row) (hV : V ≤ 12) (g : Bool) {i : Nat} (hi : i + 1 < row.length) : WfZ 12 (rayF row g i) ∧ ∀ z ∈ starF row g i, WfZ 12 z ∧ 4 ≤ z.1 ∧ z.1 ≤ 7 := by
  have a0 := h.at (i := 0) (by omega)
  have a1 := h.at (i := i) (by omega)
  have a2 := h.at (i := i + 1) hi
  have n0 := h.ne (i := 0) (j := i + 1) (by omega) hi (by omega)
  have n1 := h.ne (i := i) (j := i + 1) (by omega) hi (by omega)
  refine ⟨?_, fun z hz => ?_⟩
  · unfold rayF
    cases g
    · exact ⟨by simp, by simp, fun _ _ => by simp only [Bool.false_eq_true, if_false]; omega⟩
    · exact ⟨by simp, by simp, fun _ _ => by simp only [if_true]; omega⟩
  · unfold starF rayF at hz
    rcases List.mem_append.1 hz with hz | hz
    · simp only [List.mem_cons, List.not_mem_nil, or_false] at hz
      cases g
      · rcases hz with rfl | rfl <;> exact ⟨⟨by simp, by simp, fun _ _ => by simp only [Bool.false_eq_true, if_false]; omega⟩, by simp, by simp⟩
      · rcases hz with rfl | rfl <;> exact ⟨⟨by simp, by simp, fun _ _ => by simp only [if_true]; omega⟩, by simp, by simp⟩
    · split at hz
      · simp only [List.mem_cons, List.not_mem_nil, or_false] at hz
        rcases hz with rfl | rfl <;> exact ⟨⟨by simp, by simp, fun _ _ => by simp only; omega⟩, by simp, by simp⟩
      · simp at hz
theorem star_run {V : Nat} {row : List Nat} (h : RowOK V row) (hV : V ≤ 12) (hl : row.length ≤ V) (g : Bool) : RunOK (rayZ row g (row.length - 1) ++ starZ row g (row.length - 1)) := by
  have hr : ∀ z ∈ rayZ row g (row.length - 1), WfZ 12 z ∧ z.1 = 0 := fun z hz => by
    obtain ⟨i, hi, rfl⟩ := List.mem_map.1 hz
    have hi := List.mem_range.1 hi
    exact ⟨(star_wf h hV g (i := i) (by omega)).1, by unfold rayF; split <;> rfl⟩
  have hs : ∀ z ∈ starZ row g (row.length - 1), WfZ 12 z ∧ 4 ≤ z.1 ∧ z.1 ≤ 7 := fun z hz => by
    obtain ⟨i, hi, hz⟩ := List.mem_flatMap.1 hz
    have hi := List.mem_range.1 hi
    exact (star_wf h hV g (i := i) (by omega)).2 z hz
  have r0 : RunOK (rayZ row g (row.length - 1)) := ⟨fun z hz => (hr z hz).1, Deep_flat _ _ fun s hs => by
      obtain ⟨z, hz, rfl⟩ := List.mem_map.1 hs
      have := (hr z hz).2
      unfold stz; simp only; omega, by have := sets_le (rayZ row g (row.length - 1)); rw [rayZ_len] at this; omega, by rw [rayZ_len]; omega⟩
  refine r0.app (fun z hz => ⟨(hs z hz).1, (hs z hz).2.2⟩) ?_ ?_
  · rw [sets_asks (q := starZ row g (row.length - 1)) fun z hz => (hs z hz).2]; exact r0.cnt
  · rw [rayZ_len, starZ_len]; split <;> omega
end Go.Proofs.Ytapnmgkpljlgmaa
