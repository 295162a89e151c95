/- The reference's table: At, raise, Same. The reference's table of what follows from facts: Known. The reference: Same, Fits, Holds. The reference: Holds, Follows. -/
import Derived.Test.YtapnmgkpljlgmaaG24
import Derived.Test.YtapnmgkpljlgmaaG21
set_option linter.unusedVariables false
set_option linter.unusedSimpArgs false
namespace Go.Proofs.Ytapnmgkpljlgmaa
open Go.RowKit
theorem ix_inj {V i j x y : Nat} (hj : j < V) (hy : y < V) (h : i * V + j = x * V + y) : i = x ∧ j = y := by
  have hV : 0 < V := by omega
  have e1 : (i * V + j) / V = i := by rw [Nat.mul_comm, Nat.mul_add_div hV, Nat.div_eq_of_lt hj]; rfl
  have e2 : (x * V + y) / V = x := by rw [Nat.mul_comm, Nat.mul_add_div hV, Nat.div_eq_of_lt hy]; rfl
  have : i = x := by rw [← e1, h, e2]
  subst this
  exact ⟨rfl, by omega⟩
theorem ix_lt {V x y : Nat} (hx : x < V) (hy : y < V) : x * V + y < V * V := by
  have := Nat.mul_le_mul_right V (show x + 1 ≤ V by omega)
  rw [Nat.add_mul] at this; omega
/-- Block g holds the table M of all pairs below V. -/
def Tab (w : World) (g V : Nat) (M : Mat) : Prop :=
  ∃ cur : Array Value, w.heap[g]? = some (.cells cur 3 (0, 0)) ∧ ∀ i j, i < V → j < V → cur[i * V + j]? = some (.int .i64 (M i j : Nat))
theorem Tab.kept {w w' : World} {g V : Nat} {M : Mat} (h : Tab w g V M) (hb : w'.heap[g]? = w.heap[g]?) : Tab w' g V M := by
  obtain ⟨cur, h1, h2⟩ := h
  exact ⟨cur, hb.trans h1, h2⟩
theorem Tab.lt {w : World} {g V : Nat} {M : Mat} (h : Tab w g V M) : g < w.heap.size := by
  obtain ⟨cur, h1, h2⟩ := h
  exact heap_lt h1
theorem Tab.fr {w w' : World} {g V : Nat} {M : Mat} {F : Nat → Prop} (h : Tab w g V M) (f : Fr w w' F) (hF : ¬ F g) : Tab w' g V M := h.kept (f.block g h.lt hF)
theorem Tab.nix {w w' : World} {g V : Nat} {M : Mat} (h : Tab w g V M) (f : Fr w w' Nix) : Tab w' g V M := h.fr f fun q => q
theorem Tab.congr {w : World} {g V : Nat} {M N : Mat} (h : Tab w g V M) (e : M = N) : Tab w g V N := e ▸ h
theorem Tab.set {w : World} {g V : Nat} {M : Mat} (h : Tab w g V M) {x y n : Nat} (hx : x < V) (hy : y < V) (hn : M x y < n) : Tab (w.setCell ⟨g, x * V + y, none⟩ (.int .i64 (n : Nat))) g V (rs M x y n) := by
  obtain ⟨cur, h1, h2⟩ := h
  have hs : x * V + y < cur.size := (Array.getElem?_eq_some_iff.1 (h2 x y hx hy)).1
  refine ⟨_, set_block _ h1, fun i j hi hj => ?_⟩
  unfold rs
  by_cases q : i = x ∧ j = y
  · obtain ⟨rfl, rfl⟩ := q
    rw [if_pos ⟨rfl, rfl⟩, Array.getElem?_setIfInBounds_self_of_lt hs, Nat.max_eq_left (by omega)]
  · rw [if_neg q, Array.getElem?_setIfInBounds_ne (fun e => q (ix_inj hj hy e.symm))]
    exact h2 i j hi hj
theorem Tab.same {w : World} {g V : Nat} {M : Mat} (h : Tab w g V M) {x y n : Nat} (hn : n ≤ M x y) : Tab w g V (rs M x y n) := by
  obtain ⟨cur, h1, h2⟩ := h
  refine ⟨cur, h1, fun i j hi hj => ?_⟩
  have e : rs M x y n i j = M i j := by
    unfold rs
    split
    · rename_i q; obtain ⟨rfl, rfl⟩ := q; exact Nat.max_eq_right hn
    · rfl
  rw [e]; exact h2 i j hi hj
theorem ix_facts {V x y : Nat} (hV : V ≤ 12) (hx : x < V) (hy : y < V) : ∃ I : Nat, x * V + y = I ∧ wrap64 (wrap64 ((x : Int) * (V : Int)) + (y : Int)) = (I : Int) ∧ I < V * V := by
  refine ⟨_, rfl, ?_, ix_lt hx hy⟩
  have h1 := ix_lt hx hy
  have h2 : V * V ≤ 144 := Nat.mul_le_mul hV hV
  have e : (x : Int) * (V : Int) = ((x * V : Nat) : Int) := by rw [Int.natCast_mul]
  obtain ⟨P, hP⟩ : ∃ P, x * V = P := ⟨_, rfl⟩
  rw [hP] at h1 e ⊢
  rw [e]
  unfold wrap64; omega
def ordV (V g c : Nat) : Value := .agg #[.int .i64 (V : Nat), .slice (some ⟨g, 0, none⟩) (V * V) c]
set_option maxRecDepth 10000 in
set_option maxHeartbeats 1000000 in
theorem at_c {V g c : Nat} {M : Mat} {x y : Nat} {w : World} (h : Tab w g V M) (hV : V ≤ 12) (hx : x < V) (hy : y < V) :
    Calls Try.prog 65 #[ordV V g c, .int .i64 (x : Nat), .int .i64 (y : Nat)] w fun e w' => e = .returned (.int .i64 (M x y : Nat)) ∧ Fr w w' Nix := by
  obtain ⟨I, hI, hw, hlt⟩ := ix_facts hV hx hy
  have hc : (w.alloc (.cells #[.int .i64 (V : Nat), .slice (some ⟨g, 0, none⟩) (V * V) c] 73)).cell? ⟨g, I, none⟩ = some (.int .i64 (M x y : Nat)) := by
    obtain ⟨cur, h1, h2⟩ := h.nix (Fr.al w (.cells #[.int .i64 (V : Nat), .slice (some ⟨g, 0, none⟩) (V * V) c] 73))
    rw [cell_block h1, ← hI]; exact h2 x y hx hy
  have h0 : (0 : Int) ≤ (I : Int) := by omega
  have h1 : (I : Int) < (V : Int) * (V : Int) := by have : ((V * V : Nat) : Int) = (V : Int) * (V : Int) := Int.natCast_mul _ _; omega
  clear hI hlt h
  unfold ordV
  go_enter Try.func65, Try.ntmps65
  go_wp2
  go_ret
  exact ⟨rfl, Fr.al _ _⟩
set_option maxRecDepth 10000 in
set_option maxHeartbeats 1000000 in
theorem raise_c {V g c : Nat} {M : Mat} {x y n : Nat} {w : World} (h : Tab w g V M) (hV : V ≤ 12) (hx : x < V) (hy : y < V) :
    Calls Try.prog 86 #[ordV V g c, .int .i64 (x : Nat), .int .i64 (y : Nat), .int .i64 (n : Nat)] w fun e w' => e = .returned (.tuple #[]) ∧ Tab w' g V (rs M x y n) ∧ Fr w w' (· = g) := by
  obtain ⟨I, hI, hw, hlt⟩ := ix_facts hV hx hy
  have hT := h.nix (Fr.al w (.cells #[.int .i64 (V : Nat), .slice (some ⟨g, 0, none⟩) (V * V) c] 73))
  have hc : (w.alloc (.cells #[.int .i64 (V : Nat), .slice (some ⟨g, 0, none⟩) (V * V) c] 73)).cell? ⟨g, I, none⟩ = some (.int .i64 (M x y : Nat)) := by
    obtain ⟨cur, h1, h2⟩ := hT
    rw [cell_block h1, ← hI]; exact h2 x y hx hy
  have hf : (w.alloc (.cells #[.int .i64 (V : Nat), .slice (some ⟨g, 0, none⟩) (V * V) c] 73)).frozen? ⟨g, I, none⟩ = false := by
    obtain ⟨cur, h1, h2⟩ := hT
    exact frozen_block h1
  have h0 : (0 : Int) ≤ (I : Int) := by omega
  have h1 : (I : Int) < (V : Int) * (V : Int) := by have : ((V * V : Nat) : Int) = (V : Int) * (V : Int) := Int.natCast_mul _ _; omega
  have HT := Lib.hid hT
  have HI := Lib.hid hI
  clear hI hlt h hT
  unfold ordV
  by_cases hn : M x y < n
  · have hd : decide (M x y < n) = true := decide_eq_true hn
    have HN := Lib.hid hn
    clear hn
    go_enter Try.func86, Try.ntmps86
    go_wp2
    go_end0
    refine ⟨rfl, ?_, (Fr.alloc _ _ _).trans (Fr.setCell (F := (· = g)) _ _ _ rfl) fun _ e => .inl e⟩
    rw [← HI.out]
    exact HT.out.set hx hy HN.out
  · have hd : decide (M x y < n) = false := decide_eq_false hn
    have HN := Lib.hid hn
    clear hn
    go_enter Try.func86, Try.ntmps86
    go_wp2
    go_end0
    exact ⟨rfl, HT.out.same (by have := HN.out; omega), Fr.alloc _ _ _⟩
end Go.Proofs.Ytapnmgkpljlgmaa
namespace Go.Proofs.Ytapnmgkpljlgmaa
open Go.RowKit
def kLoop (w0 : World) (V g : Nat) (l : List Z3) (n m : Nat) (u : Value) (wr : World) : Prop :=
  ∃ k : Nat, m + k = n ∧ u = .int .i64 (k : Nat) ∧ Tab wr g V (m0 (sts (l.take k))) ∧ Fr w0 wr (· = g)
theorem Fr.own {w w0 wr : World} {g : Nat} (h : Fr w w0 Nix) (k : Fr w0 wr (· = g)) (hg : w.heap.size ≤ g) : Fr w wr Nix := h.trans k fun i hi => .inr (by cases hi; exact hg)
theorem Fr.at' {w0 wr w1 : World} {g : Nat} (h : Fr w0 wr (· = g)) (k : Fr wr w1 Nix) : Fr w0 w1 (· = g) := h.trans k fun _ e => e.elim
theorem Fr.at2 {w0 wr w1 : World} {g : Nat} (h : Fr w0 wr (· = g)) (k : Fr wr w1 (· = g)) : Fr w0 w1 (· = g) := h.trans k fun _ e => .inl e
/-- The box of an order. -/
def OBox (w : World) (b V g c : Nat) : Prop := w.cell? ⟨b, 0, none⟩ = some (.int .i64 (V : Nat)) ∧ w.cell? ⟨b, 1, none⟩ = some (.slice (some ⟨g, 0, none⟩) (V * V) c) ∧ b < w.heap.size
theorem OBox.fr {w w' : World} {b V g c : Nat} {F : Nat → Prop} (h : OBox w b V g c) (f : Fr w w' F) (hF : ¬ F b) : OBox w' b V g c := ⟨(f.cell h.2.2 hF).trans h.1, (f.cell h.2.2 hF).trans h.2.1, Nat.lt_of_lt_of_le h.2.2 f.size⟩
theorem OBox.nix {w w' : World} {b V g c : Nat} (h : OBox w b V g c) (f : Fr w w' Nix) : OBox w' b V g c := h.fr f fun q => q
theorem OBox.c {w : World} {b V g c : Nat} (h : OBox w b V g c) : w.cell? ⟨b, 0, none⟩ = some (.int .i64 (V : Nat)) ∧ w.cell? ⟨b, 1, none⟩ = some (.slice (some ⟨g, 0, none⟩) (V * V) c) := ⟨h.1, h.2.1⟩
theorem obox_new (w : World) (V g c : Nat) (T : TypeId) : OBox (w.alloc (.cells #[.int .i64 (V : Nat), .slice (some ⟨g, 0, none⟩) (V * V) c] T)) w.heap.size V g c := by
  have h := heap_alloc_new w (.cells #[.int .i64 (V : Nat), .slice (some ⟨g, 0, none⟩) (V * V) c] T)
  exact ⟨by rw [cell_block h]; rfl, by rw [cell_block h]; rfl, by simp⟩
theorem tab_new (w : World) (V : Nat) : Tab (w.alloc (.cells (madeCells #[.int .i64 0] (V * V)) 3)) w.heap.size V (m0 []) := by
  refine ⟨_, heap_alloc_new w _, fun i j hi hj => ?_⟩
  have h := ix_lt hi hj
  rw [← Array.getElem?_toList, toList_madeCells_one, List.getElem?_replicate, if_pos h]
  rfl
theorem make_tab : ∀ (V : Nat), V ≤ 12 → ∀ w : World, (Instr.makeSlice 52 (.int .i64 ((V : Int) * (V : Int))) (.int .i64 ((V : Int) * (V : Int)))).run Try.prog w = .ok (.slice (some ⟨w.heap.size, 0, none⟩) (V * V) (V * V)) (w.alloc (.cells (madeCells #[.int .i64 0] (V * V)) 3))
  | 0, _, w => by kernel_rfl
  | 1, _, w => by kernel_rfl
  | 2, _, w => by kernel_rfl
  | 3, _, w => by kernel_rfl
  | 4, _, w => by kernel_rfl
  | 5, _, w => by kernel_rfl
  | 6, _, w => by kernel_rfl
  | 7, _, w => by kernel_rfl
  | 8, _, w => by kernel_rfl
  | 9, _, w => by kernel_rfl
  | 10, _, w => by kernel_rfl
  | 11, _, w => by kernel_rfl
  | 12, _, w => by kernel_rfl
  | V + 13, h, _ => absurd h (by omega)
theorem raise2_c {V g c : Nat} {M : Mat} {x y : Nat} {w : World} (h : Tab w g V M) (hV : V ≤ 12) (hx : x < V) (hy : y < V) :
    Calls Try.prog 86 #[.agg #[.int .i64 (V : Nat), .slice (some ⟨g, 0, none⟩) (V * V) c], .int .i64 (x : Nat), .int .i64 (y : Nat), .int .i64 2] w fun e w' => e = .returned (.tuple #[]) ∧ Tab w' g V (rs M x y 2) ∧ Fr w w' (· = g) := raise_c (n := 2) h hV hx hy
theorem raise1_c {V g c : Nat} {M : Mat} {x y : Nat} {w : World} (h : Tab w g V M) (hV : V ≤ 12) (hx : x < V) (hy : y < V) :
    Calls Try.prog 86 #[.agg #[.int .i64 (V : Nat), .slice (some ⟨g, 0, none⟩) (V * V) c], .int .i64 (x : Nat), .int .i64 (y : Nat), .int .i64 1] w fun e w' => e = .returned (.tuple #[]) ∧ Tab w' g V (rs M x y 1) ∧ Fr w w' (· = g) := raise_c (n := 1) h hV hx hy
theorem step_box {w w1 : World} {g : Nat} (o x y : Int) (f : Fr (w.alloc (.cells #[.int .i64 o, .int .i64 x, .int .i64 y] 40)) w1 (· = g)) (hg : w.heap.size ≠ g) :
    w1.cell? ⟨w.heap.size, 0, none⟩ = some (.int .i64 o) ∧ w1.cell? ⟨w.heap.size, 1, none⟩ = some (.int .i64 x) ∧ w1.cell? ⟨w.heap.size, 2, none⟩ = some (.int .i64 y) := by
  have h := (f.block w.heap.size (by simp) hg).trans (heap_alloc_new w (.cells #[.int .i64 o, .int .i64 x, .int .i64 y] 40))
  exact ⟨by rw [cell_block h]; rfl, by rw [cell_block h]; rfl, by rw [cell_block h]; rfl⟩
theorem atx_c {V g c : Nat} {M : Mat} {x y : Nat} {w : World} (h : Tab w g V M) (hV : V ≤ 12) (hx : x < V) (hy : y < V) :
    Calls Try.prog 65 #[.agg #[.int .i64 (V : Nat), .slice (some ⟨g, 0, none⟩) (V * V) c], .int .i64 (x : Nat), .int .i64 (y : Nat)] w fun e w' => e = .returned (.int .i64 (M x y : Nat)) ∧ Fr w w' Nix := at_c h hV hx hy
theorem raisex_c {V g c : Nat} {M : Mat} {x y n : Nat} {w : World} (h : Tab w g V M) (hV : V ≤ 12) (hx : x < V) (hy : y < V) :
    Calls Try.prog 86 #[.agg #[.int .i64 (V : Nat), .slice (some ⟨g, 0, none⟩) (V * V) c], .int .i64 (x : Nat), .int .i64 (y : Nat), .int .i64 (n : Nat)] w fun e w' => e = .returned (.tuple #[]) ∧ Tab w' g V (rs M x y n) ∧ Fr w w' (· = g) := raise_c h hV hx hy
def k2Loop (w0 : World) (V g : Nat) (M : Mat) (m : Nat) (u : Value) (wr : World) : Prop :=
  ∃ k : Nat, m + k = V ∧ u = .int .i64 (k : Nat) ∧ Tab wr g V (allF V k M) ∧ Fr w0 wr (· = g)
def k3Loop (w0 : World) (V g k : Nat) (M : Mat) (m : Nat) (u : Value) (wr : World) : Prop :=
  ∃ i : Nat, m + i = V ∧ u = .int .i64 (i : Nat) ∧ Tab wr g V (rndF V k i M) ∧ Fr w0 wr (· = g)
def k4Loop (w0 : World) (V g k i : Nat) (M : Mat) (m : Nat) (u : Value) (wr : World) : Prop :=
  ∃ j : Nat, m + j = V ∧ u = .int .i64 (j : Nat) ∧ Tab wr g V (rowF k i j M) ∧ Fr w0 wr (· = g)
set_option maxRecDepth 10000 in
set_option maxHeartbeats 4000000 in
theorem known_c {V : Nat} {A : Option Addr} {n c : Nat} {l : List Z3} {w : World} (h : Rd w 3 A n (z3s l)) (hn : n ≤ 100000) (hV : V ≤ 12) (hl : ∀ z ∈ l, WfZ (V : Int) z) :
    Calls Try.prog 64 #[.int .i64 (V : Nat), .slice A n c] w fun e w' => ∃ g cc, e = .returned (ordV V g cc) ∧ w.heap.size ≤ g ∧ Tab w' g V (known V (sts l)) ∧ Fr w w' Nix := by
  have hlen : l.length = n := by have := h.1; rw [z3s_len] at this; omega
  have H := Lib.hid (And.intro h (And.intro hlen (And.intro hl (And.intro hV hn))))
  have hVi : (V : Int) ≤ 12 := by omega
  have hni : (n : Int) ≤ 100000 := by omega
  have hVV : V * V ≤ 144 := Nat.mul_le_mul hV hV
  have eV : wrap64 ((V : Int) * (V : Int)) = ((V * V : Nat) : Int) := by
    rw [← Int.natCast_mul]
    exact IntWalk.wrap64_in _ ⟨by omega, by omega⟩
  have hmk := make_tab V hV
  clear h hlen hl hV hn
  go_enter Try.func64, Try.ntmps64
  go_upto_region 2 with fail
  have hO := obox_new ((w.alloc (.cells #[.int .i64 0, .slice none 0 0] 73)).alloc (.cells (madeCells #[.int .i64 0] (V * V)) 3)) V (w.heap.size + 1) (V * V) 73
  have hT := (tab_new (w.alloc (.cells #[.int .i64 0, .slice none 0 0] 73)) V).nix (Fr.al _ (.cells #[.int .i64 (V : Nat), .slice (some ⟨w.heap.size + 1, 0, none⟩) (V * V) (V * V)] 73))
  have hR := (heap_alloc_new w (.cells #[.int .i64 0, .slice none 0 0] 73))
  have f0 := ((Fr.al w (.cells #[.int .i64 0, .slice none 0 0] 73)).a (.cells (madeCells #[.int .i64 0] (V * V)) 3)).a (.cells #[.int .i64 (V : Nat), .slice (some ⟨w.heap.size + 1, 0, none⟩) (V * V) (V * V)] 73)
  have f1 := (Fr.al (w.alloc (.cells #[.int .i64 0, .slice none 0 0] 73)) (.cells (madeCells #[.int .i64 0] (V * V)) 3)).a (.cells #[.int .i64 (V : Nat), .slice (some ⟨w.heap.size + 1, 0, none⟩) (V * V) (V * V)] 73)
  have hR := (f1.block w.heap.size (by simp) (fun e => e)).trans hR
  have eb : ((w.alloc (.cells #[.int .i64 0, .slice none 0 0] 73)).alloc (.cells (madeCells #[.int .i64 0] (V * V)) 3)).heap.size = w.heap.size + 1 + 1 := by rw [size_alloc, size_alloc]
  rw [eb] at hO
  rw [size_alloc] at hT
  obtain ⟨w0, hw0⟩ : ∃ w0, (((w.alloc (.cells #[.int .i64 0, .slice none 0 0] 73)).alloc (.cells (madeCells #[.int .i64 0] (V * V)) 3)).alloc (.cells #[.int .i64 (V : Nat), .slice (some ⟨w.heap.size + 1, 0, none⟩) (V * V) (V * V)] 73)) = w0 := ⟨_, rfl⟩
  rw [hw0] at hO hT f0 hR ⊢
  obtain ⟨g, hg⟩ : ∃ g, w.heap.size + 1 = g := ⟨_, rfl⟩
  obtain ⟨b, hb⟩ : ∃ b, w.heap.size + 1 + 1 = b := ⟨_, rfl⟩
  obtain ⟨p, hp⟩ : ∃ p, w.heap.size = p := ⟨_, rfl⟩
  rw [hb, hg] at hO
  rw [hg] at hT
  rw [hp] at hR
  have HG := Lib.hid (show w.heap.size ≤ g ∧ b ≠ g ∧ p ≠ g by omega)
  have HP := Lib.hid (show p < w0.heap.size ∧ w.heap.size ≤ p from ⟨heap_lt hR, by omega⟩)
  have H0 := Lib.hid (And.intro hO (And.intro hT (And.intro f0 hR)))
  rw [hb, hg, hp]
  clear hO hT hR f0 f1 eb hw0 hg hb hp hmk eV hVV
  go_wp2_with fail
  go_loopg [19] n (fun m u wr => kLoop w0 V g l n m u wr)
  case atStart => exact ⟨0, rfl, rfl, H0.out.2.1, Fr.refl _ _⟩
  case round =>
    obtain ⟨k, hmk, rfl, hT, hF⟩ := hrel
    have HMK := Lib.hid hmk
    have HT := Lib.hid hT
    have HF := Lib.hid hF
    clear hT hF hmk
    by_cases hlt : k < n
    · obtain ⟨ad, po, px, py, rfl, hz, hc⟩ := rd3 (H.out.1.nix (Fr.own H0.out.2.2.1 HF.out HG.out.1)) hlt
      have HC := Lib.hid hc
      have HZ := Lib.hid (And.intro hz (H.out.2.2.1 _ (List.mem_of_getElem? hz)))
      clear hz hc
      have HB := Lib.hid (H0.out.1.fr HF.out HG.out.2.1)
      have HBB := HB
      by_cases h0 : po = 0
      · subst h0
        obtain ⟨z0, z1, z2, z3, z4⟩ := HZ.out.2.ok (by show ¬ _ = _; omega) (by show ¬ _ = _; omega)
        simp only at z0 z1 z2 z3 z4
        obtain ⟨X, rfl⟩ : ∃ X : Nat, px = X := ⟨px.toNat, by omega⟩
        obtain ⟨Y, rfl⟩ : ∃ Y : Nat, py = Y := ⟨py.toNat, by omega⟩
        have HXY := Lib.hid (show X < V ∧ Y < V by omega)
        clear z0 z1 z2 z3 z4
        have HB := HBB
        obtain ⟨b0, b1, _⟩ := HB.out.nix (Fr.al _ (.cells #[.int .i64 0, .int .i64 X, .int .i64 Y] 40))
        go_wp2_with (with_reducible refine wpList_ld (o := ⟨some 22, _, _, _, _, _⟩) rfl 40 (.tmp 21) rfl _ rfl #[.int .i64 0, .int .i64 X, .int .i64 Y] _ HC.out Try.underlying40 rfl (by kernel_rfl) ?_)
        refine (raise2_c (HT.out.nix (Fr.al _ _)) H.out.2.2.2.1 HXY.out.1 HXY.out.2).mono ?_
        rintro e w1 ⟨rfl, hT1, hF1⟩
        have HT1 := Lib.hid hT1
        have HF1 := Lib.hid (Fr.at2 (Fr.at' HF.out (Fr.al _ _)) hF1)
        clear hT1 hF1 b0 b1
        go_wp2
        go_roundg (n - (k + 1))
        case measure => have := HMK.out; omega
        case rel =>
          refine ⟨k + 1, by have := HMK.out; omega, by rw [Int.natCast_add]; rfl, ?_, HF1.out⟩
          rw [take_snoc HZ.out.1, sts_app]
          refine (HT1.out).congr ?_
          show _ = m0 (_ ++ [stz _])
          rw [m0_snoc]
          rfl
      have n0 : (po == 0) = false := by rw [beq_eq_false_iff_ne]; exact h0
      by_cases h1 : po = 1
      · subst h1
        obtain ⟨z0, z1, z2, z3, z4⟩ := HZ.out.2.ok (by show ¬ _ = _; omega) (by show ¬ _ = _; omega)
        simp only at z0 z1 z2 z3 z4
        obtain ⟨X, rfl⟩ : ∃ X : Nat, px = X := ⟨px.toNat, by omega⟩
        obtain ⟨Y, rfl⟩ : ∃ Y : Nat, py = Y := ⟨py.toNat, by omega⟩
        have HXY := Lib.hid (show X < V ∧ Y < V by omega)
        clear z0 z1 z2 z3 z4
        have HB := HBB
        obtain ⟨b0, b1, _⟩ := HB.out.nix (Fr.al _ (.cells #[.int .i64 1, .int .i64 X, .int .i64 Y] 40))
        go_wp2_with (with_reducible refine wpList_ld (o := ⟨some 22, _, _, _, _, _⟩) rfl 40 (.tmp 21) rfl _ rfl #[.int .i64 1, .int .i64 X, .int .i64 Y] _ HC.out Try.underlying40 rfl (by kernel_rfl) ?_)
        refine (raise1_c (HT.out.nix (Fr.al _ _)) H.out.2.2.2.1 HXY.out.1 HXY.out.2).mono ?_
        rintro e w1 ⟨rfl, hT1, hF1⟩
        have HT1 := Lib.hid hT1
        have HF1 := Lib.hid (Fr.at2 (Fr.at' HF.out (Fr.al _ _)) hF1)
        clear hT1 hF1 b0 b1
        go_wp2
        go_roundg (n - (k + 1))
        case measure => have := HMK.out; omega
        case rel =>
          refine ⟨k + 1, by have := HMK.out; omega, by rw [Int.natCast_add]; rfl, ?_, HF1.out⟩
          rw [take_snoc HZ.out.1, sts_app]
          refine (HT1.out).congr ?_
          show _ = m0 (_ ++ [stz _])
          rw [m0_snoc]
          rfl
      have n1 : (po == 1) = false := by rw [beq_eq_false_iff_ne]; exact h1
      by_cases h2 : po = 2
      · subst h2
        obtain ⟨z0, z1, z2, z3, z4⟩ := HZ.out.2.ok (by show ¬ _ = _; omega) (by show ¬ _ = _; omega)
        simp only at z0 z1 z2 z3 z4
        obtain ⟨X, rfl⟩ : ∃ X : Nat, px = X := ⟨px.toNat, by omega⟩
        obtain ⟨Y, rfl⟩ : ∃ Y : Nat, py = Y := ⟨py.toNat, by omega⟩
        have HXY := Lib.hid (show X < V ∧ Y < V by omega)
        clear z0 z1 z2 z3 z4
        have HB := HBB
        obtain ⟨b0, b1, _⟩ := HB.out.nix (Fr.al _ (.cells #[.int .i64 2, .int .i64 X, .int .i64 Y] 40))
        go_wp2_with (with_reducible refine wpList_ld (o := ⟨some 22, _, _, _, _, _⟩) rfl 40 (.tmp 21) rfl _ rfl #[.int .i64 2, .int .i64 X, .int .i64 Y] _ HC.out Try.underlying40 rfl (by kernel_rfl) ?_)
        refine (raise1_c (HT.out.nix (Fr.al _ _)) H.out.2.2.2.1 HXY.out.1 HXY.out.2).mono ?_
        rintro e w1 ⟨rfl, hT1, hF1⟩
        have HT1 := Lib.hid hT1
        have HF1 := Lib.hid (Fr.at2 (Fr.at' HF.out (Fr.al _ _)) hF1)
        have HBX := Lib.hid (step_box (w := wr) 2 X Y hF1 (by have := HT.out.lt; omega))
        clear hT1 hF1 b0 b1
        obtain ⟨b0, b1, _⟩ := H0.out.1.fr HF1.out HG.out.2.1
        obtain ⟨x0, x1, x2⟩ := HBX.out
        go_wp2_with fail
        refine (raise1_c HT1.out H.out.2.2.2.1 HXY.out.2 HXY.out.1).mono ?_
        rintro e w2 ⟨rfl, hT2, hF2⟩
        have HT2 := Lib.hid hT2
        have HF2 := Lib.hid (Fr.at2 HF1.out hF2)
        clear hT2 hF2 b0 b1 x0 x1 x2
        go_wp2
        go_roundg (n - (k + 1))
        case measure => have := HMK.out; omega
        case rel =>
          refine ⟨k + 1, by have := HMK.out; omega, by rw [Int.natCast_add]; rfl, ?_, HF2.out⟩
          rw [take_snoc HZ.out.1, sts_app]
          refine (HT2.out).congr ?_
          show _ = m0 (_ ++ [stz _])
          rw [m0_snoc]
          rfl
      have n2 : (po == 2) = false := by rw [beq_eq_false_iff_ne]; exact h2
      have HN := Lib.hid (And.intro h0 (And.intro h1 h2))
      clear h0 h1 h2
      go_wp2_with (with_reducible refine wpList_ld (o := ⟨some 22, _, _, _, _, _⟩) rfl 40 (.tmp 21) rfl _ rfl #[.int .i64 po, .int .i64 px, .int .i64 py] _ HC.out Try.underlying40 rfl (by kernel_rfl) ?_)
      go_wp2
      go_roundg (n - (k + 1))
      case measure => have := HMK.out; omega
      case rel =>
        refine ⟨k + 1, by have := HMK.out; omega, by rw [Int.natCast_add]; rfl, ?_, Fr.at' HF.out (Fr.al _ _)⟩
        rw [take_snoc HZ.out.1, sts_app]
        refine (HT.out.nix (Fr.al _ _)).congr ?_
        show _ = m0 (_ ++ [stz _])
        rw [m0_snoc]
        unfold mf
        have hlo := HZ.out.2.lo
        have := HN.out
        simp only at hlo
        rw [if_neg (show ¬ (stz (po, px, py)).op = 0 by unfold stz; simp only; omega), if_neg (show ¬ (stz (po, px, py)).op = 1 by unfold stz; simp only; omega), if_neg (show ¬ (stz (po, px, py)).op = 2 by unfold stz; simp only; omega)]
    · have hk : k = n := by have := HMK.out; omega
      subst hk
      have HT1 := Lib.hid (show Tab wr g V (m0 (sts l)) by have := HT.out; rwa [List.take_of_length_le (by rw [H.out.2.1]; exact Nat.le_refl _)] at this)
      go_wp2_with fail
      go_loopg [57] V (fun m u wx => k2Loop w0 V g (m0 (sts l)) m u wx)
      case atStart => exact ⟨0, rfl, rfl, HT1.out, HF.out⟩
      case round =>
        obtain ⟨k, hmk, rfl, hT, hF⟩ := hrel
        have HMK2 := Lib.hid hmk
        have HT2 := Lib.hid hT
        have HF2 := Lib.hid hF
        clear hT hF hmk
        by_cases hlt2 : k < V
        · have hki : (k : Int) < (V : Int) := by omega
          go_wp2_with fail
          go_loopg [61] V (fun m u wx => k3Loop w0 V g k (allF V k (m0 (sts l))) m u wx)
          case atStart => exact ⟨0, rfl, rfl, HT2.out, HF2.out⟩
          case round =>
            obtain ⟨i, hmi, rfl, hT, hF⟩ := hrel
            have HMI := Lib.hid hmi
            have HT3 := Lib.hid hT
            have HF3 := Lib.hid hF
            clear hT hF hmi
            by_cases hlt3 : i < V
            · have hii : (i : Int) < (V : Int) := by omega
              go_wp2_with fail
              go_loopg [65] V (fun m u wx => k4Loop w0 V g k i (rndF V k i (allF V k (m0 (sts l)))) m u wx)
              case atStart => exact ⟨0, rfl, rfl, HT3.out, HF3.out⟩
              case round =>
                obtain ⟨j, hmj, rfl, hT, hF⟩ := hrel
                obtain ⟨M, hM⟩ : ∃ M, rowF k i j (rndF V k i (allF V k (m0 (sts l)))) = M := ⟨_, rfl⟩
                have HM := Lib.hid hM
                rw [hM] at hT
                have HMJ := Lib.hid hmj
                have HT4 := Lib.hid hT
                have HF4 := Lib.hid hF
                clear hT hF hmj hM
                by_cases hlt4 : j < V
                · have hji : (j : Int) < (V : Int) := by omega
                  obtain ⟨b0, b1, _⟩ := H0.out.1.fr HF4.out HG.out.2.1
                  obtain ⟨a1, ha1⟩ : ∃ a1, M i k = a1 := ⟨_, rfl⟩
                  obtain ⟨a2, ha2⟩ : ∃ a2, M k j = a2 := ⟨_, rfl⟩
                  have HA := Lib.hid (And.intro ha1 ha2)
                  clear ha1 ha2
                  go_wp2_with fail
                  refine (atx_c HT4.out H.out.2.2.2.1 hlt3 hlt2).mono ?_
                  rintro e w1 ⟨rfl, hF1⟩
                  have HF1 := Lib.hid hF1
                  have HF5 := Lib.hid (Fr.at' HF4.out hF1)
                  have HT5 := Lib.hid (HT4.out.nix hF1)
                  clear hF1 b0 b1
                  rw [HA.out.1]
                  by_cases hp1 : 0 < a1
                  · have d1 : decide (0 < a1) = true := decide_eq_true hp1
                    have HP1 := Lib.hid hp1
                    obtain ⟨b0, b1, _⟩ := H0.out.1.fr HF5.out HG.out.2.1
                    clear hp1
                    go_wp2_with fail
                    refine (atx_c HT5.out H.out.2.2.2.1 hlt2 hlt4).mono ?_
                    rintro e w2 ⟨rfl, hF2⟩
                    have HF6 := Lib.hid (Fr.at' HF5.out hF2)
                    have HT6 := Lib.hid (HT5.out.nix hF2)
                    clear hF2 b0 b1 d1
                    rw [HA.out.2]
                    by_cases hp2 : 0 < a2
                    · have d2 : decide (0 < a2) = true := decide_eq_true hp2
                      have HP2 := Lib.hid hp2
                      have HB6 := Lib.hid (H0.out.1.fr HF6.out HG.out.2.1)
                      clear hp2
                      clear d2
                      by_cases hmx : a1 < a2
                      · obtain ⟨b0, b1, _⟩ := HB6.out
                        have HMX := Lib.hid (show max a1 a2 = a2 from Nat.max_eq_right (Nat.le_of_lt hmx))
                        go_upto_region 24 with fail
                        have HL := Lib.hid (Fr.refl w2 Nix)
                        go_region_held3 (fun w' => w'.cell? ⟨b, 0, none⟩ = some (.int .i64 (V : Nat)) ∧ w'.cell? ⟨b, 1, none⟩ = some (.slice (some ⟨g, 0, none⟩) (V * V) (V * V))) (first | with_reducible exact HB6.out.c | with_reducible exact (HB6.out.nix HL.out).c | with_reducible exact (HB6.out.nix (HL.out.t (Fr.drew _ _))).c | with_reducible exact (H0.out.1.fr HF9.out HG.out.2.1).c | go_keep)
                          (first
                            | (go_at_call 65; (first | with_reducible refine (atx_c (x := i) (y := k) (HT6.out.nix (HL.out.t (by first | exact Fr.drew _ _ | exact Fr.refl _ _))) H.out.2.2.2.1 hlt3 hlt2).mono ?_ | with_reducible refine (atx_c (x := k) (y := j) (HT6.out.nix (HL.out.t (by first | exact Fr.drew _ _ | exact Fr.refl _ _))) H.out.2.2.2.1 hlt2 hlt4).mono ?_); rintro e w9 ⟨rfl, hF9⟩; have HL := Lib.hid ((HL.out.t (by first | exact Fr.drew _ _ | exact Fr.refl _ _)).t hF9); clear hF9; first | rw [HA.out.1] | rw [HA.out.2])
                            | (go_at_call 86; (with_reducible refine (raisex_c (x := i) (y := j) (n := a2) (HT6.out.nix (HL.out.t (by first | exact Fr.drew _ _ | exact Fr.refl _ _))) H.out.2.2.2.1 hlt3 hlt4).mono ?_); rintro e w9 ⟨rfl, hT9, hF9⟩; have HT9 := Lib.hid hT9; have HF9 := Lib.hid (Fr.at2 (Fr.at' HF6.out (HL.out.t (by first | exact Fr.drew _ _ | exact Fr.refl _ _))) hF9); clear hT9 hF9))
                        all_goals
                          go_wp2
                          go_roundg (V - (j + 1))
                          case measure => have := HMJ.out; omega
                          case rel =>
                            refine ⟨j + 1, by have := HMJ.out; omega, by rw [Int.natCast_add]; rfl, HT9.out.congr ?_, HF9.out⟩
                            rw [rowF, HM.out]; unfold stp
                            rw [HA.out.1, HA.out.2, if_pos ⟨HP1.out, HP2.out⟩, HMX.out]
                      · obtain ⟨b0, b1, _⟩ := HB6.out
                        have HMX := Lib.hid (show max a1 a2 = a1 from Nat.max_eq_left (Nat.le_of_not_lt hmx))
                        go_upto_region 24 with fail
                        have HL := Lib.hid (Fr.refl w2 Nix)
                        go_region_held3 (fun w' => w'.cell? ⟨b, 0, none⟩ = some (.int .i64 (V : Nat)) ∧ w'.cell? ⟨b, 1, none⟩ = some (.slice (some ⟨g, 0, none⟩) (V * V) (V * V))) (first | with_reducible exact HB6.out.c | with_reducible exact (HB6.out.nix HL.out).c | with_reducible exact (HB6.out.nix (HL.out.t (Fr.drew _ _))).c | with_reducible exact (H0.out.1.fr HF9.out HG.out.2.1).c | go_keep)
                          (first
                            | (go_at_call 65; (first | with_reducible refine (atx_c (x := i) (y := k) (HT6.out.nix (HL.out.t (by first | exact Fr.drew _ _ | exact Fr.refl _ _))) H.out.2.2.2.1 hlt3 hlt2).mono ?_ | with_reducible refine (atx_c (x := k) (y := j) (HT6.out.nix (HL.out.t (by first | exact Fr.drew _ _ | exact Fr.refl _ _))) H.out.2.2.2.1 hlt2 hlt4).mono ?_); rintro e w9 ⟨rfl, hF9⟩; have HL := Lib.hid ((HL.out.t (by first | exact Fr.drew _ _ | exact Fr.refl _ _)).t hF9); clear hF9; first | rw [HA.out.1] | rw [HA.out.2])
                            | (go_at_call 86; (with_reducible refine (raisex_c (x := i) (y := j) (n := a1) (HT6.out.nix (HL.out.t (by first | exact Fr.drew _ _ | exact Fr.refl _ _))) H.out.2.2.2.1 hlt3 hlt4).mono ?_); rintro e w9 ⟨rfl, hT9, hF9⟩; have HT9 := Lib.hid hT9; have HF9 := Lib.hid (Fr.at2 (Fr.at' HF6.out (HL.out.t (by first | exact Fr.drew _ _ | exact Fr.refl _ _))) hF9); clear hT9 hF9))
                        all_goals
                          go_wp2
                          go_roundg (V - (j + 1))
                          case measure => have := HMJ.out; omega
                          case rel =>
                            refine ⟨j + 1, by have := HMJ.out; omega, by rw [Int.natCast_add]; rfl, HT9.out.congr ?_, HF9.out⟩
                            rw [rowF, HM.out]; unfold stp
                            rw [HA.out.1, HA.out.2, if_pos ⟨HP1.out, HP2.out⟩, HMX.out]
                    · have d2 : decide (0 < a2) = false := decide_eq_false hp2
                      have HP2 := Lib.hid hp2
                      clear hp2
                      go_wp2
                      go_roundg (V - (j + 1))
                      case measure => have := HMJ.out; omega
                      case rel =>
                        refine ⟨j + 1, by have := HMJ.out; omega, by rw [Int.natCast_add]; rfl, HT6.out.congr ?_, HF6.out⟩
                        rw [rowF, HM.out]; unfold stp
                        rw [if_neg (show ¬ (0 < M i k ∧ 0 < M k j) from fun q => HP2.out (HA.out.2 ▸ q.2))]
                  · have d1 : decide (0 < a1) = false := decide_eq_false hp1
                    have HP1 := Lib.hid hp1
                    clear hp1
                    go_wp2
                    go_roundg (V - (j + 1))
                    case measure => have := HMJ.out; omega
                    case rel =>
                      refine ⟨j + 1, by have := HMJ.out; omega, by rw [Int.natCast_add]; rfl, HT5.out.congr ?_, HF5.out⟩
                      rw [rowF, HM.out]; unfold stp
                      rw [if_neg (show ¬ (0 < M i k ∧ 0 < M k j) from fun q => HP1.out (HA.out.1 ▸ q.1))]
                · have hj : j = V := by have := HMJ.out; omega
                  subst hj
                  go_wp2
                  go_roundg (j - (i + 1))
                  case measure => have := HMI.out; omega
                  case rel =>
                    exact ⟨i + 1, by have := HMI.out; omega, by rw [Int.natCast_add]; rfl, HT4.out.congr (by rw [rndF, HM.out]), HF4.out⟩
            · have hi : i = V := by have := HMI.out; omega
              subst hi
              go_wp2
              go_roundg (i - (k + 1))
              case measure => have := HMK2.out; omega
              case rel =>
                exact ⟨k + 1, by have := HMK2.out; omega, by rw [Int.natCast_add]; rfl, HT3.out, HF3.out⟩
        · have hk : k = V := by have := HMK2.out; omega
          subst hk
          have HR := Lib.hid ((HF2.out.block p HP.out.1 HG.out.2.2).trans H0.out.2.2.2)
          have c0 := cell_block (j := 0) HR.out
          have c1 := cell_block (j := 1) HR.out
          have z0 := frozen_block (j := 0) HR.out
          have z1 := frozen_block (j := 1) HR.out
          obtain ⟨b0, b1, _⟩ := H0.out.1.fr HF2.out HG.out.2.1
          go_wp2
          have hg : ((wr.setCell ⟨p, 0, none⟩ (.int .i64 (k : Nat))).setCell ⟨p, 1, none⟩ (.slice (some ⟨g, 0, none⟩) (k * k) (k * k))).heap[p]? = some (.cells #[.int .i64 (k : Nat), .slice (some ⟨g, 0, none⟩) (k * k) (k * k)] 73 (0, 0)) := by rw [set_block _ (set_block _ HR.out)]; rfl
          refine bodyPost_ret (results_cell_row rfl _ _ p _ _ _ _ rfl hg Try.underlying73 rfl (by kernel_rfl)) rfl ?_
          have f2 : Fr w0 ((wr.setCell ⟨p, 0, none⟩ (.int .i64 (k : Nat))).setCell ⟨p, 1, none⟩ (.slice (some ⟨g, 0, none⟩) (k * k) (k * k))) (fun i => i = g ∨ i = p) := ((HF2.out.mono fun _ e => .inl e).trans (Fr.setCell (F := fun i => i = g ∨ i = p) _ _ _ (.inr rfl)) fun _ e => .inl e).trans (Fr.setCell (F := fun i => i = g ∨ i = p) _ _ _ (.inr rfl)) fun _ e => .inl e
          have f3 : Fr wr ((wr.setCell ⟨p, 0, none⟩ (.int .i64 (k : Nat))).setCell ⟨p, 1, none⟩ (.slice (some ⟨g, 0, none⟩) (k * k) (k * k))) (· = p) := (Fr.setCell (F := (· = p)) _ _ _ rfl).trans (Fr.setCell (F := (· = p)) _ _ _ rfl) fun _ e => .inl e
          exact ⟨g, k * k, rfl, HG.out.1, HT2.out.fr f3 (fun e => HG.out.2.2 e.symm), H0.out.2.2.1.trans f2 fun i hi => .inr (by rcases hi with rfl | rfl; exact HG.out.1; exact HP.out.2)⟩
end Go.Proofs.Ytapnmgkpljlgmaa
namespace Go.Proofs.Ytapnmgkpljlgmaa
open Go.RowKit
def TBox (w : World) (b V g c : Nat) (M : Mat) : Prop := OBox w b V g c ∧ Tab w g V M
theorem TBox.nix {w w' : World} {b V g c : Nat} {M : Mat} (h : TBox w b V g c M) (f : Fr w w' Nix) : TBox w' b V g c M := ⟨h.1.nix f, h.2.nix f⟩
theorem obox_new' {w w1 : World} {g c V : Nat} {T : TypeId} (f : Fr (w.alloc (.cells #[.int .i64 (V : Nat), .slice (some ⟨g, 0, none⟩) (V * V) c] T)) w1 Nix) : OBox w1 w.heap.size V g c := (obox_new w V g c T).nix f
/-- Facts about a number of the table, as the walk asks for them. -/
structure Is (a k : Nat) : Prop where
  n : (a == k) = true
  i : ((a : Int) == (k : Int)) = true
structure Isnt (a k : Nat) : Prop where
  n : (a == k) = false
  i : ((a : Int) == (k : Int)) = false
theorem Is.mk' {a k : Nat} (h : a = k) : Is a k := by subst h; exact ⟨beq_self_eq_true _, beq_self_eq_true _⟩
theorem Isnt.mk' {a k : Nat} (h : a ≠ k) : Isnt a k := ⟨by rw [beq_eq_false_iff_ne]; exact h, by rw [beq_eq_false_iff_ne]; omega⟩
set_option maxRecDepth 10000 in
set_option maxHeartbeats 1000000 in
theorem sameo_c {V g c : Nat} {M : Mat} {x y : Nat} {w : World} (h : Tab w g V M) (hV : V ≤ 12) (hx : x < V) (hy : y < V) :
    Calls Try.prog 66 #[.agg #[.int .i64 (V : Nat), .slice (some ⟨g, 0, none⟩) (V * V) c], .int .i64 (x : Nat), .int .i64 (y : Nat)] w fun e w' => e = .returned (.bool (M x y == 1 && M y x == 1)) ∧ Fr w w' Nix := by
  have HT := Lib.hid (h.nix (Fr.al w (.cells #[.int .i64 (V : Nat), .slice (some ⟨g, 0, none⟩) (V * V) c] 73)))
  clear h
  obtain ⟨a1, h1⟩ : ∃ a, M x y = a := ⟨_, rfl⟩
  obtain ⟨a2, h2⟩ : ∃ a, M y x = a := ⟨_, rfl⟩
  have HA := Lib.hid (And.intro h1 h2)
  rw [h1, h2]
  clear h1 h2
  obtain ⟨r, hr⟩ : ∃ r, (a1 == 1 && a2 == 1) = r := ⟨_, rfl⟩
  have HR := Lib.hid hr
  rw [hr]
  clear hr
  go_enter Try.func66, Try.ntmps66
  go_wp2_with fail
  refine (atx_c HT.out hV hx hy).mono ?_
  rintro e w1 ⟨rfl, hF1⟩
  rw [HA.out.1]
  have HT1 := Lib.hid (HT.out.nix hF1)
  have HF1 := Lib.hid ((Fr.al w _).t hF1)
  have hB := obox_new' hF1
  clear hF1
  by_cases q : a1 = 1
  · obtain ⟨n1, n2⟩ := Is.mk' q
    have n3 : ((a1 : Int) == 1) = true := n2
    clear q
    obtain ⟨b0, b1, _⟩ := hB
    go_wp2_with fail
    refine (atx_c HT1.out hV hy hx).mono ?_
    rintro e w2 ⟨rfl, hF2⟩
    rw [HA.out.2]
    have HR := Lib.hid (show (a2 == 1) = r by rw [← HR.out, n1, Bool.true_and])
    have HF2 := Lib.hid (HF1.out.t hF2)
    clear hF2 b0 b1 n1 n2 n3
    by_cases q : a2 = 1
    · obtain ⟨n1, n2⟩ := Is.mk' q
      have n3 : ((a2 : Int) == 1) = true := n2
      have HR := Lib.hid (HR.out.symm.trans n1)
      go_wp2
      go_ret
      exact ⟨congrArg (fun z => Ending.returned (Value.bool z)) HR.out.symm, HF2.out⟩
    · obtain ⟨n1, n2⟩ := Isnt.mk' q
      have n3 : ((a2 : Int) == 1) = false := n2
      have HR := Lib.hid (HR.out.symm.trans n1)
      go_wp2
      go_ret
      exact ⟨congrArg (fun z => Ending.returned (Value.bool z)) HR.out.symm, HF2.out⟩
  · obtain ⟨n1, n2⟩ := Isnt.mk' q
    have n3 : ((a1 : Int) == 1) = false := n2
    have HR := Lib.hid (show r = false by rw [← HR.out, n1, Bool.false_and])
    go_wp2
    go_ret
    exact ⟨congrArg (fun z => Ending.returned (Value.bool z)) HR.out.symm, HF1.out⟩
theorem step_boxn (w : World) {w1 : World} (o x y : Int) (f : Fr (w.alloc (.cells #[.int .i64 o, .int .i64 x, .int .i64 y] 40)) w1 Nix) :
    w1.cell? ⟨w.heap.size, 0, none⟩ = some (.int .i64 o) ∧ w1.cell? ⟨w.heap.size, 1, none⟩ = some (.int .i64 x) ∧ w1.cell? ⟨w.heap.size, 2, none⟩ = some (.int .i64 y) := by
  have h := (f.block w.heap.size (by simp) fun e => e).trans (heap_alloc_new w (.cells #[.int .i64 o, .int .i64 x, .int .i64 y] 40))
  exact ⟨by rw [cell_block h]; rfl, by rw [cell_block h]; rfl, by rw [cell_block h]; rfl⟩
def fLoop (w0 : World) (M : Mat) (n m : Nat) (u : Value) (wr : World) : Prop :=
  ∃ k : Nat, m + k = n ∧ u = .int .i64 (k : Nat) ∧ (∀ i, i < k → M i i ≠ 2) ∧ Fr w0 wr Nix
def bad3 (M : Mat) (f : Stp) : Bool := f.op == 3 && decide (0 < M f.x f.y) && decide (0 < M f.y f.x)
theorem fitB_eq (v : Nat) (F : List Stp) : fitB v F = (((List.range v).all fun i => known v F i i != 2) && F.all fun f => !bad3 (known v F) f) := rfl
def fzLoop (w0 : World) (M : Mat) (l : List Z3) (n m : Nat) (u : Value) (wr : World) : Prop :=
  ∃ k : Nat, m + k = n ∧ u = .int .i64 (k : Nat) ∧ (∀ z ∈ l.take k, bad3 M (stz z) = false) ∧ Fr w0 wr Nix
set_option maxRecDepth 10000 in
set_option maxHeartbeats 4000000 in
theorem fits_c {V : Nat} {A : Option Addr} {n c : Nat} {l : List Z3} {w : World} (h : Rd w 3 A n (z3s l)) (hn : n ≤ 100000) (hV : V ≤ 12) (hl : ∀ z ∈ l, WfZ (V : Int) z) :
    Calls Try.prog 47 #[.int .i64 (V : Nat), .slice A n c] w (Bpost w (fitB V (sts l))) := by
  have hlen : l.length = n := by have := h.1; rw [z3s_len] at this; omega
  have H := Lib.hid (And.intro h (And.intro hlen (And.intro hl (And.intro hV hn))))
  have hVi : (V : Int) ≤ 12 := by omega
  have hni : (n : Int) ≤ 100000 := by omega
  clear h hlen hl hV hn
  go_enter Try.func47, Try.ntmps47
  go_wp2_with fail
  refine (known_c H.out.1 H.out.2.2.2.2 H.out.2.2.2.1 H.out.2.2.1).mono ?_
  rintro e w1 ⟨g, cc, rfl, hg, hT, hF⟩
  unfold ordV
  obtain ⟨M, hM⟩ : ∃ M, known V (sts l) = M := ⟨_, rfl⟩
  have HE := Lib.hid (show fitB V (sts l) = (((List.range V).all fun i => M i i != 2) && (sts l).all fun f => !bad3 M f) by rw [← hM]; rfl)
  rw [hM] at hT
  have HTB := Lib.hid (show TBox _ w1.heap.size V g cc M from ⟨obox_new w1 V g cc 73, hT.nix (Fr.al w1 _)⟩)
  have HF0 := Lib.hid (hF.a (.cells #[.int .i64 (V : Nat), .slice (some ⟨g, 0, none⟩) (V * V) cc] 73))
  clear hM hT hF hg
  go_upto_region 2 with fail
  obtain ⟨w0, hw0⟩ : ∃ w0, w1.alloc (.cells #[.int .i64 (V : Nat), .slice (some ⟨g, 0, none⟩) (V * V) cc] 73) = w0 := ⟨_, rfl⟩
  obtain ⟨b, hb⟩ : ∃ b, w1.heap.size = b := ⟨_, rfl⟩
  rw [hw0] at HTB HF0 ⊢
  rw [hb] at HTB ⊢
  clear hw0 hb
  go_wp2_with fail
  go_loopg [13] V (fun m u wr => fLoop w0 M V m u wr)
  case atStart => exact ⟨0, rfl, rfl, fun i hi => absurd hi (by omega), Fr.refl _ _⟩
  case round =>
    obtain ⟨i, hmi, rfl, hok, hF⟩ := hrel
    have HMI := Lib.hid hmi
    have HOK := Lib.hid hok
    have HF := Lib.hid hF
    clear hok hF hmi
    by_cases hlt : i < V
    · have hii : (i : Int) < (V : Int) := by omega
      obtain ⟨b0, b1, _⟩ := (HTB.out.nix HF.out).1
      go_wp2_with fail
      refine (atx_c (HTB.out.nix HF.out).2 H.out.2.2.2.1 hlt hlt).mono ?_
      rintro e w2 ⟨rfl, hF2⟩
      have HF2 := Lib.hid (HF.out.t hF2)
      clear hF2 b0 b1
      obtain ⟨a, ha⟩ : ∃ a, M i i = a := ⟨_, rfl⟩
      have HA := Lib.hid ha
      rw [ha]
      clear ha
      by_cases q : a = 2
      · obtain ⟨n1, n2⟩ := Is.mk' q
        have HR := Lib.hid (show fitB V (sts l) = false by rw [HE.out, show ((List.range V).all fun i => M i i != 2) = false from List.all_eq_false.2 ⟨i, List.mem_range.2 hlt, by rw [HA.out, q]; decide⟩, Bool.false_and])
        go_wp2
        go_ret
        exact ⟨congrArg (fun z => Ending.returned (Value.bool z)) HR.out.symm, HF0.out.t HF2.out⟩
      · obtain ⟨n1, n2⟩ := Isnt.mk' q
        have HQ := Lib.hid q
        clear q
        go_wp2
        go_roundg (V - (i + 1))
        case measure => have := HMI.out; omega
        case rel =>
          refine ⟨i + 1, by have := HMI.out; omega, by rw [Int.natCast_add]; rfl, fun j hj => ?_, HF2.out⟩
          rcases Nat.lt_succ_iff_lt_or_eq.1 hj with hj | rfl
          · exact HOK.out j hj
          · rw [HA.out]; exact HQ.out
    · have hi : i = V := by have := HMI.out; omega
      subst hi
      have HE2 := Lib.hid (show fitB i (sts l) = (sts l).all fun f => !bad3 M f by
        rw [HE.out, show ((List.range i).all fun j => M j j != 2) = true from List.all_eq_true.2 fun j hj => by rw [bne_iff_ne]; exact HOK.out j (List.mem_range.1 hj), Bool.true_and])
      go_wp2_with fail
      go_loopg [24] n (fun m u wx => fzLoop w0 M l n m u wx)
      case atStart => exact ⟨0, rfl, rfl, fun z hz => by simp at hz, HF.out⟩
      case round =>
        obtain ⟨k, hmk, rfl, hok, hF⟩ := hrel
        have HMK := Lib.hid hmk
        have HOK3 := Lib.hid hok
        have HF3 := Lib.hid hF
        clear hok hF hmk
        by_cases hlt2 : k < n
        · obtain ⟨ad, po, px, py, rfl, hz, hc⟩ := rd3 (H.out.1.nix (HF0.out.t HF3.out)) hlt2
          have HC := Lib.hid hc
          have HZ := Lib.hid (And.intro hz (H.out.2.2.1 _ (List.mem_of_getElem? hz)))
          clear hz hc
          have HX := Lib.hid (Fr.al wr (.cells #[.int .i64 po, .int .i64 px, .int .i64 py] 40))
          by_cases h3 : po = 3
          · subst h3
            obtain ⟨z0, z1, z2, z3, z4⟩ := HZ.out.2.ok (by show ¬ _ = _; omega) (by show ¬ _ = _; omega)
            simp only at z0 z1 z2 z3 z4
            obtain ⟨X, rfl⟩ : ∃ X : Nat, px = X := ⟨px.toNat, by omega⟩
            obtain ⟨Y, rfl⟩ : ∃ Y : Nat, py = Y := ⟨py.toNat, by omega⟩
            have HXY := Lib.hid (show X < i ∧ Y < i by omega)
            clear z0 z1 z2 z3 z4
            obtain ⟨a1, h1⟩ : ∃ a, M X Y = a := ⟨_, rfl⟩
            obtain ⟨a2, h2⟩ : ∃ a, M Y X = a := ⟨_, rfl⟩
            have HA := Lib.hid (And.intro h1 h2)
            clear h1 h2
            have HBD := Lib.hid (show bad3 M (stz (3, (X : Int), (Y : Int))) = (decide (0 < a1) && decide (0 < a2)) by rw [← HA.out.1, ← HA.out.2]; rfl)
            have HT3 := Lib.hid (HTB.out.nix (HF3.out.t HX.out))
            obtain ⟨b0, b1, _⟩ := HT3.out.1
            go_wp2_with (with_reducible refine wpList_ld (o := ⟨some 27, _, _, _, _, _⟩) rfl 40 (.tmp 26) rfl _ rfl #[.int .i64 3, .int .i64 X, .int .i64 Y] _ HC.out Try.underlying40 rfl (by kernel_rfl) ?_)
            refine (atx_c HT3.out.2 H.out.2.2.2.1 HXY.out.1 HXY.out.2).mono ?_
            rintro e w2 ⟨rfl, hF2⟩
            rw [HA.out.1]
            have HF4 := Lib.hid ((HF3.out.t HX.out).t hF2)
            have HBX := Lib.hid (step_boxn wr 3 X Y hF2)
            clear hF2 b0 b1
            by_cases hp1 : 0 < a1
            · have d1 : decide (0 < a1) = true := decide_eq_true hp1
              obtain ⟨b0, b1, _⟩ := (HTB.out.nix HF4.out).1
              obtain ⟨x0, x1, x2⟩ := HBX.out
              have HBD := Lib.hid (show bad3 M (stz (3, (X : Int), (Y : Int))) = decide (0 < a2) by rw [HBD.out, d1, Bool.true_and])
              clear hp1
              go_wp2_with fail
              refine (atx_c (HTB.out.nix HF4.out).2 H.out.2.2.2.1 HXY.out.2 HXY.out.1).mono ?_
              rintro e w3 ⟨rfl, hF2⟩
              rw [HA.out.2]
              have HF5 := Lib.hid (HF4.out.t hF2)
              clear hF2 b0 b1 x0 x1 x2 d1
              by_cases hp2 : 0 < a2
              · have d2 : decide (0 < a2) = true := decide_eq_true hp2
                have HR := Lib.hid (show fitB i (sts l) = false by
                  rw [HE2.out]
                  exact List.all_eq_false.2 ⟨stz (3, (X : Int), (Y : Int)), List.mem_map.2 ⟨_, List.mem_of_getElem? HZ.out.1, rfl⟩, by rw [HBD.out, d2]; decide⟩)
                clear hp2
                go_wp2
                go_ret
                exact ⟨congrArg (fun z => Ending.returned (Value.bool z)) HR.out.symm, HF0.out.t HF5.out⟩
              · have d2 : decide (0 < a2) = false := decide_eq_false hp2
                have HBD := Lib.hid (HBD.out.trans d2)
                clear hp2
                go_wp2
                go_roundg (n - (k + 1))
                case measure => have := HMK.out; omega
                case rel =>
                  refine ⟨k + 1, by have := HMK.out; omega, by rw [Int.natCast_add]; rfl, fun z hz => ?_, HF5.out⟩
                  rw [take_snoc HZ.out.1] at hz
                  rcases List.mem_append.1 hz with hz | hz
                  · exact HOK3.out z hz
                  · rw [List.mem_singleton.1 hz]
                    exact HBD.out
            · have d1 : decide (0 < a1) = false := decide_eq_false hp1
              have HBD := Lib.hid (show bad3 M (stz (3, (X : Int), (Y : Int))) = false by rw [HBD.out, d1, Bool.false_and])
              clear hp1
              go_wp2
              go_roundg (n - (k + 1))
              case measure => have := HMK.out; omega
              case rel =>
                refine ⟨k + 1, by have := HMK.out; omega, by rw [Int.natCast_add]; rfl, fun z hz => ?_, HF4.out⟩
                rw [take_snoc HZ.out.1] at hz
                rcases List.mem_append.1 hz with hz | hz
                · exact HOK3.out z hz
                · rw [List.mem_singleton.1 hz]
                  exact HBD.out
          · have n3 : (po == 3) = false := by rw [beq_eq_false_iff_ne]; exact h3
            have HBD := Lib.hid (show bad3 M (stz (po, px, py)) = false by
              have hlo := HZ.out.2.lo
              simp only at hlo
              unfold bad3
              rw [show ((stz (po, px, py)).op == 3) = false from by rw [beq_eq_false_iff_ne]; unfold stz; simp only; omega, Bool.false_and, Bool.false_and])
            clear h3
            have HC := HC
            go_wp2_with (with_reducible refine wpList_ld (o := ⟨some 27, _, _, _, _, _⟩) rfl 40 (.tmp 26) rfl _ rfl #[.int .i64 po, .int .i64 px, .int .i64 py] _ HC.out Try.underlying40 rfl (by kernel_rfl) ?_)
            go_wp2
            go_roundg (n - (k + 1))
            case measure => have := HMK.out; omega
            case rel =>
              refine ⟨k + 1, by have := HMK.out; omega, by rw [Int.natCast_add]; rfl, fun z hz => ?_, HF3.out.a _⟩
              rw [take_snoc HZ.out.1] at hz
              rcases List.mem_append.1 hz with hz | hz
              · exact HOK3.out z hz
              · rw [List.mem_singleton.1 hz]
                exact HBD.out
        · have hk : k = n := by have := HMK.out; omega
          subst hk
          have HR := Lib.hid (show fitB i (sts l) = true by
            rw [HE2.out]
            refine List.all_eq_true.2 fun f hf => ?_
            obtain ⟨z, hz, rfl⟩ := List.mem_map.1 hf
            have h1 := HOK3.out
            rw [List.take_of_length_le (by rw [H.out.2.1]; exact Nat.le_refl _)] at h1
            rw [h1 z hz]; rfl)
          go_wp2
          go_ret
          exact ⟨congrArg (fun z => Ending.returned (Value.bool z)) HR.out.symm, HF0.out.t HF3.out⟩
theorem wstp {V : Nat} {o x y : Int} (h : WfZ (V : Int) (o, x, y)) (h8 : o ≤ 7) : ∃ X Y : Nat, x = X ∧ y = Y ∧ X < V ∧ Y < V ∧ X ≠ Y := by
  obtain ⟨h1, h2, h3, h4, h5⟩ := h.ok (by show ¬ _ = _; simp only; omega) (by show ¬ _ = _; simp only; omega)
  simp only at h1 h2 h3 h4 h5
  exact ⟨x.toNat, y.toNat, by omega, by omega, by omega, by omega, by omega⟩
end Go.Proofs.Ytapnmgkpljlgmaa
namespace Go.Proofs.Ytapnmgkpljlgmaa
open Go.RowKit
theorem beq_nat2 (a : Nat) : ((a : Int) == 2) = (a == 2) := by
  rw [Bool.eq_iff_iff, beq_iff_eq, beq_iff_eq]; omega
theorem ret_bb {a b : Bool} (h : a = b) : Ending.returned (Value.bool a) = Ending.returned (Value.bool b) := by rw [h]
theorem cell_nx {wa wb : World} {B j : Nat} {x : Value} (f : Fr wa wb Nix) (h : wa.cell? ⟨B, j, none⟩ = some x) : wb.cell? ⟨B, j, none⟩ = some x := by
  have hb : B < wa.heap.size := by
    refine Classical.byContradiction fun q => ?_
    rw [World.cell?] at h
    simp [Array.getElem?_eq_none (Nat.le_of_not_lt q)] at h
  exact (f.cell (a := ⟨B, j, none⟩) hb fun q => q).trans h
theorem cells3 {w w' : World} {p : Nat} {a b c : Value} (h : w.cell? ⟨p, 0, none⟩ = some a ∧ w.cell? ⟨p, 1, none⟩ = some b ∧ w.cell? ⟨p, 2, none⟩ = some c) (f : Fr w w' Nix) : w'.cell? ⟨p, 0, none⟩ = some a ∧ w'.cell? ⟨p, 1, none⟩ = some b ∧ w'.cell? ⟨p, 2, none⟩ = some c := ⟨cell_nx f h.1, cell_nx f h.2.1, cell_nx f h.2.2⟩
set_option maxRecDepth 10000 in
set_option maxHeartbeats 4000000 in
theorem holds_c {V : Nat} {A : Option Addr} {n c X Y : Nat} {o : Int} {l : List Z3} {w : World} (h : Rd w 3 A n (z3s l)) (hn : n ≤ 100000) (hV : V ≤ 12) (hl : ∀ z ∈ l, WfZ (V : Int) z) (ho : 4 ≤ o) (ho7 : o ≤ 7) (hX : X < V) (hY : Y < V) :
    Calls Try.prog 67 #[.int .i64 (V : Nat), .slice A n c, .agg #[.int .i64 o, .int .i64 (X : Nat), .int .i64 (Y : Nat)]] w (Bpost w (holdB V (sts l) (stz (o, X, Y)))) := by
  have H := Lib.hid (And.intro h (And.intro hn (And.intro hl hV)))
  have HXY := Lib.hid (And.intro hX hY)
  have HS := Lib.hid (Fr.al w (.cells #[.int .i64 o, .int .i64 (X : Nat), .int .i64 (Y : Nat)] 40))
  obtain ⟨M, hM⟩ : ∃ M, known V (sts l) = M := ⟨_, rfl⟩
  have HM := Lib.hid hM
  obtain ⟨a1, h1⟩ : ∃ a, M X Y = a := ⟨_, rfl⟩
  obtain ⟨a2, h2⟩ : ∃ a, M Y X = a := ⟨_, rfl⟩
  have HA := Lib.hid (And.intro h1 h2)
  obtain ⟨r, hr⟩ : ∃ r, holdB V (sts l) (stz (o, X, Y)) = r := ⟨_, rfl⟩
  have HR := Lib.hid (show (if (stz (o, X, Y)).op = 4 then a1 == 2 else if (stz (o, X, Y)).op = 5 then decide (0 < a1) else if (stz (o, X, Y)).op = 6 then a1 == 1 && a2 == 1 else a1 == 2 || a2 == 2) = r by
    rw [← h1, ← h2, ← hM, ← hr]; rfl)
  rw [hr]
  clear h hn hl hV hM h1 h2 hr hX hY
  have key : o = 4 ∨ o = 5 ∨ o = 6 ∨ o = 7 := by omega
  clear ho ho7
  go_enter Try.func67, Try.ntmps67
  go_wp2_with fail
  refine (known_c (H.out.1.nix HS.out) H.out.2.1 H.out.2.2.2 H.out.2.2.1).mono ?_
  rintro e w1 ⟨g, cc, rfl, hg, hT, hF⟩
  unfold ordV
  rw [HM.out] at hT
  have HTB := Lib.hid (show TBox _ w1.heap.size V g cc M from ⟨obox_new w1 V g cc 73, hT.nix (Fr.al w1 _)⟩)
  have HF0 := Lib.hid ((HS.out.t hF).a (.cells #[.int .i64 (V : Nat), .slice (some ⟨g, 0, none⟩) (V * V) cc] 73))
  have HBX := Lib.hid (step_boxn w o X Y (hF.a (.cells #[.int .i64 (V : Nat), .slice (some ⟨g, 0, none⟩) (V * V) cc] 73)))
  clear hT hF hg
  go_upto_region 2 with fail
  obtain ⟨w0, hw0⟩ : ∃ w0, w1.alloc (.cells #[.int .i64 (V : Nat), .slice (some ⟨g, 0, none⟩) (V * V) cc] 73) = w0 := ⟨_, rfl⟩
  obtain ⟨b, hb⟩ : ∃ b, w1.heap.size = b := ⟨_, rfl⟩
  obtain ⟨p, hp⟩ : ∃ p, w.heap.size = p := ⟨_, rfl⟩
  rw [hw0] at HTB HF0 HBX ⊢
  rw [hb] at HTB ⊢
  rw [hp] at HBX ⊢
  clear hw0 hb hp
  obtain ⟨x0, x1, x2⟩ := HBX.out
  obtain ⟨b0, b1, _⟩ := HTB.out.1
  rcases key with rfl | rfl | rfl | rfl
  · go_wp2_with fail
    refine (atx_c HTB.out.2 H.out.2.2.2 HXY.out.1 HXY.out.2).mono ?_
    rintro e w2 ⟨rfl, hF2⟩
    rw [HA.out.1]
    have HF2 := Lib.hid (HF0.out.t hF2)
    clear hF2 b0 b1 x0 x1 x2
    go_wp2
    go_ret
    exact ⟨ret_bb ((beq_nat2 a1).trans HR.out), HF2.out⟩
  · go_wp2_with fail
    refine (atx_c HTB.out.2 H.out.2.2.2 HXY.out.1 HXY.out.2).mono ?_
    rintro e w2 ⟨rfl, hF2⟩
    rw [HA.out.1]
    have HF2 := Lib.hid (HF0.out.t hF2)
    clear hF2 b0 b1 x0 x1 x2
    go_wp2
    go_ret
    exact ⟨ret_bb HR.out, HF2.out⟩
  · go_wp2_with fail
    refine (sameo_c HTB.out.2 H.out.2.2.2 HXY.out.1 HXY.out.2).mono ?_
    rintro e w2 ⟨rfl, hF2⟩
    rw [HA.out.1, HA.out.2]
    have HF2 := Lib.hid (HF0.out.t hF2)
    clear hF2 b0 b1 x0 x1 x2
    go_wp2
    go_ret
    exact ⟨ret_bb HR.out, HF2.out⟩
  · go_wp2_with fail
    refine (atx_c HTB.out.2 H.out.2.2.2 HXY.out.1 HXY.out.2).mono ?_
    rintro e w2 ⟨rfl, hF2⟩
    rw [HA.out.1]
    have HF2 := Lib.hid hF2
    clear hF2 b0 b1 x0 x1 x2
    by_cases q : a1 = 2
    · obtain ⟨n1, n2⟩ := Is.mk' q
      have n3 : ((a1 : Int) == 2) = true := n2
      have HR := Lib.hid (show true = r by rw [← HR.out]; show _ = (a1 == 2 || a2 == 2); rw [n1, Bool.true_or])
      clear q
      go_wp2
      go_ret
      exact ⟨ret_bb HR.out, HF0.out.t HF2.out⟩
    · obtain ⟨n1, n2⟩ := Isnt.mk' q
      have n3 : ((a1 : Int) == 2) = false := n2
      have HR := Lib.hid (show (a2 == 2) = r by rw [← HR.out]; show _ = (a1 == 2 || a2 == 2); rw [n1, Bool.false_or])
      clear q
      obtain ⟨x0, x1, x2⟩ := cells3 HBX.out HF2.out
      obtain ⟨b0, b1, _⟩ := (HTB.out.nix HF2.out).1
      go_wp2_with fail
      refine (atx_c (HTB.out.nix HF2.out).2 H.out.2.2.2 HXY.out.2 HXY.out.1).mono ?_
      rintro e w3 ⟨rfl, hF3⟩
      rw [HA.out.2]
      have HF3 := Lib.hid (HF2.out.t hF3)
      clear hF3 b0 b1 x0 x1 x2 n1 n2 n3
      go_wp2
      go_ret
      exact ⟨ret_bb ((beq_nat2 a2).trans HR.out), HF0.out.t HF3.out⟩
end Go.Proofs.Ytapnmgkpljlgmaa
