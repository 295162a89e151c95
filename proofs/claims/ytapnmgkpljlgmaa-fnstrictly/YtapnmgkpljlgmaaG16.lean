/- Slices that are read, and slices of a call's own: words for the laws. LB Slices of steps turned into others: conv, plain. Good. -/
import Derived.Test.YtapnmgkpljlgmaaG01
import Derived.Deep.LoopGhost
import Derived.Deep.DeepCutAuto
import Derived.Laws.Rows
set_option linter.unusedVariables false
set_option linter.unusedSimpArgs false
namespace Go.Proofs.Ytapnmgkpljlgmaa
open Go.RowKit

/-- The slice at A of n elements, each of so many cells, reads as xs. -/
def Rd (w : World) (size : Nat) (A : Option Addr) (n : Nat) (xs : List Value) : Prop :=
  xs.length = n * size ∧ (0 < n → ∃ ad, A = some ad ∧ ad.block < w.heap.size ∧ ∀ k j u, j < size → xs[k * size + j]? = some u → w.cell? ((ad.add (k * size)).add j) = some u)
theorem Fr.t {a b c : World} (h : Fr a b Nix) (k : Fr b c Nix) : Fr a c Nix := h.trans k fun _ e => e.elim
theorem Fr.a {a b : World} (h : Fr a b Nix) (o : Obj) : Fr a (b.alloc o) Nix := h.t (Fr.alloc _ _ _)
theorem Fr.al (a : World) (o : Obj) : Fr a (a.alloc o) Nix := Fr.alloc _ _ _
theorem add_block (a : Addr) (n : Nat) : (a.add n).block = a.block := by unfold Addr.add; split <;> rfl
theorem add_add (a : Addr) (i j : Nat) : (a.add i).add j = a.add (i + j) := by
  unfold Addr.add
  by_cases hi : i = 0 <;> by_cases hj : j = 0 <;> simp [hi, hj, Nat.add_assoc]
theorem Rd.nix {w w' : World} {size : Nat} {A : Option Addr} {n : Nat} {xs : List Value} (h : Rd w size A n xs) (f : Fr w w' Nix) : Rd w' size A n xs :=
  ⟨h.1, fun hn => by
    obtain ⟨ad, e, hb, hc⟩ := h.2 hn
    exact ⟨ad, e, Nat.lt_of_lt_of_le hb f.size, fun k j u hj hu => (f.cell (a := (ad.add (k * size)).add j) (by rw [add_block, add_block]; exact hb) fun q => q).trans (hc k j u hj hu)⟩⟩

/-- A slice of the call's own, that was not there at w. -/
structure Fsh (w wr : World) (T : TypeId) (size : Nat) (v : Value) (n : Nat) (xs : List Value) : Prop where
  own : wr.ownsRow 0 T size v n xs
  new : ∀ g, v.ownBlock = some g → w.heap.size ≤ g
  fr : Fr w wr Nix
  shp : ∃ g c, v = .slice (some ⟨g, 0, none⟩) n c

theorem Fsh.nix {w wr w' : World} {T : TypeId} {size : Nat} {v : Value} {n : Nat} {xs : List Value} (h : Fsh w wr T size v n xs) (f : Fr wr w' Nix) : Fsh w w' T size v n xs :=
  ⟨f.row h.own fun _ _ q => q, h.new, h.fr.trans f fun _ q => q.elim, h.shp⟩
theorem Fsh.app {w wr wa w1 : World} {T : TypeId} {size : Nat} {v : Value} {n m g cap : Nat} {xs news : List Value} (h : Fsh w wr T size v n xs) (ha : Fr wr wa Nix)
    (hown : w1.ownsRow 0 T size (.slice (some ⟨g, 0, none⟩) (n + m) cap) (n + m) (xs ++ news)) (hg : wa.grownBy w1 v.ownBlock) (hn : v.ownBlock = some g ∨ wa.heap.size ≤ g) :
    Fsh w w1 T size (.slice (some ⟨g, 0, none⟩) (n + m) cap) (n + m) (xs ++ news) := by
  refine ⟨hown, fun k hk => ?_, h.fr.trans ((ha.mono fun _ e => e.elim).trans (Fr.grown (F := fun k => v.ownBlock = some k) hg fun k hk => hk) fun _ => .inl) fun i hi => .inr (h.new i hi), _, _, rfl⟩
  simp only [Value.ownBlock, Option.some.injEq] at hk
  subst hk
  rcases hn with hn | hn
  · exact h.new _ hn
  · have := h.fr.size; have := ha.size; omega
theorem Fsh.empty (w : World) (T : TypeId) (size : Nat) : Fsh w (w.alloc (.cells #[] T)) T size (.slice (some ⟨w.heap.size, 0, none⟩) 0 0) 0 [] := by
  refine ⟨⟨by simp, .inr ⟨w.heap.size, 0, #[], rfl, Nat.zero_le _, heap_alloc_new w _, Nat.le_refl _, by unfold maxLen; omega, by simp, by simp⟩⟩, fun g hg => ?_, Fr.al _ _, _, _, rfl⟩
  simp only [Value.ownBlock, Option.some.injEq] at hg
  omega
theorem Fsh.base {a w wr : World} {T : TypeId} {size : Nat} {v : Value} {n : Nat} {xs : List Value} (h : Fsh w wr T size v n xs) (f : Fr a w Nix) : Fsh a wr T size v n xs :=
  ⟨h.own, fun g hg => Nat.le_trans f.size (h.new g hg), f.trans h.fr fun _ q => q.elim, h.shp⟩
theorem Fsh.rd {w wr : World} {T : TypeId} {size : Nat} {A : Option Addr} {n m c : Nat} {xs : List Value} (h : Fsh w wr T size (.slice A m c) n xs) : Rd wr size A n xs := by
  refine ⟨h.own.1, fun hn => ?_⟩
  rcases h.own.2 with ⟨_, h0⟩ | ⟨g, cap, cur, hv, _, hg, _⟩
  · omega
  · simp only [Value.slice.injEq] at hv
    obtain ⟨rfl, rfl, rfl⟩ := hv
    refine ⟨_, rfl, heap_lt hg, fun k j u hj hu => ?_⟩
    rw [add_add]
    exact h.own.cells (g := g) rfl _ _ hu

theorem size_alloc (w : World) (o : Obj) : (w.alloc o).heap.size = w.heap.size + 1 := by simp
section
variable {P : Program} (w : World)
/-- A struct is read out of its cells. -/
theorem run_ld (ad : Addr) (ty : TypeId) (cs : List Value) (d : TypeDesc) (hc : ∀ j v, cs[j]? = some v → w.cell? (ad.add j) = some v)
    (hu : P.underlying ty = some d) (hd : (match d with | .struct _ | .array _ _ => true | _ => false) = true) (hi : (P.info? ty).map (·.size) = some cs.length) :
    (loadVar ty ad).run P w = .ok (.agg cs.toArray) w := by
  have hl := run_loadCells_list (P := P) w ad cs hc
  cases hq : P.info? ty with
  | none => simp [hq] at hi
  | some i =>
    have hs : i.size = cs.length := by simpa [hq] using hi
    have hagg : (isAgg ty).run P w = .ok true w := by
      unfold isAgg
      rw [Sem.run_bind, run_underlying hu w]
      cases d <;> simp_all
    simp [loadVar, Sem.run_bind, hagg, sizeOf, typeInfo, hq, hs, hl]
theorem wpList_ld {ops : Array Oper} {rest : List Oper} {o : Oper} {a : Act} {w : World} {Q : Exit → Act → World → Prop} (hgd : o.guard = none) (ty : TypeId) (x : Operand) (ho : o.op = .load ty x)
    (ad : Addr) (hx : a.eval x = .pointer (some ad)) (ca : Array Value) (d : TypeDesc) (hc : ∀ j v, ca.toList[j]? = some v → w.cell? (ad.add j) = some v)
    (hu : P.underlying ty = some d) (hd : (match d with | .struct _ | .array _ _ => true | _ => false) = true) (hi : (P.info? ty).map (·.size) = some ca.size)
    (h : wpList P ops Q rest (a.put o.dst (.agg ca)) w) : wpList P ops Q (o :: rest) a w := by
  refine wpList_plain hgd fun K hK => ?_
  unfold Oper.wp execOp
  simp only [ho, hx, Instr.loadAt, Instr.sureAddr, Sem.run_bind, Sem.run_pure, Result.andThen_ok, run_ld w ad ty ca.toList d hc hu hd (by simpa using hi)]
  exact hK _ _ h
end
end Go.Proofs.Ytapnmgkpljlgmaa
namespace Go.Proofs.Ytapnmgkpljlgmaa
open Go.RowKit
abbrev Z3 := Int × Int × Int
def z3c (z : Z3) : List Value := [.int .i64 z.1, .int .i64 z.2.1, .int .i64 z.2.2]
def z3s (l : List Z3) : List Value := l.flatMap z3c
def z2c (z : Int × Int) : List Value := [.int .i64 z.1, .int .i64 z.2]
def z2s (l : List (Int × Int)) : List Value := l.flatMap z2c
theorem z3s_len (l : List Z3) : (z3s l).length = l.length * 3 := flat_len (k := 3) (fun _ => rfl) l
theorem z2s_len (l : List (Int × Int)) : (z2s l).length = l.length * 2 := flat_len (k := 2) (fun _ => rfl) l
theorem info_step : (Try.prog.info? 40).map (fun i => (i.zero, i.size, i.bytes)) = some (some (.agg #[.int .i64 0, .int .i64 0, .int .i64 0]), 3, 24) := by kernel_rfl
theorem z3_one (z : Z3) : ∀ x ∈ z3c z, x.oneCell' = true := by simp [z3c, Value.oneCell']
theorem lim24 {n : Nat} (h : n < 4294967296) : (n + 1) * 24 ≤ 140737488355328 ∧ n + 1 ≤ 1000000000000 := by omega
theorem rd_cells {w : World} {A : Option Addr} {n size : Nat} {xs : List Value} (h : Rd w size A n xs) {k : Nat} (hk : k < n) (cs : List Value) (hcs : cs.length = size) (hx : ∀ j, j < size → xs[k * size + j]? = cs[j]?) :
    ∃ ad, A = some ad ∧ ad.block < w.heap.size ∧ ∀ j u, cs[j]? = some u → w.cell? ((ad.add (k * size)).add j) = some u := by
  obtain ⟨ad, e, hb, hc⟩ := h.2 (by omega)
  refine ⟨ad, e, hb, fun j u hu => ?_⟩
  have hj : j < size := by rw [← hcs]; exact (List.getElem?_eq_some_iff.1 hu).1
  exact hc k j u hj (by rw [hx j hj]; exact hu)
/-- A pair of the row. -/
theorem rd2 {w : World} {A : Option Addr} {n : Nat} {l : List (Int × Int)} (h : Rd w 2 A n (z2s l)) {k : Nat} (hk : k < n) :
    ∃ ad x y, A = some ad ∧ l[k]? = some (x, y) ∧ ∀ j u, (#[.int .i64 x, .int .i64 y] : Array Value).toList[j]? = some u → w.cell? ((ad.add (k * 2)).add j) = some u := by
  have hl : k < l.length := by have := h.1; rw [z2s_len] at this; omega
  obtain ⟨⟨x, y⟩, hz⟩ : ∃ z, l[k]? = some z := ⟨_, List.getElem?_eq_getElem hl⟩
  obtain ⟨ad, e, _, hc⟩ := rd_cells h hk (z2c (x, y)) rfl fun j hj => flat_get (f := z2c) (k := 2) (fun _ => rfl) l k j _ hj hz
  exact ⟨ad, x, y, e, hz, hc⟩
theorem rd3 {w : World} {A : Option Addr} {n : Nat} {l : List Z3} (h : Rd w 3 A n (z3s l)) {k : Nat} (hk : k < n) :
    ∃ ad o x y, A = some ad ∧ l[k]? = some (o, x, y) ∧ ∀ j u, (#[.int .i64 o, .int .i64 x, .int .i64 y] : Array Value).toList[j]? = some u → w.cell? ((ad.add (k * 3)).add j) = some u := by
  have hl : k < l.length := by have := h.1; rw [z3s_len] at this; omega
  obtain ⟨⟨o, x, y⟩, hz⟩ : ∃ z, l[k]? = some z := ⟨_, List.getElem?_eq_getElem hl⟩
  obtain ⟨ad, e, _, hc⟩ := rd_cells h hk (z3c (o, x, y)) rfl fun j hj => flat_get (f := z3c) (k := 3) (fun _ => rfl) l k j _ hj hz
  exact ⟨ad, o, x, y, e, hz, hc⟩
def fcs (op : Int) (l : List (Int × Int)) (k : Nat) : List Value := z3s ((l.take k).map fun p => (op, p.1, p.2))
theorem take_snoc {α : Type} {l : List α} {k : Nat} {z : α} (h : l[k]? = some z) : l.take (k + 1) = l.take k ++ [z] := by
  rw [List.take_add_one, h]; rfl
theorem fcs_succ {op : Int} {l : List (Int × Int)} {k : Nat} {x y : Int} (h : l[k]? = some (x, y)) : fcs op l (k + 1) = fcs op l k ++ z3c (op, x, y) := by
  unfold fcs; rw [take_snoc h]; simp [z3s]
def FLoop (w : World) (op : Int) (l : List (Int × Int)) (n m : Nat) (v u : Value) (wr : World) : Prop :=
  ∃ k : Nat, m + k = n ∧ u = .int .i64 (k : Nat) ∧ Fsh w wr 40 3 v k (fcs op l k)
set_option maxRecDepth 10000 in
set_option maxHeartbeats 1000000 in
theorem facts_c (op ask x y : Int) {A : Option Addr} {n c : Nat} {l : List (Int × Int)} {w : World} (h : Rd w 2 A n (z2s l)) (hn : n < 2147483648) :
    Calls Try.prog 34 #[.int .i64 op, .slice A n c, .int .i64 ask, .int .i64 x, .int .i64 y] w fun e w' => ∃ v, e = .returned v ∧ Fsh w w' 40 3 v (n + 1) (z3s (l.map (fun p => (op, p.1, p.2)) ++ [(ask, x, y)])) := by
  have H := Lib.hid h
  have HN := Lib.hid hn
  have hm : (n : Int) ≤ 9223372036854775807 := by omega
  clear h hn
  go_enter Try.func34, Try.ntmps34
  go_wp2_with fail
  go_loopg [11, 17] n (fun m v u wr => FLoop w op l n m v u wr)
  case atStart => exact ⟨0, rfl, rfl, Fsh.empty w 40 3⟩
  case round =>
    obtain ⟨k, hmk, rfl, hF⟩ := hrel
    have HF := Lib.hid hF
    have HMK := Lib.hid hmk
    clear hF hmk
    by_cases hlt : k < n
    · obtain ⟨ad, px, py, rfl, hz, hc⟩ := rd2 (H.out.nix HF.out.fr) hlt
      have HZ := Lib.hid hz
      have HC := Lib.hid hc
      have hown := HF.out.own
      have HL := Lib.hid (lim24 (n := k) (by have := HN.out; omega))
      clear hz hc
      go_wp2_with (first
        | (with_reducible refine wpList_ld (o := ⟨some 20, _, _, _, _, _⟩) rfl 27 (.tmp 19) rfl _ rfl #[.int .i64 px, .int .i64 py] _ HC.out Try.underlying27 rfl (by kernel_rfl) ?_)
        | (at_builtin; go_loud (refine wpList_app _ rfl _ _ 24 rfl 40 _ 3 24 Try.underlying24 info_step rfl (by decide) _ _ _ rfl ((hown.alloc _).alloc _) ⟨wr.heap.size + 1, 0, none⟩ 1 1 (z3c (op, px, py)) rfl rfl (by decide) (cells_at _ _ (size_alloc _ _) _ _) (z3_one _) HL.out.1 HL.out.2 ?_)))
      intro g cap w1 hown1 hgrow1 hnew1
      have hF1 := Lib.hid (HF.out.app ((Fr.al _ _).a _) hown1 hgrow1 (by simpa using hnew1))
      clear hown1 hgrow1 hnew1 hown
      go_wp2
      go_roundg (n - (k + 1))
      case measure => have := HMK.out; omega
      case rel =>
        refine ⟨k + 1, by have := HMK.out; omega, by rw [Int.natCast_add]; rfl, ?_⟩
        rw [fcs_succ HZ.out]; exact hF1.out
    · have hk : k = n := by have := HMK.out; omega
      subst hk
      have hown := HF.out.own
      have HL := Lib.hid (lim24 (n := k) (by have := HN.out; omega))
      go_wp2_with (at_builtin; refine wpList_app _ rfl _ _ 24 rfl 40 _ 3 24 Try.underlying24 info_step rfl (by decide) _ _ _ rfl (hown.alloc _) ⟨wr.heap.size, 0, none⟩ 1 1 (z3c (ask, x, y)) rfl rfl (by decide) (cells_at _ _ rfl _ _) (z3_one _) HL.out.1 HL.out.2 ?_)
      intro g cap w1 hown1 hgrow1 hnew1
      have hF1 := Lib.hid (HF.out.app (Fr.al _ _) hown1 hgrow1 (by simpa using hnew1))
      clear hown1 hgrow1 hnew1 hown
      go_wp2
      go_ret
      refine ⟨_, rfl, ?_⟩
      have := hF1.out
      have e : fcs op l k = z3s (l.map fun p => (op, p.1, p.2)) := by
        unfold fcs; rw [List.take_of_length_le]
        have := H.out.1; rw [z2s_len] at this; omega
      rw [e] at this
      simpa [z3s] using this
end Go.Proofs.Ytapnmgkpljlgmaa
namespace Go.Proofs.Ytapnmgkpljlgmaa
open Go.RowKit
def tk (l : List Z3) (k : Nat) : List Value := z3s (l.take k)
theorem tk_succ {l : List Z3} {k : Nat} {z : Z3} (h : l[k]? = some z) : tk l (k + 1) = tk l k ++ z3c z := by
  unfold tk; rw [take_snoc h]; simp [z3s]
theorem tk_all {l : List Z3} {k : Nat} (h : l.length ≤ k) : tk l k = z3s l := by unfold tk; rw [List.take_of_length_le h]

def convLoop (w : World) (l : List Z3) (n m : Nat) (v u : Value) (wr : World) : Prop :=
  ∃ k : Nat, m + k = n ∧ u = .int .i64 (k : Nat) ∧ Fsh w wr 40  3 v k (tk l k)
set_option maxRecDepth 10000 in
set_option maxHeartbeats 1000000 in
theorem conv_c {A : Option Addr} {n c : Nat} {l : List Z3} {w : World} (h : Rd w 3 A n (z3s l)) (hn : n < 2147483648) :
    Calls Try.prog 40 #[.slice A n c] w fun e w' => ∃ v, e = .returned v ∧ Fsh w w' 40 3 v n (z3s l) := by
  have H := Lib.hid h
  have HN := Lib.hid hn
  have hm : (n : Int) ≤ 9223372036854775807 := by omega
  clear h hn
  go_enter Try.func40, Try.ntmps40
  go_wp2_with fail
  go_loopg [3, 9] n (fun m v u wr => convLoop w l n m v u wr)
  case atStart => exact ⟨0, rfl, rfl, Fsh.empty w 40 3⟩
  case round =>
    obtain ⟨k, hmk, rfl, hF⟩ := hrel
    have HF := Lib.hid hF
    have HMK := Lib.hid hmk
    clear hF hmk
    by_cases hlt : k < n
    · obtain ⟨ad, po, px, py, rfl, hz, hc⟩ := rd3 (H.out.nix HF.out.fr) hlt
      have HZ := Lib.hid hz
      have HC := Lib.hid hc
      have hown := HF.out.own
      have HL := Lib.hid (lim24 (n := k) (by have := HN.out; omega))
      clear hz hc
      go_wp2_with (first
        | (with_reducible refine wpList_ld (o := ⟨some 12, _, _, _, _, _⟩) rfl 47 (.tmp 11) rfl _ rfl #[.int .i64 po, .int .i64 px, .int .i64 py] _ HC.out Try.underlying47 rfl (by kernel_rfl) ?_)
        | (at_builtin; refine wpList_app _ rfl _ _ 24 rfl 40 _ 3 24 Try.underlying24 (by kernel_rfl : _ = some (some (.agg #[.int .i64 0, .int .i64 0, .int .i64 0]), 3, 24)) rfl (by decide) _ _ _ rfl ((hown.alloc _).alloc _) ⟨wr.heap.size + 1, 0, none⟩ 1 1 (z3c (po, px, py)) rfl rfl (by decide) (cells_at _ _ (size_alloc _ _) _ _) (z3_one _) HL.out.1 HL.out.2 ?_))
      intro g cap w1 hown1 hgrow1 hnew1
      have hF1 := Lib.hid (HF.out.app ((Fr.al _ _).a _) hown1 hgrow1 (by simpa using hnew1))
      clear hown1 hgrow1 hnew1 hown
      go_wp2
      go_roundg (n - (k + 1))
      case measure => have := HMK.out; omega
      case rel =>
        refine ⟨k + 1, by have := HMK.out; omega, by rw [Int.natCast_add]; rfl, ?_⟩
        rw [tk_succ HZ.out]; exact hF1.out
    · have hk : k = n := by have := HMK.out; omega
      subst hk
      go_wp2
      go_ret
      refine ⟨_, rfl, ?_⟩
      have := HF.out
      rwa [tk_all (by have := H.out.1; rw [z3s_len] at this; omega)] at this

def plainLoop (w : World) (l : List Z3) (n m : Nat) (v u : Value) (wr : World) : Prop :=
  ∃ k : Nat, m + k = n ∧ u = .int .i64 (k : Nat) ∧ Fsh w wr 47  3 v k (tk l k)
set_option maxRecDepth 10000 in
set_option maxHeartbeats 1000000 in
theorem plain_c {A : Option Addr} {n c : Nat} {l : List Z3} {w : World} (h : Rd w 3 A n (z3s l)) (hn : n < 2147483648) :
    Calls Try.prog 75 #[.slice A n c] w fun e w' => ∃ v, e = .returned v ∧ Fsh w w' 47 3 v n (z3s l) := by
  have H := Lib.hid h
  have HN := Lib.hid hn
  have hm : (n : Int) ≤ 9223372036854775807 := by omega
  clear h hn
  go_enter Try.func75, Try.ntmps75
  go_wp2_with fail
  go_loopg [3, 9] n (fun m v u wr => plainLoop w l n m v u wr)
  case atStart => exact ⟨0, rfl, rfl, Fsh.empty w 47 3⟩
  case round =>
    obtain ⟨k, hmk, rfl, hF⟩ := hrel
    have HF := Lib.hid hF
    have HMK := Lib.hid hmk
    clear hF hmk
    by_cases hlt : k < n
    · obtain ⟨ad, po, px, py, rfl, hz, hc⟩ := rd3 (H.out.nix HF.out.fr) hlt
      have HZ := Lib.hid hz
      have HC := Lib.hid hc
      have hown := HF.out.own
      have HL := Lib.hid (lim24 (n := k) (by have := HN.out; omega))
      clear hz hc
      go_wp2_with (first
        | (with_reducible refine wpList_ld (o := ⟨some 12, _, _, _, _, _⟩) rfl 40 (.tmp 11) rfl _ rfl #[.int .i64 po, .int .i64 px, .int .i64 py] _ HC.out Try.underlying40 rfl (by kernel_rfl) ?_)
        | (at_builtin; refine wpList_app _ rfl _ _ 34 rfl 47 _ 3 24 Try.underlying34 (by kernel_rfl : _ = some (some (.agg #[.int .i64 0, .int .i64 0, .int .i64 0]), 3, 24)) rfl (by decide) _ _ _ rfl ((hown.alloc _).alloc _) ⟨wr.heap.size + 1, 0, none⟩ 1 1 (z3c (po, px, py)) rfl rfl (by decide) (cells_at _ _ (size_alloc _ _) _ _) (z3_one _) HL.out.1 HL.out.2 ?_))
      intro g cap w1 hown1 hgrow1 hnew1
      have hF1 := Lib.hid (HF.out.app ((Fr.al _ _).a _) hown1 hgrow1 (by simpa using hnew1))
      clear hown1 hgrow1 hnew1 hown
      go_wp2
      go_roundg (n - (k + 1))
      case measure => have := HMK.out; omega
      case rel =>
        refine ⟨k + 1, by have := HMK.out; omega, by rw [Int.natCast_add]; rfl, ?_⟩
        rw [tk_succ HZ.out]; exact hF1.out
    · have hk : k = n := by have := HMK.out; omega
      subst hk
      go_wp2
      go_ret
      refine ⟨_, rfl, ?_⟩
      have := HF.out
      rwa [tk_all (by have := H.out.1; rw [z3s_len] at this; omega)] at this
end Go.Proofs.Ytapnmgkpljlgmaa
namespace Go.Proofs.Ytapnmgkpljlgmaa
open Go.RowKit
def bad (v : Int) (z : Z3) : Bool := decide (z.2.1 < 0) || decide (z.2.2 < 0) || decide (v ≤ z.2.1) || decide (v ≤ z.2.2) || decide (z.2.1 = z.2.2)
def dep (o d : Int) : Int := if o = 8 then d + 1 else if o = 9 then d - 1 else d
def goodF (v : Int) : Int → List Z3 → Bool
  | _, [] => true
  | d, z :: l => if z.1 < 0 ∨ 9 < z.1 then false else if z.1 ≠ 8 ∧ z.1 ≠ 9 ∧ bad v z = true then false else if dep z.1 d < 0 then false else goodF v (dep z.1 d) l
def goodB (v : Int) (l : List Z3) : Bool := if v < 0 ∨ 12 < v ∨ 64 < l.length then false else goodF v 0 l
theorem goodF_no {v d po px py : Int} {l : List Z3} (h : po < 0 ∨ 9 < po ∨ (po ≠ 8 ∧ po ≠ 9 ∧ (px < 0 ∨ py < 0 ∨ v ≤ px ∨ v ≤ py ∨ px = py)) ∨ (po = 9 ∧ d - 1 < 0)) : goodF v d ((po, px, py) :: l) = false := by
  unfold goodF
  by_cases h1 : po < 0 ∨ 9 < po
  · rw [if_pos h1]
  · rw [if_neg h1]
    by_cases h2 : po ≠ 8 ∧ po ≠ 9 ∧ bad v (po, px, py) = true
    · rw [if_pos h2]
    · rw [if_neg h2]
      have h3 : po = 9 ∧ d - 1 < 0 := by
        have : bad v (po, px, py) = true ↔ px < 0 ∨ py < 0 ∨ v ≤ px ∨ v ≤ py ∨ px = py := by simp [bad, or_assoc]
        rw [this] at h2
        omega
      rw [if_pos (by unfold dep; rw [if_neg (by omega), if_pos h3.1]; exact h3.2)]
theorem goodF_yes {v d po px py e : Int} {l : List Z3} (h1 : 0 ≤ po ∧ po ≤ 9) (h2 : po = 8 ∨ po = 9 ∨ (0 ≤ px ∧ 0 ≤ py ∧ px < v ∧ py < v ∧ px ≠ py)) (h3 : (po = 8 ∧ e = d + 1) ∨ (po = 9 ∧ e = d - 1) ∨ (po ≠ 8 ∧ po ≠ 9 ∧ e = d)) (h4 : 0 ≤ e) :
    goodF v d ((po, px, py) :: l) = goodF v e l := by
  have hd : dep po d = e := by unfold dep; split <;> (try split) <;> omega
  rw [goodF, if_neg (by show ¬ (po < 0 ∨ 9 < po); omega), if_neg, if_neg]
  · rw [hd]
  · show ¬ dep po d < 0; rw [hd]; omega
  · have : bad v (po, px, py) = true ↔ px < 0 ∨ py < 0 ∨ v ≤ px ∨ v ≤ py ∨ px = py := by simp [bad, or_assoc]
    rw [this]
    show ¬ (po ≠ 8 ∧ po ≠ 9 ∧ _)
    omega
theorem ret_b {a b : Bool} (h : a = b) : Ending.returned (.bool a) = .returned (.bool b) := by rw [h]
def gLoop (v : Int) (l : List Z3) (w : World) (m : Nat) (d u : Value) (wr : World) : Prop :=
  ∃ (k : Nat) (e : Int), m + k = l.length ∧ u = .int .i64 (k : Nat) ∧ d = .int .i64 e ∧ 0 ≤ e ∧ e ≤ k ∧ goodB v l = goodF v e (l.drop k) ∧ Fr w wr Nix
theorem drop_at {α : Type} {l : List α} {k : Nat} {z : α} (h : l[k]? = some z) : l.drop k = z :: l.drop (k + 1) := by
  obtain ⟨hk, rfl⟩ := List.getElem?_eq_some_iff.1 h
  exact List.drop_eq_getElem_cons hk
set_option maxRecDepth 10000 in
set_option maxHeartbeats 4000000 in
theorem good_c (v : Int) {A : Option Addr} {n c : Nat} {l : List Z3} {w : World} (h : Rd w 3 A n (z3s l)) (hn : n < 4294967296) :
    Calls Try.prog 33 #[.int .i64 v, .slice A n c] w fun e w' => e = .returned (.bool (goodB v l)) ∧ Fr w w' Nix := by
  have hl : l.length = n := by have := h.1; rw [z3s_len] at this; omega
  have H := Lib.hid h
  have HN := Lib.hid hn
  have HL := Lib.hid hl
  have hm : (n : Int) ≤ 9223372036854775807 := by omega
  clear h hn hl
  obtain ⟨b, hb⟩ : ∃ b, goodB v l = b := ⟨_, rfl⟩
  rw [hb]
  have HB := Lib.hid hb
  clear hb
  by_cases hv : v < 0 ∨ 12 < v ∨ 64 < n
  · have e : b = false := by rw [← HB.out]; unfold goodB; rw [if_pos (by rw [HL.out]; exact hv)]
    subst e
    go_enter Try.func33, Try.ntmps33
    by_cases h1 : v < 0
    · go_wp2
      go_ret
      exact ⟨rfl, Fr.refl _ _⟩
    · by_cases h2 : 12 < v
      · go_wp2
        go_ret
        exact ⟨rfl, Fr.refl _ _⟩
      · have h3 : 64 < n := by omega
        have h4 : decide ((64 : Int) < (n : Int)) = true := by rw [decide_eq_true_eq]; omega
        go_wp2
        go_ret
        exact ⟨rfl, Fr.refl _ _⟩
  · have h1 : ¬ v < 0 := by omega
    have h2 : ¬ 12 < v := by omega
    have h3 : ¬ 64 < n := by omega
    have h4 : decide ((64 : Int) < (n : Int)) = false := by rw [decide_eq_false_iff_not]; omega
    have h5 : goodB v l = goodF v 0 l := by unfold goodB; rw [if_neg (by rw [HL.out]; exact hv)]
    have H5 := Lib.hid h5
    clear hv h5
    go_enter Try.func33, Try.ntmps33
    go_wp2_with fail
    go_loopg [5, 21] n (fun m d u wr => gLoop v l w m d u wr)
    case atStart => exact ⟨0, 0, HL.out.symm, rfl, rfl, by omega, by omega, H5.out, Fr.refl _ _⟩
    case round =>
      obtain ⟨k, d, hmk, rfl, rfl, hd0, hdk, hg, hF⟩ := hrel
      have HF := Lib.hid hF
      have HMK := Lib.hid (show _ = n from hmk.trans HL.out)
      have HG := Lib.hid (HB.out.symm.trans hg)
      have hd2 : d ≤ 1000000 := by have := HMK.out; omega
      have HD := Lib.hid hdk
      clear hF hmk hg h1 h2 h3 h4 hdk
      by_cases hlt : k < n
      · obtain ⟨ad, po, px, py, rfl, hz, hc⟩ := rd3 (H.out.nix HF.out) hlt
        have HZ := Lib.hid (drop_at hz)
        have HC := Lib.hid hc
        clear hz hc
        go_wp2_with (with_reducible refine wpList_ld (o := ⟨some 24, _, _, _, _, _⟩) rfl 40 (.tmp 23) rfl _ rfl #[.int .i64 po, .int .i64 px, .int .i64 py] _ HC.out Try.underlying40 rfl (by kernel_rfl) ?_)
        all_goals first
          | (go_ret
             refine ⟨ret_b ?_, HF.out.a _⟩
             rw [HG.out, HZ.out]
             refine (goodF_no ?_).symm
             simp only [beq_iff_eq, beq_eq_false_iff_ne, ne_eq] at *
             omega)
          | (go_roundg (n - (k + 1))
             case measure => have := HMK.out; omega
             case rel =>
               refine ⟨k + 1, _, ?_, by rw [Int.natCast_add]; rfl, rfl, ?_, ?_, ?_, HF.out.a _⟩
               · have h1 := HL.out; have h2 := HMK.out; rw [h1]; omega
               · omega
               · have := HD.out; omega
               · rw [HB.out, HG.out, HZ.out]
                 simp only [beq_iff_eq, beq_eq_false_iff_ne, ne_eq] at *
                 refine goodF_yes ?_ ?_ ?_ ?_
                 · omega
                 · omega
                 · omega
                 · omega)
      · have hk : k = n := by have := HMK.out; omega
        have e : b = true := by
          rw [HG.out, List.drop_of_length_le (by rw [HL.out]; omega)]; rfl
        subst e
        go_wp2
        go_ret
        exact ⟨rfl, HF.out⟩
end Go.Proofs.Ytapnmgkpljlgmaa
