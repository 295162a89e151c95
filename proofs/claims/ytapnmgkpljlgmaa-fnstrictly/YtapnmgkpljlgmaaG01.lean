/- Words for the heap: frames between worlds, rows of cells, maps with integer keys, bit sets. Nothing here speaks of the program's functions. Contracts of the small functions: edges (newedge, Target, Strict) and bit sets (newBitset, Test, Set, Clear, Reset). Paths in the graph of nodes, and the two searches of dfs, in plain words. The poset on the heap: PS (a plain state with the fields of the Go struct) and Rep (block p of the world holds it). Contracts of the poset's smallest methods: setchl, setchr, chl, chr, children, upush, upushnew, upushneq, upushalias. Contracts of setchl, setchr, chl, chr, children, lookup. The poset's fields stored: lastidx; nodes and roots appended to. newnode. newnode. Contracts of computeBitsetSize, newBitset, Reset. -/
import Derived.Test.YtapnmgkpljlgmaaRows
import Derived.WalkKit
import Derived.WalkSpells
import Derived.WalkLawsBesides
import Derived.Deep.QuietTactic
import Derived.BigQuiet
import Derived.Lib.Hide
import Derived.Laws.DeepBits32
import Derived.Laws.BitsAllLaws
import Derived.StillTailTactics
import Derived.Lib.SliceRun
set_option linter.unusedVariables false
set_option linter.unusedSimpArgs false
namespace Go.Proofs.Ytapnmgkpljlgmaa
open Go.RowKit

/-- Between w and w' only the blocks of F have turned; new ones may have come. -/
structure Fr (w w' : World) (F : Nat → Prop) : Prop where
  os : w'.os = w.os
  tape : w'.tape = w.tape
  output : w'.output = w.output
  size : w.heap.size ≤ w'.heap.size
  block : ∀ k, k < w.heap.size → ¬ F k → w'.heap[k]? = w.heap[k]?

def Nix (_ : Nat) : Prop := False

theorem Fr.refl (w : World) (F : Nat → Prop) : Fr w w F := ⟨rfl, rfl, rfl, Nat.le_refl _, fun _ _ _ => rfl⟩
theorem Fr.trans {a b c : World} {F G : Nat → Prop} (h : Fr a b F) (k : Fr b c G) (hG : ∀ i, G i → F i ∨ a.heap.size ≤ i) : Fr a c F :=
  ⟨k.os.trans h.os, k.tape.trans h.tape, k.output.trans h.output, Nat.le_trans h.size k.size, fun i hi hF =>
    (k.block i (Nat.lt_of_lt_of_le hi h.size) (fun hg => by rcases hG i hg with h1 | h1; exact hF h1; omega)).trans (h.block i hi hF)⟩
theorem Fr.mono {a b : World} {F G : Nat → Prop} (h : Fr a b F) (hG : ∀ i, F i → G i) : Fr a b G :=
  ⟨h.os, h.tape, h.output, h.size, fun i hi hg => h.block i hi (fun hf => hg (hG i hf))⟩
theorem Fr.drewN (w : World) (n : Nat) (F : Nat → Prop) : Fr w (w.drewN n) F := ⟨rfl, rfl, rfl, Nat.le_refl _, fun _ _ _ => rfl⟩
theorem Fr.drew (w : World) (F : Nat → Prop) : Fr w w.drew F := ⟨rfl, rfl, rfl, Nat.le_refl _, fun _ _ _ => rfl⟩
theorem Fr.grown {w w' : World} {row : Option Nat} (h : w.grownBy w' row) {F : Nat → Prop} (hF : ∀ k, row = some k → F k) : Fr w w' F :=
  ⟨h.os, h.tape, h.output, h.size, fun k hk hn => h.block k hk (fun e => hn (hF k e.symm))⟩
theorem Fr.below {w w' : World} (h : Fr w w' Nix) : Below w.heap.size w w' := ⟨h.os, h.tape, h.output, h.size, fun k hk => h.block k hk (fun e => e)⟩
theorem Fr.of_below {w w' : World} (h : Below w.heap.size w w') : Fr w w' Nix := ⟨h.os, h.tape, h.output, h.size, fun k hk _ => h.block k hk⟩
theorem Fr.alloc (w : World) (o : Obj) (F : Nat → Prop) : Fr w (w.alloc o) F :=
  ⟨rfl, rfl, rfl, by simp, fun k hk _ => Below.heap_alloc w o k hk⟩
theorem Fr.setCell (w : World) (a : Addr) (u : Value) {F : Nat → Prop} (hF : F a.block) : Fr w (w.setCell a u) F :=
  ⟨rfl, rfl, rfl, by simp [World.setCell], fun k _ hn => Below.heap_setCell w a u k (fun e => hn (e ▸ hF))⟩

theorem Fr.cell {w w' : World} {F : Nat → Prop} (h : Fr w w' F) {a : Addr} (ha : a.block < w.heap.size) (hF : ¬ F a.block) : w'.cell? a = w.cell? a :=
  World.cell?_of_block (h.block a.block ha hF)
theorem Fr.row {w w' : World} {F : Nat → Prop} (h : Fr w w' F) {base : Nat} {e : TypeId} {size : Nat} {v : Value} {n : Nat} {xs : List Value}
    (hr : w.ownsRow base e size v n xs) (hn : ∀ g, v.ownBlock = some g → ¬ F g) : w'.ownsRow base e size v n xs := by
  refine ⟨hr.1, ?_⟩
  rcases hr.2 with h2 | ⟨g, cap, cur, rfl, hb, hg, rest⟩
  · exact .inl h2
  · exact .inr ⟨g, cap, cur, rfl, hb, by rw [h.block g (Array.getElem?_eq_some_iff.1 hg).1 (hn g rfl)]; exact hg, rest⟩
theorem heap_lt {w : World} {b : Nat} {o : Obj} (h : w.heap[b]? = some o) : b < w.heap.size := (Array.getElem?_eq_some_iff.1 h).1
theorem cell_block {w : World} {p j : Nat} {c : Array Value} {t : TypeId} {fz : Nat × Nat} (h : w.heap[p]? = some (.cells c t fz)) : w.cell? ⟨p, j, none⟩ = c[j]? := by
  simp [World.cell?, h]
theorem frozen_block {w : World} {p j : Nat} {c : Array Value} {t : TypeId} (h : w.heap[p]? = some (.cells c t (0, 0))) : w.frozen? ⟨p, j, none⟩ = false := by
  simp [World.frozen?, h]
theorem set_block {w : World} {p j : Nat} {c : Array Value} {t : TypeId} {fz : Nat × Nat} (u : Value) (h : w.heap[p]? = some (.cells c t fz)) :
    (w.setCell ⟨p, j, none⟩ u).heap[p]? = some (.cells (c.setIfInBounds j u) t fz) := by
  simp [World.setCell, Array.getElem?_modify, h]

/-! ## append, and where the new row lies -/
theorem heap_lt' {w : World} {b : Nat} {o : Obj} (h : w.heap[b]? = some o) : b < w.heap.size := (Array.getElem?_eq_some_iff.1 h).1

section
variable {P : Program} (w : World)
theorem run_app (t ty e : TypeId) (i : TypeInfo) (z : Value) (size bytes : Nat) (ht : P.underlying t = some (.slice e)) (hi : P.info? e = some i) (hz : i.zero = some z)
    (hsize : i.size = size) (hby : i.bytes = bytes) (hzs : z.cells.size = size) (hsz : 0 < size)
    (v : Value) (n : Nat) (xs : List Value) (hown : w.ownsRow 0 e size v n xs)
    (a : Addr) (m c : Nat) (news : List Value) (hl : news.length = m * size) (hnews : ∀ j u, news[j]? = some u → w.cell? (a.add j) = some u) (h1 : ∀ u ∈ news, u.oneCell' = true) (hm : 0 < m)
    (hbytes : (n + m) * bytes ≤ 140737488355328) (h63 : n + m ≤ 1000000000000) :
    ∃ v' w', (Builtin.append_ #[t, t] ty #[v, .slice (some a) m c]).run P w = .ok v' w' ∧ w'.ownsRow 0 e size v' (n + m) (xs ++ news) ∧ w.grownBy w' v.ownBlock ∧
      (∀ g, v'.ownBlock = some g → v.ownBlock = some g ∨ (w.heap.size ≤ g ∧ ∀ k, v.ownBlock = some k → w'.heap[k]? = w.heap[k]?)) ∧ ∃ g cap, v' = .slice (some ⟨g, 0, none⟩) (n + m) cap := by
  have hmax : n + m ≤ maxLen := by unfold maxLen; omega
  obtain ⟨v', w', hr, h2, h3, h4⟩ := run_append_own (P := P) w 0 t ty e i z size bytes ht hi hz hsize hby hzs hsz v n xs hown a m c news hl hnews h1 hmax hbytes (Nat.zero_le _)
  refine ⟨v', w', hr, h2, h3, ?_, ?_⟩
  · subst hsize hby
    rcases hown.2 with ⟨rfl, rfl⟩ | ⟨g, cap, cur, rfl, hbg, hg, hnc, hcm, hcs, htake⟩
    · have hr' := run_append_nil (P := P) w t ty e i z ht hi hz a m c news hl hnews hm (by omega) (by simp only [Nat.zero_add] at hbytes; omega)
      rw [hr'] at hr
      simp only [Result.ok.injEq] at hr
      obtain ⟨rfl, _⟩ := hr
      intro g hg
      simp only [Value.ownBlock, Option.some.injEq] at hg
      exact .inr ⟨by omega, by intro k hk; simp [Value.ownBlock] at hk⟩
    · by_cases hroom : n + m ≤ cap
      · have hfit : n * i.size + news.length ≤ cur.size := by rw [hl, hcs, ← Nat.add_mul]; exact Nat.mul_le_mul_right _ hroom
        have hr' := run_append_room (P := P) w t ty e i ht hi g n cap cur hg a m c news hl hnews h1 hroom hfit
        rw [hr'] at hr
        simp only [Result.ok.injEq] at hr
        obtain ⟨rfl, _⟩ := hr
        intro k hk
        exact .inl hk
      · have holds : ∀ j u, xs[j]? = some u → w.cell? ((⟨g, 0, none⟩ : Addr).add j) = some u := hown.cells (g := g) rfl
        have hr' := run_append_grow (P := P) w t ty e i z ht hi hz ⟨g, 0, none⟩ n cap xs hown.1 holds a m c news hl hnews (by omega) (by omega) (growslice_fits (by omega) hbytes)
        rw [hr'] at hr
        simp only [Result.ok.injEq] at hr
        obtain ⟨rfl, rfl⟩ := hr
        intro k hk
        simp only [Value.ownBlock, Option.some.injEq] at hk
        refine .inr ⟨by omega, fun j hj => ?_⟩
        simp only [Value.ownBlock, Option.some.injEq] at hj
        subst hj
        exact Below.heap_alloc w.drew _ _ (heap_lt' hg)
  · rcases h2.2 with ⟨rfl, h0⟩ | ⟨g, cap, cur, rfl, _⟩
    · omega
    · exact ⟨g, cap, rfl⟩
theorem cells_new (xs : List Value) (T : TypeId) : ∀ j u, xs[j]? = some u → (w.alloc (.cells xs.toArray T)).cell? ((⟨w.heap.size, 0, none⟩ : Addr).add j) = some u := by
  intro j u h
  have hadd : (⟨w.heap.size, 0, none⟩ : Addr).add j = ⟨w.heap.size, j, none⟩ := by unfold Addr.add; split <;> simp_all
  rw [hadd, cell_of_row _ w.heap.size j xs.toArray T (0, 0) (heap_alloc_new w _)]
  simpa using h
theorem cells_at (n : Nat) (hn : w.heap.size = n) (xs : List Value) (T : TypeId) : ∀ j u, xs[j]? = some u → (w.alloc (.cells xs.toArray T)).cell? ((⟨n, 0, none⟩ : Addr).add j) = some u := by
  subst hn; exact cells_new w xs T
theorem size_setCell (a : Addr) (u : Value) : (w.setCell a u).heap.size = w.heap.size := by simp [World.setCell]
/-- The arm for an append of a literal row: the new elements have just been laid in the newest block. -/
theorem wpList_app {ops : Array Oper} {rest : List Oper} {o : Oper} {a : Act} {Q : Exit → Act → World → Prop} (hgd : o.guard = none) (s x : Operand) (t : TypeId)
    (ho : o.op = .call { callee := .builtin .append, args := #[s, x], argTypes := #[t, t] })
    (e : TypeId) (z : Value) (size bytes : Nat) (ht : P.underlying t = some (.slice e)) (hi : (P.info? e).map (fun i => (i.zero, i.size, i.bytes)) = some (some z, size, bytes))
    (hzs : z.cells.size = size) (hsz : 0 < size)
    (v : Value) (n : Nat) (xs : List Value) (hs : a.eval s = v) (hown : w.ownsRow 0 e size v n xs)
    (ad : Addr) (m c : Nat) (news : List Value) (hx : a.eval x = .slice (some ad) m c) (hl : news.length = m * size) (hm : 0 < m) (hnews : ∀ j u, news[j]? = some u → w.cell? (ad.add j) = some u) (h1 : ∀ u ∈ news, u.oneCell' = true)
    (hbytes : (n + m) * bytes ≤ 140737488355328) (h63 : n + m ≤ 1000000000000)
    (h : ∀ g cap w', w'.ownsRow 0 e size (.slice (some ⟨g, 0, none⟩) (n + m) cap) (n + m) (xs ++ news) → w.grownBy w' v.ownBlock → (v.ownBlock = some g ∨ w.heap.size ≤ g) → wpList P ops Q rest (a.put o.dst (.slice (some ⟨g, 0, none⟩) (n + m) cap)) w') :
    wpList P ops Q (o :: rest) a w := by
  obtain ⟨i, hi, hz, hsize, hby⟩ := info_parts hi
  obtain ⟨v', w', hr, h2, h3, h4, g, cap, rfl⟩ := run_app (P := P) w t o.type e i z size bytes ht hi hz hsize hby hzs hsz v n xs hown ad m c news hl hnews h1 hm hbytes h63
  refine wpList_plain hgd fun K hK => ?_
  unfold Oper.wp execOp
  simp only [ho, resolve, invoke, builtin, Sem.run_bind, Sem.run_pure, Result.andThen_ok, List.map_toArray, List.map_cons, List.map_nil, hs, hx, hr]
  exact hK _ _ (h g cap w' h2 h3 ((h4 g rfl).imp id And.left))


theorem wpList_app2 {ops : Array Oper} {rest : List Oper} {o : Oper} {a : Act} {Q : Exit → Act → World → Prop} (hgd : o.guard = none) (s x : Operand) (t : TypeId)
    (ho : o.op = .call { callee := .builtin .append, args := #[s, x], argTypes := #[t, t] })
    (e : TypeId) (z : Value) (size bytes : Nat) (ht : P.underlying t = some (.slice e)) (hi : (P.info? e).map (fun i => (i.zero, i.size, i.bytes)) = some (some z, size, bytes))
    (hzs : z.cells.size = size) (hsz : 0 < size)
    (v : Value) (n : Nat) (xs : List Value) (hs : a.eval s = v) (hown : w.ownsRow 0 e size v n xs)
    (ad : Addr) (m c : Nat) (news : List Value) (hx : a.eval x = .slice (some ad) m c) (hl : news.length = m * size) (hm : 0 < m) (hnews : ∀ j u, news[j]? = some u → w.cell? (ad.add j) = some u) (h1 : ∀ u ∈ news, u.oneCell' = true)
    (hbytes : (n + m) * bytes ≤ 140737488355328) (h63 : n + m ≤ 1000000000000)
    (h : ∀ g cap w', w'.ownsRow 0 e size (.slice (some ⟨g, 0, none⟩) (n + m) cap) (n + m) (xs ++ news) → w.grownBy w' v.ownBlock → (v.ownBlock = some g ∨ (w.heap.size ≤ g ∧ ∀ k, v.ownBlock = some k → w'.heap[k]? = w.heap[k]?)) → wpList P ops Q rest (a.put o.dst (.slice (some ⟨g, 0, none⟩) (n + m) cap)) w') :
    wpList P ops Q (o :: rest) a w := by
  obtain ⟨i, hi, hz, hsize, hby⟩ := info_parts hi
  obtain ⟨v', w', hr, h2, h3, h4, g, cap, rfl⟩ := run_app (P := P) w t o.type e i z size bytes ht hi hz hsize hby hzs hsz v n xs hown ad m c news hl hnews h1 hm hbytes h63
  refine wpList_plain hgd fun K hK => ?_
  unfold Oper.wp execOp
  simp only [ho, resolve, invoke, builtin, Sem.run_bind, Sem.run_pure, Result.andThen_ok, List.map_toArray, List.map_cons, List.map_nil, hs, hx, hr]
  exact hK _ _ (h g cap w' h2 h3 (h4 g rfl))


end

/-! ## rows of cells, several cells an element -/
theorem flat_len {α β : Type} {f : α → List β} {k : Nat} (hk : ∀ a, (f a).length = k) : ∀ l : List α, (l.flatMap f).length = l.length * k
  | [] => by simp
  | a :: l => by simp [hk, flat_len hk l, Nat.add_mul]; omega
theorem flat_get {α β : Type} {f : α → List β} {k : Nat} (hk : ∀ a, (f a).length = k) : ∀ (l : List α) (i j : Nat) (a : α), j < k → l[i]? = some a → (l.flatMap f)[i * k + j]? = (f a)[j]?
  | [], i, j, a, _, h => by simp at h
  | b :: l, 0, j, a, hj, h => by
    simp at h; subst h
    simp [List.getElem?_append, hk, hj]
  | b :: l, i + 1, j, a, hj, h => by
    have := flat_get hk l i j a hj (by simpa using h)
    rw [List.flatMap_cons, List.getElem?_append, if_neg (by rw [hk, Nat.add_mul]; omega), hk, ← this]
    congr 1
    rw [Nat.add_mul]; omega
theorem flat_take {α β : Type} {f : α → List β} {k : Nat} (hk : ∀ a, (f a).length = k) (l : List α) (n : Nat) : (l.flatMap f).take (n * k) = (l.take n).flatMap f := by
  induction l generalizing n with
  | nil => simp
  | cons a l ih =>
    cases n with
    | zero => simp
    | succ n =>
      rw [List.flatMap_cons, List.take_succ_cons, List.flatMap_cons, List.take_append, hk, List.take_of_length_le (by rw [hk, Nat.add_mul]; omega)]
      congr 1
      rw [← ih n]
      congr 1
      rw [Nat.add_mul]; omega

/-! ## maps whose keys are integers of one kind -/
section
variable {P : Program} {w : World}
open Instr

theorem findNow_none (q : IntKind) (k : Int) : ∀ (l : List MapEntry) (i : Nat), (∀ e ∈ l, ∃ x : Int, e.key = .int q x ∧ x ≠ k) → findNow (.int q) (.int q k) l i = some none
  | [], _, _ => rfl
  | e :: l, i, h => by
    obtain ⟨x, hx, hne⟩ := h e (by simp)
    have : (k == x) = false := by simpa using fun e => hne e.symm
    simp [findNow, sameNow, hx, this, findNow_none q k l (i + 1) (fun e he => h e (by simp [he]))]
theorem findNow_some (q : IntKind) (k : Int) (e : MapEntry) (r : List MapEntry) (he : e.key = .int q k) : ∀ (l : List MapEntry) (i : Nat), (∀ e ∈ l, ∃ x : Int, e.key = .int q x ∧ x ≠ k) → findNow (.int q) (.int q k) (l ++ e :: r) i = some (some (i + l.length, e.val))
  | [], i, _ => by simp [findNow, sameNow, he]
  | a :: l, i, h => by
    obtain ⟨x, hx, hne⟩ := h a (by simp)
    have : (k == x) = false := by simpa using fun e => hne e.symm
    simp [findNow, sameNow, hx, this, findNow_some q k e r he l (i + 1) (fun e he => h e (by simp [he]))]
    omega

/-- The entries of a map with keys of kind q: each key once, each stamp once. -/
structure Ents (q : IntKind) (es : List MapEntry) (clock : Nat) : Prop where
  key : ∀ e ∈ es, ∃ x : Int, e.key = .int q x
  kn : es.Pairwise fun a b => a.key ≠ b.key
  st : es.Pairwise fun a b => a.born ≠ b.born
  lt : ∀ e ∈ es, e.born < clock

theorem Ents.split {q : IntKind} {es : List MapEntry} {clock : Nat} (h : Ents q es clock) (k : Int) :
    (∀ e ∈ es, ∃ x : Int, e.key = .int q x ∧ x ≠ k) ∨ ∃ l e r, es = l ++ e :: r ∧ e.key = .int q k ∧ (∀ e ∈ l, ∃ x : Int, e.key = .int q x ∧ x ≠ k) ∧ (∀ e ∈ r, ∃ x : Int, e.key = .int q x ∧ x ≠ k) := by
  by_cases hk : ∃ e ∈ es, e.key = .int q k
  · obtain ⟨e, he, hek⟩ := hk
    obtain ⟨l, r, rfl⟩ := List.append_of_mem he
    refine .inr ⟨l, e, r, rfl, hek, ?_, ?_⟩
    · intro a ha
      obtain ⟨x, hx⟩ := h.key a (by simp [ha])
      refine ⟨x, hx, fun e' => ?_⟩
      have := (List.pairwise_append.1 h.kn).2.2 a ha e (by simp)
      exact this (by rw [hx, hek, e'])
    · intro a ha
      obtain ⟨x, hx⟩ := h.key a (by simp [ha])
      refine ⟨x, hx, fun e' => ?_⟩
      have := (List.pairwise_cons.1 (List.pairwise_append.1 h.kn).2.1).1 a ha
      exact this (by rw [hx, hek, e'])
  · refine .inl fun a ha => ?_
    obtain ⟨x, hx⟩ := h.key a ha
    exact ⟨x, hx, fun e => hk ⟨a, ha, by rw [hx, e]⟩⟩

theorem modify_mid {α : Type} (f : α → α) (e : α) (r : List α) : ∀ l : List α, (l ++ e :: r).modify l.length f = l ++ f e :: r
  | [] => by simp
  | a :: l => by simp [modify_mid f e r l]
variable {t kt et : TypeId} {q : IntKind}
theorem run_checkInt (hk : P.underlying kt = some (.int q)) (em : Bool) (n : Nat) (k : Int) : (checkKey em (n + 1) kt (.int q k)).run P w = .ok () w := by
  simp [checkKey, run_underlying hk]
theorem run_findKey (hk : P.underlying kt = some (.int q)) {k : Int} {l : List MapEntry} {r : Option (Nat × Value)} (h : findNow (.int q) (.int q k) l 0 = some r) :
    (findKey kt (.int q k) l).run P w = .ok r w := by
  simp [findKey, run_underlying hk, h]
theorem run_lookup_none (ht : P.underlying t = some (.map kt et)) (hk : P.underlying kt = some (.int q)) {b : Nat} {es : Array MapEntry} {clock : Nat} (hb : w.heap[b]? = some (.map es clock))
    {k : Int} (h : ∀ e ∈ es.toList, ∃ x : Int, e.key = .int q x ∧ x ≠ k) {z : Value} (hz : (zeroValue et).run P w = .ok z w) (ok : Bool) :
    (Instr.lookup t (.map (some b)) (.int q k) ok).run P w = .ok (if ok then .tuple #[z, .bool false] else z) w := by
  have hf := run_findKey (P := P) (w := w) hk (findNow_none q k es.toList 0 h)
  have hc := fun em => run_checkInt (P := P) (w := w) hk em 9999 k
  simp only [Nat.reduceAdd] at hc
  cases ok <;> simp [Instr.lookup, run_underlying ht, MapKept.run_getObj_map hb, hc, hf, hz, Result.andThen]
theorem run_lookup_some (ht : P.underlying t = some (.map kt et)) (hk : P.underlying kt = some (.int q)) {b : Nat} {es : Array MapEntry} {clock : Nat} (hb : w.heap[b]? = some (.map es clock))
    {k : Int} {l r : List MapEntry} {e : MapEntry} (hs : es.toList = l ++ e :: r) (hek : e.key = .int q k) (h : ∀ e ∈ l, ∃ x : Int, e.key = .int q x ∧ x ≠ k) (ok : Bool) :
    (Instr.lookup t (.map (some b)) (.int q k) ok).run P w = .ok (if ok then .tuple #[e.val, .bool true] else e.val) w := by
  have hf := findNow_some q k e r hek l 0 h
  rw [← hs] at hf
  replace hf := run_findKey (P := P) (w := w) hk hf
  have hc := fun em => run_checkInt (P := P) (w := w) hk em 9999 k
  simp only [Nat.reduceAdd] at hc
  cases ok <;> simp [Instr.lookup, run_underlying ht, MapKept.run_getObj_map hb, hc, hf, Result.andThen]
theorem run_update_none (ht : P.underlying t = some (.map kt et)) (hk : P.underlying kt = some (.int q)) {b : Nat} {es : Array MapEntry} {clock : Nat} (hb : w.heap[b]? = some (.map es clock))
    {k : Int} (h : ∀ e ∈ es.toList, ∃ x : Int, e.key = .int q x ∧ x ≠ k) (v : Value) :
    (Instr.mapUpdate t (.map (some b)) (.int q k) v).run P w = .ok () { w with heap := w.heap.setIfInBounds b (.map (es.push { key := .int q k, val := v, born := clock }) (clock + 1)) } := by
  have hf := run_findKey (P := P) (w := w) hk (findNow_none q k es.toList 0 h)
  have hc := fun em => run_checkInt (P := P) (w := w) hk em 9999 k
  simp only [Nat.reduceAdd] at hc
  simp [Instr.mapUpdate, run_underlying ht, MapKept.run_getObj_map hb, hc, hf, Result.andThen, setObj, Sem.run, hb]
theorem run_update_some (ht : P.underlying t = some (.map kt et)) (hk : P.underlying kt = some (.int q)) {b : Nat} {es : Array MapEntry} {clock : Nat} (hb : w.heap[b]? = some (.map es clock))
    {k : Int} {l r : List MapEntry} {e : MapEntry} (hs : es.toList = l ++ e :: r) (hek : e.key = .int q k) (h : ∀ e ∈ l, ∃ x : Int, e.key = .int q x ∧ x ≠ k) (v : Value) :
    (Instr.mapUpdate t (.map (some b)) (.int q k) v).run P w = .ok () { w with heap := w.heap.setIfInBounds b (.map (l ++ { e with val := v } :: r).toArray clock) } := by
  have hf := findNow_some q k e r hek l 0 h
  rw [← hs] at hf
  replace hf := run_findKey (P := P) (w := w) hk hf
  have hc := fun em => run_checkInt (P := P) (w := w) hk em 9999 k
  simp only [Nat.reduceAdd] at hc
  have hes : es = (l ++ e :: r).toArray := by rw [← hs]
  have hm : es.modify l.length (fun e => { e with key := .int q k, val := v }) = (l ++ { e with val := v } :: r).toArray := by
    apply Array.toList_inj.1
    rw [hes]
    simp only [Array.toList_modify, modify_mid]
    simp [← hek]
  have hg : es[l.length]? = some e := by rw [hes]; simp
  simp [Instr.mapUpdate, run_underlying ht, MapKept.run_getObj_map hb, hc, hf, Result.andThen, setObj, Sem.run, hb, keyThatStays, hg, hek, sameBits, hm]
theorem run_delete_some {ty : TypeId} (ht : P.underlying t = some (.map kt et)) (hk : P.underlying kt = some (.int q)) {b : Nat} {es : Array MapEntry} {clock : Nat} (hb : w.heap[b]? = some (.map es clock))
    {k : Int} {l r : List MapEntry} {e : MapEntry} (hs : es.toList = l ++ e :: r) (hek : e.key = .int q k) (h : ∀ e ∈ l, ∃ x : Int, e.key = .int q x ∧ x ≠ k) (kt' : TypeId) :
    (Builtin.delete_ #[t, kt'] ty #[.map (some b), .int q k]).run P w = .ok (.tuple #[]) { w with heap := w.heap.setIfInBounds b (.map (l ++ r).toArray clock) } := by
  have hf := findNow_some q k e r hek l 0 h
  rw [← hs] at hf
  replace hf := run_findKey (P := P) (w := w) hk hf
  have hc := fun em => run_checkInt (P := P) (w := w) hk em 9999 k
  simp only [Nat.reduceAdd] at hc
  have hes : es = (l ++ e :: r).toArray := by rw [← hs]
  have hm : es.eraseIdxIfInBounds l.length = (l ++ r).toArray := by
    rw [hes]
    simp [Array.eraseIdxIfInBounds, List.eraseIdx_append_of_length_le]
  simp [Builtin.delete_, run_underlying ht, MapKept.run_getObj_map hb, hc, hf, Result.andThen, setObj, Sem.run, hb, hm]
end
end Go.Proofs.Ytapnmgkpljlgmaa
namespace Go.Proofs.Ytapnmgkpljlgmaa
open Go.RowKit

theorem ret_int {k : IntKind} {a b : Int} (h : a = b) : Ending.returned (.int k a) = .returned (.int k b) := by rw [h]
theorem ret_bool {a b : Bool} (h : a = b) : Ending.returned (.bool a) = .returned (.bool b) := by rw [h]

/-- An edge as a number: its target, and is it strict. -/
def eg (t : Nat) (s : Bool) : Nat := 2 * t + (if s then 1 else 0)
set_option maxHeartbeats 400000 in
theorem newedge_c (t : Nat) (s : Bool) (w : World) (ht : t < 2147483648) :
    Calls Try.prog 131 #[.int .u32 t, .bool s] w fun e w' => e = .returned (.int .u32 (eg t s : Nat)) ∧ w = w' := by
  have h0 := u32_or_nat (t * 2) 0 (by omega) (by omega)
  have h1 := u32_or_nat (t * 2) 1 (by omega) (by omega)
  rw [or_bit _ _ (by omega) (by omega)] at h0 h1
  have H := Lib.hid (And.intro h0 h1)
  clear h0 h1
  cases s
  · go_enter Try.func131, Try.ntmps131
    go_wp2
    go_ret
    refine ⟨ret_int ?_, rfl⟩
    unfold eg
    have := H.out.1
    simp only [Int.natCast_mul, Int.cast_ofNat_Int] at this
    simpa [Int.mul_comm] using this
  · go_enter Try.func131, Try.ntmps131
    go_wp2
    go_ret
    refine ⟨ret_int ?_, rfl⟩
    unfold eg
    have := H.out.2
    simp only [Int.natCast_mul, Int.cast_ofNat_Int] at this
    refine this.trans ?_
    simp [Int.mul_comm]
set_option maxHeartbeats 400000 in
theorem target_c (e : Nat) (w : World) :
    Calls Try.prog 124 #[.int .u32 e] w fun r w' => r = .returned (.int .u32 ((e / 2 : Nat) : Int)) ∧ w = w' := by
  go_enter Try.func124, Try.ntmps124
  go_wp2
  go_ret
  exact ⟨rfl, rfl⟩
set_option maxHeartbeats 400000 in
theorem strict_c (e : Nat) (w : World) (ht : e < 4294967296) :
    Calls Try.prog 136 #[.int .u32 e] w fun r w' => r = .returned (.bool (e % 2 == 1)) ∧ w = w' := by
  have h0 := u32_and_nat e 1 ht (by omega)
  rw [Nat.and_one_is_mod] at h0
  have H := Lib.hid h0
  clear h0
  go_enter Try.func136, Try.ntmps136
  go_wp2
  go_ret
  refine ⟨ret_bool ?_, rfl⟩
  show (bits BinOp.and IntKind.u32 (↑e) 1 != 0) = _
  have := H.out
  simp only [Int.cast_ofNat_Int] at this
  rw [this]
  rcases Nat.mod_two_eq_zero_or_one e with h | h <;> simp [h]

/-- Block g: the words of a set of numbers, k words of them in use; number x is in it iff f x. -/
def Bits (w : World) (g k c : Nat) (f : Nat → Bool) : Prop :=
  ∃ cur : Array Value, w.heap[g]? = some (.cells cur 140 (0, 0)) ∧ cur.size = c ∧ k ≤ c ∧ c ≤ maxLen ∧
    ∀ j, j < k → ∃ x : Nat, x < 18446744073709551616 ∧ cur[j]? = some (.int .u64 (x : Int)) ∧ ∀ b, b < 64 → x.testBit b = f (64 * j + b)

theorem Bits.kept {w w' : World} {g k c : Nat} {f : Nat → Bool} (h : Bits w g k c f) (hb : w'.heap[g]? = w.heap[g]?) : Bits w' g k c f := by
  obtain ⟨cur, h1, r⟩ := h
  exact ⟨cur, hb.trans h1, r⟩
theorem Bits.lt {w : World} {g k c : Nat} {f : Nat → Bool} (h : Bits w g k c f) : g < w.heap.size := heap_lt h.choose_spec.1

def shl1 (i : Nat) : Nat := 2 ^ (i % 64)
theorem shl1_lt (i : Nat) : shl1 i < 18446744073709551616 := by
  have := Nat.pow_lt_pow_right (a := 2) (by omega) (Nat.mod_lt i (show 0 < 64 by omega))
  simpa [shl1] using this

theorem test_val (x i : Nat) (hx : x < 18446744073709551616) : (bits .and .u64 (x : Int) (shl1 i : Nat) != 0) = x.testBit (i % 64) := by
  rw [bits_and_u64_nat x _ hx (shl1_lt i)]
  unfold shl1
  cases hb : x.testBit (i % 64)
  · have : x &&& 2 ^ (i % 64) = 0 := by
      apply Nat.eq_of_testBit_eq
      intro j
      rw [Nat.testBit_and, Nat.testBit_two_pow]
      by_cases hj : i % 64 = j
      · subst hj; simp [hb]
      · simp [hj]
    simp [this]
  · have : x &&& 2 ^ (i % 64) ≠ 0 := by
      intro h0
      have := congrArg (fun n => Nat.testBit n (i % 64)) h0
      simp [Nat.testBit_and, hb] at this
    simp only [bne_iff_ne, ne_eq]
    omega
theorem shl_wrap (i : Nat) : IntKind.u64.wrap ((2 : Int) ^ (i % 64)) = (shl1 i : Nat) := by
  rw [IntKind.wrap_u64]
  have h := shl1_lt i
  have e : (2 : Int) ^ (i % 64) = (shl1 i : Nat) := by simp [shl1]
  rw [e]; omega

set_option maxHeartbeats 400000 in
theorem Test_c {g k c : Nat} {f : Nat → Bool} {w : World} (h : Bits w g k c f) (i : Nat) (hi : i / 64 < k) (hi2 : i < 4294967296) :
    Calls Try.prog 127 #[.slice (some ⟨g, 0, none⟩) k c, .int .u32 i] w fun r w' => r = .returned (.bool (f i)) ∧ w = w' := by
  obtain ⟨cur, h1, h2, h3, h4, h5⟩ := h
  obtain ⟨x, hx, hx1, hx2⟩ := h5 (i / 64) hi
  have hc : w.cell? ⟨g, i / 64, none⟩ = some (.int .u64 x) := by rw [cell_block h1]; exact hx1
  have hT := test_val x i hx
  have hbit := hx2 (i % 64) (Nat.mod_lt _ (by omega))
  rw [Nat.div_add_mod] at hbit
  rw [hbit, ← shl_wrap i] at hT
  have H := Lib.hid hT
  have hk : (k : Int) ≤ 9223372036854775807 := by unfold maxLen at h4; omega
  clear hT hbit h5 hx2 hx1 h1 h2 h3 h4
  go_enter Try.func127, Try.ntmps127
  go_wp2
  go_ret
  exact ⟨ret_bool H.out, rfl⟩

theorem or_bits (x i : Nat) (_hx : x < 18446744073709551616) (f : Nat → Bool) (h : ∀ b, b < 64 → x.testBit b = f (64 * (i / 64) + b)) :
    ∀ b, b < 64 → (x ||| shl1 i).testBit b = (f (64 * (i / 64) + b) || decide (64 * (i / 64) + b = i)) := by
  intro b hb
  rw [Nat.testBit_or, h b hb]
  unfold shl1
  rw [Nat.testBit_two_pow]
  have : (i % 64 = b) ↔ (64 * (i / 64) + b = i) := by omega
  simp [this]
theorem or_lt (x i : Nat) (hx : x < 18446744073709551616) : x ||| shl1 i < 18446744073709551616 :=
  Nat.or_lt_two_pow (n := 64) hx (shl1_lt i)

/-- Behind a store of another word. -/
theorem Bits.store {w : World} {g k c : Nat} {f : Nat → Bool} (h : Bits w g k c f) {m y : Nat} (hm : m < k) (hy : y < 18446744073709551616) {f' : Nat → Bool}
    (h1 : ∀ b, b < 64 → y.testBit b = f' (64 * m + b)) (h2 : ∀ j b, j ≠ m → b < 64 → f' (64 * j + b) = f (64 * j + b)) :
    Bits (w.setCell ⟨g, m, none⟩ (.int .u64 (y : Int))) g k c f' := by
  obtain ⟨cur, b1, b2, b3, b4, b5⟩ := h
  refine ⟨_, set_block _ b1, by simpa using b2, b3, b4, fun j hj => ?_⟩
  by_cases hjm : j = m
  · subst hjm
    exact ⟨y, hy, by rw [Array.getElem?_setIfInBounds_self_of_lt (by omega)], h1⟩
  · obtain ⟨x, x1, x2, x3⟩ := b5 j hj
    exact ⟨x, x1, by rw [Array.getElem?_setIfInBounds_ne (fun e => hjm e.symm)]; exact x2, fun b hb => by rw [x3 b hb, h2 j b hjm hb]⟩

def setB (f : Nat → Bool) (i : Nat) : Nat → Bool := fun j => f j || decide (j = i)
def clrB (f : Nat → Bool) (i : Nat) : Nat → Bool := fun j => f j && decide (j ≠ i)

set_option maxHeartbeats 400000 in
theorem Set_c {g k c : Nat} {f : Nat → Bool} {w : World} (h : Bits w g k c f) (i : Nat) (hi : i / 64 < k) (hi2 : i < 4294967296) :
    Calls Try.prog 115 #[.slice (some ⟨g, 0, none⟩) k c, .int .u32 i] w fun r w' => r = .returned (.tuple #[]) ∧ Bits w' g k c (setB f i) ∧ Fr w w' (· = g) := by
  have hB := h
  obtain ⟨cur, h1, h2, h3, h4, h5⟩ := h
  obtain ⟨x, hx, hx1, hx2⟩ := h5 (i / 64) hi
  have hc : w.cell? ⟨g, i / 64, none⟩ = some (.int .u64 x) := by rw [cell_block h1]; exact hx1
  have hf : w.frozen? ⟨g, i / 64, none⟩ = false := frozen_block h1
  have hS := bits_or_u64_nat x (shl1 i) hx (shl1_lt i)
  rw [← shl_wrap i] at hS
  have H := Lib.hid hS
  have HX := Lib.hid hx2
  have HB := Lib.hid hB
  have hk : (k : Int) ≤ 9223372036854775807 := by unfold maxLen at h4; omega
  clear hS h5 hx2 hx1 h1 h2 h3 h4 hB
  go_enter Try.func115, Try.ntmps115
  go_wp2
  go_end0
  rw [H.out]
  refine ⟨rfl, HB.out.store hi (or_lt x i hx) (or_bits x i hx f HX.out) (fun j b hj hb => ?_), Fr.setCell _ _ _ rfl⟩
  have : ¬ (64 * j + b = i) := by omega
  simp [setB, this]

theorem andNot_val (x i : Nat) (hx : x < 18446744073709551616) : bits .andNot .u64 (x : Int) (shl1 i : Nat) = ((x &&& (18446744073709551615 - shl1 i) : Nat) : Int) :=
  u64_andNot_nat x _ hx (shl1_lt i)
theorem andNot_bits (x i : Nat) (f : Nat → Bool) (h : ∀ b, b < 64 → x.testBit b = f (64 * (i / 64) + b)) :
    ∀ b, b < 64 → (x &&& (18446744073709551615 - shl1 i)).testBit b = (f (64 * (i / 64) + b) && decide (64 * (i / 64) + b ≠ i)) := by
  intro b hb
  have e : (18446744073709551615 - shl1 i) = 2 ^ 64 - (shl1 i + 1) := by have := shl1_lt i; omega
  rw [Nat.testBit_and, h b hb, e, Nat.testBit_two_pow_sub_succ (shl1_lt i)]
  unfold shl1
  rw [Nat.testBit_two_pow]
  have : (i % 64 = b) ↔ (64 * (i / 64) + b = i) := by omega
  simp [this, hb]

set_option maxHeartbeats 400000 in
theorem Clear_c {g k c : Nat} {f : Nat → Bool} {w : World} (h : Bits w g k c f) (i : Nat) (hi : i / 64 < k) (hi2 : i < 4294967296) :
    Calls Try.prog 120 #[.slice (some ⟨g, 0, none⟩) k c, .int .u32 i] w fun r w' => r = .returned (.tuple #[]) ∧ Bits w' g k c (clrB f i) ∧ Fr w w' (· = g) := by
  have hB := h
  obtain ⟨cur, h1, h2, h3, h4, h5⟩ := h
  obtain ⟨x, hx, hx1, hx2⟩ := h5 (i / 64) hi
  have hc : w.cell? ⟨g, i / 64, none⟩ = some (.int .u64 x) := by rw [cell_block h1]; exact hx1
  have hf : w.frozen? ⟨g, i / 64, none⟩ = false := frozen_block h1
  have hS := andNot_val x i hx
  rw [← shl_wrap i] at hS
  have H := Lib.hid hS
  have HX := Lib.hid hx2
  have HB := Lib.hid hB
  have hk : (k : Int) ≤ 9223372036854775807 := by unfold maxLen at h4; omega
  clear hS h5 hx2 hx1 h1 h2 h3 h4 hB
  go_enter Try.func120, Try.ntmps120
  go_wp2
  go_end0
  rw [H.out]
  refine ⟨rfl, HB.out.store hi (Nat.lt_of_le_of_lt Nat.and_le_left hx) (andNot_bits x i f HX.out) (fun j b hj hb => ?_), Fr.setCell _ _ _ rfl⟩
  have : (64 * j + b ≠ i) := by omega
  simp [clrB, this]
end Go.Proofs.Ytapnmgkpljlgmaa
namespace Go.Proofs.Ytapnmgkpljlgmaa

def isE (e j : Nat) (s : Bool) : Prop := e ≠ 0 ∧ e / 2 = j ∧ decide (e % 2 = 1) = s
/-- There is an edge from i to j; s: is it strict. -/
def Ed (nd : Nat → Nat × Nat) (i j : Nat) (s : Bool) : Prop := isE (nd i).1 j s ∨ isE (nd i).2 j s
def PthN (nd : Nat → Nat × Nat) : Nat → Nat → Nat → Bool → Prop
  | 0, a, c, f => a = c ∧ f = false
  | n + 1, a, c, f => ∃ b s t, Ed nd a b s ∧ PthN nd n b c t ∧ f = (s || t)
/-- There is a path from a to c; f: is one of its edges strict. -/
def Pth (nd : Nat → Nat × Nat) (a c : Nat) (f : Bool) : Prop := ∃ n, PthN nd n a c f

section
variable {nd : Nat → Nat × Nat}
theorem Pth.nil (a : Nat) : Pth nd a a false := ⟨0, rfl, rfl⟩
theorem Pth.cons {a b c : Nat} {s t : Bool} (h : Ed nd a b s) (k : Pth nd b c t) : Pth nd a c (s || t) := by
  obtain ⟨n, hn⟩ := k
  exact ⟨n + 1, b, s, t, h, hn, rfl⟩
theorem Pth.one {a b : Nat} {s : Bool} (h : Ed nd a b s) : Pth nd a b s := by
  have := Pth.cons h (Pth.nil b)
  simpa using this
/-- Induction from the head of a path. -/
theorem Pth.ind {c : Nat} {M : Nat → Bool → Prop} (h0 : M c false) (h1 : ∀ a b s t, Ed nd a b s → Pth nd b c t → M b t → M a (s || t)) : ∀ {a f}, Pth nd a c f → M a f := by
  intro a f ⟨n, h⟩
  induction n generalizing a f with
  | zero => obtain ⟨rfl, rfl⟩ := h; exact h0
  | succ n ih =>
    obtain ⟨b, s, t, e, k, rfl⟩ := h
    exact h1 a b s t e ⟨n, k⟩ (ih k)
theorem Pth.trans {a b c : Nat} {s t : Bool} (h : Pth nd a b s) (k : Pth nd b c t) : Pth nd a c (s || t) := by
  refine Pth.ind (M := fun a s => Pth nd a c (s || t)) (by simpa using k) ?_ h
  intro a b s u e _ ih
  have := Pth.cons e ih
  rwa [← Bool.or_assoc] at this
theorem Pth.snoc {a b c : Nat} {s t : Bool} (h : Pth nd a b s) (k : Ed nd b c t) : Pth nd a c (s || t) := h.trans (.one k)
theorem Pth.cases {a c : Nat} {f : Bool} (h : Pth nd a c f) : (a = c ∧ f = false) ∨ ∃ b s t, Ed nd a b s ∧ Pth nd b c t ∧ f = (s || t) := by
  obtain ⟨n, h⟩ := h
  cases n with
  | zero => exact .inl h
  | succ n => obtain ⟨b, s, t, e, k, r⟩ := h; exact .inr ⟨b, s, t, e, ⟨n, k⟩, r⟩
/-- A path that has a strict edge: not strict up to there, then anyhow. -/
theorem Pth.strict_iff {a c : Nat} : Pth nd a c true ↔ ∃ b y f, Pth nd a b false ∧ Ed nd b y true ∧ Pth nd y c f := by
  constructor
  · intro h
    refine Pth.ind (c := c) (M := fun a f => f = true → ∃ b y g, Pth nd a b false ∧ Ed nd b y true ∧ Pth nd y c g) (by simp) ?_ h rfl
    intro a b s t e k ih hst
    cases s with
    | true => exact ⟨a, b, t, .nil a, e, k⟩
    | false =>
      obtain ⟨x, y, g, h1, h2, h3⟩ := ih (by simpa using hst)
      exact ⟨x, y, g, by simpa using Pth.cons e h1, h2, h3⟩
  · rintro ⟨b, y, f, h1, h2, h3⟩
    have := h1.trans (Pth.cons h2 h3)
    simpa using this

/-! ## counting what is not yet closed -/
def cnt : Nat → (Nat → Bool) → Nat
  | 0, _ => 0
  | n + 1, C => cnt n C + if C n then 0 else 1
theorem cnt_none : ∀ n : Nat, cnt n (fun _ => false) = n
  | 0 => rfl
  | n + 1 => by simp [cnt, cnt_none n]
theorem cnt_le : ∀ (n : Nat) (C : Nat → Bool), cnt n C ≤ n
  | 0, _ => Nat.le_refl _
  | n + 1, C => by have := cnt_le n C; simp only [cnt]; split <;> omega
theorem cnt_same {C : Nat → Bool} {x : Nat} : ∀ n : Nat, n ≤ x → cnt n (setB C x) = cnt n C
  | 0, _ => rfl
  | n + 1, h => by
    have h1 : (n = x) = False := by simp; omega
    have ih := cnt_same (C := C) (x := x) n (by omega)
    simp [cnt, ih, setB, h1]
theorem cnt_set {C : Nat → Bool} {x : Nat} (hC : C x = false) : ∀ n : Nat, x < n → cnt n (setB C x) + 1 = cnt n C
  | 0, h => by omega
  | n + 1, h => by
    by_cases hx : x = n
    · subst hx
      simp [cnt, cnt_same x (Nat.le_refl _), setB, hC]
    · have h1 : (n = x) = False := by simp; omega
      have := cnt_set hC n (by omega)
      simp only [cnt, setB, h1, decide_false, Bool.or_false] at this ⊢
      omega

/-! ## the search -/
def kid (e : Nat) : List Nat := if e = 0 then [] else [e / 2]
def kids (e : Nat × Nat) : List Nat := kid e.1 ++ kid e.2
theorem kid_len (e : Nat) : (kid e).length ≤ 1 := by unfold kid; split <;> simp
theorem kids_len (e : Nat × Nat) : (kids e).length ≤ 2 := by have := kid_len e.1; have := kid_len e.2; simp [kids]; omega
theorem mem_kids {x y : Nat} : y ∈ kids (nd x) ↔ ∃ s, Ed nd x y s := by
  unfold kids kid Ed isE
  constructor
  · intro h
    rcases List.mem_append.1 h with h | h
    · split at h
      · simp at h
      · rename_i h0; simp at h; exact ⟨_, .inl ⟨h0, h.symm, rfl⟩⟩
    · split at h
      · simp at h
      · rename_i h0; simp at h; exact ⟨_, .inr ⟨h0, h.symm, rfl⟩⟩
  · rintro ⟨s, ⟨h0, h1, _⟩ | ⟨h0, h1, _⟩⟩
    · simp [h0, h1]
    · simp [h0, h1]

/-- All edges lead to nodes. -/
def InR (nd : Nat → Nat × Nat) (n : Nat) : Prop := ∀ x y s, Ed nd x y s → y < n

structure D2 (nd : Nat → Nat × Nat) (n : Nat) (st : Nat → Prop) (d : Nat → Prop) (O : List Nat) (C : Nat → Bool) : Prop where
  o : ∀ x ∈ O, x < n ∧ ∃ a f, st a ∧ Pth nd a x f
  c : ∀ x, C x = true → ¬ d x ∧ (∀ y s, Ed nd x y s → C y = true ∨ y ∈ O)
  s : ∀ a, st a → C a = true ∨ a ∈ O
  m : O.length + 2 * cnt n C ≤ 4 * n + 1
theorem D2.skip {n : Nat} {st d : Nat → Prop} {O : List Nat} {x : Nat} {C : Nat → Bool} (h : D2 nd n st d (O ++ [x]) C) (hx : C x = true) : D2 nd n st d O C := by
  refine ⟨fun y hy => h.o y (by simp [hy]), fun y hy => ⟨(h.c y hy).1, fun z s e => ?_⟩, fun a ha => ?_, by have := h.m; simp at this; omega⟩
  · rcases (h.c y hy).2 z s e with h1 | h1
    · exact .inl h1
    · simp only [List.mem_append, List.mem_singleton] at h1
      rcases h1 with h1 | rfl
      · exact .inr h1
      · exact .inl hx
  · rcases h.s a ha with h1 | h1
    · exact .inl h1
    · simp only [List.mem_append, List.mem_singleton] at h1
      rcases h1 with h1 | rfl
      · exact .inr h1
      · exact .inl hx
theorem D2.step {n : Nat} (hr : InR nd n) {st d : Nat → Prop} {O : List Nat} {x : Nat} {C : Nat → Bool} (h : D2 nd n st d (O ++ [x]) C) (hx : C x = false) (hd : ¬ d x) : D2 nd n st d (O ++ kids (nd x)) (setB C x) := by
  have hxn := h.o x (by simp)
  have old : ∀ y, (C y = true ∨ y ∈ O ++ [x]) → setB C x y = true ∨ y ∈ O ++ kids (nd x) := by
    intro y hy
    simp only [List.mem_append, List.mem_singleton] at hy
    rcases hy with hy | hy | rfl
    · exact .inl (by simp [setB, hy])
    · exact .inr (by simp [hy])
    · exact .inl (by simp [setB])
  refine ⟨fun y hy => ?_, fun y hy => ?_, fun a ha => old a (h.s a ha), ?_⟩
  · rcases List.mem_append.1 hy with hy | hy
    · exact h.o y (by simp [hy])
    · obtain ⟨s, e⟩ := mem_kids.1 hy
      obtain ⟨_, a, f, ha, hp⟩ := hxn
      exact ⟨hr x y s e, a, _, ha, hp.snoc e⟩
  · by_cases hyx : y = x
    · subst hyx
      exact ⟨hd, fun z s e => .inr (List.mem_append.2 (.inr (mem_kids.2 ⟨s, e⟩)))⟩
    · have hyC : C y = true := by simpa [setB, hyx] using hy
      exact ⟨(h.c y hyC).1, fun z s e => old z ((h.c y hyC).2 z s e)⟩
  · have h1 := cnt_set hx n hxn.1
    have h2 := h.m
    have h3 := kids_len (nd x)
    simp at h2 ⊢
    omega
theorem D2.none {n : Nat} {st d : Nat → Prop} {C : Nat → Bool} (h : D2 nd n st d [] C) : ¬ ∃ a x f, st a ∧ d x ∧ Pth nd a x f := by
  rintro ⟨a, x, f, ha, hx, hp⟩
  have hCa : C a = true := by simpa using h.s a ha
  refine Pth.ind (c := x) (M := fun y _ => C y = true → False) (fun hc => (h.c x hc).1 hx) ?_ hp hCa
  intro y b s t e _ ih hc
  exact ih (by simpa using (h.c y hc).2 b s e)
theorem D2.start {n r : Nat} (d : Nat → Prop) (hr : r < n) : D2 nd n (fun a => a = r) d [r] (fun _ => false) := by
  refine ⟨?_, by simp, by simp, by simp [cnt_none]; omega⟩
  intro x hx
  simp at hx; subst hx
  exact ⟨hr, x, false, rfl, .nil x⟩
theorem D2.start_list {n : Nat} {N : List Nat} (d : Nat → Prop) (hr : ∀ x ∈ N, x < n) (hl : N.length ≤ 2 * n) : D2 nd n (fun a => a ∈ N) d N (fun _ => false) := by
  refine ⟨?_, by simp, fun a ha => .inr ha, by simp [cnt_none]; omega⟩
  intro x hx
  exact ⟨hr x hx, x, false, hx, .nil x⟩

/-- The first search: open, and what strict edges lead to. -/
def ph (e : Nat) (ON : List Nat × List Nat) : List Nat × List Nat := if e = 0 then ON else if e % 2 = 1 then (ON.1, ON.2 ++ [e / 2]) else (ON.1 ++ [e / 2], ON.2)
def ph2 (e : Nat × Nat) (ON : List Nat × List Nat) : List Nat × List Nat := ph e.2 (ph e.1 ON)
theorem mem_ph {e y : Nat} {ON : List Nat × List Nat} : (y ∈ (ph e ON).1 ↔ y ∈ ON.1 ∨ isE e y false) ∧ (y ∈ (ph e ON).2 ↔ y ∈ ON.2 ∨ isE e y true) := by
  unfold ph isE
  by_cases h0 : e = 0
  · simp [h0]
  · by_cases h1 : e % 2 = 1
    · simp [h0, h1, eq_comm]
    · simp [h0, h1, eq_comm]
theorem mem_ph2 {x y : Nat} {ON : List Nat × List Nat} : (y ∈ (ph2 (nd x) ON).1 ↔ y ∈ ON.1 ∨ Ed nd x y false) ∧ (y ∈ (ph2 (nd x) ON).2 ↔ y ∈ ON.2 ∨ Ed nd x y true) := by
  unfold ph2 Ed
  rw [mem_ph.1, mem_ph.1, mem_ph.2, mem_ph.2]
  exact ⟨or_assoc, or_assoc⟩
theorem ph_len (e : Nat) (ON : List Nat × List Nat) : (ph e ON).1.length + (ph e ON).2.length ≤ ON.1.length + ON.2.length + 1 := by
  unfold ph; split
  · omega
  · split <;> simp <;> omega
theorem ph2_len (e : Nat × Nat) (ON : List Nat × List Nat) : (ph2 e ON).1.length + (ph2 e ON).2.length ≤ ON.1.length + ON.2.length + 2 := by
  have h1 := ph_len e.1 ON
  have h2 := ph_len e.2 (ph e.1 ON)
  unfold ph2; omega
theorem ph_len1 (e : Nat) (ON : List Nat × List Nat) : (ph e ON).1.length ≤ ON.1.length + 1 ∧ (ph e ON).2.length ≤ ON.2.length + 1 := by
  unfold ph; split
  · omega
  · split <;> simp
theorem ph2_len1 (e : Nat × Nat) (ON : List Nat × List Nat) : (ph2 e ON).1.length ≤ ON.1.length + 2 ∧ (ph2 e ON).2.length ≤ ON.2.length + 2 := by
  have h1 := ph_len1 e.1 ON
  have h2 := ph_len1 e.2 (ph e.1 ON)
  unfold ph2; omega

structure D1 (nd : Nat → Nat × Nat) (n r : Nat) (O N : List Nat) (C : Nat → Bool) : Prop where
  o : ∀ x ∈ O, x < n ∧ Pth nd r x false
  c : ∀ x, C x = true → ∀ y s, Ed nd x y s → if s then y ∈ N else C y = true ∨ y ∈ O
  s : C r = true ∨ r ∈ O
  k : ∀ y ∈ N, y < n ∧ ∃ a, Pth nd r a false ∧ Ed nd a y true
  m : O.length + 2 * cnt n C ≤ 2 * n + 1
  l : N.length + 2 * cnt n C ≤ 2 * n
theorem D1.start {n r : Nat} (hr : r < n) : D1 nd n r [r] [] (fun _ => false) := by
  refine ⟨?_, by simp, by simp, by simp, by simp [cnt_none]; omega, by simp [cnt_none]⟩
  intro x hx
  simp at hx; subst hx
  exact ⟨hr, .nil x⟩
theorem D1.skip {n r : Nat} {O N : List Nat} {x : Nat} {C : Nat → Bool} (h : D1 nd n r (O ++ [x]) N C) (hx : C x = true) : D1 nd n r O N C := by
  have old : ∀ y, (C y = true ∨ y ∈ O ++ [x]) → C y = true ∨ y ∈ O := by
    intro y hy
    simp only [List.mem_append, List.mem_singleton] at hy
    rcases hy with hy | hy | rfl
    · exact .inl hy
    · exact .inr hy
    · exact .inl hx
  refine ⟨fun y hy => h.o y (by simp [hy]), fun y hy z s e => ?_, old r h.s, h.k, by have := h.m; simp at this; omega, h.l⟩
  have := h.c y hy z s e
  cases s
  · exact old z (by simpa using this)
  · exact this
theorem D1.step {n r : Nat} (hr : InR nd n) {O N : List Nat} {x : Nat} {C : Nat → Bool} (h : D1 nd n r (O ++ [x]) N C) (hx : C x = false) : D1 nd n r (ph2 (nd x) (O, N)).1 (ph2 (nd x) (O, N)).2 (setB C x) := by
  have hxn := h.o x (by simp)
  have old : ∀ y, (C y = true ∨ y ∈ O ++ [x]) → setB C x y = true ∨ y ∈ (ph2 (nd x) (O, N)).1 := by
    intro y hy
    simp only [List.mem_append, List.mem_singleton] at hy
    rw [mem_ph2.1]
    rcases hy with hy | hy | rfl
    · exact .inl (by simp [setB, hy])
    · exact .inr (.inl hy)
    · exact .inl (by simp [setB])
  refine ⟨fun y hy => ?_, fun y hy z s e => ?_, old r h.s, fun y hy => ?_, ?_, ?_⟩
  · rcases mem_ph2.1.1 hy with hy | hy
    · exact h.o y (by simp [hy])
    · exact ⟨hr x y _ hy, by simpa using hxn.2.snoc hy⟩
  · by_cases hyx : y = x
    · subst hyx
      cases s
      · exact .inr (mem_ph2.1.2 (.inr e))
      · exact mem_ph2.2.2 (.inr e)
    · have hyC : C y = true := by simpa [setB, hyx] using hy
      have := h.c y hyC z s e
      cases s
      · exact old z (by simpa using this)
      · exact mem_ph2.2.2 (.inl (by simpa using this))
  · rcases mem_ph2.2.1 hy with hy | hy
    · exact h.k y hy
    · exact ⟨hr x y _ hy, x, hxn.2, hy⟩
  · have h1 := cnt_set hx n hxn.1
    have h2 := h.m
    have h3 := ph2_len1 (nd x) (O, N)
    simp at h2 h3
    omega
  · have h1 := cnt_set hx n hxn.1
    have h2 := h.l
    have h3 := ph2_len1 (nd x) (O, N)
    simp at h2 h3
    omega
theorem D1.done {n r : Nat} {N : List Nat} {C : Nat → Bool} (h : D1 nd n r [] N C) (y : Nat) : y ∈ N ↔ ∃ a, Pth nd r a false ∧ Ed nd a y true := by
  constructor
  · intro hy; exact (h.k y hy).2
  · rintro ⟨a, hp, e⟩
    have hr : C r = true := by simpa using h.s
    have hC : C a = true := by
      refine Pth.ind (c := a) (M := fun z f => f = false → C z = true → C a = true) (fun _ => id) ?_ hp rfl hr
      intro z b s t e _ ih hst hz
      simp only [Bool.or_eq_false_iff] at hst
      have := h.c z hz b s e
      rw [hst.1] at this
      exact ih hst.2 (by simpa using this)
    have := h.c a hC y true e
    simpa using this
theorem reach_true_iff {N : List Nat} {r d : Nat} (h : ∀ y, y ∈ N ↔ ∃ a, Pth nd r a false ∧ Ed nd a y true) : Pth nd r d true ↔ ∃ y f, y ∈ N ∧ Pth nd y d f := by
  rw [Pth.strict_iff]
  constructor
  · rintro ⟨a, y, f, h1, h2, h3⟩
    exact ⟨y, f, (h y).2 ⟨a, h1, h2⟩, h3⟩
  · rintro ⟨y, f, h1, h2⟩
    obtain ⟨a, h3, h4⟩ := (h y).1 h1
    exact ⟨a, y, f, h3, h4, h2⟩
end

open Classical in
/-- What reaches answers. -/
noncomputable def reachB (nd : Nat → Nat × Nat) (a c : Nat) (strict : Bool) : Bool := decide (if strict then Pth nd a c true else ∃ f, Pth nd a c f)
theorem reachB_iff (nd : Nat → Nat × Nat) (a c : Nat) : (reachB nd a c false = true ↔ ∃ f, Pth nd a c f) ∧ (reachB nd a c true = true ↔ Pth nd a c true) := by
  unfold reachB
  simp
theorem reachB_t {nd : Nat → Nat × Nat} {a c f : _} (h : Pth nd a c f) : true = reachB nd a c false := ((reachB_iff nd a c).1.2 ⟨f, h⟩).symm
theorem reachB_f {nd : Nat → Nat × Nat} {a c : Nat} (h : ¬ ∃ f, Pth nd a c f) : false = reachB nd a c false := by
  cases e : reachB nd a c false
  · rfl
  · exact absurd ((reachB_iff nd a c).1.1 e) h
theorem reachB_t' {nd : Nat → Nat × Nat} {a c : Nat} (h : Pth nd a c true) : true = reachB nd a c true := ((reachB_iff nd a c).2.2 h).symm
theorem reachB_f' {nd : Nat → Nat × Nat} {a c : Nat} (h : ¬ Pth nd a c true) : false = reachB nd a c true := by
  cases e : reachB nd a c true
  · rfl
  · exact absurd ((reachB_iff nd a c).2.1 e) h
end Go.Proofs.Ytapnmgkpljlgmaa
namespace Go.Proofs.Ytapnmgkpljlgmaa
open Go.RowKit

/-- An undo pass: the four fields of posetUndo. -/
structure Un where
  typ : Nat
  idx : Nat
  id : Nat
  edge : Nat

/-- The fields of the poset: lastidx, nodes (edges as numbers), values (0: absent), the set of roots, the recorded pairs, the undo chain, newest first. -/
structure PS where
  last : Nat
  nodes : List (Nat × Nat)
  vl : Nat → Nat
  rt : Nat → Bool
  nq : Nat → Nat → Bool
  lg : List Un

def upd {α : Type} (f : Nat → α) (i : Nat) (v : α) : Nat → α := fun j => if j = i then v else f j

def nodeCell (e : Nat × Nat) : List Value := [.int .u32 (e.1 : Nat), .int .u32 (e.2 : Nat)]
def unCell (u : Un) : List Value := [.int .u8 (u.typ : Nat), .int .u32 (u.idx : Nat), .int .i32 (u.id : Nat), .int .u32 (u.edge : Nat)]
def u32Cell (n : Nat) : List Value := [.int .u32 (n : Nat)]
def nodeCells (l : List (Nat × Nat)) : List Value := l.flatMap nodeCell
def unCells (l : List Un) : List Value := l.flatMap unCell
def u32Cells (l : List Nat) : List Value := l.flatMap u32Cell

/-- Block b: the map from IDs to nodes. -/
def VMap (w : World) (b : Nat) (f : Nat → Nat) : Prop :=
  ∃ es clock, w.heap[b]? = some (.map es clock) ∧ Ents .i32 es.toList clock ∧
    (∀ e ∈ es.toList, ∃ id : Nat, e.key = .int .i32 (id : Nat) ∧ e.val = .int .u32 (f id : Nat) ∧ f id ≠ 0) ∧
    (∀ id : Nat, f id ≠ 0 → ∃ e ∈ es.toList, e.key = .int .i32 (id : Nat))

/-- Block b: the map from nodes to sets of nodes; the sets lie in blocks of own. -/
def QMap (w : World) (b : Nat) (q : Nat → Nat → Bool) (own : Nat → Prop) : Prop :=
  ∃ es clock, w.heap[b]? = some (.map es clock) ∧ Ents .u32 es.toList clock ∧
    (∀ e ∈ es.toList, ∃ (i g c : Nat), e.key = .int .u32 (i : Nat) ∧ e.val = .slice (some ⟨g, 0, none⟩) ((i + 63) / 64) c ∧ own g ∧ Bits w g ((i + 63) / 64) c (q i)) ∧
    (es.toList.Pairwise fun a b => a.val.ownBlock ≠ b.val.ownBlock) ∧
    (∀ i j, q i j = true → j < i) ∧
    (∀ i : Nat, (∀ e ∈ es.toList, e.key ≠ .int .u32 (i : Nat)) → ∀ j, q i j = false)

/-- Where the parts lie: the two maps, the three slices, the roots in their order, and a set of blocks that holds all of it. -/
structure Lay where
  vb : Nat
  qb : Nat
  nv : Value
  rv : Value
  uv : Value
  rl : List Nat
  own : Nat → Prop

structure Rep (w : World) (p : Nat) (S : PS) (L : Lay) : Prop where
  hp : w.heap[p]? = some (.cells #[.int .u32 (S.last : Nat), .int .u8 0, .map (some L.vb), L.nv, L.rv, .map (some L.qb), L.uv] 110 (0, 0))
  hn : w.ownsRow 0 146 2 L.nv S.nodes.length (nodeCells S.nodes)
  hr : w.ownsRow 0 108 1 L.rv L.rl.length (u32Cells L.rl)
  hu : w.ownsRow 0 133 4 L.uv S.lg.length (unCells S.lg.reverse)
  hv : VMap w L.vb S.vl
  hq : QMap w L.qb S.nq L.own
  rn : L.rl.Nodup
  rm : ∀ r, r ∈ L.rl ↔ S.rt r = true
  vq : L.vb ≠ L.qb
  op : L.own p
  ov : L.own L.vb
  oq : L.own L.qb
  on : ∀ g, L.nv.ownBlock = some g → L.own g
  orr : ∀ g, L.rv.ownBlock = some g → L.own g
  ou : ∀ g, L.uv.ownBlock = some g → L.own g
  lt : ∀ g, L.own g → g < w.heap.size

theorem VMap.kept {w w' : World} {b : Nat} {f : Nat → Nat} (h : VMap w b f) (hb : w'.heap[b]? = w.heap[b]?) : VMap w' b f := by
  obtain ⟨es, clock, h1, r⟩ := h
  exact ⟨es, clock, hb.trans h1, r⟩
theorem QMap.kept {w w' : World} {b : Nat} {q : Nat → Nat → Bool} {own : Nat → Prop} (h : QMap w b q own) (hb : w'.heap[b]? = w.heap[b]?) (ho : ∀ g, own g → g < w.heap.size → w'.heap[g]? = w.heap[g]?) : QMap w' b q own := by
  obtain ⟨es, clock, h1, h2, h3, r⟩ := h
  refine ⟨es, clock, hb.trans h1, h2, fun e he => ?_, r⟩
  obtain ⟨i, g, c, e1, e2, e3, e4⟩ := h3 e he
  exact ⟨i, g, c, e1, e2, e3, e4.kept (ho g e3 e4.lt)⟩

/-- The map of sets stays where neither its block nor one of the blocks of the sets has turned. -/
theorem QMap.kept' {w w' : World} {b : Nat} {q : Nat → Nat → Bool} {own F : Nat → Prop} (h : QMap w b q own) (hf : Fr w w' F) (hb : ¬ F b) (ho : ∀ {k c f g}, Bits w g k c f → ¬ F g) : QMap w' b q own := by
  obtain ⟨es, clock, h1, h2, h3, r⟩ := h
  refine ⟨es, clock, (hf.block b (heap_lt h1) hb).trans h1, h2, fun e he => ?_, r⟩
  obtain ⟨i, g, c, e1, e2, e3, e4⟩ := h3 e he
  exact ⟨i, g, c, e1, e2, e3, e4.kept (hf.block g e4.lt (ho e4))⟩

/-- What turns none of the blocks leaves the poset as it is. -/
theorem Rep.kept {w w' : World} {p : Nat} {S : PS} {L : Lay} {F : Nat → Prop} (h : Rep w p S L) (hf : Fr w w' F) (hF : ∀ g, L.own g → ¬ F g) : Rep w' p S L where
  hp := (hf.block p (heap_lt h.hp) (hF p h.op)).trans h.hp
  hn := hf.row h.hn fun g hg => hF g (h.on g hg)
  hr := hf.row h.hr fun g hg => hF g (h.orr g hg)
  hu := hf.row h.hu fun g hg => hF g (h.ou g hg)
  hv := h.hv.kept (hf.block _ (h.lt _ h.ov) (hF _ h.ov))
  hq := h.hq.kept (hf.block _ (h.lt _ h.oq) (hF _ h.oq)) fun g hg hl => hf.block g hl (hF g hg)
  rn := h.rn
  rm := h.rm
  vq := h.vq
  op := h.op
  ov := h.ov
  oq := h.oq
  on := h.on
  orr := h.orr
  ou := h.ou
  lt := fun g hg => Nat.lt_of_lt_of_le (h.lt g hg) hf.size
theorem Rep.nix {w w' : World} {p : Nat} {S : PS} {L : Lay} (h : Rep w p S L) (hf : Fr w w' Nix) : Rep w' p S L := h.kept hf fun _ _ => id
theorem Rep.drewN {w : World} {p : Nat} {S : PS} {L : Lay} (h : Rep w p S L) (n : Nat) : Rep (w.drewN n) p S L := h.nix (Fr.drewN w n _)

/-- From w to w' the poset has gone from layout L to L': of what was there only its own blocks have turned, and it owns nothing more that was there. -/
structure Ext (w w' : World) (L L' : Lay) : Prop where
  fr : Fr w w' L.own
  own : ∀ g, L'.own g → L.own g ∨ w.heap.size ≤ g
theorem Ext.refl (w : World) (L : Lay) : Ext w w L L := ⟨Fr.refl w _, fun _ h => .inl h⟩
theorem Ext.trans {a b c : World} {L M N : Lay} (h : Ext a b L M) (k : Ext b c M N) : Ext a c L N :=
  ⟨h.fr.trans k.fr h.own, fun g hg => by
    rcases k.own g hg with h1 | h1
    · exact h.own g h1
    · exact .inr (Nat.le_trans h.fr.size h1)⟩
theorem Ext.nix {w w' : World} {L : Lay} (h : Fr w w' Nix) : Ext w w' L L := ⟨h.mono fun _ e => e.elim, fun _ h => .inl h⟩

/-- The post of a method: it answers v, the poset has become S'. -/
def Post (p : Nat) (w : World) (L : Lay) (v : Value) (S' : PS) (e : Ending) (w' : World) : Prop :=
  e = .returned v ∧ ∃ L', Rep w' p S' L' ∧ Ext w w' L L'

/-- The post of a method that leaves the row of nodes where it lay. -/
def PostK (p : Nat) (w : World) (L : Lay) (v : Value) (S' : PS) (e : Ending) (w' : World) : Prop :=
  e = .returned v ∧ ∃ L', Rep w' p S' L' ∧ Ext w w' L L' ∧ L'.nv = L.nv
theorem PostK.post {p : Nat} {w : World} {L : Lay} {v : Value} {S' : PS} {e : Ending} {w' : World} (h : PostK p w L v S' e w') : Post p w L v S' e w' :=
  ⟨h.1, h.2.choose, h.2.choose_spec.1, h.2.choose_spec.2.1⟩

/-- The post of a method that only looks: it answers v, nothing that was there has turned. -/
def Look (w : World) (v : Value) (e : Ending) (w' : World) : Prop := e = .returned v ∧ Fr w w' Nix

/-! ## reading cells -/
theorem node_get {l : List (Nat × Nat)} {i : Nat} (h : i < l.length) : (nodeCells l)[i * 2]? = some (.int .u32 ((l.getD i (0, 0)).1 : Nat)) ∧ (nodeCells l)[i * 2 + 1]? = some (.int .u32 ((l.getD i (0, 0)).2 : Nat)) := by
  have e : l[i]? = some (l.getD i (0, 0)) := by rw [List.getD_eq_getElem?_getD, List.getElem?_eq_getElem h]; rfl
  have h0 := flat_get (f := nodeCell) (k := 2) (fun _ => rfl) l i 0 _ (by omega) e
  have h1 := flat_get (f := nodeCell) (k := 2) (fun _ => rfl) l i 1 _ (by omega) e
  exact ⟨h0, h1⟩
theorem node_len (l : List (Nat × Nat)) : (nodeCells l).length = l.length * 2 := flat_len (f := nodeCell) (k := 2) (fun _ => rfl) l
theorem un_len (l : List Un) : (unCells l).length = l.length * 4 := flat_len (f := unCell) (k := 4) (fun _ => rfl) l
theorem u32_len (l : List Nat) : (u32Cells l).length = l.length * 1 := flat_len (f := u32Cell) (k := 1) (fun _ => rfl) l
theorem u32_cells_eq (l : List Nat) : u32Cells l = l.map fun n => .int .u32 (n : Nat) := by
  induction l with
  | nil => rfl
  | cons a l ih => simp [u32Cells, u32Cell] at ih ⊢; exact ih
theorem node_set_l {l : List (Nat × Nat)} : ∀ {i : Nat} (e : Nat), i < l.length → (nodeCells l).set (i * 2) (.int .u32 (e : Nat)) = nodeCells (l.set i (e, (l.getD i (0, 0)).2)) := by
  induction l with
  | nil => intro i e h; simp at h
  | cons a l ih =>
    intro i e h
    cases i with
    | zero => simp [nodeCells, nodeCell]
    | succ i =>
      have := ih (i := i) e (by simpa using h)
      have e2 : (i + 1) * 2 = i * 2 + 1 + 1 := by omega
      simp only [nodeCells] at this
      simp [nodeCells, nodeCell, e2] at this ⊢
      exact this
theorem node_set_r {l : List (Nat × Nat)} : ∀ {i : Nat} (e : Nat), i < l.length → (nodeCells l).set (i * 2 + 1) (.int .u32 (e : Nat)) = nodeCells (l.set i ((l.getD i (0, 0)).1, e)) := by
  induction l with
  | nil => intro i e h; simp at h
  | cons a l ih =>
    intro i e h
    cases i with
    | zero => simp [nodeCells, nodeCell]
    | succ i =>
      have := ih (i := i) e (by simpa using h)
      have e2 : (i + 1) * 2 = i * 2 + 1 + 1 := by omega
      simp only [nodeCells] at this
      simp [nodeCells, nodeCell, e2] at this ⊢
      exact this

/-- A row that is not empty lies in a block. -/
theorem row_at {w : World} {e : TypeId} {size : Nat} {v : Value} {n : Nat} {xs : List Value} (h : w.ownsRow 0 e size v n xs) (hn : 0 < n) : ∃ g cap, v = .slice (some ⟨g, 0, none⟩) n cap ∧ n ≤ cap ∧ cap ≤ maxLen := by
  rcases h.2 with ⟨_, h0⟩ | ⟨g, cap, cur, rfl, _, _, h1, h2, _⟩
  · omega
  · exact ⟨g, cap, rfl, h1, h2⟩
end Go.Proofs.Ytapnmgkpljlgmaa
namespace Go.Proofs.Ytapnmgkpljlgmaa
open Go.RowKit

def PS.nd (S : PS) (i : Nat) : Nat × Nat := S.nodes.getD i (0, 0)
def PS.setl (S : PS) (i e : Nat) : PS := { S with nodes := S.nodes.set i (e, (S.nd i).2) }
def PS.setr (S : PS) (i e : Nat) : PS := { S with nodes := S.nodes.set i ((S.nd i).1, e) }
def PS.push (S : PS) (u : Un) : PS := { S with lg := u :: S.lg }

theorem Rep.nodes_at {w : World} {p : Nat} {S : PS} {L : Lay} (h : Rep w p S L) {i : Nat} (hi : i < S.nodes.length) :
    ∃ g cap, L.nv = .slice (some ⟨g, 0, none⟩) S.nodes.length cap ∧ S.nodes.length ≤ maxLen ∧ w.cell? ⟨p, 3, none⟩ = some (.slice (some ⟨g, 0, none⟩) S.nodes.length cap) ∧
      w.cell? ⟨g, i * 2, none⟩ = some (.int .u32 ((S.nd i).1 : Nat)) ∧ w.cell? ⟨g, i * 2 + 1, none⟩ = some (.int .u32 ((S.nd i).2 : Nat)) ∧
      w.frozen? ⟨g, i * 2, none⟩ = false ∧ w.frozen? ⟨g, i * 2 + 1, none⟩ = false := by
  obtain ⟨g, cap, hv, h1, h2⟩ := row_at h.hn (by omega)
  have hn := h.hn
  rw [hv] at hn
  have c0 := hn.cellAt (i * 2) (by omega)
  have c1 := hn.cellAt (i * 2 + 1) (by omega)
  rw [(node_get hi).1] at c0
  rw [(node_get hi).2] at c1
  refine ⟨g, cap, hv, Nat.le_trans h1 h2, ?_, c0, c1, hn.frozenAt _, hn.frozenAt _⟩
  rw [cell_block h.hp, ← hv]; rfl

/-- A store into a node. -/
theorem Rep.store_node {w : World} {p : Nat} {S : PS} {L : Lay} (h : Rep w p S L) {g cap j e : Nat} {l' : List (Nat × Nat)} (hv : L.nv = .slice (some ⟨g, 0, none⟩) S.nodes.length cap)
    (hl : (nodeCells S.nodes).set j (.int .u32 (e : Nat)) = nodeCells l') (hlen : l'.length = S.nodes.length) :
    Rep (w.setCell ⟨g, j, none⟩ (.int .u32 (e : Nat))) p { S with nodes := l' } L ∧ Ext w (w.setCell ⟨g, j, none⟩ (.int .u32 (e : Nat))) L L := by
  have hn := h.hn
  rw [hv] at hn
  obtain ⟨s1, s2⟩ := hn.stored j (.int .u32 (e : Nat))
  rw [hl] at s1
  have hgo : L.own g := h.on g (by rw [hv]; rfl)
  have fr : Fr w (w.setCell ⟨g, j, none⟩ (.int .u32 (e : Nat))) (· = g) := Fr.setCell _ _ _ rfl
  have hg : ∃ cur, w.heap[g]? = some (.cells cur 146 (0, 0)) := by
    rcases hn.2 with ⟨h0, _⟩ | ⟨g', cap', cur, h0, _, hc, _⟩
    · simp at h0
    · simp only [Value.slice.injEq, Option.some.injEq, Addr.mk.injEq, and_true, true_and] at h0
      obtain ⟨rfl, rfl⟩ := h0
      exact ⟨cur, hc⟩
  obtain ⟨cur, hg⟩ := hg
  have hpg : p ≠ g := by rintro rfl; rw [h.hp] at hg; simp at hg
  have other : ∀ {e size n xs} {v : Value}, e ≠ 146 → w.ownsRow 0 e size v n xs → ∀ k, v.ownBlock = some k → ¬ k = g := by
    intro e size n xs v he hr k hk
    rcases hr.2 with ⟨rfl, _⟩ | ⟨k', _, _, rfl, _, hc, _⟩
    · simp [Value.ownBlock] at hk
    · simp [Value.ownBlock] at hk; subst hk; rintro rfl; rw [hg] at hc; simp at hc; exact he hc.2.symm
  refine ⟨⟨?_, ?_, fr.row h.hr (other (by decide) h.hr), fr.row h.hu (other (by decide) h.hu), ?_, ?_, h.rn, h.rm, h.vq, h.op, h.ov, h.oq, h.on, h.orr, h.ou, fun g hg => Nat.lt_of_lt_of_le (h.lt g hg) fr.size⟩, ⟨fr.mono (by rintro i rfl; exact hgo), fun _ h => .inl h⟩⟩
  · rw [fr.block p (heap_lt h.hp) hpg]; exact h.hp
  · rw [hv]; rw [hlen]; exact s1
  · refine h.hv.kept (fr.block _ (h.lt _ h.ov) ?_)
    rintro rfl
    obtain ⟨es, cl, e1, _⟩ := h.hv
    rw [hg] at e1; simp at e1
  · have hq := h.hq
    refine hq.kept' fr ?_ ?_
    · rintro rfl
      obtain ⟨es, cl, e1, _⟩ := h.hq
      rw [hg] at e1; simp at e1
    · intro k c f g' hb hk
      obtain ⟨cur', b1, _⟩ := hb
      rw [hk, hg] at b1; simp at b1

/-- What becomes of the parts where only blocks of some element types have turned. -/
theorem Rep.but {w w' : World} {p : Nat} {S : PS} {L : Lay} {F : Nat → Prop} (h : Rep w p S L) (hf : Fr w w' F) (TS : List Nat)
    (ho : ∀ k, F k → k < w.heap.size → ∃ cur T fz, w.heap[k]? = some (.cells cur T fz) ∧ T ∈ TS) :
    (146 ∉ TS → w'.ownsRow 0 146 2 L.nv S.nodes.length (nodeCells S.nodes)) ∧ (108 ∉ TS → w'.ownsRow 0 108 1 L.rv L.rl.length (u32Cells L.rl)) ∧
    (133 ∉ TS → w'.ownsRow 0 133 4 L.uv S.lg.length (unCells S.lg.reverse)) ∧ VMap w' L.vb S.vl ∧ (140 ∉ TS → QMap w' L.qb S.nq L.own) ∧
    (110 ∉ TS → w'.heap[p]? = w.heap[p]?) := by
  have other : ∀ {e size n xs} {v : Value}, e ∉ TS → w.ownsRow 0 e size v n xs → ∀ k, v.ownBlock = some k → ¬ F k := by
    intro e size n xs v he hr k hk hF
    rcases hr.2 with ⟨rfl, _⟩ | ⟨k', _, _, rfl, _, hc, _⟩
    · simp [Value.ownBlock] at hk
    · simp [Value.ownBlock] at hk; subst hk
      obtain ⟨cur, T, fz, h1, h2⟩ := ho _ hF (heap_lt hc)
      rw [h1] at hc; simp at hc; exact he (hc.2.1 ▸ h2)
  have nomap : ∀ {b es cl}, w.heap[b]? = some (.map es cl) → ¬ F b := by
    intro b es cl hb hF
    obtain ⟨cur, T, fz, h1, _⟩ := ho _ hF (heap_lt hb)
    rw [h1] at hb; simp at hb
  refine ⟨fun ht => hf.row h.hn (other ht h.hn), fun ht => hf.row h.hr (other ht h.hr), fun ht => hf.row h.hu (other ht h.hu), ?_, fun ht => ?_, fun ht => ?_⟩
  · obtain ⟨es, cl, e1, r⟩ := h.hv
    exact ⟨es, cl, (hf.block _ (heap_lt e1) (nomap e1)).trans e1, r⟩
  · obtain ⟨es, cl, e1, _⟩ := id h.hq
    refine h.hq.kept' hf (nomap e1) ?_
    intro k c f g hb hF
    obtain ⟨cur', b1, _⟩ := hb
    obtain ⟨cur, T, fz, h1, h2⟩ := ho _ hF (heap_lt b1)
    rw [h1] at b1; simp at b1; exact ht (b1.2.1 ▸ h2)
  · refine hf.block p (heap_lt h.hp) fun hF => ?_
    obtain ⟨cur, T, fz, h1, h2⟩ := ho _ hF (heap_lt h.hp)
    have := h.hp
    rw [h1] at this; simp at this; exact ht (this.2.1 ▸ h2)

theorem QMap.mono {w : World} {b : Nat} {q : Nat → Nat → Bool} {own own' : Nat → Prop} (h : QMap w b q own) (ho : ∀ g, own g → own' g) : QMap w b q own' := by
  obtain ⟨es, clock, h1, h2, h3, r⟩ := h
  refine ⟨es, clock, h1, h2, fun e he => ?_, r⟩
  obtain ⟨i, g, c, e1, e2, e3, e4⟩ := h3 e he
  exact ⟨i, g, c, e1, e2, ho g e3, e4⟩

theorem own_type {w : World} {e : TypeId} {size n : Nat} {xs : List Value} {v : Value} (hr : w.ownsRow 0 e size v n xs) {k : Nat} (hk : v.ownBlock = some k) :
    ∃ cur, w.heap[k]? = some (.cells cur e (0, 0)) := by
  rcases hr.2 with ⟨rfl, _⟩ | ⟨k', _, cur, rfl, _, hc, _⟩
  · simp [Value.ownBlock] at hk
  · simp [Value.ownBlock] at hk; subst hk; exact ⟨cur, hc⟩

def Lay.grow (L : Lay) (g : Nat) : Nat → Prop := fun k => L.own k ∨ k = g

/-- The undo chain has been appended to, and stored back. -/
theorem Rep.undo_app {w wa w1 : World} {p : Nat} {S : PS} {L : Lay} (h : Rep w p S L) (ha : Fr w wa Nix) {g cap : Nat} {u : Un}
    (hown : w1.ownsRow 0 133 4 (.slice (some ⟨g, 0, none⟩) (S.lg.length + 1) cap) (S.lg.length + 1) (unCells S.lg.reverse ++ unCell u))
    (hg : wa.grownBy w1 L.uv.ownBlock) (hn : L.uv.ownBlock = some g ∨ wa.heap.size ≤ g) :
    w1.cell? ⟨p, 6, none⟩ = some L.uv ∧ w1.frozen? ⟨p, 6, none⟩ = false ∧
    ∃ L', Rep (w1.setCell ⟨p, 6, none⟩ (.slice (some ⟨g, 0, none⟩) (S.lg.length + 1) cap)) p (S.push u) L' ∧ Ext w (w1.setCell ⟨p, 6, none⟩ (.slice (some ⟨g, 0, none⟩) (S.lg.length + 1) cap)) L L' ∧ L'.nv = L.nv := by
  have f1 : Fr w w1 (fun k => L.uv.ownBlock = some k) := (ha.mono fun _ e => e.elim).trans (Fr.grown (F := fun k => L.uv.ownBlock = some k) hg fun k hk => hk) fun i hi => .inl hi
  obtain ⟨_, _, _, _, _, hp1⟩ := h.but f1 [133] fun k hk _ => by obtain ⟨cur, hc⟩ := own_type h.hu hk; exact ⟨cur, _, _, hc, by simp⟩
  have hp1 := (hp1 (by decide)).trans h.hp
  have f2 : Fr w (w1.setCell ⟨p, 6, none⟩ (.slice (some ⟨g, 0, none⟩) (S.lg.length + 1) cap)) (fun k => L.uv.ownBlock = some k ∨ k = p) :=
    (f1.mono fun _ => .inl).trans (Fr.setCell (F := fun k => k = p) _ _ _ rfl) fun i hi => .inl (.inr hi)
  obtain ⟨b1, b2, _, b4, b5, _⟩ := h.but f2 [133, 110] fun k hk _ => by
    rcases hk with hk | rfl
    · obtain ⟨cur, hc⟩ := own_type h.hu hk; exact ⟨cur, _, _, hc, by simp⟩
    · exact ⟨_, _, _, h.hp, by simp⟩
  have hgp : g ≠ p := by
    rintro rfl
    obtain ⟨cur, hc⟩ := own_type hown (k := g) rfl
    rw [hp1] at hc; simp at hc
  refine ⟨by rw [cell_block hp1]; rfl, frozen_block hp1, ⟨L.vb, L.qb, L.nv, L.rv, .slice (some ⟨g, 0, none⟩) (S.lg.length + 1) cap, L.rl, L.grow g⟩, ⟨?_, b1 (by decide), b2 (by decide), ?_, b4, (b5 (by decide)).mono fun _ => .inl, h.rn, h.rm, h.vq, .inl h.op, .inl h.ov, .inl h.oq, fun k hk => .inl (h.on k hk), fun k hk => .inl (h.orr k hk), ?_, ?_⟩, ⟨?_, ?_⟩, rfl⟩
  · rw [set_block _ hp1]; simp [PS.push]
  · have := (Fr.setCell (F := fun k => k = p) w1 ⟨p, 6, none⟩ (.slice (some ⟨g, 0, none⟩) (S.lg.length + 1) cap) rfl).row hown (by intro k hk; simp [Value.ownBlock] at hk; omega)
    simpa [PS.push, unCells] using this
  · intro k hk; simp [Value.ownBlock] at hk; exact .inr hk.symm
  · intro k hk
    have hs : g < w1.heap.size := by obtain ⟨cur, hc⟩ := own_type hown (k := g) rfl; exact heap_lt hc
    simp [World.setCell]
    rcases hk with hk | rfl
    · have := h.lt k hk; have := f1.size; omega
    · exact hs
  · refine f2.mono fun k hk => ?_
    rcases hk with hk | rfl
    · exact h.ou k hk
    · exact h.op
  · intro k hk
    rcases hk with hk | rfl
    · exact .inl hk
    · rcases hn with hn | hn
      · exact .inl (h.ou _ hn)
      · exact .inr (Nat.le_trans ha.size hn)

theorem info_un : (Try.prog.info? 133).map (fun i => (i.zero, i.size, i.bytes)) = some (some (.agg #[.int .u8 0, .int .u32 0, .int .i32 0, .int .u32 0]), 4, 16) := by kernel_rfl
/-- No list of a poset comes to this length. -/
def Lim : Nat := 100000000000
theorem lim16 {n : Nat} (h : n < Lim) : (n + 1) * 16 ≤ 140737488355328 := by unfold Lim at h; omega
theorem lim1 {n : Nat} (h : n < Lim) : n + 1 ≤ 1000000000000 := by unfold Lim at h; omega
theorem un_one (u : Un) : ∀ x ∈ unCell u, x.oneCell' = true := by simp [unCell, Value.oneCell']

set_option maxHeartbeats 400000 in
theorem upush_k {w : World} {p : Nat} {S : PS} {L : Lay} (h : Rep w p S L) (t i e : Nat) (hl : S.lg.length < Lim) :
    Calls Try.prog 109 #[.pointer (some ⟨p, 0, none⟩), .int .u8 (t : Nat), .int .u32 (i : Nat), .int .u32 (e : Nat)] w (PostK p w L (.tuple #[]) (S.push ⟨t, i, 0, e⟩)) := by
  have hc : w.cell? ⟨p, 6, none⟩ = some L.uv := by rw [cell_block h.hp]; rfl
  have hu := h.hu
  have H := Lib.hid h
  have HL := Lib.hid hl
  clear h hl
  go_enter Try.func109, Try.ntmps109
  go_wp2_with (at_builtin; refine wpList_app _ rfl _ _ 107 rfl 133 _ 4 16 Try.underlying107 info_un rfl (by decide) _ _ _ rfl (hu.alloc _) ⟨w.heap.size, 0, none⟩ 1 1 (unCell ⟨t, i, 0, e⟩) rfl rfl (by decide) (cells_new _ _ _) (un_one _) (lim16 HL.out) (lim1 HL.out) ?_)
  intro g cap w1 hown hgrow hnew
  obtain ⟨hc1, hf1, hR⟩ := H.out.undo_app (Fr.alloc _ _ _) hown hgrow (by simpa using hnew)
  have HR := Lib.hid hR
  clear hown hgrow hnew hR hc hu
  go_wp2
  go_end0
  exact ⟨rfl, HR.out⟩
theorem upush_c {w : World} {p : Nat} {S : PS} {L : Lay} (h : Rep w p S L) (t i e : Nat) (hl : S.lg.length < Lim) :
    Calls Try.prog 109 #[.pointer (some ⟨p, 0, none⟩), .int .u8 (t : Nat), .int .u32 (i : Nat), .int .u32 (e : Nat)] w (Post p w L (.tuple #[]) (S.push ⟨t, i, 0, e⟩)) :=
  (upush_k h t i e hl).mono fun _ _ h => h.post

set_option maxHeartbeats 400000 in
theorem upushnew_k {w : World} {p : Nat} {S : PS} {L : Lay} (h : Rep w p S L) (id i : Nat) (hl : S.lg.length < Lim) :
    Calls Try.prog 132 #[.pointer (some ⟨p, 0, none⟩), .int .i32 (id : Nat), .int .u32 (i : Nat)] w (PostK p w L (.tuple #[]) (S.push ⟨5, i, id, 0⟩)) := by
  have hc : w.cell? ⟨p, 6, none⟩ = some L.uv := by rw [cell_block h.hp]; rfl
  have hu := h.hu
  have H := Lib.hid h
  have HL := Lib.hid hl
  clear h hl
  go_enter Try.func132, Try.ntmps132
  go_wp2_with (at_builtin; refine wpList_app _ rfl _ _ 107 rfl 133 _ 4 16 Try.underlying107 info_un rfl (by decide) _ _ _ rfl (hu.alloc _) ⟨w.heap.size, 0, none⟩ 1 1 (unCell ⟨5, i, id, 0⟩) rfl rfl (by decide) (cells_new _ _ _) (un_one _) (lim16 HL.out) (lim1 HL.out) ?_)
  intro g cap w1 hown hgrow hnew
  obtain ⟨hc1, hf1, hR⟩ := H.out.undo_app (Fr.alloc _ _ _) hown hgrow (by simpa using hnew)
  have HR := Lib.hid hR
  clear hown hgrow hnew hR hc hu
  go_wp2
  go_end0
  exact ⟨rfl, HR.out⟩
theorem upushnew_c {w : World} {p : Nat} {S : PS} {L : Lay} (h : Rep w p S L) (id i : Nat) (hl : S.lg.length < Lim) :
    Calls Try.prog 132 #[.pointer (some ⟨p, 0, none⟩), .int .i32 (id : Nat), .int .u32 (i : Nat)] w (Post p w L (.tuple #[]) (S.push ⟨5, i, id, 0⟩)) :=
  (upushnew_k h id i hl).mono fun _ _ h => h.post

set_option maxHeartbeats 400000 in
theorem upushneq_k {w : World} {p : Nat} {S : PS} {L : Lay} (h : Rep w p S L) (i j : Nat) (hi : i < 2147483648) (hl : S.lg.length < Lim) :
    Calls Try.prog 128 #[.pointer (some ⟨p, 0, none⟩), .int .u32 (i : Nat), .int .u32 (j : Nat)] w (PostK p w L (.tuple #[]) (S.push ⟨4, j, i, 0⟩)) := by
  have hc : w.cell? ⟨p, 6, none⟩ = some L.uv := by rw [cell_block h.hp]; rfl
  have hu := h.hu
  have H := Lib.hid h
  have HL := Lib.hid hl
  clear h hl
  go_enter Try.func128, Try.ntmps128
  go_wp2_with (at_builtin; refine wpList_app _ rfl _ _ 107 rfl 133 _ 4 16 Try.underlying107 info_un rfl (by decide) _ _ _ rfl (hu.alloc _) ⟨w.heap.size, 0, none⟩ 1 1 (unCell ⟨4, j, i, 0⟩) rfl rfl (by decide) (cells_new _ _ _) (un_one _) (lim16 HL.out) (lim1 HL.out) ?_)
  intro g cap w1 hown hgrow hnew
  obtain ⟨hc1, hf1, hR⟩ := H.out.undo_app (Fr.alloc _ _ _) hown hgrow (by simpa using hnew)
  have HR := Lib.hid hR
  clear hown hgrow hnew hR hc hu
  go_wp2
  go_end0
  exact ⟨rfl, HR.out⟩
theorem upushneq_c {w : World} {p : Nat} {S : PS} {L : Lay} (h : Rep w p S L) (i j : Nat) (hi : i < 2147483648) (hl : S.lg.length < Lim) :
    Calls Try.prog 128 #[.pointer (some ⟨p, 0, none⟩), .int .u32 (i : Nat), .int .u32 (j : Nat)] w (Post p w L (.tuple #[]) (S.push ⟨4, j, i, 0⟩)) :=
  (upushneq_k h i j hi hl).mono fun _ _ h => h.post

set_option maxHeartbeats 400000 in
theorem upushalias_k {w : World} {p : Nat} {S : PS} {L : Lay} (h : Rep w p S L) (id i : Nat) (hl : S.lg.length < Lim) :
    Calls Try.prog 133 #[.pointer (some ⟨p, 0, none⟩), .int .i32 (id : Nat), .int .u32 (i : Nat)] w (PostK p w L (.tuple #[]) (S.push ⟨6, i, id, 0⟩)) := by
  have hc : w.cell? ⟨p, 6, none⟩ = some L.uv := by rw [cell_block h.hp]; rfl
  have hu := h.hu
  have H := Lib.hid h
  have HL := Lib.hid hl
  clear h hl
  go_enter Try.func133, Try.ntmps133
  go_wp2_with (at_builtin; refine wpList_app _ rfl _ _ 107 rfl 133 _ 4 16 Try.underlying107 info_un rfl (by decide) _ _ _ rfl (hu.alloc _) ⟨w.heap.size, 0, none⟩ 1 1 (unCell ⟨6, i, id, 0⟩) rfl rfl (by decide) (cells_new _ _ _) (un_one _) (lim16 HL.out) (lim1 HL.out) ?_)
  intro g cap w1 hown hgrow hnew
  obtain ⟨hc1, hf1, hR⟩ := H.out.undo_app (Fr.alloc _ _ _) hown hgrow (by simpa using hnew)
  have HR := Lib.hid hR
  clear hown hgrow hnew hR hc hu
  go_wp2
  go_end0
  exact ⟨rfl, HR.out⟩
theorem upushalias_c {w : World} {p : Nat} {S : PS} {L : Lay} (h : Rep w p S L) (id i : Nat) (hl : S.lg.length < Lim) :
    Calls Try.prog 133 #[.pointer (some ⟨p, 0, none⟩), .int .i32 (id : Nat), .int .u32 (i : Nat)] w (Post p w L (.tuple #[]) (S.push ⟨6, i, id, 0⟩)) :=
  (upushalias_k h id i hl).mono fun _ _ h => h.post

set_option maxHeartbeats 400000 in
theorem Checkpoint_k {w : World} {p : Nat} {S : PS} {L : Lay} (h : Rep w p S L)  (hl : S.lg.length < Lim) :
    Calls Try.prog 97 #[.pointer (some ⟨p, 0, none⟩)] w (PostK p w L (.tuple #[]) (S.push ⟨1, 0, 0, 0⟩)) := by
  have hc : w.cell? ⟨p, 6, none⟩ = some L.uv := by rw [cell_block h.hp]; rfl
  have hu := h.hu
  have H := Lib.hid h
  have HL := Lib.hid hl
  clear h hl
  go_enter Try.func97, Try.ntmps97
  go_wp2_with (at_builtin; refine wpList_app _ rfl _ _ 107 rfl 133 _ 4 16 Try.underlying107 info_un rfl (by decide) _ _ _ rfl (hu.alloc _) ⟨w.heap.size, 0, none⟩ 1 1 (unCell ⟨1, 0, 0, 0⟩) rfl rfl (by decide) (cells_new _ _ _) (un_one _) (lim16 HL.out) (lim1 HL.out) ?_)
  intro g cap w1 hown hgrow hnew
  obtain ⟨hc1, hf1, hR⟩ := H.out.undo_app (Fr.alloc _ _ _) hown hgrow (by simpa using hnew)
  have HR := Lib.hid hR
  clear hown hgrow hnew hR hc hu
  go_wp2
  go_end0
  exact ⟨rfl, HR.out⟩
theorem Checkpoint_c {w : World} {p : Nat} {S : PS} {L : Lay} (h : Rep w p S L)  (hl : S.lg.length < Lim) :
    Calls Try.prog 97 #[.pointer (some ⟨p, 0, none⟩)] w (Post p w L (.tuple #[]) (S.push ⟨1, 0, 0, 0⟩)) :=
  (Checkpoint_k h hl).mono fun _ _ h => h.post
end Go.Proofs.Ytapnmgkpljlgmaa
namespace Go.Proofs.Ytapnmgkpljlgmaa
open Go.RowKit

theorem PS.setl_len (S : PS) (i e : Nat) : (S.setl i e).nodes.length = S.nodes.length := by simp [PS.setl]
theorem PS.setr_len (S : PS) (i e : Nat) : (S.setr i e).nodes.length = S.nodes.length := by simp [PS.setr]
theorem maxLen_int {n : Nat} (h : n ≤ maxLen) : (n : Int) ≤ 9223372036854775807 := by unfold maxLen at h; omega

set_option maxHeartbeats 400000 in
theorem setchl_k {w : World} {p : Nat} {S : PS} {L : Lay} (h : Rep w p S L) (i e : Nat) (hi : i < S.nodes.length) :
    Calls Try.prog 118 #[.pointer (some ⟨p, 0, none⟩), .int .u32 (i : Nat), .int .u32 (e : Nat)] w (PostK p w L (.tuple #[]) (S.setl i e)) := by
  obtain ⟨g, cap, hv, hm, hc, hcl, hcr, hfl, hfr⟩ := h.nodes_at hi
  have hR := h.store_node (j := i * 2) hv (node_set_l e hi) (by simp)
  have hm := maxLen_int hm
  have HR := Lib.hid hR
  clear hR hv h
  go_enter Try.func118, Try.ntmps118
  go_wp2
  go_end0
  exact ⟨rfl, _, HR.out.1, HR.out.2, rfl⟩
theorem setchl_c {w : World} {p : Nat} {S : PS} {L : Lay} (h : Rep w p S L) (i e : Nat) (hi : i < S.nodes.length) :
    Calls Try.prog 118 #[.pointer (some ⟨p, 0, none⟩), .int .u32 (i : Nat), .int .u32 (e : Nat)] w (Post p w L (.tuple #[]) (S.setl i e)) :=
  (setchl_k h i e hi).mono fun _ _ h => h.post
set_option maxHeartbeats 400000 in
theorem setchr_k {w : World} {p : Nat} {S : PS} {L : Lay} (h : Rep w p S L) (i e : Nat) (hi : i < S.nodes.length) :
    Calls Try.prog 119 #[.pointer (some ⟨p, 0, none⟩), .int .u32 (i : Nat), .int .u32 (e : Nat)] w (PostK p w L (.tuple #[]) (S.setr i e)) := by
  obtain ⟨g, cap, hv, hm, hc, hcl, hcr, hfl, hfr⟩ := h.nodes_at hi
  have hR := h.store_node (j := i * 2 + 1) hv (node_set_r e hi) (by simp)
  have hm := maxLen_int hm
  have HR := Lib.hid hR
  clear hR hv h
  go_enter Try.func119, Try.ntmps119
  go_wp2
  go_end0
  exact ⟨rfl, _, HR.out.1, HR.out.2, rfl⟩
theorem setchr_c {w : World} {p : Nat} {S : PS} {L : Lay} (h : Rep w p S L) (i e : Nat) (hi : i < S.nodes.length) :
    Calls Try.prog 119 #[.pointer (some ⟨p, 0, none⟩), .int .u32 (i : Nat), .int .u32 (e : Nat)] w (Post p w L (.tuple #[]) (S.setr i e)) :=
  (setchr_k h i e hi).mono fun _ _ h => h.post

set_option maxHeartbeats 400000 in
theorem children_c {w : World} {p : Nat} {S : PS} {L : Lay} (h : Rep w p S L) (i : Nat) (hi : i < S.nodes.length) :
    Calls Try.prog 121 #[.pointer (some ⟨p, 0, none⟩), .int .u32 (i : Nat)] w (Look w (.tuple #[.int .u32 ((S.nd i).1 : Nat), .int .u32 ((S.nd i).2 : Nat)])) := by
  obtain ⟨g, cap, hv, hm, hc, hcl, hcr, hfl, hfr⟩ := h.nodes_at hi
  have hm := maxLen_int hm
  clear hv h
  go_enter Try.func121, Try.ntmps121
  go_wp2
  go_quiet (fail)
  go_wp2
  go_ret2
  exact ⟨rfl, Fr.drewN _ _ _⟩

set_option maxHeartbeats 400000 in
theorem chl_c {w : World} {p : Nat} {S : PS} {L : Lay} (h : Rep w p S L) (i : Nat) (hi : i < S.nodes.length) :
    Calls Try.prog 142 #[.pointer (some ⟨p, 0, none⟩), .int .u32 (i : Nat)] w (Look w (.int .u32 ((S.nd i).1 / 2 : Nat))) := by
  obtain ⟨g, cap, hv, hm, hc, hcl, hcr, hfl, hfr⟩ := h.nodes_at hi
  have hm := maxLen_int hm
  clear hv h
  go_enter Try.func142, Try.ntmps142
  go_wp2_with (go_at_call 124; refine (target_c _ _).mono ?_; rintro e w' ⟨rfl, rfl⟩)
  go_ret
  exact ⟨rfl, Fr.refl _ _⟩
set_option maxHeartbeats 400000 in
theorem chr_c {w : World} {p : Nat} {S : PS} {L : Lay} (h : Rep w p S L) (i : Nat) (hi : i < S.nodes.length) :
    Calls Try.prog 143 #[.pointer (some ⟨p, 0, none⟩), .int .u32 (i : Nat)] w (Look w (.int .u32 ((S.nd i).2 / 2 : Nat))) := by
  obtain ⟨g, cap, hv, hm, hc, hcl, hcr, hfl, hfr⟩ := h.nodes_at hi
  have hm := maxLen_int hm
  clear hv h
  go_enter Try.func143, Try.ntmps143
  go_wp2_with (go_at_call 124; refine (target_c _ _).mono ?_; rintro e w' ⟨rfl, rfl⟩)
  go_ret
  exact ⟨rfl, Fr.refl _ _⟩

/-- Block a holds the value with number id; it is none of the poset's blocks. -/
structure IsV (w : World) (L : Lay) (a id : Nat) : Prop where
  cell : w.cell? ⟨a, 0, none⟩ = some (.int .i32 (id : Nat))
  out : ¬ L.own a
theorem IsV.lt {w : World} {L : Lay} {a id : Nat} (h : IsV w L a id) : a < w.heap.size := World.block_lt_of_cell? w _ h.cell
theorem IsV.ext {w w' : World} {L L' : Lay} {a id : Nat} (h : IsV w L a id) (e : Ext w w' L L') : IsV w' L' a id :=
  ⟨(e.fr.cell (a := ⟨a, 0, none⟩) h.lt h.out).trans h.cell, fun ho => by
    rcases e.own a ho with h1 | h1
    · exact h.out h1
    · have := h.lt; omega⟩

theorem VMap.look {w : World} {b : Nat} {f : Nat → Nat} (h : VMap w b f) (id : Nat) :
    (f id = 0 ∧ ∃ es clock, w.heap[b]? = some (.map es clock) ∧ ∀ e ∈ es.toList, ∃ x : Int, e.key = .int .i32 x ∧ x ≠ (id : Nat)) ∨
    (f id ≠ 0 ∧ ∃ es clock l e r, w.heap[b]? = some (.map es clock) ∧ es.toList = l ++ e :: r ∧ e.key = .int .i32 (id : Nat) ∧ e.val = .int .u32 (f id : Nat) ∧ (∀ e ∈ l, ∃ x : Int, e.key = .int .i32 x ∧ x ≠ (id : Nat)) ∧ (∀ e ∈ r, ∃ x : Int, e.key = .int .i32 x ∧ x ≠ (id : Nat))) := by
  obtain ⟨es, clock, h1, h2, h3, h4⟩ := h
  rcases h2.split (id : Nat) with hs | ⟨l, e, r, hs, hk, hl, hr⟩
  · refine .inl ⟨?_, es, clock, h1, hs⟩
    by_cases h0 : f id = 0
    · exact h0
    · obtain ⟨e, he, hk⟩ := h4 id h0
      obtain ⟨x, hx, hne⟩ := hs e he
      rw [hk] at hx
      simp at hx
      exact absurd hx.symm hne
  · obtain ⟨i, k1, k2, k3⟩ := h3 e (by rw [hs]; simp)
    rw [hk] at k1
    simp only [Value.int.injEq, true_and, Int.natCast_inj] at k1
    subst k1
    exact .inr ⟨k3, es, clock, l, e, r, h1, hs, hk, k2, hl, hr⟩

theorem run_lookup_v {W : World} {b : Nat} {f : Nat → Nat} (h : VMap W b f) (id : Nat) :
    (Instr.lookup 103 (.map (some b)) (.int .i32 (id : Nat)) true).run Try.prog W = .ok (.tuple #[.int .u32 (f id : Nat), .bool (f id != 0)]) W ∧
    (Instr.lookup 103 (.map (some b)) (.int .i32 (id : Nat)) false).run Try.prog W = .ok (.int .u32 (f id : Nat)) W := by
  have hz : (zeroValue 108).run Try.prog W = .ok (.int .u32 0) W := by kernel_rfl
  rcases h.look id with ⟨h0, es, clock, h1, h2⟩ | ⟨h0, es, clock, l, e, r, h1, h2, h3, h4, h5, _⟩
  · have := run_lookup_none (P := Try.prog) (w := W) Try.underlying103 Try.underlying111 h1 h2 hz
    constructor
    · rw [this true, h0]; rfl
    · rw [this false, h0]; rfl
  · have := run_lookup_some (P := Try.prog) (w := W) Try.underlying103 Try.underlying111 h1 h2 h3 h5
    constructor
    · rw [this true, h4]; simp [h0]
    · rw [this false, h4]; rfl

set_option maxHeartbeats 400000 in
theorem lookup_c {w : World} {p : Nat} {S : PS} {L : Lay} (h : Rep w p S L) {a id : Nat} (ha : IsV w L a id) :
    Calls Try.prog 103 #[.pointer (some ⟨p, 0, none⟩), .pointer (some ⟨a, 0, none⟩)] w (Look w (.tuple #[.int .u32 (S.vl id : Nat), .bool (S.vl id != 0)])) := by
  have hc : w.cell? ⟨p, 2, none⟩ = some (.map (some L.vb)) := by rw [cell_block h.hp]; rfl
  have ha := ha.cell
  have hl := fun n => (run_lookup_v (W := w.drewN n) h.hv id).1
  clear h
  go_enter Try.func103, Try.ntmps103
  go_wp2
  go_quiet (fail)
  go_wp2
  go_ret2
  exact ⟨rfl, Fr.drewN _ _ _⟩
end Go.Proofs.Ytapnmgkpljlgmaa
namespace Go.Proofs.Ytapnmgkpljlgmaa
open Go.RowKit

theorem Rep.p_only {w : World} {p : Nat} {S : PS} {L : Lay} (h : Rep w p S L) : ∀ k, k = p → k < w.heap.size → ∃ cur T fz, w.heap[k]? = some (.cells cur T fz) ∧ T ∈ [110] := by
  rintro k rfl _
  exact ⟨_, _, _, h.hp, by simp⟩

/-- lastidx is stored. -/
theorem Rep.store_last {w : World} {p : Nat} {S : PS} {L : Lay} (h : Rep w p S L) (m : Nat) :
    Rep (w.setCell ⟨p, 0, none⟩ (.int .u32 (m : Nat))) p { S with last := m } L ∧ Ext w (w.setCell ⟨p, 0, none⟩ (.int .u32 (m : Nat))) L L := by
  have f := Fr.setCell (F := fun k => k = p) w ⟨p, 0, none⟩ (.int .u32 (m : Nat)) rfl
  obtain ⟨b1, b2, b3, b4, b5, _⟩ := h.but f [110] h.p_only
  refine ⟨⟨?_, b1 (by decide), b2 (by decide), b3 (by decide), b4, b5 (by decide), h.rn, h.rm, h.vq, h.op, h.ov, h.oq, h.on, h.orr, h.ou, fun k hk => Nat.lt_of_lt_of_le (h.lt k hk) f.size⟩, f.mono (by rintro k rfl; exact h.op), fun _ => .inl⟩
  rw [set_block _ h.hp]; simp

/-- The nodes have been appended to, and stored back. -/
theorem Rep.nodes_app {w wa w1 : World} {p : Nat} {S : PS} {L : Lay} (h : Rep w p S L) (ha : Fr w wa Nix) {g cap : Nat} {u : Nat × Nat}
    (hown : w1.ownsRow 0 146 2 (.slice (some ⟨g, 0, none⟩) (S.nodes.length + 1) cap) (S.nodes.length + 1) (nodeCells S.nodes ++ nodeCell u))
    (hg : wa.grownBy w1 L.nv.ownBlock) (hn : L.nv.ownBlock = some g ∨ wa.heap.size ≤ g) :
    w1.cell? ⟨p, 3, none⟩ = some L.nv ∧ w1.frozen? ⟨p, 3, none⟩ = false ∧
    ∃ L', Rep (w1.setCell ⟨p, 3, none⟩ (.slice (some ⟨g, 0, none⟩) (S.nodes.length + 1) cap)) p { S with nodes := S.nodes ++ [u] } L' ∧ Ext w (w1.setCell ⟨p, 3, none⟩ (.slice (some ⟨g, 0, none⟩) (S.nodes.length + 1) cap)) L L' := by
  have f1 : Fr w w1 (fun k => L.nv.ownBlock = some k) := (ha.mono fun _ e => e.elim).trans (Fr.grown (F := fun k => L.nv.ownBlock = some k) hg fun k hk => hk) fun i hi => .inl hi
  obtain ⟨_, _, _, _, _, hp1⟩ := h.but f1 [146] fun k hk _ => by obtain ⟨cur, hc⟩ := own_type h.hn hk; exact ⟨cur, _, _, hc, by simp⟩
  have hp1 := (hp1 (by decide)).trans h.hp
  have f2 : Fr w (w1.setCell ⟨p, 3, none⟩ (.slice (some ⟨g, 0, none⟩) (S.nodes.length + 1) cap)) (fun k => L.nv.ownBlock = some k ∨ k = p) :=
    (f1.mono fun _ => .inl).trans (Fr.setCell (F := fun k => k = p) _ _ _ rfl) fun i hi => .inl (.inr hi)
  obtain ⟨_, b2, b3, b4, b5, _⟩ := h.but f2 [146, 110] fun k hk _ => by
    rcases hk with hk | rfl
    · obtain ⟨cur, hc⟩ := own_type h.hn hk; exact ⟨cur, _, _, hc, by simp⟩
    · exact ⟨_, _, _, h.hp, by simp⟩
  have hgp : g ≠ p := by
    rintro rfl
    obtain ⟨cur, hc⟩ := own_type hown (k := g) rfl
    rw [hp1] at hc; simp at hc
  refine ⟨by rw [cell_block hp1]; rfl, frozen_block hp1, ⟨L.vb, L.qb, .slice (some ⟨g, 0, none⟩) (S.nodes.length + 1) cap, L.rv, L.uv, L.rl, L.grow g⟩, ⟨?_, ?_, b2 (by decide), b3 (by decide), b4, (b5 (by decide)).mono fun _ => .inl, h.rn, h.rm, h.vq, .inl h.op, .inl h.ov, .inl h.oq, ?_, fun k hk => .inl (h.orr k hk), fun k hk => .inl (h.ou k hk), ?_⟩, ?_, ?_⟩
  · rw [set_block _ hp1]; simp
  · have := (Fr.setCell (F := fun k => k = p) w1 ⟨p, 3, none⟩ (.slice (some ⟨g, 0, none⟩) (S.nodes.length + 1) cap) rfl).row hown (by intro k hk; simp [Value.ownBlock] at hk; omega)
    simpa [nodeCells] using this
  · intro k hk; simp [Value.ownBlock] at hk; exact .inr hk.symm
  · intro k hk
    have hs : g < w1.heap.size := by obtain ⟨cur, hc⟩ := own_type hown (k := g) rfl; exact heap_lt hc
    simp [World.setCell]
    rcases hk with hk | rfl
    · have := h.lt k hk; have := f1.size; omega
    · exact hs
  · refine f2.mono fun k hk => ?_
    rcases hk with hk | rfl
    · exact h.on k hk
    · exact h.op
  · intro k hk
    rcases hk with hk | rfl
    · exact .inl hk
    · rcases hn with hn | hn
      · exact .inl (h.on _ hn)
      · exact .inr (Nat.le_trans ha.size hn)

/-- The roots have been appended to, and stored back. -/
theorem Rep.roots_app {w wa w1 : World} {p : Nat} {S : PS} {L : Lay} (h : Rep w p S L) (ha : Fr w wa Nix) {g cap r : Nat} (hr : S.rt r = false)
    (hown : w1.ownsRow 0 108 1 (.slice (some ⟨g, 0, none⟩) (L.rl.length + 1) cap) (L.rl.length + 1) (u32Cells L.rl ++ u32Cell r))
    (hg : wa.grownBy w1 L.rv.ownBlock) (hn : L.rv.ownBlock = some g ∨ wa.heap.size ≤ g) :
    w1.cell? ⟨p, 4, none⟩ = some L.rv ∧ w1.frozen? ⟨p, 4, none⟩ = false ∧
    ∃ L', Rep (w1.setCell ⟨p, 4, none⟩ (.slice (some ⟨g, 0, none⟩) (L.rl.length + 1) cap)) p { S with rt := upd S.rt r true } L' ∧ Ext w (w1.setCell ⟨p, 4, none⟩ (.slice (some ⟨g, 0, none⟩) (L.rl.length + 1) cap)) L L' := by
  have f1 : Fr w w1 (fun k => L.rv.ownBlock = some k) := (ha.mono fun _ e => e.elim).trans (Fr.grown (F := fun k => L.rv.ownBlock = some k) hg fun k hk => hk) fun i hi => .inl hi
  obtain ⟨_, _, _, _, _, hp1⟩ := h.but f1 [108] fun k hk _ => by obtain ⟨cur, hc⟩ := own_type h.hr hk; exact ⟨cur, _, _, hc, by simp⟩
  have hp1 := (hp1 (by decide)).trans h.hp
  have f2 : Fr w (w1.setCell ⟨p, 4, none⟩ (.slice (some ⟨g, 0, none⟩) (L.rl.length + 1) cap)) (fun k => L.rv.ownBlock = some k ∨ k = p) :=
    (f1.mono fun _ => .inl).trans (Fr.setCell (F := fun k => k = p) _ _ _ rfl) fun i hi => .inl (.inr hi)
  obtain ⟨b1, _, b3, b4, b5, _⟩ := h.but f2 [108, 110] fun k hk _ => by
    rcases hk with hk | rfl
    · obtain ⟨cur, hc⟩ := own_type h.hr hk; exact ⟨cur, _, _, hc, by simp⟩
    · exact ⟨_, _, _, h.hp, by simp⟩
  have hgp : g ≠ p := by
    rintro rfl
    obtain ⟨cur, hc⟩ := own_type hown (k := g) rfl
    rw [hp1] at hc; simp at hc
  have hnr : r ∉ L.rl := fun e => by have := (h.rm r).1 e; rw [hr] at this; cases this
  refine ⟨by rw [cell_block hp1]; rfl, frozen_block hp1, ⟨L.vb, L.qb, L.nv, .slice (some ⟨g, 0, none⟩) (L.rl.length + 1) cap, L.uv, L.rl ++ [r], L.grow g⟩, ⟨?_, b1 (by decide), ?_, b3 (by decide), b4, (b5 (by decide)).mono fun _ => .inl, ?_, ?_, h.vq, .inl h.op, .inl h.ov, .inl h.oq, fun k hk => .inl (h.on k hk), ?_, fun k hk => .inl (h.ou k hk), ?_⟩, ?_, ?_⟩
  · rw [set_block _ hp1]; simp
  · have := (Fr.setCell (F := fun k => k = p) w1 ⟨p, 4, none⟩ (.slice (some ⟨g, 0, none⟩) (L.rl.length + 1) cap) rfl).row hown (by intro k hk; simp [Value.ownBlock] at hk; omega)
    simpa [u32Cells] using this
  · rw [List.nodup_append]
    exact ⟨h.rn, by simp, by rintro a ha b hb rfl; simp at hb; subst hb; exact hnr ha⟩
  · intro x
    simp only [List.mem_append, List.mem_singleton, h.rm, upd]
    by_cases hx : x = r <;> simp [hx]
  · intro k hk; simp [Value.ownBlock] at hk; exact .inr hk.symm
  · intro k hk
    have hs : g < w1.heap.size := by obtain ⟨cur, hc⟩ := own_type hown (k := g) rfl; exact heap_lt hc
    simp [World.setCell]
    rcases hk with hk | rfl
    · have := h.lt k hk; have := f1.size; omega
    · exact hs
  · refine f2.mono fun k hk => ?_
    rcases hk with hk | rfl
    · exact h.orr k hk
    · exact h.op
  · intro k hk
    rcases hk with hk | rfl
    · exact .inl hk
    · rcases hn with hn | hn
      · exact .inl (h.orr _ hn)
      · exact .inr (Nat.le_trans ha.size hn)

/-! ## the map of values is written -/
def putObj (w : World) (b : Nat) (o : Obj) : World := { w with heap := w.heap.setIfInBounds b o }
theorem putObj_fr (w : World) (b : Nat) (o : Obj) : Fr w (putObj w b o) (fun k => k = b) :=
  ⟨rfl, rfl, rfl, by simp [putObj], fun k _ hk => by simp only [putObj]; rw [Array.getElem?_setIfInBounds_ne (fun e => hk e.symm)]⟩
theorem putObj_at {w : World} {b : Nat} (o : Obj) (hb : b < w.heap.size) : (putObj w b o).heap[b]? = some o := by
  simp only [putObj]; rw [Array.getElem?_setIfInBounds_self_of_lt hb]
theorem putObj_drewN (w : World) (b : Nat) (o : Obj) (n : Nat) : putObj (w.drewN n) b o = (putObj w b o).drewN n := rfl

theorem Ents.push {q : IntKind} {es : List MapEntry} {clock : Nat} (h : Ents q es clock) {k : Int} (hk : ∀ e ∈ es, ∃ x : Int, e.key = .int q x ∧ x ≠ k) (v : Value) :
    Ents q (es ++ [{ key := .int q k, val := v, born := clock }]) (clock + 1) := by
  refine ⟨?_, ?_, ?_, ?_⟩
  · intro e he
    rcases List.mem_append.1 he with he | he
    · exact h.key e he
    · simp at he; subst he; exact ⟨k, rfl⟩
  · rw [List.pairwise_append]
    refine ⟨h.kn, by simp, fun a ha b hb => ?_⟩
    simp at hb; subst hb
    obtain ⟨x, hx, hne⟩ := hk a ha
    rw [hx]; simpa using hne
  · rw [List.pairwise_append]
    refine ⟨h.st, by simp, fun a ha b hb => ?_⟩
    simp at hb; subst hb
    have := h.lt a ha
    simp; omega
  · intro e he
    rcases List.mem_append.1 he with he | he
    · have := h.lt e he; omega
    · simp at he; subst he; simp
theorem Ents.set {q : IntKind} {l r : List MapEntry} {e : MapEntry} {clock : Nat} (h : Ents q (l ++ e :: r) clock) (v : Value) : Ents q (l ++ { e with val := v } :: r) clock := by
  refine ⟨?_, ?_, ?_, ?_⟩
  · intro x hx
    simp only [List.mem_append, List.mem_cons] at hx
    rcases hx with hx | rfl | hx
    · exact h.key x (by simp [hx])
    · exact h.key e (by simp)
    · exact h.key x (by simp [hx])
  · have := h.kn
    simp only [List.pairwise_append, List.pairwise_cons, List.mem_cons, forall_eq_or_imp] at this ⊢
    exact this
  · have := h.st
    simp only [List.pairwise_append, List.pairwise_cons, List.mem_cons, forall_eq_or_imp] at this ⊢
    exact this
  · intro x hx
    simp only [List.mem_append, List.mem_cons] at hx
    rcases hx with hx | rfl | hx
    · exact h.lt x (by simp [hx])
    · exact h.lt e (by simp)
    · exact h.lt x (by simp [hx])
theorem Ents.del {q : IntKind} {l r : List MapEntry} {e : MapEntry} {clock : Nat} (h : Ents q (l ++ e :: r) clock) : Ents q (l ++ r) clock := by
  have hs : (l ++ r).Sublist (l ++ e :: r) := List.Sublist.append (List.Sublist.refl l) (List.sublist_cons_self e r)
  exact ⟨fun x hx => h.key x (hs.subset hx), h.kn.sublist hs, h.st.sublist hs, fun x hx => h.lt x (hs.subset hx)⟩

/-- 'm[id] = v': the map reads as f with id ↦ v. -/
theorem VMap.put {w : World} {b : Nat} {f : Nat → Nat} (h : VMap w b f) (id v : Nat) (hv : v ≠ 0) :
    ∃ o, (∀ n, (Instr.mapUpdate 103 (.map (some b)) (.int .i32 (id : Nat)) (.int .u32 (v : Nat))).run Try.prog (w.drewN n) = .ok () ((putObj w b o).drewN n)) ∧ VMap (putObj w b o) b (upd f id v) := by
  obtain ⟨es0, clock0, g1, g2, g3, g4⟩ := (show _ from h)
  rcases h.look id with ⟨h0, es, clock, h1, h2⟩ | ⟨h0, es, clock, l, e, r, h1, h2, h3, h4, h5, h6⟩
  · rw [g1] at h1; simp only [Option.some.injEq, Obj.map.injEq] at h1; obtain ⟨rfl, rfl⟩ := h1
    refine ⟨.map (es0.push { key := .int .i32 (id : Nat), val := .int .u32 (v : Nat), born := clock0 }) (clock0 + 1), fun n => ?_, ?_⟩
    · exact run_update_none (P := Try.prog) (w := w.drewN n) Try.underlying103 Try.underlying111 g1 h2 _
    · refine ⟨_, _, putObj_at _ (heap_lt g1), by simpa using g2.push h2 _, ?_, ?_⟩
      · intro x hx
        simp only [Array.toList_push, List.mem_append, List.mem_singleton] at hx
        rcases hx with hx | rfl
        · obtain ⟨i, k1, k2, k3⟩ := g3 x hx
          obtain ⟨y, y1, y2⟩ := h2 x hx
          have hne : i ≠ id := by rintro rfl; rw [k1] at y1; simp at y1; exact y2 y1.symm
          exact ⟨i, k1, by simpa [upd, hne] using k2, by simpa [upd, hne] using k3⟩
        · exact ⟨id, rfl, by simp [upd], by simpa [upd] using hv⟩
      · intro i hi
        by_cases hid : i = id
        · exact ⟨{ key := .int .i32 (id : Nat), val := .int .u32 (v : Nat), born := clock0 }, by simp, by rw [hid]⟩
        · obtain ⟨x, hx, hk⟩ := g4 i (by simpa [upd, hid] using hi)
          exact ⟨x, by simp [hx], hk⟩
  · rw [g1] at h1; simp only [Option.some.injEq, Obj.map.injEq] at h1; obtain ⟨rfl, rfl⟩ := h1
    refine ⟨.map (l ++ { e with val := .int .u32 (v : Nat) } :: r).toArray clock0, fun n => ?_, ?_⟩
    · exact run_update_some (P := Try.prog) (w := w.drewN n) Try.underlying103 Try.underlying111 g1 h2 h3 h5 _
    · rw [h2] at g2 g3 g4
      refine ⟨_, _, putObj_at _ (heap_lt g1), g2.set _, ?_, ?_⟩
      · intro x hx
        simp only [List.mem_append, List.mem_cons] at hx
        have other : ∀ x, (∃ y : Int, x.key = .int .i32 y ∧ y ≠ (id : Nat)) → x ∈ l ++ e :: r → ∃ i : Nat, x.key = .int .i32 (i : Nat) ∧ x.val = .int .u32 (upd f id v i : Nat) ∧ upd f id v i ≠ 0 := by
          rintro x ⟨y, y1, y2⟩ hx
          obtain ⟨i, k1, k2, k3⟩ := g3 x hx
          have hne : i ≠ id := by rintro rfl; rw [k1] at y1; simp at y1; exact y2 y1.symm
          exact ⟨i, k1, by simpa [upd, hne] using k2, by simpa [upd, hne] using k3⟩
        rcases hx with hx | rfl | hx
        · exact other x (h5 x hx) (by simp [hx])
        · exact ⟨id, h3, by simp [upd], by simpa [upd] using hv⟩
        · exact other x (h6 x hx) (by simp [hx])
      · intro i hi
        by_cases hid : i = id
        · exact ⟨{ e with val := .int .u32 (v : Nat) }, by simp, by rw [hid]; exact h3⟩
        · obtain ⟨x, hx, hk⟩ := g4 i (by simpa [upd, hid] using hi)
          simp only [List.mem_append, List.mem_cons] at hx
          rcases hx with hx | rfl | hx
          · exact ⟨x, by simp [hx], hk⟩
          · rw [h3] at hk; simp at hk; omega
          · exact ⟨x, by simp [hx], hk⟩
/-- 'delete(m, id)' of an id that is there. -/
theorem VMap.drop {w : World} {b : Nat} {f : Nat → Nat} (h : VMap w b f) (id : Nat) (hf : f id ≠ 0) (ty : TypeId) :
    ∃ o, (∀ n, (Builtin.delete_ #[103, 111] ty #[.map (some b), .int .i32 (id : Nat)]).run Try.prog (w.drewN n) = .ok (.tuple #[]) ((putObj w b o).drewN n)) ∧ VMap (putObj w b o) b (upd f id 0) := by
  obtain ⟨es0, clock0, g1, g2, g3, g4⟩ := (show _ from h)
  rcases h.look id with ⟨h0, _⟩ | ⟨h0, es, clock, l, e, r, h1, h2, h3, h4, h5, h6⟩
  · exact absurd h0 hf
  · rw [g1] at h1; simp only [Option.some.injEq, Obj.map.injEq] at h1; obtain ⟨rfl, rfl⟩ := h1
    refine ⟨.map (l ++ r).toArray clock0, fun n => ?_, ?_⟩
    · exact run_delete_some (P := Try.prog) (w := w.drewN n) Try.underlying103 Try.underlying111 g1 h2 h3 h5 _
    · rw [h2] at g2 g3 g4
      refine ⟨_, _, putObj_at _ (heap_lt g1), g2.del, ?_, ?_⟩
      · intro x hx
        have hx : x ∈ l ++ r := hx
        have hy : ∃ y : Int, x.key = .int .i32 y ∧ y ≠ (id : Nat) := by
          rcases List.mem_append.1 hx with hx | hx
          · exact h5 x hx
          · exact h6 x hx
        obtain ⟨y, y1, y2⟩ := hy
        obtain ⟨i, k1, k2, k3⟩ := g3 x (by rcases List.mem_append.1 hx with hx | hx <;> simp [hx])
        have hne : i ≠ id := by rintro rfl; rw [k1] at y1; simp at y1; exact y2 y1.symm
        exact ⟨i, k1, by simpa [upd, hne] using k2, by simpa [upd, hne] using k3⟩
      · intro i hi
        have hid : i ≠ id := by rintro rfl; simp [upd] at hi
        obtain ⟨x, hx, hk⟩ := g4 i (by simpa [upd, hid] using hi)
        simp only [List.mem_append, List.mem_cons] at hx
        rcases hx with hx | rfl | hx
        · exact ⟨x, by simp [hx], hk⟩
        · rw [h3] at hk; simp at hk; omega
        · exact ⟨x, by simp [hx], hk⟩

/-- Where one map's block alone has turned. -/
theorem Rep.but_map {w w' : World} {p : Nat} {S : PS} {L : Lay} {b : Nat} (h : Rep w p S L) (hf : Fr w w' (fun k => k = b)) (hb : ∃ es cl, w.heap[b]? = some (.map es cl)) :
    w'.ownsRow 0 146 2 L.nv S.nodes.length (nodeCells S.nodes) ∧ w'.ownsRow 0 108 1 L.rv L.rl.length (u32Cells L.rl) ∧
    w'.ownsRow 0 133 4 L.uv S.lg.length (unCells S.lg.reverse) ∧ w'.heap[p]? = w.heap[p]? ∧ (L.vb ≠ b → VMap w' L.vb S.vl) ∧ (L.qb ≠ b → QMap w' L.qb S.nq L.own) := by
  obtain ⟨es, cl, hb⟩ := hb
  have other : ∀ {e size n xs} {v : Value}, w.ownsRow 0 e size v n xs → ∀ k, v.ownBlock = some k → ¬ k = b := by
    intro e size n xs v hr k hk hF
    obtain ⟨cur, hc⟩ := own_type hr hk
    subst hF
    rw [hb] at hc; simp at hc
  refine ⟨hf.row h.hn (other h.hn), hf.row h.hr (other h.hr), hf.row h.hu (other h.hu), hf.block p (heap_lt h.hp) ?_, fun hne => h.hv.kept (hf.block _ (h.lt _ h.ov) hne), fun hne => h.hq.kept' hf hne ?_⟩
  · rintro rfl
    have := h.hp
    rw [hb] at this; simp at this
  · rintro k c f g ⟨cur, b1, _⟩ rfl
    rw [hb] at b1; simp at b1

theorem Rep.val_put {w : World} {p : Nat} {S : PS} {L : Lay} (h : Rep w p S L) {f' : Nat → Nat} {o : Obj} (hv : VMap (putObj w L.vb o) L.vb f') :
    Rep (putObj w L.vb o) p { S with vl := f' } L ∧ Ext w (putObj w L.vb o) L L := by
  obtain ⟨es, cl, hb, _⟩ := h.hv
  obtain ⟨b1, b2, b3, b4, _, b6⟩ := h.but_map (putObj_fr w L.vb o) ⟨es, cl, hb⟩
  exact ⟨⟨b4.trans h.hp, b1, b2, b3, hv, b6 h.vq.symm, h.rn, h.rm, h.vq, h.op, h.ov, h.oq, h.on, h.orr, h.ou, fun k hk => by simpa [putObj] using h.lt k hk⟩,
    (putObj_fr w L.vb o).mono (by rintro k rfl; exact h.ov), fun _ => .inl⟩
end Go.Proofs.Ytapnmgkpljlgmaa
namespace Go.Proofs.Ytapnmgkpljlgmaa
open Go.RowKit

theorem info_node : (Try.prog.info? 146).map (fun i => (i.zero, i.size, i.bytes)) = some (some (.agg #[.int .u32 0, .int .u32 0]), 2, 8) := by kernel_rfl
theorem lim8 {n : Nat} (h : n < Lim) : (n + 1) * 8 ≤ 140737488355328 := by unfold Lim at h; omega
theorem node_one (u : Nat × Nat) : ∀ x ∈ nodeCell u, x.oneCell' = true := by simp [nodeCell, Value.oneCell']

/-- A new node without a value. -/
def PS.newX (S : PS) : PS := { S with last := S.last + 1, nodes := S.nodes ++ [(0, 0)], lg := ⟨5, S.last + 1, 0, 0⟩ :: S.lg }
/-- A new node of value id. -/
def PS.newV (S : PS) (id : Nat) : PS := { S with last := S.last + 1, nodes := S.nodes ++ [(0, 0)], vl := upd S.vl id (S.last + 1), lg := ⟨5, S.last + 1, id, 0⟩ :: S.lg }

set_option maxHeartbeats 400000 in
theorem newnodeX_c {w : World} {p : Nat} {S : PS} {L : Lay} (h : Rep w p S L) (hl : S.lg.length < Lim) (hn : S.nodes.length < Lim) (hs : S.last < 2147483647) :
    Calls Try.prog 108 #[.pointer (some ⟨p, 0, none⟩), .pointer none] w (Post p w L (.int .u32 ((S.last : Int) + 1)) S.newX) := by
  have hc : w.cell? ⟨p, 0, none⟩ = some (.int .u32 (S.last : Nat)) := by rw [cell_block h.hp]; rfl
  have hc3 : w.cell? ⟨p, 3, none⟩ = some L.nv := by rw [cell_block h.hp]; rfl
  have hf0 : w.frozen? ⟨p, 0, none⟩ = false := frozen_block h.hp
  have h1 := h.store_last (S.last + 1)
  have hnr := h1.1.hn
  have H1 := Lib.hid h1
  have HL := Lib.hid hl
  have HN := Lib.hid hn
  clear h hl hn h1
  simp only [Int.natCast_add, Int.cast_ofNat_Int] at hnr H1
  go_enter Try.func108, Try.ntmps108
  go_wp2_with (at_builtin; refine wpList_app _ rfl _ _ 104 rfl 146 _ 2 8 Try.underlying104 info_node rfl (by decide) _ _ _ rfl (hnr.alloc _) ⟨w.heap.size, 0, none⟩ 1 1 (nodeCell (0, 0)) rfl rfl (by decide) (cells_at _ _ (size_setCell _ _ _) _ _) (node_one _) (lim8 HN.out) (lim1 HN.out) ?_)
  intro g cap w1 hown hgrow hnew
  obtain ⟨hc1, hf1, L2, hR2, hE2⟩ := H1.out.1.nodes_app (Fr.alloc _ _ _) hown hgrow (by simpa using hnew)
  have H2 := Lib.hid (And.intro hR2 hE2)
  clear hown hgrow hnew hR2 hE2 hc hc3 hnr hf0
  go_wp2_with (go_at_call 132; refine (upushnew_c H2.out.1 0 (S.last + 1) HL.out).mono ?_; rintro e w' ⟨rfl, L3, hR3, hE3⟩)
  go_ret
  exact ⟨rfl, L3, hR3, (H1.out.2.trans H2.out.2).trans hE3⟩

set_option maxHeartbeats 400000 in
theorem newnodeV_c {w : World} {p : Nat} {S : PS} {L : Lay} (h : Rep w p S L) {a id : Nat} (ha : IsV w L a id) (hid : S.vl id = 0) (hl : S.lg.length < Lim) (hn : S.nodes.length < Lim) (hs : S.last < 2147483647) :
    Calls Try.prog 108 #[.pointer (some ⟨p, 0, none⟩), .pointer (some ⟨a, 0, none⟩)] w (Post p w L (.int .u32 ((S.last : Int) + 1)) (S.newV id)) := by
  have hc : w.cell? ⟨p, 0, none⟩ = some (.int .u32 (S.last : Nat)) := by rw [cell_block h.hp]; rfl
  have hc3 : w.cell? ⟨p, 3, none⟩ = some L.nv := by rw [cell_block h.hp]; rfl
  have hf0 : w.frozen? ⟨p, 0, none⟩ = false := frozen_block h.hp
  have h1 := h.store_last (S.last + 1)
  have hnr := h1.1.hn
  have HA := Lib.hid (ha.ext h1.2)
  have H1 := Lib.hid h1
  have HL := Lib.hid hl
  have HN := Lib.hid hn
  have HI := Lib.hid hid
  clear h hl hn h1 ha hid
  simp only [Int.natCast_add, Int.cast_ofNat_Int] at hnr H1 HA
  go_enter Try.func108, Try.ntmps108
  go_wp2_with (at_builtin; refine wpList_app _ rfl _ _ 104 rfl 146 _ 2 8 Try.underlying104 info_node rfl (by decide) _ _ _ rfl (hnr.alloc _) ⟨w.heap.size, 0, none⟩ 1 1 (nodeCell (0, 0)) rfl rfl (by decide) (cells_at _ _ (size_setCell _ _ _) _ _) (node_one _) (lim8 HN.out) (lim1 HN.out) ?_)
  intro g cap w1 hown hgrow hnew
  obtain ⟨hc1, hf1, L2, hR2, hE2⟩ := H1.out.1.nodes_app (Fr.alloc _ _ _) hown hgrow (by simpa using hnew)
  have ha2 := HA.out.ext hE2
  have H2 := Lib.hid (And.intro hR2 hE2)
  have HA2 := Lib.hid ha2
  clear hown hgrow hnew hc hc3 hnr hf0 hR2 hE2 ha2
  go_wp2_with fail
  generalize w1.setCell ⟨p, 3, none⟩ (.slice (some ⟨g, 0, none⟩) (S.nodes.length + 1) cap) = w2 at *
  have hl2 := fun n => (run_lookup_v (W := w2.drewN n) H2.out.1.hv id).2
  simp only [HI.out] at hl2
  have hc2 : w2.cell? ⟨p, 2, none⟩ = some (.map (some L2.vb)) := by rw [cell_block H2.out.1.hp]; rfl
  have hca := HA2.out.cell
  obtain ⟨o, ho, hv⟩ := H2.out.1.hv.put id (S.last + 1) (by omega)
  simp only [Int.natCast_add, Int.cast_ofNat_Int] at ho
  have HV := Lib.hid (H2.out.1.val_put hv)
  clear hc1 hf1 hv
  go_quiet (fail)
  go_wp2_with fail
  have ho3 := ho (nq + 1)
  change Sem.run _ _ (w2.drewN nq).drew = _ at ho3
  go_region
  clear ho hl2 ho3 hc2 hca
  have h3 := HV.out.1.drewN (nq + 1)
  have e3 := HV.out.2.trans (Ext.nix (Fr.drewN _ (nq + 1) _))
  generalize (putObj w2 L2.vb o).drewN (nq + 1) = w3 at *
  have hc3 := (HA2.out.ext e3).cell
  have H3 := Lib.hid h3
  have E3 := Lib.hid e3
  clear h3 e3
  go_wp2_with (go_at_call 132; refine (upushnew_c H3.out id (S.last + 1) HL.out).mono ?_; rintro e w' ⟨rfl, L4, hR4, hE4⟩)
  go_ret
  exact ⟨rfl, L4, hR4, ((H1.out.2.trans H2.out.2).trans E3.out).trans hE4⟩
end Go.Proofs.Ytapnmgkpljlgmaa
namespace Go.Proofs.Ytapnmgkpljlgmaa
open Go.RowKit

set_option maxHeartbeats 400000 in
theorem computeBitsetSize_c (n : Nat) (w : World) (hn : n < 1000000000000) :
    Calls Try.prog 135 #[.int .i64 (n : Nat)] w fun r w' => r = .returned (.int .i64 (((n + 63) / 64 : Nat) : Int)) ∧ w = w' := by
  go_enter Try.func135, Try.ntmps135
  go_wp2
  go_ret
  exact ⟨ret_int (by omega), rfl⟩

theorem info_u64 : (Try.prog.info? 140).map (fun i => (i.zero, i.size, i.bytes)) = some (some (.int .u64 0), 1, 8) := by kernel_rfl
theorem info_u32 : (Try.prog.info? 108).map (fun i => (i.zero, i.size, i.bytes)) = some (some (.int .u32 0), 1, 4) := by kernel_rfl

theorem Bits.made {w : World} {g k : Nat} (h : w.ownsRow 0 140 1 (.slice (some ⟨g, 0, none⟩) k k) k (List.replicate k (.int .u64 0))) : Bits w g k k (fun _ => false) := by
  rcases h.2 with ⟨h0, _⟩ | ⟨g', cap, cur, h0, _, hc, h1, h2, h3, h4⟩
  · simp at h0
  · simp only [Value.slice.injEq, Option.some.injEq, Addr.mk.injEq, and_true, true_and] at h0
    obtain ⟨rfl, rfl⟩ := h0
    refine ⟨cur, hc, by simpa using h3, h1, h2, fun j hj => ⟨0, by omega, ?_, by simp⟩⟩
    have : (cur.toList.take (k * 1))[j]? = some (.int .u64 0) := by rw [h4]; simp [hj]
    rw [List.getElem?_take, if_pos (by omega)] at this
    simpa using this

set_option maxHeartbeats 400000 in
theorem newBitset_c (n : Nat) (w : World) (hn : n < 1000000000000) :
    Calls Try.prog 114 #[.int .i64 (n : Nat)] w fun r w' => r = .returned (.slice (some ⟨w.heap.size, 0, none⟩) ((n + 63) / 64) ((n + 63) / 64)) ∧
      Bits w' w.heap.size ((n + 63) / 64) ((n + 63) / 64) (fun _ => false) ∧ Fr w w' Nix ∧ w.heap.size < w'.heap.size := by
  have HN := Lib.hid hn
  clear hn
  obtain ⟨i0, hi, hz0, hz1, hz2⟩ := info_parts info_u64
  have b1 : i0.bytes * ((n + 63) / 64) ≤ 281474976710656 := by have := HN.out; rw [hz2]; omega
  have b2 : (n + 63) / 64 ≤ maxLen := by have := HN.out; unfold maxLen; omega
  have B1 := Lib.hid b1
  have B2 := Lib.hid b2
  clear b1 b2
  have HI := Lib.hid hi
  have HZ0 := Lib.hid hz0
  have HZ1 := Lib.hid hz1
  clear hi hz0 hz1 hz2
  generalize hk : (n + 63) / 64 = k at *
  have HK := Lib.hid hk
  clear hk
  go_enter Try.func114, Try.ntmps114
  go_wp2_with (first | (go_at_call 135; refine (computeBitsetSize_c _ _ HN.out).mono ?_; rintro e w' ⟨rfl, rfl⟩; rw [HK.out]) | (at_make; refine wpList_make_full _ rfl _ _ 127 rfl 0 140 i0 (.int .u64 0) 1 Try.underlying127 HI.out HZ0.out HZ1.out .i64 .i64 _ _ k rfl rfl rfl rfl B1.out B2.out (Nat.zero_le _) ?_))
  intro w1 hown hgrow
  rw [toList_madeCells_one] at hown
  have hlt : w.heap.size < w1.heap.size := by obtain ⟨cur, hc⟩ := own_type hown (k := w.heap.size) rfl; exact heap_lt hc
  have H := Lib.hid (And.intro (Bits.made hown) (And.intro (Fr.grown (F := Nix) hgrow (by simp)) hlt))
  clear hown hgrow hlt
  go_wp2
  go_ret
  exact ⟨rfl, H.out⟩

theorem setCells_block (g : Nat) (t : TypeId) : ∀ (vs : List Value) (o : Nat) (w : World) (cur : Array Value), w.heap[g]? = some (.cells cur t (0, 0)) → o + vs.length ≤ cur.size →
    ∃ cur', (w.setCells g o vs).heap[g]? = some (.cells cur' t (0, 0)) ∧ cur'.size = cur.size ∧ (∀ j, j < o → cur'[j]? = cur[j]?) ∧ (∀ j v, vs[j]? = some v → cur'[o + j]? = some v) ∧ Fr w (w.setCells g o vs) (fun k => k = g)
  | [], o, w, cur, h, _ => ⟨cur, h, rfl, fun _ _ => rfl, by simp, Fr.refl w _⟩
  | v :: r, o, w, cur, h, hl => by
    obtain ⟨cur', h1, h2, h3, h4, h5⟩ := setCells_block g t r (o + 1) (w.setCell ⟨g, o, none⟩ v) (cur.setIfInBounds o v) (set_block v h) (by simp at hl ⊢; omega)
    refine ⟨cur', h1, by simpa using h2, fun j hj => ?_, fun j u hu => ?_, (Fr.setCell (F := fun k => k = g) w ⟨g, o, none⟩ v rfl).trans h5 fun _ => .inl⟩
    · rw [h3 j (by omega), Array.getElem?_setIfInBounds_ne (by omega)]
    · cases j with
      | zero =>
        simp at hu; subst hu
        rw [Nat.add_zero, h3 o (by omega), Array.getElem?_setIfInBounds_self_of_lt (by simp at hl; omega)]
      | succ j =>
        have := h4 j u (by simpa using hu)
        rw [← this]; congr 1; omega

set_option maxHeartbeats 400000 in
theorem Reset_c {g k c : Nat} {f : Nat → Bool} {w : World} (h : Bits w g k c f) (hk : 0 < k) :
    Calls Try.prog 140 #[.slice (some ⟨g, 0, none⟩) k c] w fun r w' => r = .returned (.tuple #[]) ∧ Bits w' g k c (fun _ => false) ∧ Fr w w' (· = g) := by
  obtain ⟨cur, h1, h2, h3, h4, h5⟩ := h
  have hcells : ∀ j, j < k → (w.cell? ⟨g, 0 + j, none⟩).isSome = true := by
    intro j hj
    obtain ⟨x, _, hx, _⟩ := h5 j hj
    rw [cell_block h1, Nat.zero_add, hx]; rfl
  have hfr : ∀ j, j < k → w.frozen? ⟨g, 0 + j, none⟩ = false := fun j _ => frozen_block h1
  have hrun := Lib.run_clear_slice (P := Try.prog) w 127 140 0 (.int .u64 0) Try.underlying127 (fun _ => by kernel_rfl) rfl rfl g 0 k c hk hcells hfr
  obtain ⟨cur', c1, c2, _, c4, c5⟩ := setCells_block g 140 (List.replicate k (.int .u64 0)) 0 w cur h1 (by simp; omega)
  have hB : Bits (w.setCells g 0 (List.replicate k (.int .u64 0))) g k c (fun _ => false) :=
    ⟨cur', c1, by omega, h3, h4, fun j hj => ⟨0, by omega, by have := c4 j (.int .u64 0) (by simp [hj]); simpa using this, by simp⟩⟩
  have H := Lib.hid (And.intro hB c5)
  clear hB c1 c2 c4 c5 h1 h2 h3 h4 h5 hcells hfr
  go_enter Try.func140, Try.ntmps140
  go_wp2
  go_end0
  exact ⟨rfl, H.out⟩

set_option maxHeartbeats 400000 in
theorem reaches1_c (i d c : Nat) (w : World) (hc : w.cell? ⟨c, 0, none⟩ = some (.int .u32 (d : Nat))) :
    Calls Try.prog 130 #[.int .u32 (i : Nat), .pointer (some ⟨c, 0, none⟩)] w fun r w' => r = .returned (.bool (decide (i = d))) ∧ w = w' := by
  go_enter Try.func130, Try.ntmps130
  go_wp2
  go_ret
  refine ⟨ret_bool ?_, rfl⟩
  show ((i : Int) == (d : Int)) = decide (i = d)
  rw [Bool.eq_iff_iff]
  simp only [beq_iff_eq, decide_eq_true_eq]
  omega
end Go.Proofs.Ytapnmgkpljlgmaa
