/- Walks in a graph that is given as a relation: one more edge, ranks, a set of nodes that becomes one. The nodes that addchild makes lie like a fan below one node: what becomes of the walks between the old nodes. aliasnodes: what becomes of the walks. findpaths marks just the nodes between. What is known of the values, and what each fact does to it, in plain words: no program, no nodes. What the poset knows of the values (abs), and what each part of an operation does to it. The roots: no two of them lead to one node; what is in use lies under one. Each part of an operation is taken back by the passes that it has put on the chain. The order among the values by their nodes; classes that become one. setOrder: what it leaves behind is what the plain words say. The four operations: what they leave behind, and what they answer, is what the plain words say. -/
import Derived.Test.YtapnmgkpljlgmaaG09
import Derived.Test.YtapnmgkpljlgmaaG10
import Derived.Test.YtapnmgkpljlgmaaG13
import Derived.Test.YtapnmgkpljlgmaaG14
set_option linter.unusedVariables false
set_option linter.unusedSimpArgs false
namespace Go.Proofs.Ytapnmgkpljlgmaa

abbrev ERel := Nat → Nat → Bool → Prop
/-- There is a walk from a to c; the last: is one of its edges strict. -/
inductive PE (E : ERel) : Nat → Nat → Bool → Prop
  | nil (a : Nat) : PE E a a false
  | cons {a b c : Nat} {s t : Bool} : E a b s → PE E b c t → PE E a c (s || t)
def Le (E : ERel) (a b : Nat) : Prop := ∃ f, PE E a b f

theorem PE.one {E : ERel} {a b : Nat} {s : Bool} (h : E a b s) : PE E a b s := by
  have := PE.cons h (PE.nil b); simpa using this
theorem PE.trans {E : ERel} {a b c : Nat} {s t : Bool} (h : PE E a b s) (k : PE E b c t) : PE E a c (s || t) := by
  induction h with
  | nil => simpa using k
  | cons e _ ih => have := PE.cons e (ih k); rwa [← Bool.or_assoc] at this
theorem PE.trans' {E : ERel} {a b c : Nat} {s t u : Bool} (h : PE E a b s) (k : PE E b c t) (e : u = (s || t)) : PE E a c u := e ▸ h.trans k
/-- Edges become walks. -/
theorem PE.map {E E' : ERel} (π : Nat → Nat) (hm : ∀ a b s, E a b s → PE E' (π a) (π b) s) {a c : Nat} {f : Bool} (h : PE E a c f) : PE E' (π a) (π c) f := by
  induction h with
  | nil => exact .nil _
  | cons e _ ih => exact (hm _ _ _ e).trans ih
theorem PE.lift {E E' : ERel} (hm : ∀ a b s, E a b s → PE E' a b s) {a c : Nat} {f : Bool} (h : PE E a c f) : PE E' a c f := h.map id hm
theorem PE.mono {E E' : ERel} (hm : ∀ a b s, E a b s → E' a b s) {a c : Nat} {f : Bool} (h : PE E a c f) : PE E' a c f := h.lift fun _ _ _ e => .one (hm _ _ _ e)
theorem Le.refl {E : ERel} (a : Nat) : Le E a a := ⟨_, .nil a⟩
theorem Le.trans {E : ERel} {a b c : Nat} (h : Le E a b) (k : Le E b c) : Le E a c := ⟨_, h.choose_spec.trans k.choose_spec⟩
theorem PE.le {E : ERel} {a b : Nat} {s : Bool} (h : PE E a b s) : Le E a b := ⟨_, h⟩

/-! ## ranks -/
def Rk (E : ERel) (rk : Nat → Nat) : Prop := ∀ a b s, E a b s → rk a < rk b
theorem Rk.pe {E : ERel} {rk : Nat → Nat} (h : Rk E rk) {a b : Nat} {f : Bool} (k : PE E a b f) : (a = b ∧ f = false) ∨ rk a < rk b := by
  induction k with
  | nil => exact .inl ⟨rfl, rfl⟩
  | cons e _ ih =>
    have := h _ _ _ e
    rcases ih with ⟨rfl, _⟩ | ih
    · exact .inr this
    · exact .inr (by omega)
theorem Rk.self {E : ERel} {rk : Nat → Nat} (h : Rk E rk) {a : Nat} {f : Bool} (k : PE E a a f) : f = false := by
  rcases h.pe k with ⟨_, h⟩ | h
  · exact h
  · omega
theorem Rk.anti {E : ERel} {rk : Nat → Nat} (h : Rk E rk) {a b : Nat} (k : Le E a b) (l : Le E b a) : a = b := by
  obtain ⟨_, k⟩ := k
  obtain ⟨_, l⟩ := l
  rcases h.pe k with ⟨h1, _⟩ | h1
  · exact h1
  · rcases h.pe l with ⟨h2, _⟩ | h2
    · exact h2.symm
    · omega
theorem Rk.ne {E : ERel} {rk : Nat → Nat} (h : Rk E rk) {a b : Nat} {s : Bool} (e : E a b s) : a ≠ b := by
  rintro rfl; have := h _ _ _ e; omega

/-! ## one more edge -/
def addR (E : ERel) (x y : Nat) (s : Bool) : ERel := fun a b t => E a b t ∨ (a = x ∧ b = y ∧ t = s)
theorem add_iff {E : ERel} {x y : Nat} {s : Bool} (h : ∀ g, PE E y x g → g = false ∧ s = false) {a c : Nat} {f : Bool} :
    PE (addR E x y s) a c f ↔ PE E a c f ∨ ∃ f1 f2, PE E a x f1 ∧ PE E y c f2 ∧ f = (f1 || s || f2) := by
  constructor
  · intro k
    induction k with
    | nil => exact .inl (.nil _)
    | cons e _ ih =>
      rcases e with e | ⟨rfl, rfl, rfl⟩
      · rcases ih with ih | ⟨f1, f2, h1, h2, h3⟩
        · exact .inl (.cons e ih)
        · exact .inr ⟨_, f2, .cons e h1, h2, by rw [h3]; simp only [Bool.or_assoc]⟩
      · rcases ih with ih | ⟨f1, f2, h1, h2, h3⟩
        · exact .inr ⟨_, _, .nil _, ih, by simp⟩
        · obtain ⟨rfl, rfl⟩ := h _ h1
          exact .inr ⟨_, _, .nil _, h2, by rw [h3]; simp⟩
  · rintro (k | ⟨f1, f2, h1, h2, rfl⟩)
    · exact k.mono fun _ _ _ e => .inl e
    · have k1 := h1.mono (E' := addR E x y s) fun _ _ _ e => .inl e
      have k2 := h2.mono (E' := addR E x y s) fun _ _ _ e => .inl e
      exact (k1.trans (.one (.inr ⟨rfl, rfl, rfl⟩))).trans k2
open Classical in
theorem Rk.add {E : ERel} {rk : Nat → Nat} (h : Rk E rk) {x y : Nat} (s : Bool) (hn : ¬ Le E y x) : ∃ rk', Rk (addR E x y s) rk' := by
  refine ⟨fun z => rk z + if Le E y z then rk x + 1 else 0, ?_⟩
  rintro a b t (e | ⟨rfl, rfl, rfl⟩)
  · have h1 := h _ _ _ e
    by_cases h2 : Le E y a
    · have h3 : Le E y b := h2.trans (PE.one e).le
      simp only [h2, h3, if_true]; omega
    · simp only [h2, if_false]; split <;> omega
  · have h3 : Le E b b := Le.refl b
    simp only [hn, h3, if_true, if_false]; omega

/-! ## a set of nodes that becomes one -/
def star (E : ERel) (K : Nat → Prop) : ERel := fun a b s => E a b s ∨ (K a ∧ K b ∧ s = false)
def pr (T : Nat → Bool) (i : Nat) (x : Nat) : Nat := if T x = true then i else x
/-- The edges once T's nodes have become i. -/
def quo (E : ERel) (T : Nat → Bool) (i : Nat) : ERel := fun a b s => a ≠ b ∧ ∃ a0 b0, pr T i a0 = a ∧ pr T i b0 = b ∧ E a0 b0 s
def inK (T : Nat → Bool) (i : Nat) (x : Nat) : Prop := T x = true ∨ x = i
theorem pr_eq {T : Nat → Bool} {i x : Nat} (h : inK T i x) : pr T i x = i := by
  unfold pr; rcases h with h | rfl
  · rw [if_pos h]
  · split <;> rfl
theorem pr_ne {T : Nat → Bool} {i x : Nat} (h : T x = false) : pr T i x = x := by unfold pr; rw [if_neg (by rw [h]; decide)]
theorem pr_star {E : ERel} {T : Nat → Bool} {i : Nat} (x : Nat) : PE (star E (inK T i)) x (pr T i x) false ∧ PE (star E (inK T i)) (pr T i x) x false := by
  cases h : T x
  · rw [pr_ne h]; exact ⟨.nil _, .nil _⟩
  · rw [pr_eq (.inl h)]
    exact ⟨.one (.inr ⟨.inl h, .inr rfl, rfl⟩), .one (.inr ⟨.inr rfl, .inl h, rfl⟩)⟩
theorem quo_iff {E : ERel} {rk : Nat → Nat} (hr : Rk E rk) {T : Nat → Bool} {i : Nat} (hs : ∀ a b s, inK T i a → inK T i b → E a b s → s = false) {a c : Nat} {f : Bool} :
    PE (star E (inK T i)) a c f ↔ PE (quo E T i) (pr T i a) (pr T i c) f := by
  constructor
  · intro h
    refine h.map (pr T i) fun x y s e => ?_
    rcases e with e | ⟨h1, h2, rfl⟩
    · by_cases hp : pr T i x = pr T i y
      · have hb : inK T i x ∧ inK T i y := by
          have := hr.ne e
          unfold pr at hp; unfold inK
          cases hx : T x <;> cases hy : T y <;> simp [hx, hy] at hp ⊢
          · exact absurd hp this
          · exact hp
          · exact hp.symm
        rw [hs _ _ _ hb.1 hb.2 e, hp]; exact .nil _
      · exact .one ⟨hp, x, y, rfl, rfl, e⟩
    · rw [pr_eq h1, pr_eq h2]; exact .nil _
  · intro h
    have h1 : PE (star E (inK T i)) (pr T i a) (pr T i c) f := by
      refine h.lift fun x y s e => ?_
      obtain ⟨_, a0, b0, rfl, rfl, e⟩ := e
      have k1 := (pr_star (E := E) (T := T) (i := i) a0).2
      have k2 := (pr_star (E := E) (T := T) (i := i) b0).1
      exact (k1.trans' ((PE.one (.inl e)).trans k2) (by simp))
    exact (pr_star a).1.trans' (h1.trans (pr_star c).2) (by simp)
open Classical in
theorem Rk.quo {E : ERel} {rk : Nat → Nat} (hr : Rk E rk) {T : Nat → Bool} {i M : Nat} (hM : ∀ x, inK T i x → rk x ≤ M)
    (hc : ∀ a b c, inK T i a → inK T i c → Le E a b → Le E b c → inK T i b) : ∃ rk', Rk (quo E T i) rk' := by
  refine ⟨fun x => if x = i then M else if ∃ k, inK T i k ∧ Le E k x then M + 1 + rk x else rk x, ?_⟩
  rintro a b s ⟨hab, a0, b0, rfl, rfl, e⟩
  have hlt := hr _ _ _ e
  have hle : Le E a0 b0 := (PE.one e).le
  have out : ∀ {x}, ¬ inK T i x → pr T i x = x ∧ x ≠ i := by
    intro x hx
    refine ⟨pr_ne ?_, fun h => hx (.inr h)⟩
    cases h : T x
    · rfl
    · exact absurd (.inl h) hx
  by_cases ha : inK T i a0 <;> by_cases hb : inK T i b0
  · exact absurd ((pr_eq ha).trans (pr_eq hb).symm) hab
  · obtain ⟨h1, h2⟩ := out hb
    rw [pr_eq ha, h1]
    simp only [if_true, h2, if_false]
    rw [if_pos ⟨a0, ha, hle⟩]; omega
  · obtain ⟨h1, h2⟩ := out ha
    rw [pr_eq hb, h1]
    simp only [if_true, h2, if_false]
    have := hM _ hb
    rw [if_neg]
    · omega
    · rintro ⟨k, k1, k2⟩
      exact ha (hc _ _ _ k1 hb k2 hle)
  · obtain ⟨h1, h2⟩ := out ha
    obtain ⟨h3, h4⟩ := out hb
    rw [h1, h3]
    simp only [h2, h4, if_false]
    by_cases h : ∃ k, inK T i k ∧ Le E k a0
    · obtain ⟨k, k1, k2⟩ := h
      rw [if_pos ⟨k, k1, k2⟩, if_pos ⟨k, k1, k2.trans hle⟩]; omega
    · rw [if_neg h]; split <;> omega

/-- All nodes between i and j become one: that is the edge from j back to i. -/
theorem star_back {E : ERel} {T : Nat → Bool} {i j : Nat} (hi : T i = false) (hij : Le E i j) (hne : i ≠ j) (hs : ¬ PE E i j true) (hT : ∀ x, T x = true ↔ x ≠ i ∧ Le E i x ∧ Le E x j) {a c : Nat} {f : Bool} :
    PE (star E (inK T i)) a c f ↔ PE (addR E j i false) a c f := by
  have hK : ∀ x, inK T i x → PE E i x false ∧ PE E x j false := by
    intro x hx
    have h1 : Le E i x ∧ Le E x j := by
      rcases hx with hx | rfl
      · exact ((hT x).1 hx).2
      · exact ⟨Le.refl _, hij⟩
    obtain ⟨⟨f1, h1⟩, f2, h2⟩ := h1
    have h3 := h1.trans h2
    cases f1
    · cases f2
      · exact ⟨h1, h2⟩
      · exact absurd (by simpa using h3) hs
    · exact absurd (by simpa using h3) hs
  constructor
  · intro h
    refine h.lift fun x y s e => ?_
    rcases e with e | ⟨h1, h2, rfl⟩
    · exact .one (.inl e)
    · have k1 := (hK x h1).2.mono (E' := addR E j i false) fun _ _ _ e => .inl e
      have k2 := (hK y h2).1.mono (E' := addR E j i false) fun _ _ _ e => .inl e
      exact (k1.trans ((PE.one (.inr ⟨rfl, rfl, rfl⟩)).trans k2))
  · intro h
    refine h.lift fun x y s e => ?_
    rcases e with e | ⟨rfl, rfl, rfl⟩
    · exact .one (.inl e)
    · exact .one (.inr ⟨.inl ((hT _).2 ⟨hne.symm, hij, Le.refl _⟩), .inr rfl, rfl⟩)
/-- Two nodes become one: that is an edge each way. -/
theorem star_two {E : ERel} {T : Nat → Bool} {i j : Nat} (hT : ∀ x, T x = true ↔ x = j) {a c : Nat} {f : Bool} :
    PE (star E (inK T i)) a c f ↔ PE (addR (addR E i j false) j i false) a c f := by
  constructor
  · intro h
    refine h.lift fun x y s e => ?_
    rcases e with e | ⟨h1, h2, rfl⟩
    · exact .one (.inl (.inl e))
    · unfold inK at h1 h2
      rw [hT] at h1 h2
      rcases h1 with rfl | rfl <;> rcases h2 with rfl | rfl
      · exact .nil _
      · exact .one (.inr ⟨rfl, rfl, rfl⟩)
      · exact .one (.inl (.inr ⟨rfl, rfl, rfl⟩))
      · exact .nil _
  · intro h
    refine h.lift fun x y s e => ?_
    rcases e with (e | ⟨rfl, rfl, rfl⟩) | ⟨rfl, rfl, rfl⟩
    · exact .one (.inl e)
    · exact .one (.inr ⟨.inr rfl, .inl ((hT _).2 rfl), rfl⟩)
    · exact .one (.inr ⟨.inl ((hT _).2 rfl), .inr rfl, rfl⟩)
end Go.Proofs.Ytapnmgkpljlgmaa
namespace Go.Proofs.Ytapnmgkpljlgmaa

theorem isE_eg {t : Nat} {s : Bool} (ht : t ≠ 0) {y : Nat} {u : Bool} : isE (eg t s) y u ↔ y = t ∧ u = s := by
  unfold isE eg
  cases s <;> cases u <;> simp <;> omega
theorem isE_zero {y : Nat} {u : Bool} : ¬ isE 0 y u := fun h => h.1 rfl
theorem Ed_at {nd : Nat → Nat × Nat} {i : Nat} {l r : Nat} (h : nd i = (l, r)) {y : Nat} {s : Bool} : Ed nd i y s ↔ isE l y s ∨ isE r y s := by unfold Ed; rw [h]
theorem Ed_same {nd nd' : Nat → Nat × Nat} {i : Nat} (h : nd' i = nd i) {y : Nat} {s : Bool} : Ed nd' i y s ↔ Ed nd i y s := by unfold Ed; rw [h]

/-- What addchild does to the edges. -/
def Shape (S S' : PS) (i1 c : Nat) (st : Bool) : Prop :=
  (S'.nodes.length = S.nodes.length ∧ (∀ j, j ≠ i1 → S'.nd j = S.nd j) ∧ ∀ y s, Ed S'.nd i1 y s ↔ Ed S.nd i1 y s ∨ (y = c ∧ s = st)) ∨
  (S'.nodes.length = S.nodes.length + 1 ∧ (∀ j, j ≠ i1 → j ≠ S.nodes.length → S'.nd j = S.nd j) ∧
    ∃ k r, (∀ y s, Ed S.nd i1 y s ↔ isE k y s ∨ isE r y s) ∧ (∀ y s, Ed S'.nd i1 y s ↔ isE k y s ∨ (y = S.nodes.length ∧ s = false)) ∧
      ∀ y s, Ed S'.nd S.nodes.length y s ↔ isE r y s ∨ (y = c ∧ s = st))

theorem addchild_shape {S : PS} (wf : WF0 S) {i1 c : Nat} (st : Bool) (h1 : i1 < S.nodes.length) (hc : c ≠ 0) : Shape S (S.addchild i1 c st) i1 c st := by
  have hla := wf.la
  obtain ⟨l, r, hlr⟩ : ∃ l r, S.nd i1 = (l, r) := ⟨_, _, rfl⟩
  have hE : ∀ y s, Ed S.nd i1 y s ↔ isE l y s ∨ isE r y s := fun y s => Ed_at hlr
  have hl1 : S.last + 1 < S.newX.nodes.length := by rw [newX_len]; omega
  have hi1 : i1 < S.newX.nodes.length := by rw [newX_len]; omega
  unfold PS.addchild
  rw [hlr]
  simp only
  split
  · rename_i h0
    subst h0
    refine .inl ⟨by simp [PS.push, PS.setl], fun j hj => by rw [push_nd, setl_nd _ h1, if_neg hj], fun y s => ?_⟩
    have : ((S.setl i1 (eg c st)).push ⟨2, i1, 0, 0⟩).nd i1 = (eg c st, r) := by rw [push_nd, setl_nd _ h1, if_pos rfl, hlr]
    rw [Ed_at this, hE, isE_eg hc]
    simp only [isE_zero, false_or]
    exact Or.comm
  · split
    · rename_i h0
      subst h0
      refine .inl ⟨by simp [PS.push, PS.setr], fun j hj => by rw [push_nd, setr_nd _ h1, if_neg hj], fun y s => ?_⟩
      have : ((S.setr i1 (eg c st)).push ⟨3, i1, 0, 0⟩).nd i1 = (l, eg c st) := by rw [push_nd, setr_nd _ h1, if_pos rfl, hlr]
      rw [Ed_at this, hE, isE_eg hc]
      simp only [isE_zero, or_false]
    · have hl2 : S.last + 1 < (S.newX.setl (S.last + 1) r).nodes.length := by rw [PS.setl_len]; exact hl1
      have hl2' : S.last + 1 < (S.newX.setl (S.last + 1) l).nodes.length := by rw [PS.setl_len]; exact hl1
      have hi3 : i1 < ((S.newX.setl (S.last + 1) r).setr (S.last + 1) (eg c st)).nodes.length := by rw [PS.setr_len, PS.setl_len]; exact hi1
      have hi3' : i1 < ((S.newX.setl (S.last + 1) l).setr (S.last + 1) (eg c st)).nodes.length := by rw [PS.setr_len, PS.setl_len]; exact hi1
      have hne : i1 ≠ S.last + 1 := by omega
      split
      · refine .inr ⟨by simp [PS.push, PS.setr, PS.setl, PS.newX], fun j hj hj2 => ?_, l, r, hE, fun y s => ?_, fun y s => ?_⟩
        · rw [push_nd, setr_nd _ hi3, if_neg hj, setr_nd _ hl2, if_neg (by omega), setl_nd _ hl1, if_neg (by omega), newX_nd]
        · refine Iff.trans (Ed_at (l := l) (r := eg (S.last + 1) false) ?_) ?_
          · rw [push_nd, setr_nd _ hi3, if_pos rfl, setr_nd _ hl2, if_neg hne, setl_nd _ hl1, if_neg hne, newX_nd, hlr]
          · rw [isE_eg (by omega), hla]
        · rw [← hla]
          refine Iff.trans (Ed_at (l := r) (r := eg c st) ?_) ?_
          · rw [push_nd, setr_nd _ hi3, if_neg (Ne.symm hne), setr_nd _ hl2, if_pos rfl, setl_nd _ hl1, if_pos rfl]
          · rw [isE_eg hc]
      · refine .inr ⟨by simp [PS.push, PS.setr, PS.setl, PS.newX], fun j hj hj2 => ?_, r, l, fun y s => (hE y s).trans Or.comm, fun y s => ?_, fun y s => ?_⟩
        · rw [push_nd, setl_nd _ hi3', if_neg hj, setr_nd _ hl2', if_neg (by omega), setl_nd _ hl1, if_neg (by omega), newX_nd]
        · refine Iff.trans (Ed_at (l := eg (S.last + 1) false) (r := r) ?_) ?_
          · rw [push_nd, setl_nd _ hi3', if_pos rfl, setr_nd _ hl2', if_neg hne, setl_nd _ hl1, if_neg hne, newX_nd, hlr]
          · rw [isE_eg (by omega), hla]; exact Or.comm
        · rw [← hla]
          refine Iff.trans (Ed_at (l := l) (r := eg c st) ?_) ?_
          · rw [push_nd, setl_nd _ hi3', if_neg (Ne.symm hne), setr_nd _ hl2', if_pos rfl, setl_nd _ hl1, if_pos rfl]
          · rw [isE_eg hc]

/-- Below i1 (one of the n old nodes) lie the nodes n .. m-1; Out: the edges that lead out of i1 and these. -/
structure Fan (nd : Nat → Nat × Nat) (i1 n m : Nat) (Out : Nat → Bool → Prop) : Prop where
  i : i1 < n
  nm : n ≤ m
  rng : ∀ x y s, Ed nd x y s → x < m ∧ y < m
  inx : ∀ j e s, Ed nd j e s → n ≤ e → s = false ∧ (j = i1 ∨ (n ≤ j ∧ e < j))
  rch : ∀ e, n ≤ e → e < m → ∃ j, Ed nd j e false
  out : ∀ c s, c < n → (Out c s ↔ ∃ j, (j = i1 ∨ n ≤ j) ∧ Ed nd j c s)
  obd : ∀ c s, Out c s → c < n
def EF (nd : Nat → Nat × Nat) (i1 n : Nat) (Out : Nat → Bool → Prop) : ERel := fun a b s => b < n ∧ ((a ≠ i1 ∧ a < n ∧ Ed nd a b s) ∨ (a = i1 ∧ Out b s))

theorem Fan.start {nd : Nat → Nat × Nat} {i1 n : Nat} (hi : i1 < n) (hr : ∀ x y s, Ed nd x y s → x < n ∧ y < n) : Fan nd i1 n n (Ed nd i1) :=
  ⟨hi, Nat.le_refl _, hr, fun j e s h he => absurd (hr _ _ _ h).2 (by omega), fun e h1 h2 => by omega,
    fun c s _ => ⟨fun h => ⟨i1, .inl rfl, h⟩, fun ⟨j, hj, h⟩ => by
      rcases hj with rfl | hj
      · exact h
      · exact absurd (hr _ _ _ h).1 (by omega)⟩, fun c s h => (hr _ _ _ h).2⟩
theorem Fan.congr {nd : Nat → Nat × Nat} {i1 n m : Nat} {Out Out' : Nat → Bool → Prop} (h : Fan nd i1 n m Out) (ho : ∀ c s, Out' c s ↔ Out c s) : Fan nd i1 n m Out' :=
  ⟨h.i, h.nm, h.rng, h.inx, h.rch, fun c s hc => (ho c s).trans (h.out c s hc), fun c s k => h.obd c s ((ho c s).1 k)⟩

theorem Fan.addchild {S S' : PS} {i1 n c : Nat} {st : Bool} {Out : Nat → Bool → Prop} (h : Fan S.nd i1 n S.nodes.length Out) (sh : Shape S S' i1 c st) (hc : c < n) :
    Fan S'.nd i1 n S'.nodes.length (fun y s => Out y s ∨ (y = c ∧ s = st)) := by
  have hi := h.i
  have hnm := h.nm
  rcases sh with ⟨hl, ho, hE1⟩ | ⟨hl, ho, k, r, hkr, hE1, hE2⟩
  · have hE : ∀ x y s, Ed S'.nd x y s ↔ Ed S.nd x y s ∨ (x = i1 ∧ y = c ∧ s = st) := by
      intro x y s
      by_cases hx : x = i1
      · subst hx; rw [hE1]; simp
      · rw [Ed_same (ho x hx)]; simp [hx]
    rw [hl]
    refine ⟨hi, hnm, fun x y s e => ?_, fun j e s k he => ?_, fun e h1 h2 => ?_, fun c' s hc' => ?_, fun c' s k => ?_⟩
    · rcases (hE x y s).1 e with e | ⟨rfl, rfl, rfl⟩
      · exact h.rng _ _ _ e
      · omega
    · rcases (hE j e s).1 k with k | ⟨rfl, rfl, rfl⟩
      · exact h.inx _ _ _ k he
      · omega
    · obtain ⟨j, hj⟩ := h.rch e h1 h2
      exact ⟨j, (hE _ _ _).2 (.inl hj)⟩
    · rw [h.out c' s hc']
      constructor
      · rintro (⟨j, hj, e⟩ | ⟨rfl, rfl⟩)
        · exact ⟨j, hj, (hE _ _ _).2 (.inl e)⟩
        · exact ⟨i1, .inl rfl, (hE _ _ _).2 (.inr ⟨rfl, rfl, rfl⟩)⟩
      · rintro ⟨j, hj, e⟩
        rcases (hE _ _ _).1 e with e | ⟨_, h1, h2⟩
        · exact .inl ⟨j, hj, e⟩
        · exact .inr ⟨h1, h2⟩
    · rcases k with k | ⟨rfl, _⟩
      · exact h.obd _ _ k
      · exact hc
  · have hne : i1 ≠ S.nodes.length := by omega
    have hE : ∀ x y s, Ed S'.nd x y s ↔ (x ≠ i1 ∧ Ed S.nd x y s) ∨ (x = i1 ∧ (isE k y s ∨ (y = S.nodes.length ∧ s = false))) ∨ (x = S.nodes.length ∧ (isE r y s ∨ (y = c ∧ s = st))) := by
      intro x y s
      by_cases hx : x = i1
      · subst hx; rw [hE1]; simp [hne]
      · by_cases hx2 : x = S.nodes.length
        · subst hx2; rw [hE2]
          have : ¬ Ed S.nd S.nodes.length y s := fun e => absurd (h.rng _ _ _ e).1 (by omega)
          simp [hx, this]
        · rw [Ed_same (ho x hx hx2)]; simp [hx, hx2]
    have hk : ∀ {y s}, isE k y s → Ed S.nd i1 y s := fun e => (hkr _ _).2 (.inl e)
    have hrr : ∀ {y s}, isE r y s → Ed S.nd i1 y s := fun e => (hkr _ _).2 (.inr e)
    rw [hl]
    refine ⟨hi, by omega, fun x y s e => ?_, fun j e s q he => ?_, fun e h1 h2 => ?_, fun c' s hc' => ?_, fun c' s q => ?_⟩
    · rcases (hE x y s).1 e with ⟨_, e⟩ | ⟨rfl, e | ⟨rfl, _⟩⟩ | ⟨rfl, e | ⟨rfl, _⟩⟩
      · have := h.rng _ _ _ e; omega
      · have := h.rng _ _ _ (hk e); omega
      · omega
      · have := h.rng _ _ _ (hrr e); omega
      · omega
    · rcases (hE j e s).1 q with ⟨_, q⟩ | ⟨rfl, q | ⟨rfl, h2⟩⟩ | ⟨rfl, q | ⟨rfl, _⟩⟩
      · exact h.inx _ _ _ q he
      · exact ⟨(h.inx _ _ _ (hk q) he).1, .inl rfl⟩
      · exact ⟨h2, .inl rfl⟩
      · exact ⟨(h.inx _ _ _ (hrr q) he).1, .inr ⟨hnm, (h.rng _ _ _ (hrr q)).2⟩⟩
      · omega
    · by_cases he : e = S.nodes.length
      · exact ⟨i1, (hE _ _ _).2 (.inr (.inl ⟨rfl, .inr ⟨he, rfl⟩⟩))⟩
      · obtain ⟨j, hj⟩ := h.rch e h1 (by omega)
        by_cases hji : j = i1
        · subst hji
          rcases (hkr _ _).1 hj with q | q
          · exact ⟨j, (hE _ _ _).2 (.inr (.inl ⟨rfl, .inl q⟩))⟩
          · exact ⟨_, (hE _ _ _).2 (.inr (.inr ⟨rfl, .inl q⟩))⟩
        · exact ⟨j, (hE _ _ _).2 (.inl ⟨hji, hj⟩)⟩
    · rw [h.out c' s hc']
      constructor
      · rintro (⟨j, hj, e⟩ | ⟨rfl, rfl⟩)
        · by_cases hji : j = i1
          · subst hji
            rcases (hkr _ _).1 e with q | q
            · exact ⟨j, .inl rfl, (hE _ _ _).2 (.inr (.inl ⟨rfl, .inl q⟩))⟩
            · exact ⟨_, .inr hnm, (hE _ _ _).2 (.inr (.inr ⟨rfl, .inl q⟩))⟩
          · exact ⟨j, hj, (hE _ _ _).2 (.inl ⟨hji, e⟩)⟩
        · exact ⟨_, .inr hnm, (hE _ _ _).2 (.inr (.inr ⟨rfl, .inr ⟨rfl, rfl⟩⟩))⟩
      · rintro ⟨j, hj, e⟩
        rcases (hE _ _ _).1 e with ⟨_, e⟩ | ⟨rfl, e | ⟨rfl, _⟩⟩ | ⟨rfl, e | e⟩
        · exact .inl ⟨j, hj, e⟩
        · exact .inl ⟨_, .inl rfl, hk e⟩
        · omega
        · exact .inl ⟨_, .inl rfl, hrr e⟩
        · exact .inr e
    · rcases q with q | ⟨rfl, _⟩
      · exact h.obd _ _ q
      · exact hc

/-- A node that is not of the fan may be changed. -/
theorem Fan.mod {nd nd' : Nat → Nat × Nat} {i1 n m k : Nat} {Out : Nat → Bool → Prop} (h : Fan nd i1 n m Out) (hk : k < n) (hki : k ≠ i1) (ho : ∀ j, j ≠ k → nd' j = nd j) (hn : ∀ y s, Ed nd' k y s → y < n) : Fan nd' i1 n m Out := by
  have hnm := h.nm
  refine ⟨h.i, hnm, fun x y s e => ?_, fun j e s q he => ?_, fun e h1 h2 => ?_, fun c s hc => ?_, h.obd⟩
  · by_cases hx : x = k
    · subst hx; have := hn _ _ e; omega
    · exact h.rng _ _ _ ((Ed_same (ho x hx)).1 e)
  · by_cases hx : j = k
    · subst hx; have := hn _ _ q; omega
    · exact h.inx _ _ _ ((Ed_same (ho j hx)).1 q) he
  · obtain ⟨j, hj⟩ := h.rch e h1 h2
    refine ⟨j, (Ed_same (ho j ?_)).2 hj⟩
    rintro rfl
    rcases (h.inx _ _ _ hj h1).2 with q | q
    · exact hki q
    · omega
  · rw [h.out c s hc]
    constructor
    · rintro ⟨j, hj, e⟩
      exact ⟨j, hj, (Ed_same (ho j (by rintro rfl; omega))).2 e⟩
    · rintro ⟨j, hj, e⟩
      exact ⟨j, hj, (Ed_same (ho j (by rintro rfl; omega))).1 e⟩

theorem Fan.down {nd : Nat → Nat × Nat} {i1 n m : Nat} {Out : Nat → Bool → Prop} (h : Fan nd i1 n m Out) : ∀ d j, m - j ≤ d → n ≤ j → j < m → PE (Ed nd) i1 j false
  | 0, j, hd, _, hj => by omega
  | d + 1, j, hd, hn, hj => by
    obtain ⟨k, hk⟩ := h.rch j hn hj
    rcases (h.inx _ _ _ hk hn).2 with rfl | ⟨k1, k2⟩
    · exact .one hk
    · have := (h.rng _ _ _ hk).1
      exact (h.down d k (by omega) k1 this).trans (.one hk)
theorem Fan.path {nd : Nat → Nat × Nat} {i1 n m : Nat} {Out : Nat → Bool → Prop} (h : Fan nd i1 n m Out) {a c : Nat} (ha : a < n) (hc : c < n) {f : Bool} : PE (Ed nd) a c f ↔ PE (EF nd i1 n Out) a c f := by
  constructor
  · intro k
    have := k.map (E' := EF nd i1 n Out) (fun x => if n ≤ x then i1 else x) (by
      intro x y s e
      by_cases hy : n ≤ y
      · obtain ⟨rfl, hj⟩ := h.inx _ _ _ e hy
        have : (if n ≤ x then i1 else x) = i1 := by
          rcases hj with rfl | ⟨h1, _⟩
          · split <;> rfl
          · rw [if_pos h1]
        rw [this, if_pos hy]; exact .nil _
      · rw [if_neg hy]
        by_cases hx : x = i1 ∨ n ≤ x
        · have : (if n ≤ x then i1 else x) = i1 := by
            rcases hx with rfl | hx
            · split <;> rfl
            · rw [if_pos hx]
          rw [this]
          exact .one ⟨by omega, .inr ⟨rfl, (h.out _ _ (by omega)).2 ⟨x, hx, e⟩⟩⟩
        · rw [if_neg fun q => hx (.inr q)]
          exact .one ⟨by omega, .inl ⟨fun q => hx (.inl q), by omega, e⟩⟩)
    rwa [if_neg (by omega), if_neg (by omega)] at this
  · intro k
    refine k.lift fun x y s e => ?_
    obtain ⟨hy, ⟨_, _, e⟩ | ⟨rfl, e⟩⟩ := e
    · exact .one e
    · obtain ⟨j, rfl | hj, e⟩ := (h.out _ _ hy).1 e
      · exact .one e
      · exact (h.down _ j (Nat.le_refl _) hj (h.rng _ _ _ e).1).trans' (.one e) (by simp)
theorem Fan.rank {nd : Nat → Nat × Nat} {i1 n m : Nat} {Out : Nat → Bool → Prop} (h : Fan nd i1 n m Out) {rk : Nat → Nat} (hr : Rk (EF nd i1 n Out) rk) : ∃ rk', Rk (Ed nd) rk' := by
  have hi := h.i
  refine ⟨fun x => if x < n then (m + 1) * rk x else (m + 1) * rk i1 + (m - x), fun a b s e => ?_⟩
  obtain ⟨ham, hbm⟩ := h.rng _ _ _ e
  simp only
  by_cases hb : b < n
  · have key : (a ≠ i1 ∧ a < n) → rk a < rk b := fun q => hr _ _ _ ⟨hb, .inl ⟨q.1, q.2, e⟩⟩
    have key2 : (a = i1 ∨ n ≤ a) → rk i1 < rk b := fun q => hr _ _ _ ⟨hb, .inr ⟨rfl, (h.out _ _ hb).2 ⟨a, q, e⟩⟩⟩
    have mul : ∀ x, rk x < rk b → (m + 1) * rk x + m < (m + 1) * rk b := by
      intro x hx
      have : (m + 1) * (rk x + 1) ≤ (m + 1) * rk b := Nat.mul_le_mul_left _ hx
      rw [Nat.mul_add] at this; omega
    rw [if_pos hb]
    by_cases ha : a < n
    · rw [if_pos ha]
      by_cases hai : a = i1
      · have := mul a (hai ▸ key2 (.inl hai)); omega
      · have := mul a (key ⟨hai, ha⟩); omega
    · rw [if_neg ha]
      have := mul i1 (key2 (.inr (by omega))); omega
  · rw [if_neg hb]
    rcases (h.inx _ _ _ e (by omega)).2 with rfl | ⟨h1, h2⟩
    · rw [if_pos hi]; omega
    · rw [if_neg (by omega)]; omega

/-- The edges' range. -/
theorem WF0.rng {S : PS} (wf : WF0 S) : ∀ x y s, Ed S.nd x y s → x < S.nodes.length ∧ y < S.nodes.length := by
  intro x y s e
  refine ⟨?_, wf.ir _ _ _ e⟩
  refine Nat.lt_of_not_le fun hx => ?_
  rw [Ed_at (nd_nil wf hx)] at e
  rcases e with e | e <;> exact isE_zero e
theorem addchild_path {S : PS} (wf : WF0 S) {i1 c : Nat} (st : Bool) (h1 : i1 < S.nodes.length) (h2 : c < S.nodes.length) (hc : c ≠ 0) {a b : Nat} (ha : a < S.nodes.length) (hb : b < S.nodes.length) {f : Bool} :
    PE (Ed (S.addchild i1 c st).nd) a b f ↔ PE (addR (Ed S.nd) i1 c st) a b f := by
  have sh := addchild_shape wf st h1 hc
  have fan := (Fan.start h1 wf.rng).addchild sh h2
  rw [fan.path ha hb]
  have hsame : ∀ j, j ≠ i1 → j < S.nodes.length → (S.addchild i1 c st).nd j = S.nd j := by
    rcases sh with ⟨_, ho, _⟩ | ⟨_, ho, _⟩
    · exact fun j hj _ => ho j hj
    · exact fun j hj hl => ho j hj (by omega)
  constructor
  · refine fun k => k.mono fun x y s e => ?_
    obtain ⟨hy, ⟨q1, q2, e⟩ | ⟨rfl, e | ⟨rfl, rfl⟩⟩⟩ := e
    · exact .inl ((Ed_same (hsame x q1 q2)).1 e)
    · exact .inl e
    · exact .inr ⟨rfl, rfl, rfl⟩
  · refine fun k => k.mono fun x y s e => ?_
    rcases e with e | ⟨rfl, rfl, rfl⟩
    · have hr := wf.rng _ _ _ e
      refine ⟨hr.2, ?_⟩
      by_cases hx : x = i1
      · subst hx; exact .inr ⟨rfl, .inl e⟩
      · exact .inl ⟨hx, hr.1, (Ed_same (hsame x hx hr.1)).2 e⟩
    · exact ⟨h2, .inr ⟨rfl, .inr ⟨rfl, rfl⟩⟩⟩
theorem addchild_rank {S : PS} (wf : WF0 S) {i1 c : Nat} (st : Bool) (h1 : i1 < S.nodes.length) (h2 : c < S.nodes.length) (hc : c ≠ 0) {rk : Nat → Nat} (hr : Rk (Ed S.nd) rk) (hn : ¬ Le (Ed S.nd) c i1) :
    ∃ rk', Rk (Ed (S.addchild i1 c st).nd) rk' := by
  have sh := addchild_shape wf st h1 hc
  have fan := (Fan.start h1 wf.rng).addchild sh h2
  have hsame : ∀ j, j ≠ i1 → j < S.nodes.length → (S.addchild i1 c st).nd j = S.nd j := by
    rcases sh with ⟨_, ho, _⟩ | ⟨_, ho, _⟩
    · exact fun j hj _ => ho j hj
    · exact fun j hj hl => ho j hj (by omega)
  obtain ⟨rk1, h3⟩ := hr.add st hn
  refine fan.rank (rk := rk1) fun x y s e => ?_
  obtain ⟨hy, ⟨q1, q2, e⟩ | ⟨rfl, e | ⟨rfl, rfl⟩⟩⟩ := e
  · exact h3 _ _ _ (.inl ((Ed_same (hsame x q1 q2)).1 e))
  · exact h3 _ _ _ (.inl e)
  · exact h3 _ _ _ (.inr ⟨rfl, rfl, rfl⟩)
/-- Where no walk goes back, one more edge. -/
theorem addchild_new {S : PS} (wf : WF0 S) {i1 c : Nat} (st : Bool) (h1 : i1 < S.nodes.length) (h2 : c < S.nodes.length) (hc : c ≠ 0) (hn : ¬ Le (Ed S.nd) c i1) {a b : Nat} (ha : a < S.nodes.length) (hb : b < S.nodes.length) {f : Bool} :
    PE (Ed (S.addchild i1 c st).nd) a b f ↔ PE (Ed S.nd) a b f ∨ ∃ f1 f2, PE (Ed S.nd) a i1 f1 ∧ PE (Ed S.nd) c b f2 ∧ f = (f1 || st || f2) := by
  rw [addchild_path wf st h1 h2 hc ha hb, add_iff fun g k => absurd k.le hn]
end Go.Proofs.Ytapnmgkpljlgmaa
namespace Go.Proofs.Ytapnmgkpljlgmaa

def ren (T : Nat → Bool) (i1 e : Nat) : Nat := if T (e / 2) = true then eg i1 (e % 2 == 1) else e
theorem isE_ren {T : Nat → Bool} {i1 e : Nat} (hi : i1 ≠ 0) (h0 : T 0 = false) {y : Nat} {s : Bool} : isE (ren T i1 e) y s ↔ ∃ y0, isE e y0 s ∧ y = pr T i1 y0 := by
  unfold ren
  split
  · rename_i h
    have he : e ≠ 0 := by rintro rfl; simp [h0] at h
    rw [isE_eg hi]
    constructor
    · rintro ⟨rfl, rfl⟩
      exact ⟨e / 2, ⟨he, rfl, by rw [Bool.beq_eq_decide_eq]⟩, by unfold pr; rw [if_pos h]⟩
    · rintro ⟨y0, ⟨_, rfl, rfl⟩, rfl⟩
      exact ⟨by unfold pr; rw [if_pos h], by rw [Bool.beq_eq_decide_eq]⟩
  · rename_i h
    constructor
    · intro k
      refine ⟨y, k, ?_⟩
      obtain ⟨_, rfl, _⟩ := k
      unfold pr; rw [if_neg h]
    · rintro ⟨y0, k, rfl⟩
      have k' := k
      obtain ⟨_, rfl, _⟩ := k'
      unfold pr; rw [if_neg h]; exact k

theorem alA_nd {S : PS} {i1 k l : Nat} {T : Nat → Bool} (hk : k < S.nodes.length) (hl : (S.nd k).1 = l) (j : Nat) : (S.alA i1 T k l).nd j = if j = k then (ren T i1 l, (S.nd k).2) else S.nd j := by
  unfold PS.alA ren
  split
  · rw [push_nd, setl_nd _ hk]
  · split
    · rename_i h; subst h; rw [← hl]
    · rfl
theorem alB_nd {S : PS} {i1 k r : Nat} {T : Nat → Bool} (hk : k < S.nodes.length) (hr : (S.nd k).2 = r) (j : Nat) : (S.alB i1 T k r).nd j = if j = k then ((S.nd k).1, ren T i1 r) else S.nd j := by
  unfold PS.alB ren
  split
  · rw [push_nd, setr_nd _ hk]
  · split
    · rename_i h; subst h; rw [← hr]
    · rfl
theorem alA_len (S : PS) (i1 k l : Nat) (T : Nat → Bool) : (S.alA i1 T k l).nodes.length = S.nodes.length := by unfold PS.alA; split <;> simp [PS.push, PS.setl]
theorem alB_len (S : PS) (i1 k l : Nat) (T : Nat → Bool) : (S.alB i1 T k l).nodes.length = S.nodes.length := by unfold PS.alB; split <;> simp [PS.push, PS.setr]
theorem alA_wf {S : PS} (wf : WF0 S) {i1 k : Nat} (l : Nat) (T : Nat → Bool) (hk : k < S.nodes.length) (hi : i1 < S.nodes.length) : WF0 (S.alA i1 T k l) := by
  unfold PS.alA; split
  · exact (wf.setl hk (by rw [eg_half]; exact hi)).push _
  · exact wf
theorem alB_wf {S : PS} (wf : WF0 S) {i1 k : Nat} (l : Nat) (T : Nat → Bool) (hk : k < S.nodes.length) (hi : i1 < S.nodes.length) : WF0 (S.alB i1 T k l) := by
  unfold PS.alB; split
  · exact (wf.setr hk (by rw [eg_half]; exact hi)).push _
  · exact wf
theorem alD_nd {S : PS} {k l r : Nat} (hk : k < S.nodes.length) (j : Nat) : (S.alD k l r).nd j = if j = k then (0, 0) else S.nd j := by
  unfold PS.alD
  rw [push_nd, push_nd, setr_nd _ (by rw [PS.setl_len]; exact hk)]
  split
  · rename_i h; subst h; rw [setl_nd _ hk, if_pos rfl]
  · rename_i h; rw [setl_nd _ hk, if_neg h]
theorem alD_len (S : PS) (k l r : Nat) : (S.alD k l r).nodes.length = S.nodes.length := by simp [PS.alD, PS.push, PS.setl, PS.setr]
theorem alD_wf {S : PS} (wf : WF0 S) {k : Nat} (l r : Nat) (hk : k < S.nodes.length) : WF0 (S.alD k l r) := by
  have h0 : 0 < S.nodes.length := by omega
  exact (((wf.setl (i := k) (e := 0) hk h0).setr (i := k) (e := 0) (by rw [PS.setl_len]; exact hk) (by rw [PS.setl_len]; exact h0)).push _).push _

/-- The edges out of i1 and the new nodes behind the first k rounds. -/
def AOut (nd : Nat → Nat × Nat) (i1 : Nat) (T : Nat → Bool) (k : Nat) (c : Nat) (s : Bool) : Prop := Ed nd i1 c s ∨ ∃ t, t < k ∧ T t = true ∧ Ed nd t c s ∧ T c = false

/-- What holds behind k rounds. -/
structure AlI (S : PS) (i1 : Nat) (T : Nat → Bool) (k : Nat) (S' : PS) : Prop where
  wf : WF0 S'
  len : S'.nodes.length ≤ S.nodes.length + 2 * k
  fan : Fan S'.nd i1 S.nodes.length S'.nodes.length (AOut S.nd i1 T k)
  lo : ∀ j, j < S.nodes.length → j ≠ i1 → S'.nd j = if j < k then (if T j = true then (0, 0) else (ren T i1 (S.nd j).1, ren T i1 (S.nd j).2)) else S.nd j

/-- No edge leads to node 0. -/
def NZ (S : PS) : Prop := ∀ i j s, Ed S.nd i j s → j ≠ 0

structure AlH (S : PS) (i1 : Nat) (T : Nat → Bool) : Prop where
  wf : WF0 S
  nz : NZ S
  i0 : i1 ≠ 0
  il : i1 < S.nodes.length
  ti : T i1 = false
  t0 : T 0 = false
  sz : 3 * S.nodes.length + 10 < 2147483648

theorem alC_fan {S S1 : PS} {i1 : Nat} {T : Nat → Bool} (H : AlH S i1 T) {k l : Nat} (hk : k < S.nodes.length) (hl : l ≠ 0 → Ed S.nd k (l / 2) (l % 2 == 1)) {Out : Nat → Bool → Prop} (wf : WF0 S1) (fan : Fan S1.nd i1 S.nodes.length S1.nodes.length Out) (hb : S1.nodes.length + 1 < 2147483648) :
    WF0 (S1.alC i1 T l) ∧ (S1.alC i1 T l).nodes.length ≤ S1.nodes.length + 1 ∧ S1.nodes.length ≤ (S1.alC i1 T l).nodes.length ∧
      Fan (S1.alC i1 T l).nd i1 S.nodes.length (S1.alC i1 T l).nodes.length (fun c s => Out c s ∨ (isE l c s ∧ T c = false)) ∧ ∀ j, j < S.nodes.length → j ≠ i1 → (S1.alC i1 T l).nd j = S1.nd j := by
  have hnm := fan.nm
  have hil := H.il
  unfold PS.alC
  by_cases hc : l ≠ 0 ∧ T (l / 2) = false
  · rw [if_pos hc]
    have e := hl hc.1
    have hlt := (H.wf.rng _ _ _ e).2
    obtain ⟨f1, f2, f3, _, f5, _⟩ := addchild_facts wf i1 (l / 2) (l % 2 == 1) (by omega) (by omega) hb
    have sh := addchild_shape wf (l % 2 == 1) (show i1 < S1.nodes.length by omega) (H.nz _ _ _ e)
    refine ⟨f1, f2, f3, (fan.addchild sh hlt).congr fun c s => ?_, fun j hj hj2 => f5 j (by omega) hj2⟩
    constructor
    · rintro (q | ⟨⟨_, rfl, rfl⟩, _⟩)
      · exact .inl q
      · exact .inr ⟨rfl, by rw [Bool.beq_eq_decide_eq]⟩
    · rintro (q | ⟨rfl, rfl⟩)
      · exact .inl q
      · exact .inr ⟨⟨hc.1, rfl, by rw [Bool.beq_eq_decide_eq]⟩, hc.2⟩
  · rw [if_neg hc]
    refine ⟨wf, by omega, Nat.le_refl _, fan.congr fun c s => ?_, fun _ _ _ => rfl⟩
    constructor
    · rintro (q | ⟨⟨h1, rfl, _⟩, h2⟩)
      · exact q
      · exact absurd ⟨h1, h2⟩ hc
    · exact .inl

theorem AlI.step {S S1 : PS} {i1 k : Nat} {T : Nat → Bool} (H : AlH S i1 T) (hk : k < S.nodes.length) (h : AlI S i1 T k S1) : AlI S i1 T (k + 1) (S1.alStep i1 T k (S.nd k)) := by
  have hil := H.il
  have hsz := H.sz
  have hnm := h.fan.nm
  have hlen := h.len
  unfold PS.alStep
  by_cases hki : k = i1
  · rw [if_pos hki]
    subst hki
    refine ⟨h.wf, by omega, h.fan.congr fun c s => ?_, fun j hj hj2 => ?_⟩
    · constructor
      · rintro (q | ⟨t, h1, h2, h3⟩)
        · exact .inl q
        · have : t ≠ k := by rintro rfl; rw [H.ti] at h2; cases h2
          exact .inr ⟨t, by omega, h2, h3⟩
      · rintro (q | ⟨t, h1, h2, h3⟩)
        · exact .inl q
        · exact .inr ⟨t, by omega, h2, h3⟩
    · rw [h.lo j hj hj2]
      by_cases e : j < k
      · rw [if_pos e, if_pos (show j < k + 1 by omega)]
      · rw [if_neg e, if_neg (by omega)]
  · rw [if_neg hki]
    have hk1 : k < S1.nodes.length := by omega
    have hi1 : i1 < S1.nodes.length := by omega
    have hnk : S1.nd k = S.nd k := by rw [h.lo k hk hki, if_neg (Nat.lt_irrefl k)]
    -- the two slots are named anew
    have hA := alA_nd (i1 := i1) (T := T) hk1 (congrArg Prod.fst hnk)
    have wA := alA_wf h.wf (S.nd k).1 T hk1 hi1
    have lA := alA_len S1 i1 k (S.nd k).1 T
    have hkA : k < (S1.alA i1 T k (S.nd k).1).nodes.length := by rw [lA]; exact hk1
    have hAk : (S1.alA i1 T k (S.nd k).1).nd k = (ren T i1 (S.nd k).1, (S.nd k).2) := by rw [hA, if_pos rfl, hnk]
    have hB := alB_nd (i1 := i1) (T := T) hkA (congrArg Prod.snd hAk)
    have wB := alB_wf wA (S.nd k).2 T hkA (by rw [lA]; exact hi1)
    have lB := alB_len (S1.alA i1 T k (S.nd k).1) i1 k (S.nd k).2 T
    have hBk : ((S1.alA i1 T k (S.nd k).1).alB i1 T k (S.nd k).2).nd k = (ren T i1 (S.nd k).1, ren T i1 (S.nd k).2) := by rw [hB, if_pos rfl, hAk]
    have hBo : ∀ j, j ≠ k → ((S1.alA i1 T k (S.nd k).1).alB i1 T k (S.nd k).2).nd j = S1.nd j := fun j hj => by rw [hB, if_neg hj, hA, if_neg hj]
    obtain ⟨l, r, hlr⟩ : ∃ l r, S.nd k = (l, r) := ⟨_, _, rfl⟩
    rw [hlr] at hBk hBo wB lB lA ⊢
    simp only at hBk hBo wB lB lA ⊢
    generalize hSB : (S1.alA i1 T k l).alB i1 T k r = SB at *
    have lSB : SB.nodes.length = S1.nodes.length := lB.trans lA
    have tgtl : ∀ y s, isE (ren T i1 l) y s → y < S.nodes.length := by
      intro y s e
      obtain ⟨y0, e0, rfl⟩ := (isE_ren H.i0 H.t0).1 e
      have := (H.wf.rng k y0 s ((Ed_at hlr).2 (.inl e0))).2
      unfold pr; split <;> omega
    have tgtr : ∀ y s, isE (ren T i1 r) y s → y < S.nodes.length := by
      intro y s e
      obtain ⟨y0, e0, rfl⟩ := (isE_ren H.i0 H.t0).1 e
      have := (H.wf.rng k y0 s ((Ed_at hlr).2 (.inr e0))).2
      unfold pr; split <;> omega
    have fB : Fan SB.nd i1 S.nodes.length SB.nodes.length (AOut S.nd i1 T k) := by
      rw [lSB]
      refine h.fan.mod hk hki hBo fun y s e => ?_
      rcases (Ed_at hBk).1 e with e | e
      · exact tgtl _ _ e
      · exact tgtr _ _ e
    by_cases hT : T k = true
    · rw [if_pos hT]
      have hel : l ≠ 0 → Ed S.nd k (l / 2) (l % 2 == 1) := fun q => (Ed_at hlr).2 (.inl ⟨q, rfl, by rw [Bool.beq_eq_decide_eq]⟩)
      have her : r ≠ 0 → Ed S.nd k (r / 2) (r % 2 == 1) := fun q => (Ed_at hlr).2 (.inr ⟨q, rfl, by rw [Bool.beq_eq_decide_eq]⟩)
      obtain ⟨w1, n1, m1, f1, o1⟩ := alC_fan H hk hel wB fB (by omega)
      obtain ⟨w2, n2, m2, f2, o2⟩ := alC_fan H hk her w1 f1 (by omega)
      have hk2 : k < ((SB.alC i1 T l).alC i1 T r).nodes.length := by omega
      refine ⟨alD_wf w2 l r hk2, by rw [alD_len]; omega, ?_, fun j hj hj2 => ?_⟩
      · rw [alD_len]
        refine Fan.congr (f2.mod hk hki (fun j hj => by rw [alD_nd hk2, if_neg hj]) fun y s e => ?_) fun c s => ?_
        · rw [Ed_at (l := 0) (r := 0) (by rw [alD_nd hk2, if_pos rfl])] at e
          rcases e with e | e <;> exact absurd e isE_zero
        · constructor
          · rintro (q | ⟨t, h1, h2, h3, h4⟩)
            · exact .inl (.inl (.inl q))
            · by_cases htk : t = k
              · subst htk
                rcases (Ed_at hlr).1 h3 with q | q
                · exact .inl (.inr ⟨q, h4⟩)
                · exact .inr ⟨q, h4⟩
              · exact .inl (.inl (.inr ⟨t, by omega, h2, h3, h4⟩))
          · rintro (((q | ⟨t, h1, h2⟩) | ⟨q, h4⟩) | ⟨q, h4⟩)
            · exact .inl q
            · exact .inr ⟨t, by omega, h2⟩
            · exact .inr ⟨k, by omega, hT, (Ed_at hlr).2 (.inl q), h4⟩
            · exact .inr ⟨k, by omega, hT, (Ed_at hlr).2 (.inr q), h4⟩
      · rw [alD_nd hk2]
        by_cases hjk : j = k
        · subst hjk; rw [if_pos rfl, if_pos (show j < j + 1 by omega), if_pos hT]
        · rw [if_neg hjk, o2 j hj hj2, o1 j hj hj2, hBo j hjk, h.lo j hj hj2]
          by_cases e : j < k
          · rw [if_pos e, if_pos (show j < k + 1 by omega)]
          · rw [if_neg e, if_neg (by omega)]
    · rw [if_neg hT]
      refine ⟨wB, by omega, fB.congr fun c s => ?_, fun j hj hj2 => ?_⟩
      · constructor
        · rintro (q | ⟨t, h1, h2, h3⟩)
          · exact .inl q
          · have : t ≠ k := by rintro rfl; exact hT h2
            exact .inr ⟨t, by omega, h2, h3⟩
        · rintro (q | ⟨t, h1, h2, h3⟩)
          · exact .inl q
          · exact .inr ⟨t, by omega, h2, h3⟩
      · by_cases hjk : j = k
        · subst hjk; rw [hBk, if_pos (show j < j + 1 by omega), if_neg hT, hlr]
        · rw [hBo j hjk, h.lo j hj hj2]
          by_cases e : j < k
          · rw [if_pos e, if_pos (show j < k + 1 by omega)]
          · rw [if_neg e, if_neg (by omega)]
theorem alN_inv {S : PS} {i1 : Nat} {T : Nat → Bool} (H : AlH S i1 T) : ∀ k, k ≤ S.nodes.length → AlI S i1 T k (S.alN i1 T k)
  | 0, _ => ⟨H.wf, by show S.nodes.length ≤ _; omega, (Fan.start H.il H.wf.rng).congr fun c s => ⟨fun q => by
      rcases q with q | ⟨t, h1, _⟩
      · exact q
      · omega, .inl⟩, fun j _ _ => by rw [if_neg (by omega)]; rfl⟩
  | k + 1, hk => (alN_inv H k (by omega)).step H (by omega)

section
variable {S : PS} {i1 : Nat} {T : Nat → Bool} {rk : Nat → Nat}
theorem pr_out {x : Nat} (ti : T i1 = false) : T (pr T i1 x) = false := by
  unfold pr; split
  · exact ti
  · rename_i h; simpa using h
/-- The edges out of an old node that is not i1. -/
theorem al_ed (H : AlH S i1 T) {a b : Nat} {s : Bool} (ha : a < S.nodes.length) (hai : a ≠ i1) : Ed (S.alN i1 T S.nodes.length).nd a b s ↔ T a = false ∧ ∃ b0, Ed S.nd a b0 s ∧ b = pr T i1 b0 := by
  have h := (alN_inv H S.nodes.length (Nat.le_refl _)).lo a ha hai
  rw [if_pos ha] at h
  by_cases hT : T a = true
  · rw [if_pos hT] at h
    rw [Ed_at h]
    constructor
    · rintro (e | e) <;> exact absurd e isE_zero
    · rintro ⟨q, _⟩; rw [hT] at q; cases q
  · rw [if_neg hT] at h
    rw [Ed_at h, isE_ren H.i0 H.t0, isE_ren H.i0 H.t0]
    constructor
    · rintro (⟨y0, e, rfl⟩ | ⟨y0, e, rfl⟩)
      · exact ⟨by simpa using hT, y0, .inl e, rfl⟩
      · exact ⟨by simpa using hT, y0, .inr e, rfl⟩
    · rintro ⟨_, y0, e | e, rfl⟩
      · exact .inl ⟨y0, e, rfl⟩
      · exact .inr ⟨y0, e, rfl⟩

/-- T's nodes have become i1: the walks between nodes that are not in T. -/
theorem al_path (H : AlH S i1 T) (hr : Rk (Ed S.nd) rk) (hb : ∀ t s, T t = true → ¬ Ed S.nd t i1 s) {a c : Nat} (ha : a < S.nodes.length) (hc : c < S.nodes.length) (hTa : T a = false) (hTc : T c = false) {f : Bool} :
    PE (Ed (S.alN i1 T S.nodes.length).nd) a c f ↔ PE (quo (Ed S.nd) T i1) a c f := by
  rw [(alN_inv H S.nodes.length (Nat.le_refl _)).fan.path ha hc]
  constructor
  · intro k
    clear ha hc
    induction k with
    | nil => exact .nil _
    | cons e k ih =>
      rename_i a b c s t
      have hTb : T b = false := by
        cases hT : T b
        · rfl
        · exfalso
          cases k with
          | nil => rw [hTc] at hT; cases hT
          | cons e2 _ =>
            obtain ⟨_, ⟨q1, q2, q3⟩ | ⟨rfl, _⟩⟩ := e2
            · rw [((al_ed H q2 q1).1 q3).1] at hT; cases hT
            · rw [H.ti] at hT; cases hT
      refine .cons ?_ (ih hTb hTc)
      obtain ⟨hb', ⟨q1, q2, q3⟩ | ⟨rfl, q | ⟨u, q1, q2, q3, q4⟩⟩⟩ := e
      · obtain ⟨_, b0, e, rfl⟩ := (al_ed H q2 q1).1 q3
        refine ⟨?_, a, b0, pr_ne hTa, rfl, e⟩
        intro hab
        unfold pr at hab
        split at hab
        · exact q1 hab
        · exact hr.ne e hab
      · exact ⟨hr.ne q, a, b, pr_ne hTa, pr_ne hTb, q⟩
      · exact ⟨fun hab => hb u s q2 (hab ▸ q3), u, b, pr_eq (.inl q2), pr_ne hTb, q3⟩
  · refine fun k => k.mono fun x y s e => ?_
    obtain ⟨hxy, a0, b0, rfl, rfl, e⟩ := e
    have hrn := H.wf.rng _ _ _ e
    have hil := H.il
    have hbl : pr T i1 b0 < S.nodes.length := by unfold pr; split <;> omega
    refine ⟨hbl, ?_⟩
    by_cases ha : inK T i1 a0
    · have hb0 : ¬ inK T i1 b0 := fun q => hxy ((pr_eq ha).trans (pr_eq q).symm)
      have hTb : T b0 = false := by
        cases h : T b0
        · rfl
        · exact absurd (.inl h) hb0
      refine .inr ⟨pr_eq ha, ?_⟩
      rw [pr_ne hTb]
      rcases ha with ha | rfl
      · exact .inr ⟨a0, hrn.1, ha, e, hTb⟩
      · exact .inl e
    · have hTa : T a0 = false := by
        cases h : T a0
        · rfl
        · exact absurd (.inl h) ha
      have hai : a0 ≠ i1 := fun q => ha (.inr q)
      rw [pr_ne hTa]
      exact .inl ⟨hai, hrn.1, (al_ed H hrn.1 hai).2 ⟨hTa, b0, e, rfl⟩⟩

theorem al_rank (H : AlH S i1 T) (hr : Rk (Ed S.nd) rk) (hb : ∀ t s, T t = true → ¬ Ed S.nd t i1 s) (hq : ∃ rk', Rk (quo (Ed S.nd) T i1) rk') : ∃ rk', Rk (Ed (S.alN i1 T S.nodes.length).nd) rk' := by
  obtain ⟨rq, hq⟩ := hq
  refine (alN_inv H S.nodes.length (Nat.le_refl _)).fan.rank (rk := fun x => if T x = true then rq i1 + 1 else rq x) ?_
  intro a b s e
  obtain ⟨hb', ⟨q1, q2, q3⟩ | ⟨rfl, q | ⟨u, q1, q2, q3, q4⟩⟩⟩ := e
  · obtain ⟨hTa, b0, e, rfl⟩ := (al_ed H q2 q1).1 q3
    simp only [pr_out H.ti, hTa, Bool.false_eq_true, if_false]
    refine hq _ _ s ⟨?_, a, b0, pr_ne hTa, rfl, e⟩
    intro hab
    unfold pr at hab
    split at hab
    · exact q1 hab
    · exact hr.ne e hab
  · simp only [H.ti, Bool.false_eq_true, if_false]
    by_cases hTb : T b = true
    · rw [if_pos hTb]; omega
    · rw [if_neg hTb]
      exact hq _ _ s ⟨hr.ne q, a, b, pr_ne H.ti, pr_ne (by simpa using hTb), q⟩
  · simp only [H.ti, q4, Bool.false_eq_true, if_false]
    exact hq _ _ s ⟨fun hab => hb u s q2 (hab ▸ q3), u, b, pr_eq (.inl q2), pr_ne q4, q3⟩

/-- What leads to a node of T or to a new node leads to i1. -/
theorem al_dead (H : AlH S i1 T) {a x : Nat} {f : Bool} (k : PE (Ed (S.alN i1 T S.nodes.length).nd) a x f) (hx : T x = true ∨ S.nodes.length ≤ x) : (T a = true ∨ S.nodes.length ≤ a) ∨ Le (Ed (S.alN i1 T S.nodes.length).nd) a i1 := by
  induction k with
  | nil => exact .inl hx
  | cons e k ih =>
    rename_i a b c s t
    rcases ih hx with h1 | h1
    · have hcl : a = i1 ∨ S.nodes.length ≤ a := by
        rcases h1 with h1 | h1
        · by_cases q : a = i1 ∨ S.nodes.length ≤ a
          · exact q
          · obtain ⟨_, b0, _, rfl⟩ := (al_ed H (by omega) (fun w => q (.inl w))).1 e
            rw [pr_out H.ti] at h1; cases h1
        · rcases ((alN_inv H S.nodes.length (Nat.le_refl _)).fan.inx _ _ _ e h1).2 with q | q
          · exact .inl q
          · exact .inr q.1
      rcases hcl with rfl | q
      · exact .inr (Le.refl _)
      · exact .inl (.inr q)
    · exact .inr ((PE.one e).le.trans h1)
end
end Go.Proofs.Ytapnmgkpljlgmaa
namespace Go.Proofs.Ytapnmgkpljlgmaa

def Kid (nd : Nat → Nat × Nat) (x y : Nat) : Prop := y = (nd x).1 / 2 ∨ y = (nd x).2 / 2
theorem Kid.ed {nd : Nat → Nat × Nat} {x y : Nat} (h : Kid nd x y) (hy : y ≠ 0) : ∃ s, Ed nd x y s := by
  rcases h with h | h
  · exact ⟨_, .inl ⟨by rintro e; rw [e] at h; exact hy h, h.symm, rfl⟩⟩
  · exact ⟨_, .inr ⟨by rintro e; rw [e] at h; exact hy h, h.symm, rfl⟩⟩
theorem Ed.kid {nd : Nat → Nat × Nat} {x y : Nat} {s : Bool} (h : Ed nd x y s) : Kid nd x y := by
  rcases h with ⟨_, h, _⟩ | ⟨_, h, _⟩
  · exact .inl h.symm
  · exact .inr h.symm

structure FG (nd : Nat → Nat × Nat) (dst : Nat) (gray : Nat → Prop) (s : SP) : Prop where
  a : ∀ x, s.1 x = true → ¬ gray x → (s.2 x = true ↔ Le (Ed nd) x dst)
  b : ∀ x, s.1 x = false → (s.2 x = true ↔ x = dst)
  c : ∀ x, gray x → s.1 x = true ∧ s.2 x = false
  d : ∀ x, s.1 x = true → ¬ gray x → ∀ y, Kid nd x y → s.1 y = true ∨ y = dst
  z : s.1 dst = false

structure FpH (nd : Nat → Nat × Nat) (n dst : Nat) (rk : Nat → Nat) : Prop where
  d0 : dst ≠ 0
  n0 : nd 0 = (0, 0)
  np : 0 < n
  rk : Rk (Ed nd) rk
  ir : ∀ x y s, Ed nd x y s → y < n

section
variable {nd : Nat → Nat × Nat} {n dst : Nat} {rk : Nat → Nat}
theorem FpH.le0 (H : FpH nd n dst rk) : ¬ Le (Ed nd) 0 dst := by
  rintro ⟨f, h⟩
  have hd := H.d0
  generalize hz : 0 = z at h
  cases h with
  | nil => exact hd hz.symm
  | cons e _ =>
    subst hz
    rw [Ed_at H.n0] at e
    rcases e with e | e <;> exact isE_zero e
theorem FpH.kid (H : FpH nd n dst rk) {x y : Nat} (h : Kid nd x y) : y < n := by
  by_cases hy : y = 0
  · have := H.np; omega
  · obtain ⟨s, e⟩ := h.ed hy; exact H.ir _ _ _ e

def FpOk (nd : Nat → Nat × Nat) (dst : Nat) (gray : Nat → Prop) (cur : Nat) (s s' : SP) : Prop :=
  FG nd dst gray s' ∧ (∀ x, s.1 x = true → s'.1 x = true) ∧ (cur = dst ∨ s'.1 cur = true) ∧ ∀ x, s'.1 x = true → s.1 x = true ∨ x = 0 ∨ Le (Ed nd) cur x

theorem fpGo_ok (H : FpH nd n dst rk) {k cur y : Nat} {gray : Nat → Prop} {s : SP}
    (ih : ∀ (cur : Nat) (s : SP) (gray : Nat → Prop), cnt n s.1 ≤ k → cur < n → s.1 cur = false → (∀ x, gray x → x ≠ 0 ∧ (cur = 0 ∨ rk x < rk cur)) → FG nd dst gray s → FpOk nd dst gray cur s (fp nd dst k cur s))
    (hc0 : cur ≠ 0) (hk : Kid nd cur y) (hc : cnt n s.1 ≤ k) (hg : ∀ x, gray x → x ≠ 0 ∧ rk x ≤ rk cur) (h : FG nd dst gray s) :
    FG nd dst gray (fpGo (fp nd dst k) y s) ∧ (∀ x, s.1 x = true → (fpGo (fp nd dst k) y s).1 x = true) ∧ (y = dst ∨ (fpGo (fp nd dst k) y s).1 y = true) ∧
      ∀ x, (fpGo (fp nd dst k) y s).1 x = true → s.1 x = true ∨ x = 0 ∨ Le (Ed nd) cur x := by
  cases hs : s.1 y
  · rw [fpGo_no hs]
    obtain ⟨k1, k2, k3, k4⟩ := ih y s gray hc (H.kid hk) hs (fun x hx => ⟨(hg x hx).1, by
      by_cases hy : y = 0
      · exact .inl hy
      · obtain ⟨s, e⟩ := hk.ed hy
        have := H.rk _ _ _ e
        have := (hg x hx).2
        exact .inr (by omega)⟩) h
    refine ⟨k1, k2, k3, fun x hx => ?_⟩
    rcases k4 x hx with q | q | q
    · exact .inl q
    · exact .inr (.inl q)
    · by_cases hy : y = 0
      · subst hy
        obtain ⟨f, q⟩ := q
        generalize hz : 0 = z at q
        cases q with
        | nil => exact .inr (.inl (by first | rfl | exact hz.symm | exact hz))
        | cons e _ =>
          subst hz
          rw [Ed_at H.n0] at e
          rcases e with e | e <;> exact absurd e isE_zero
      · obtain ⟨s, e⟩ := hk.ed hy
        exact .inr (.inr ((PE.one e).le.trans q))
  · rw [fpGo_yes hs]
    exact ⟨h, fun _ => id, .inr hs, fun _ => .inl⟩

theorem fp_ok (H : FpH nd n dst rk) : ∀ (k cur : Nat) (s : SP) (gray : Nat → Prop), cnt n s.1 ≤ k → cur < n → s.1 cur = false → (∀ x, gray x → x ≠ 0 ∧ (cur = 0 ∨ rk x < rk cur)) → FG nd dst gray s → FpOk nd dst gray cur s (fp nd dst k cur s)
  | 0, cur, s, gray, hk, hn, hs, _, _ => by have := cnt_set hs n hn; omega
  | k + 1, cur, s, gray, hk, hn, hs, hg, h => by
    have hcs := cnt_set hs n hn
    unfold fp
    by_cases hcd : cur = dst
    · rw [if_pos hcd]
      exact ⟨h, fun _ => id, .inl hcd, fun _ => .inl⟩
    · rw [if_neg hcd]
      have hpc : s.2 cur = false := by
        cases hp : s.2 cur
        · rfl
        · exact absurd ((h.b cur hs).1 hp) hcd
      have hsb : ∀ x, setB s.1 cur x = true ↔ s.1 x = true ∨ x = cur := fun x => by simp [setB]
      by_cases hc0 : cur = 0
      · subst hc0
        have hn0 : (nd 0).1 / 2 = 0 ∧ (nd 0).2 / 2 = 0 := by rw [H.n0]; exact ⟨rfl, rfl⟩
        rw [hn0.1, hn0.2, fpGo_yes (s := (setB s.1 0, s.2)) (by show setB s.1 0 0 = true; simp [setB]), fpGo_yes (s := (setB s.1 0, s.2)) (by show setB s.1 0 0 = true; simp [setB])]
        unfold fpEnd
        rw [if_neg (by simp [hpc])]
        refine ⟨⟨fun x hx hgx => ?_, fun x hx => ?_, fun x hx => ?_, fun x hx hgx y hy => ?_, ?_⟩, fun x hx => (hsb x).2 (.inl hx), .inr ((hsb 0).2 (.inr rfl)), fun x hx => ?_⟩
        · rcases (hsb x).1 hx with q | rfl
          · exact h.a x q hgx
          · show s.2 0 = true ↔ _
            rw [hpc]; simp [H.le0]
        · exact h.b x (by cases q : s.1 x; · rfl
                          · exact absurd (show setB s.1 0 x = false from hx) (by rw [(hsb x).2 (.inl q)]; decide))
        · exact ⟨(hsb x).2 (.inl (h.c x hx).1), (h.c x hx).2⟩
        · rcases (hsb x).1 hx with q | rfl
          · rcases h.d x q hgx y hy with w | w
            · exact .inl ((hsb y).2 (.inl w))
            · exact .inr w
          · have : y = 0 := by rcases hy with w | w <;> simp [H.n0] at w <;> exact w
            exact .inl ((hsb y).2 (.inr this))
        · show setB s.1 0 dst = false
          cases q : setB s.1 0 dst
          · rfl
          · rcases (hsb dst).1 q with w | w
            · rw [h.z] at w; cases w
            · exact absurd w.symm hcd
        · rcases (hsb x).1 hx with q | q
          · exact .inl q
          · exact .inr (.inl q)
      · have hg1 : ∀ x, (gray x ∨ x = cur) → x ≠ 0 ∧ rk x ≤ rk cur := by
          rintro x (q | rfl)
          · have := hg x q
            refine ⟨this.1, ?_⟩
            rcases this.2 with w | w
            · exact absurd w hc0
            · omega
          · exact ⟨hc0, Nat.le_refl _⟩
        have h1 : FG nd dst (fun x => gray x ∨ x = cur) (setB s.1 cur, s.2) := by
          refine ⟨fun x hx hgx => ?_, fun x hx => ?_, fun x hx => ?_, fun x hx hgx y hy => ?_, ?_⟩
          · rcases (hsb x).1 hx with q | q
            · exact h.a x q fun w => hgx (.inl w)
            · exact absurd (.inr q) hgx
          · exact h.b x (by cases q : s.1 x; · rfl
                            · exact absurd (show setB s.1 cur x = false from hx) (by rw [(hsb x).2 (.inl q)]; decide))
          · rcases hx with hx | rfl
            · exact ⟨(hsb x).2 (.inl (h.c x hx).1), (h.c x hx).2⟩
            · exact ⟨(hsb x).2 (.inr rfl), hpc⟩
          · rcases (hsb x).1 hx with q | q
            · rcases h.d x q (fun w => hgx (.inl w)) y hy with w | w
              · exact .inl ((hsb y).2 (.inl w))
              · exact .inr w
            · exact absurd (.inr q) hgx
          · show setB s.1 cur dst = false
            cases q : setB s.1 cur dst
            · rfl
            · rcases (hsb dst).1 q with w | w
              · rw [h.z] at w; cases w
              · exact absurd w.symm hcd
        have hkl : Kid nd cur ((nd cur).1 / 2) := .inl rfl
        have hkr : Kid nd cur ((nd cur).2 / 2) := .inr rfl
        obtain ⟨a1, a2, a3, a4⟩ := fpGo_ok (s := (setB s.1 cur, s.2)) H (fp_ok H k) hc0 hkl (by show cnt n (setB s.1 cur) ≤ k; omega) hg1 h1
        generalize fpGo (fp nd dst k) ((nd cur).1 / 2) (setB s.1 cur, s.2) = s2 at *
        have hc2 : cnt n s2.1 ≤ k := by
          have := cnt_mono (C := setB s.1 cur) (D := s2.1) a2 n; omega
        obtain ⟨b1, b2, b3, b4⟩ := fpGo_ok H (fp_ok H k) hc0 hkr hc2 hg1 a1
        generalize fpGo (fp nd dst k) ((nd cur).2 / 2) s2 = s3 at *
        have mark : ∀ y, Kid nd cur y → (y = dst ∨ s3.1 y = true) → (s3.2 y = true ↔ Le (Ed nd) y dst) := by
          intro y hy hs
          by_cases hyd : y = dst
          · subst hyd
            rw [b1.b y b1.z]; simp [Le.refl]
          · refine b1.a y (hs.resolve_left hyd) fun q => ?_
            have := hg1 y q
            obtain ⟨s, e⟩ := hy.ed this.1
            have := H.rk _ _ _ e
            omega
        have ml := mark _ hkl (a3.imp id (b2 _))
        have mr := mark _ hkr b3
        have hcond : (s3.2 ((nd cur).1 / 2) || s3.2 ((nd cur).2 / 2)) = true ↔ Le (Ed nd) cur dst := by
          rw [Bool.or_eq_true, ml, mr]
          constructor
          · have go : ∀ y, Kid nd cur y → Le (Ed nd) y dst → Le (Ed nd) cur dst := by
              intro y hy hl
              by_cases h0 : y = 0
              · subst h0; exact absurd hl H.le0
              · obtain ⟨s, e⟩ := hy.ed h0
                exact (PE.one e).le.trans hl
            rintro (q | q)
            · exact go _ hkl q
            · exact go _ hkr q
          · rintro ⟨f, q⟩
            cases q with
            | nil => exact absurd rfl hcd
            | cons e q =>
              rcases e.kid with rfl | rfl
              · exact .inl q.le
              · exact .inr q.le
        have hcur := b1.c cur (.inr rfl)
        have hge : ∀ x, gray x → x ≠ cur := fun x hx e => by subst e; rw [(h.c x hx).1] at hs; cases hs
        have hend : (fpEnd cur ((nd cur).1 / 2) ((nd cur).2 / 2) s3).1 = s3.1 ∧ (∀ x, x ≠ cur → (fpEnd cur ((nd cur).1 / 2) ((nd cur).2 / 2) s3).2 x = s3.2 x) ∧ ((fpEnd cur ((nd cur).1 / 2) ((nd cur).2 / 2) s3).2 cur = true ↔ Le (Ed nd) cur dst) := by
          unfold fpEnd
          split
          · rename_i q
            refine ⟨rfl, fun x hx => by simp [setB, hx], ?_⟩
            simp only [setB, decide_true, Bool.or_true, true_iff]
            exact hcond.1 q
          · rename_i q
            refine ⟨rfl, fun x _ => rfl, ?_⟩
            rw [hcur.2]
            simp only [Bool.false_eq_true, false_iff]
            exact fun w => q (hcond.2 w)
        generalize fpEnd cur ((nd cur).1 / 2) ((nd cur).2 / 2) s3 = s4 at *
        obtain ⟨e1, e2, e3⟩ := hend
        have mono : ∀ x, s.1 x = true → s3.1 x = true := fun x hx => b2 x (a2 x ((hsb x).2 (.inl hx)))
        refine ⟨⟨fun x hx hgx => ?_, fun x hx => ?_, fun x hx => ?_, fun x hx hgx y hy => ?_, ?_⟩, fun x hx => by rw [e1]; exact mono x hx, .inr (by rw [e1]; exact hcur.1), fun x hx => ?_⟩
        · rw [e1] at hx
          by_cases hxc : x = cur
          · subst hxc; exact e3
          · rw [e2 x hxc]
            exact b1.a x hx fun q => q.elim hgx hxc
        · rw [e1] at hx
          have hxc : x ≠ cur := by rintro rfl; rw [hcur.1] at hx; cases hx
          rw [e2 x hxc]; exact b1.b x hx
        · rw [e1, e2 x (hge x hx)]
          exact b1.c x (.inl hx)
        · rw [e1] at hx ⊢
          by_cases hxc : x = cur
          · subst hxc
            rcases hy with rfl | rfl
            · rcases a3 with q | q
              · exact .inr q
              · exact .inl (b2 _ q)
            · rcases b3 with q | q
              · exact .inr q
              · exact .inl q
          · exact b1.d x hx (fun q => q.elim hgx hxc) y hy
        · rw [e1]; exact b1.z
        · rw [e1] at hx
          rcases b4 x hx with q | q | q
          · rcases a4 x q with w | w | w
            · rcases (hsb x).1 w with v | rfl
              · exact .inl v
              · exact .inr (.inr (Le.refl _))
            · exact .inr (.inl w)
            · exact .inr (.inr w)
          · exact .inr (.inl q)
          · exact .inr (.inr q)
end

theorem fpath_iff {S : PS} {rk : Nat → Nat} {a b : Nat} (H : FpH S.nd S.nodes.length b rk) (ha : a < S.nodes.length) (hab : Le (Ed S.nd) a b) (x : Nat) :
    S.fpath a b x = true ↔ Le (Ed S.nd) a x ∧ Le (Ed S.nd) x b := by
  have h0 : FG S.nd b (fun _ => False) ((fun _ => false, setB (fun _ => false) b) : SP) :=
    ⟨fun x hx => by simp at hx, fun x _ => by simp [setB], fun x hx => hx.elim, fun x hx => by simp at hx, rfl⟩
  obtain ⟨h1, _, h2, h3⟩ := fp_ok H S.nodes.length a (fun _ => false, setB (fun _ => false) b) (fun _ => False) (by show cnt _ _ ≤ _; rw [cnt_none]; exact Nat.le_refl _) ha rfl (fun x hx => hx.elim) h0
  unfold PS.fpath
  generalize fp S.nd b S.nodes.length a (fun _ => false, setB (fun _ => false) b) = s at *
  constructor
  · intro hx
    cases hs : s.1 x
    · rw [(h1.b x hs).1 hx]; exact ⟨hab, Le.refl _⟩
    · have hl := (h1.a x hs fun q => q).1 hx
      rcases h3 x hs with q | rfl | q
      · simp at q
      · exact absurd hl H.le0
      · exact ⟨q, hl⟩
  · rintro ⟨k1, k2⟩
    by_cases hxb : x = b
    · subst hxb; exact (h1.b x h1.z).2 rfl
    · have hseen : s.1 x = true := by
        have hab' : a ≠ b := by rintro rfl; exact hxb (H.rk.anti k2 k1)
        have hsa := h2.resolve_left hab'
        obtain ⟨f, p⟩ := k1
        clear h2 h3 hab hab' ha
        induction p with
        | nil => exact hsa
        | cons e p ih =>
          rcases h1.d _ hsa (fun q => q) _ e.kid with q | rfl
          · exact ih k2 hxb q
          · exact absurd (H.rk.anti k2 p.le) hxb
      exact (h1.a x hseen fun q => q).2 k2
end Go.Proofs.Ytapnmgkpljlgmaa
namespace Go.Proofs.Ytapnmgkpljlgmaa

/-- kn: has the value a node; le, lt, ne: what is known of two values. -/
structure VS where
  kn : Nat → Bool
  le : Nat → Nat → Bool
  lt : Nat → Nat → Bool
  ne : Nat → Nat → Bool

theorem VS.ext {V W : VS} (h1 : V.kn = W.kn) (h2 : V.le = W.le) (h3 : V.lt = W.lt) (h4 : V.ne = W.ne) : V = W := by
  cases V; cases W; simp only at h1 h2 h3 h4; subst h1 h2 h3 h4; rfl
def VS.eq (V : VS) (x y : Nat) : Bool := V.le x y && V.le y x
def VS.add (V : VS) (x y : Nat) (s : Bool) : VS where
  kn a := V.kn a || decide (a = x) || decide (a = y)
  le a b := V.le a b || (V.le a x && V.le y b)
  lt a b := V.lt a b || (V.le a x && V.le y b && (V.lt a x || s || V.lt y b))
  ne := V.ne
def VS.rep (V : VS) (r a : Nat) : Nat := if V.eq a r = true then r else a
/-- The class of r keeps what is recorded of r. -/
def VS.fold (V : VS) (r : Nat) : VS := { V with ne := fun a b => V.ne (V.rep r a) (V.rep r b) }
def VS.mark (V : VS) (x y : Nat) : VS where
  kn a := V.kn a || decide (a = x) || decide (a = y)
  le := V.le
  lt := V.lt
  ne a b := V.ne a b || (V.eq a x && V.eq b y) || (V.eq a y && V.eq b x)

def VS.setO (V : VS) (x y : Nat) (st : Bool) : VS × Bool :=
  if V.eq x y = true then (V, !st)
  else if V.le x y = true then (V.add x y (st || V.ne x y), true)
  else if V.le y x = true then (if (st || V.ne x y || V.lt y x) = true then (V, false) else ((V.add x y false).fold y, true))
  else (V.add x y (st || V.ne x y), true)
def VS.setE (V : VS) (x y : Nat) : VS × Bool :=
  if V.eq x y = true then (V, true)
  else if V.ne x y = true then (V, false)
  else if V.le x y = true then (if V.lt x y = true then (V, false) else ((V.add y x false).fold x, true))
  else if V.le y x = true then (if V.lt y x = true then (V, false) else ((V.add x y false).fold y, true))
  else (((V.add x y false).add y x false).fold (if V.kn x = false ∧ V.kn y = true then y else x), true)
def VS.setN (V : VS) (x y : Nat) : VS × Bool :=
  if V.ne x y = true then (V, true)
  else if V.eq x y = true then (V, false)
  else if V.le x y = true then ((V.mark x y).add x y true, true)
  else if V.le y x = true then ((V.mark x y).add y x true, true)
  else (V.mark x y, true)
def VS.nil : VS := ⟨fun _ => false, fun a b => decide (a = b), fun _ _ => false, fun _ _ => false⟩

/-- What holds of the order. -/
structure VO (V : VS) : Prop where
  rf : ∀ a, V.le a a = true
  tr : ∀ {a b c}, V.le a b = true → V.le b c = true → V.le a c = true
  ll : ∀ {a b}, V.lt a b = true → V.le a b = true
  lr : ∀ {a b c}, V.le a b = true → V.lt b c = true → V.lt a c = true
  rl : ∀ {a b c}, V.lt a b = true → V.le b c = true → V.lt a c = true
  ir : ∀ a, V.lt a a ≠ true
  kl : ∀ {a b}, V.le a b = true → a ≠ b → V.kn a = true ∧ V.kn b = true
/-- What holds of what is not equal. -/
structure VN (V : VS) : Prop where
  sy : ∀ {a b}, V.ne a b = true → V.ne b a = true
  ne : ∀ {a b}, V.eq a b = true → V.ne a b ≠ true
  cg : ∀ {a b c}, V.eq a b = true → V.ne a c = true → V.ne b c = true
  kn : ∀ {a b}, V.ne a b = true → V.kn a = true ∧ V.kn b = true
structure VOK (V : VS) : Prop extends VO V, VN V

theorem VS.eq_iff {V : VS} {x y : Nat} : V.eq x y = true ↔ V.le x y = true ∧ V.le y x = true := by unfold VS.eq; rw [Bool.and_eq_true]
theorem VS.add_kn {V : VS} {x y : Nat} {s : Bool} {a : Nat} : (V.add x y s).kn a = true ↔ V.kn a = true ∨ a = x ∨ a = y := by simp [VS.add, or_assoc]
theorem VS.add_le {V : VS} {x y : Nat} {s : Bool} {a b : Nat} : (V.add x y s).le a b = true ↔ V.le a b = true ∨ (V.le a x = true ∧ V.le y b = true) := by simp [VS.add]
theorem VS.add_lt {V : VS} {x y : Nat} {s : Bool} {a b : Nat} : (V.add x y s).lt a b = true ↔ V.lt a b = true ∨ (V.le a x = true ∧ V.le y b = true ∧ (V.lt a x = true ∨ s = true ∨ V.lt y b = true)) := by
  simp [VS.add, and_assoc, or_assoc]
theorem VS.mark_ne {V : VS} {x y a b : Nat} : (V.mark x y).ne a b = true ↔ V.ne a b = true ∨ (V.eq a x = true ∧ V.eq b y = true) ∨ (V.eq a y = true ∧ V.eq b x = true) := by simp [VS.mark, or_assoc]
theorem VS.mark_kn {V : VS} {x y a : Nat} : (V.mark x y).kn a = true ↔ V.kn a = true ∨ a = x ∨ a = y := by simp [VS.mark, or_assoc]
theorem VS.ext' {V W : VS} (hk : ∀ a, V.kn a = true ↔ W.kn a = true) (hl : ∀ a b, V.le a b = true ↔ W.le a b = true) (ht : ∀ a b, V.lt a b = true ↔ W.lt a b = true) (hn : ∀ a b, V.ne a b = true ↔ W.ne a b = true) : V = W := by
  apply VS.ext
  · funext a; rw [Bool.eq_iff_iff]; exact hk a
  · funext a b; rw [Bool.eq_iff_iff]; exact hl a b
  · funext a b; rw [Bool.eq_iff_iff]; exact ht a b
  · funext a b; rw [Bool.eq_iff_iff]; exact hn a b

theorem VO.add {V : VS} (h : VO V) {x y : Nat} {s : Bool} (hs : V.le y x = true → s = false ∧ V.lt y x ≠ true) : VO (V.add x y s) where
  rf a := VS.add_le.2 (.inl (h.rf a))
  tr {a b c} k l := by
    rw [VS.add_le] at *
    rcases k with k | ⟨k1, k2⟩ <;> rcases l with l | ⟨l1, l2⟩
    · exact .inl (h.tr k l)
    · exact .inr ⟨h.tr k l1, l2⟩
    · exact .inr ⟨k1, h.tr k2 l⟩
    · exact .inr ⟨k1, l2⟩
  ll {a b} k := by
    rw [VS.add_lt] at k; rw [VS.add_le]
    rcases k with k | ⟨k1, k2, _⟩
    · exact .inl (h.ll k)
    · exact .inr ⟨k1, k2⟩
  lr {a b c} k l := by
    rw [VS.add_le] at k; rw [VS.add_lt] at *
    rcases k with k | ⟨k1, k2⟩ <;> rcases l with l | ⟨l1, l2, l3⟩
    · exact .inl (h.lr k l)
    · refine .inr ⟨h.tr k l1, l2, ?_⟩
      rcases l3 with l3 | l3 | l3
      · exact .inl (h.lr k l3)
      · exact .inr (.inl l3)
      · exact .inr (.inr l3)
    · exact .inr ⟨k1, h.tr k2 (h.ll l), .inr (.inr (h.lr k2 l))⟩
    · have hyx := h.tr k2 l1
      obtain ⟨hs1, hs2⟩ := hs hyx
      refine .inr ⟨k1, l2, ?_⟩
      rcases l3 with l3 | l3 | l3
      · exact absurd (h.lr k2 l3) hs2
      · rw [hs1] at l3; cases l3
      · exact .inr (.inr l3)
  rl {a b c} k l := by
    rw [VS.add_le] at l; rw [VS.add_lt] at *
    rcases k with k | ⟨k1, k2, k3⟩ <;> rcases l with l | ⟨l1, l2⟩
    · exact .inl (h.rl k l)
    · exact .inr ⟨h.tr (h.ll k) l1, l2, .inl (h.rl k l1)⟩
    · refine .inr ⟨k1, h.tr k2 l, ?_⟩
      rcases k3 with k3 | k3 | k3
      · exact .inl k3
      · exact .inr (.inl k3)
      · exact .inr (.inr (h.rl k3 l))
    · have hyx := h.tr k2 l1
      obtain ⟨hs1, hs2⟩ := hs hyx
      refine .inr ⟨k1, l2, ?_⟩
      rcases k3 with k3 | k3 | k3
      · exact .inl k3
      · rw [hs1] at k3; cases k3
      · exact absurd (h.rl k3 l1) hs2
  ir a k := by
    rw [VS.add_lt] at k
    rcases k with k | ⟨k1, k2, k3⟩
    · exact h.ir a k
    · obtain ⟨hs1, hs2⟩ := hs (h.tr k2 k1)
      rcases k3 with k3 | k3 | k3
      · exact hs2 (h.lr k2 k3)
      · rw [hs1] at k3; cases k3
      · exact hs2 (h.rl k3 k1)
  kl {a b} k hab := by
    rw [VS.add_le] at k
    rw [VS.add_kn, VS.add_kn]
    rcases k with k | ⟨k1, k2⟩
    · exact ⟨.inl (h.kl k hab).1, .inl (h.kl k hab).2⟩
    · constructor
      · by_cases e : a = x
        · exact .inr (.inl e)
        · exact .inl (h.kl k1 e).1
      · by_cases e : b = y
        · exact .inr (.inr e)
        · exact .inl (h.kl k2 fun q => e q.symm).2

/-- One more edge that closes no ring: what is equal stays as it was. -/
theorem add_eq {V : VS} (h : VO V) {x y : Nat} {s : Bool} (hn : V.le y x ≠ true) {a b : Nat} : (V.add x y s).eq a b = true ↔ V.eq a b = true := by
  rw [VS.eq_iff, VS.eq_iff, VS.add_le, VS.add_le]
  constructor
  · rintro ⟨k | ⟨k1, k2⟩, l | ⟨l1, l2⟩⟩
    · exact ⟨k, l⟩
    · exact absurd (h.tr (h.tr l2 k) l1) hn
    · exact absurd (h.tr (h.tr k2 l) k1) hn
    · exact absurd (h.tr k2 l1) hn
  · exact fun k => ⟨.inl k.1, .inl k.2⟩
theorem VOK.add {V : VS} (h : VOK V) {x y : Nat} {s : Bool} (hn : V.le y x ≠ true) : VOK (V.add x y s) where
  toVO := h.toVO.add fun k => absurd k hn
  sy := h.sy
  ne k := h.ne ((add_eq h.toVO hn).1 k)
  cg k := h.cg ((add_eq h.toVO hn).1 k)
  kn k := ⟨VS.add_kn.2 (.inl (h.kn k).1), VS.add_kn.2 (.inl (h.kn k).2)⟩

theorem VO.fold {V : VS} (h : VO V) (r : Nat) : VO (V.fold r) := ⟨h.rf, h.tr, h.ll, h.lr, h.rl, h.ir, h.kl⟩
theorem fold_eq (V : VS) (r a b : Nat) : (V.fold r).eq a b = V.eq a b := rfl
theorem VO.eqs {V : VS} {a b : Nat} (h : V.eq a b = true) : V.eq b a = true := by rw [VS.eq_iff] at *; exact ⟨h.2, h.1⟩
theorem VO.eqt {V : VS} (o : VO V) {a b c : Nat} (h : V.eq a b = true) (k : V.eq b c = true) : V.eq a c = true := by rw [VS.eq_iff] at *; exact ⟨o.tr h.1 k.1, o.tr k.2 h.2⟩
theorem VO.eqr {V : VS} (o : VO V) (a : Nat) : V.eq a a = true := VS.eq_iff.2 ⟨o.rf a, o.rf a⟩
theorem VOK.fold {V W : VS} (hV : VOK V) (hW : VO W) (hne : W.ne = V.ne) (hkn : ∀ a, V.kn a = true → W.kn a = true) {r : Nat} (hc : ∀ a b, W.eq a b = true → V.eq a b = true ∨ W.eq a r = true) : VOK (W.fold r) where
  toVO := hW.fold r
  sy k := by
    simp only [VS.fold, hne] at k ⊢; exact hV.sy k
  ne {a b} k l := by
    simp only [VS.fold, hne] at l
    have k : W.eq a b = true := k
    unfold VS.rep at l
    by_cases ha : W.eq a r = true
    · have hb : W.eq b r = true := hW.eqt (VO.eqs k) ha
      rw [if_pos ha, if_pos hb] at l
      exact hV.ne (hV.eqr r) l
    · have hb : ¬ W.eq b r = true := fun q => ha (hW.eqt k q)
      rw [if_neg ha, if_neg hb] at l
      exact hV.ne ((hc a b k).resolve_right ha) l
  cg {a b c} k l := by
    simp only [VS.fold, hne] at l ⊢
    have k : W.eq a b = true := k
    by_cases ha : W.eq a r = true
    · have hb : W.eq b r = true := hW.eqt (VO.eqs k) ha
      rw [show W.rep r b = W.rep r a by unfold VS.rep; rw [if_pos ha, if_pos hb]]
      exact l
    · have hb : ¬ W.eq b r = true := fun q => ha (hW.eqt k q)
      rw [show W.rep r b = b by unfold VS.rep; rw [if_neg hb]]
      rw [show W.rep r a = a by unfold VS.rep; rw [if_neg ha]] at l
      exact hV.cg ((hc a b k).resolve_right ha) l
  kn {a b} k := by
    simp only [VS.fold, hne] at k
    have h1 := hV.kn k
    have go : ∀ a, V.kn (W.rep r a) = true → W.kn a = true := by
      intro a q
      unfold VS.rep at q
      split at q
      · rename_i e
        by_cases har : a = r
        · rw [har]; exact hkn r q
        · exact (hW.kl (VS.eq_iff.1 e).1 har).1
      · exact hkn a q
    exact ⟨go a h1.1, go b h1.2⟩

/-- The new classes behind an edge back. -/
theorem add_back {V : VS} (h : VO V) {x y : Nat} (hyx : V.le y x = true) {a b : Nat} (k : (V.add x y false).eq a b = true) : V.eq a b = true ∨ ((V.add x y false).eq a y = true ∧ (V.add x y false).eq a x = true) := by
  have hx : ∀ a, V.le a x = true → V.le y a = true → (V.add x y false).eq a y = true ∧ (V.add x y false).eq a x = true := by
    intro a h1 h2
    simp only [VS.eq_iff, VS.add_le]
    exact ⟨⟨.inr ⟨h1, h.rf y⟩, .inl h2⟩, .inl h1, .inr ⟨h.rf x, h2⟩⟩
  rw [VS.eq_iff, VS.add_le, VS.add_le] at k
  obtain ⟨k | ⟨k1, k2⟩, l | ⟨l1, l2⟩⟩ := k
  · exact .inl (VS.eq_iff.2 ⟨k, l⟩)
  · exact .inr (hx a (h.tr k l1) l2)
  · exact .inr (hx a k1 (h.tr k2 l))
  · exact .inr (hx a k1 l2)
theorem fold_back {V : VS} (h : VOK V) {x y r : Nat} (hyx : V.le y x = true) (hlt : V.lt y x ≠ true) (hr : r = x ∨ r = y) : VOK ((V.add x y false).fold r) := by
  refine VOK.fold h (h.toVO.add fun _ => ⟨rfl, hlt⟩) rfl (fun a q => VS.add_kn.2 (.inl q)) fun a b k => ?_
  rcases add_back h.toVO hyx k with q | q
  · exact .inl q
  · rcases hr with rfl | rfl
    · exact .inr q.2
    · exact .inr q.1
theorem fold_two {V : VS} (h : VOK V) {x y r : Nat} (hyx : V.le y x ≠ true) (hxy : V.lt x y ≠ true) (hr : r = x ∨ r = y) : VOK (((V.add x y false).add y x false).fold r) := by
  have h1 : VO (V.add x y false) := h.toVO.add fun q => absurd q hyx
  have hle : (V.add x y false).le x y = true := VS.add_le.2 (.inr ⟨h.rf x, h.rf y⟩)
  have hlt : (V.add x y false).lt x y ≠ true := by
    rw [Ne, VS.add_lt]
    rintro (q | ⟨_, _, q | q | q⟩)
    · exact hxy q
    · exact h.ir _ q
    · cases q
    · exact h.ir _ q
  refine VOK.fold h (h1.add fun _ => ⟨rfl, hlt⟩) rfl (fun a q => VS.add_kn.2 (.inl (VS.add_kn.2 (.inl q)))) fun a b k => ?_
  rcases add_back h1 hle k with q | q
  · exact .inl ((add_eq h.toVO hyx).1 q)
  · rcases hr with rfl | rfl
    · exact .inr q.1
    · exact .inr q.2

theorem VOK.nil : VOK VS.nil where
  rf a := by simp [VS.nil]
  tr {a b c} k l := by simp [VS.nil] at *; omega
  ll {a b} k := by simp [VS.nil] at k
  lr {a b c} k l := by simp [VS.nil] at l
  rl {a b c} k l := by simp [VS.nil] at k
  ir a := by simp [VS.nil]
  kl {a b} k l := by simp [VS.nil] at k; exact absurd k l
  sy k := by simp [VS.nil] at k
  ne k := by simp [VS.nil]
  cg k l := by simp [VS.nil] at l
  kn k := by simp [VS.nil] at k

theorem VOK.mark {V : VS} (h : VOK V) {x y : Nat} (hn : V.eq x y ≠ true) : VOK (V.mark x y) where
  rf := h.rf
  tr := h.tr
  ll := h.ll
  lr := h.lr
  rl := h.rl
  ir := h.ir
  kl k l := ⟨VS.mark_kn.2 (.inl (h.kl k l).1), VS.mark_kn.2 (.inl (h.kl k l).2)⟩
  sy k := by
    rw [VS.mark_ne] at *
    rcases k with k | ⟨k, l⟩ | ⟨k, l⟩
    · exact .inl (h.sy k)
    · exact .inr (.inr ⟨l, k⟩)
    · exact .inr (.inl ⟨l, k⟩)
  ne {a b} k l := by
    have k : V.eq a b = true := k
    rw [VS.mark_ne] at l
    rcases l with l | ⟨l, m⟩ | ⟨l, m⟩
    · exact h.ne k l
    · exact hn (h.eqt (VO.eqs l) (h.eqt k m))
    · exact hn (h.eqt (VO.eqs m) (h.eqt (VO.eqs k) l))
  cg {a b c} k l := by
    have k : V.eq a b = true := k
    rw [VS.mark_ne] at *
    rcases l with l | ⟨l, m⟩ | ⟨l, m⟩
    · exact .inl (h.cg k l)
    · exact .inr (.inl ⟨h.eqt (VO.eqs k) l, m⟩)
    · exact .inr (.inr ⟨h.eqt (VO.eqs k) l, m⟩)
  kn {a b} k := by
    rw [VS.mark_ne] at k
    rw [VS.mark_kn, VS.mark_kn]
    have go : ∀ a z, V.eq a z = true → V.kn a = true ∨ a = z := by
      intro a z q
      by_cases e : a = z
      · exact .inr e
      · exact .inl (h.kl (VS.eq_iff.1 q).1 e).1
    rcases k with k | ⟨k, l⟩ | ⟨k, l⟩
    · exact ⟨.inl (h.kn k).1, .inl (h.kn k).2⟩
    · have := go _ _ k; have := go _ _ l
      refine ⟨by rcases go _ _ k with q | q <;> simp [q], by rcases go _ _ l with q | q <;> simp [q]⟩
    · refine ⟨by rcases go _ _ k with q | q <;> simp [q], by rcases go _ _ l with q | q <;> simp [q]⟩

theorem setO_ok {V : VS} (h : VOK V) (x y : Nat) (st : Bool) : VOK (V.setO x y st).1 := by
  unfold VS.setO
  split
  · exact h
  · rename_i he
    rw [VS.eq_iff] at he
    split
    · rename_i hxy
      exact h.add fun q => he ⟨hxy, q⟩
    · split
      · rename_i hyx
        split
        · exact h
        · rename_i q
          simp only [Bool.or_eq_true, not_or] at q
          exact fold_back h hyx q.2 (.inr rfl)
      · rename_i hyx; exact h.add hyx
theorem setE_ok {V : VS} (h : VOK V) (x y : Nat) : VOK (V.setE x y).1 := by
  unfold VS.setE
  split
  · exact h
  · split
    · exact h
    · split
      · split
        · exact h
        · rename_i q1 q2; exact fold_back h q1 q2 (.inr rfl)
      · split
        · split
          · exact h
          · rename_i q1 q2; exact fold_back h q1 q2 (.inr rfl)
        · rename_i q1 q2
          refine fold_two h q2 (fun q => q1 (h.ll q)) ?_
          split
          · exact .inr rfl
          · exact .inl rfl
theorem setN_ok {V : VS} (h : VOK V) (x y : Nat) : VOK (V.setN x y).1 := by
  unfold VS.setN
  split
  · exact h
  · split
    · exact h
    · rename_i he
      have hm := h.mark he
      rw [VS.eq_iff] at he
      split
      · rename_i q; exact hm.add fun k => he ⟨q, k⟩
      · split
        · rename_i q1 q2; exact hm.add fun k => he ⟨k, q2⟩
        · exact hm
/-- One more edge that says nothing new. -/
theorem add_idle {V : VS} (h : VOK V) {x y : Nat} {s : Bool} (hxy : V.le x y = true) (hne : x ≠ y) (hs : s = true → V.lt x y = true) : V.add x y s = V := by
  apply VS.ext'
  · intro a; rw [VS.add_kn]
    constructor
    · rintro (q | rfl | rfl)
      · exact q
      · exact (h.kl hxy hne).1
      · exact (h.kl hxy hne).2
    · exact .inl
  · intro a b; rw [VS.add_le]
    constructor
    · rintro (q | ⟨q1, q2⟩)
      · exact q
      · exact h.tr q1 (h.tr hxy q2)
    · exact .inl
  · intro a b; rw [VS.add_lt]
    constructor
    · rintro (q | ⟨q1, q2, q3 | q3 | q3⟩)
      · exact q
      · exact h.rl q3 (h.tr hxy q2)
      · exact h.lr q1 (h.rl (hs q3) q2)
      · exact h.lr (h.tr q1 hxy) q3
    · exact .inl
  · intro a b; rfl
end Go.Proofs.Ytapnmgkpljlgmaa
namespace Go.Proofs.Ytapnmgkpljlgmaa

theorem pth_iff {nd : Nat → Nat × Nat} {a c : Nat} {f : Bool} : Pth nd a c f ↔ PE (Ed nd) a c f := by
  constructor
  · intro h
    refine Pth.ind (M := fun a f => PE (Ed nd) a c f) (.nil c) ?_ h
    intro a b s t e _ ih
    exact .cons e ih
  · intro h
    induction h with
    | nil => exact .nil _
    | cons e _ ih => exact .cons e ih
theorem reach_le {nd : Nat → Nat × Nat} {a c : Nat} : reachB nd a c false = true ↔ Le (Ed nd) a c := by
  rw [(reachB_iff nd a c).1]; simp only [pth_iff]; exact Iff.rfl
theorem reach_lt {nd : Nat → Nat × Nat} {a c : Nat} : reachB nd a c true = true ↔ PE (Ed nd) a c true := by rw [(reachB_iff nd a c).2, pth_iff]
theorem reach_nle {nd : Nat → Nat × Nat} {a c : Nat} : reachB nd a c false = false ↔ ¬ Le (Ed nd) a c := by rw [← reach_le]; simp
theorem reach_nlt {nd : Nat → Nat × Nat} {a c : Nat} : reachB nd a c true = false ↔ ¬ PE (Ed nd) a c true := by rw [← reach_lt]; simp

/-- What is known of the values: value a has the ID a + 1. -/
noncomputable def PS.abs (S : PS) : VS where
  kn a := S.vl (a + 1) != 0
  le a b := decide (a = b) || (S.vl (a + 1) != 0 && S.vl (b + 1) != 0 && reachB S.nd (S.vl (a + 1)) (S.vl (b + 1)) false)
  lt a b := S.vl (a + 1) != 0 && S.vl (b + 1) != 0 && reachB S.nd (S.vl (a + 1)) (S.vl (b + 1)) true
  ne a b := S.vl (a + 1) != 0 && S.vl (b + 1) != 0 && S.ne (S.vl (a + 1)) (S.vl (b + 1))

section
variable {S : PS} {a b : Nat}
theorem abs_kn : S.abs.kn a = true ↔ S.vl (a + 1) ≠ 0 := by simp [PS.abs]
theorem abs_le : S.abs.le a b = true ↔ a = b ∨ (S.vl (a + 1) ≠ 0 ∧ S.vl (b + 1) ≠ 0 ∧ Le (Ed S.nd) (S.vl (a + 1)) (S.vl (b + 1))) := by
  simp [PS.abs, reach_le, and_assoc]
theorem abs_lt : S.abs.lt a b = true ↔ S.vl (a + 1) ≠ 0 ∧ S.vl (b + 1) ≠ 0 ∧ PE (Ed S.nd) (S.vl (a + 1)) (S.vl (b + 1)) true := by
  simp [PS.abs, reach_lt, and_assoc]
theorem abs_ne : S.abs.ne a b = true ↔ S.vl (a + 1) ≠ 0 ∧ S.vl (b + 1) ≠ 0 ∧ S.ne (S.vl (a + 1)) (S.vl (b + 1)) = true := by
  simp [PS.abs, and_assoc]
theorem abs_le_kn (ha : S.vl (a + 1) ≠ 0) (hb : S.vl (b + 1) ≠ 0) : S.abs.le a b = true ↔ Le (Ed S.nd) (S.vl (a + 1)) (S.vl (b + 1)) := by
  rw [abs_le]
  constructor
  · rintro (rfl | h)
    · exact Le.refl _
    · exact h.2.2
  · exact fun h => .inr ⟨ha, hb, h⟩
theorem abs_le_un (h : S.vl (a + 1) = 0 ∨ S.vl (b + 1) = 0) : S.abs.le a b = true ↔ a = b := by
  rw [abs_le]
  constructor
  · rintro (rfl | ⟨h1, h2, _⟩)
    · rfl
    · rcases h with h | h
      · exact absurd h h1
      · exact absurd h h2
  · exact .inl
end

/-- What holds of the nodes, the roots left out. -/
structure Core (S : PS) : Prop extends WF1 S where
  nz : NZ S
  n0 : S.nd 0 = (0, 0)
  rk : ∃ rk, Rk (Ed S.nd) rk
  r0 : S.rt 0 = false
  ids : ∀ id, S.vl id ≠ 0 → 1 ≤ id ∧ id ≤ 12
theorem Core.pos {S : PS} (h : Core S) : 0 < S.nodes.length := by have := h.la; omega

/-- A node that is not there yet. -/
theorem Core.fresh {S : PS} (h : Core S) {x b : Nat} (hx : S.nodes.length ≤ x) : (Le (Ed S.nd) x b → b = x) ∧ (Le (Ed S.nd) b x → b = x) := by
  constructor
  · rintro ⟨f, p⟩
    cases p with
    | nil => rfl
    | cons e _ => have := (h.rng _ _ _ e).1; omega
  · rintro ⟨f, p⟩
    have : ∀ {b x f}, PE (Ed S.nd) b x f → S.nodes.length ≤ x → b = x := by
      intro b x f p hx
      induction p with
      | nil => rfl
      | cons e p ih =>
        have := (h.rng _ _ _ e).2
        have := ih hx
        omega
    exact this p hx
theorem Core.fresh_lt {S : PS} (h : Core S) {x b : Nat} (hx : S.nodes.length ≤ x) : ¬ PE (Ed S.nd) x b true ∧ ¬ PE (Ed S.nd) b x true := by
  obtain ⟨rk, hr⟩ := h.rk
  constructor
  · intro p
    have := (h.fresh hx).1 p.le
    subst this
    exact absurd (hr.self p) (by decide)
  · intro p
    have := (h.fresh hx).2 p.le
    subst this
    exact absurd (hr.self p) (by decide)
theorem Core.fresh_ne {S : PS} (h : Core S) {x b : Nat} (hx : S.nodes.length ≤ x) : S.ne x b = false ∧ S.ne b x = false := by
  have q : ∀ i j, S.nodes.length ≤ i → S.nq i j = false := fun i j hi => by
    cases e : S.nq i j
    · rfl
    · have := h.qa i j e; omega
  unfold PS.ne
  constructor
  · split
    · rfl
    · split
      · exact q _ _ (by omega)
      · exact q _ _ hx
  · split
    · rfl
    · split
      · exact q _ _ hx
      · exact q _ _ (by omega)

/-- The abstraction goes by the values' nodes, the walks between them, and what is recorded. -/
theorem abs_congr {S S' : PS} (hv : S'.vl = S.vl) (hq : S'.nq = S.nq) (hp : ∀ a b f, S.vl a ≠ 0 → S.vl b ≠ 0 → (PE (Ed S'.nd) (S.vl a) (S.vl b) f ↔ PE (Ed S.nd) (S.vl a) (S.vl b) f)) : S'.abs = S.abs := by
  apply VS.ext'
  · intro a; rw [abs_kn, abs_kn, hv]
  · intro a b; rw [abs_le, abs_le, hv]
    constructor
    · rintro (q | ⟨q1, q2, f, q3⟩)
      · exact .inl q
      · exact .inr ⟨q1, q2, f, (hp _ _ f q1 q2).1 q3⟩
    · rintro (q | ⟨q1, q2, f, q3⟩)
      · exact .inl q
      · exact .inr ⟨q1, q2, f, (hp _ _ f q1 q2).2 q3⟩
  · intro a b; rw [abs_lt, abs_lt, hv]
    constructor
    · rintro ⟨q1, q2, q3⟩
      exact ⟨q1, q2, (hp _ _ _ q1 q2).1 q3⟩
    · rintro ⟨q1, q2, q3⟩
      exact ⟨q1, q2, (hp _ _ _ q1 q2).2 q3⟩
  · intro a b; rw [abs_ne, abs_ne, hv]
    unfold PS.ne; rw [hq]
theorem abs_same {S S' : PS} (hv : S'.vl = S.vl) (hq : S'.nq = S.nq) (hn : S'.nd = S.nd) : S'.abs = S.abs := abs_congr hv hq fun a b f _ _ => by rw [hn]

/-! ## adding an edge between two values -/
def VS.touch (V : VS) (x : Nat) : VS := { V with kn := fun a => V.kn a || decide (a = x) }
theorem touch_kn {V : VS} {x a : Nat} : (V.touch x).kn a = true ↔ V.kn a = true ∨ a = x := by simp [VS.touch]
theorem abs_newV {S : PS} (h : Core S) {a : Nat} (ha : S.vl (a + 1) = 0) : (S.newV (a + 1)).abs = S.abs.touch a := by
  have hla := h.la
  have hnd : (S.newV (a + 1)).nd = S.nd := newV_nd S (a + 1)
  have hv : ∀ c, (S.newV (a + 1)).vl (c + 1) = if c = a then S.last + 1 else S.vl (c + 1) := by
    intro c
    show upd S.vl (a + 1) (S.last + 1) (c + 1) = _
    unfold upd
    by_cases e : c = a <;> simp [e]
  have hn : ∀ i j, (S.newV (a + 1)).ne i j = S.ne i j := fun i j => rfl
  have hfr : S.nodes.length ≤ S.last + 1 := by omega
  have hold : ∀ c, S.vl c < S.nodes.length := h.va
  apply VS.ext'
  · intro c; rw [abs_kn, touch_kn, abs_kn, hv]
    by_cases e : c = a
    · simp [e]
    · simp [e]
  · intro c d
    show _ ↔ S.abs.le c d = true
    rw [abs_le, abs_le, hv, hv, hnd]
    by_cases e : c = a <;> by_cases e2 : d = a
    · simp [e, e2]
    · rw [if_pos e, if_neg e2, e, ha]
      constructor
      · rintro (q | ⟨q1, q2, q3⟩)
        · exact .inl q
        · have := (h.fresh hfr).1 q3; have := hold (d + 1); omega
      · rintro (q | ⟨q1, _⟩)
        · exact .inl q
        · exact absurd rfl q1
    · rw [if_neg e, if_pos e2, e2, ha]
      constructor
      · rintro (q | ⟨q1, q2, q3⟩)
        · exact .inl q
        · have := (h.fresh hfr).2 q3; have := hold (c + 1); omega
      · rintro (q | ⟨_, q1, _⟩)
        · exact .inl q
        · exact absurd rfl q1
    · rw [if_neg e, if_neg e2]
  · intro c d
    show _ ↔ S.abs.lt c d = true
    rw [abs_lt, abs_lt, hv, hv, hnd]
    by_cases e : c = a
    · rw [if_pos e, e, ha]
      exact ⟨fun q => absurd q.2.2 (h.fresh_lt hfr).1, fun q => absurd rfl q.1⟩
    · by_cases e2 : d = a
      · rw [if_neg e, if_pos e2, e2, ha]
        exact ⟨fun q => absurd q.2.2 (h.fresh_lt hfr).2, fun q => absurd rfl q.2.1⟩
      · rw [if_neg e, if_neg e2]
  · intro c d
    show _ ↔ S.abs.ne c d = true
    rw [abs_ne, abs_ne, hv, hv, hn]
    by_cases e : c = a
    · rw [if_pos e, e, ha]
      exact ⟨fun q => absurd q.2.2 (by rw [(h.fresh_ne hfr).1]; decide), fun q => absurd rfl q.1⟩
    · by_cases e2 : d = a
      · rw [if_neg e, if_pos e2, e2, ha]
        exact ⟨fun q => absurd q.2.2 (by rw [(h.fresh_ne hfr).2]; decide), fun q => absurd rfl q.2.1⟩
      · rw [if_neg e, if_neg e2]

/-- A state whose walks are those with one more edge. -/
theorem abs_edge {S S' : PS} (hv : S'.vl = S.vl) (hq : S'.nq = S.nq) {x y : Nat} {s : Bool} (hx : S.vl (x + 1) ≠ 0) (hy : S.vl (y + 1) ≠ 0)
    (hp : ∀ a b f, S.vl a ≠ 0 → S.vl b ≠ 0 → (PE (Ed S'.nd) (S.vl a) (S.vl b) f ↔ PE (Ed S.nd) (S.vl a) (S.vl b) f ∨ ∃ f1 f2, PE (Ed S.nd) (S.vl a) (S.vl (x + 1)) f1 ∧ PE (Ed S.nd) (S.vl (y + 1)) (S.vl b) f2 ∧ f = (f1 || s || f2))) :
    S'.abs = S.abs.add x y s := by
  have un : ∀ {a z}, S.vl (a + 1) = 0 → S.vl (z + 1) ≠ 0 → S.abs.le a z ≠ true ∧ S.abs.le z a ≠ true := by
    intro a z ha hz
    rw [Ne, Ne, abs_le_un (.inl ha), abs_le_un (.inr ha)]
    exact ⟨by rintro rfl; exact hz ha, by rintro rfl; exact hz ha⟩
  apply VS.ext'
  · intro a; rw [abs_kn, VS.add_kn, abs_kn, hv]
    constructor
    · exact .inl
    · rintro (q | rfl | rfl)
      · exact q
      · exact hx
      · exact hy
  · intro a b
    rw [VS.add_le]
    by_cases ha : S.vl (a + 1) = 0
    · rw [abs_le_un (S := S') (.inl (by rw [hv]; exact ha)), abs_le_un (S := S) (.inl ha)]
      exact ⟨.inl, fun q => q.elim id fun q => absurd q.1 (un ha hx).1⟩
    · by_cases hb : S.vl (b + 1) = 0
      · rw [abs_le_un (S := S') (.inr (by rw [hv]; exact hb)), abs_le_un (S := S) (.inr hb)]
        exact ⟨.inl, fun q => q.elim id fun q => absurd q.2 (un hb hy).2⟩
      · rw [abs_le_kn (by rw [hv]; exact ha) (by rw [hv]; exact hb), abs_le_kn ha hb, abs_le_kn ha hx, abs_le_kn hy hb, hv]
        constructor
        · rintro ⟨f, q⟩
          rcases (hp _ _ f ha hb).1 q with q | ⟨f1, f2, q1, q2, _⟩
          · exact .inl q.le
          · exact .inr ⟨q1.le, q2.le⟩
        · rintro (⟨f, q⟩ | ⟨⟨f1, q1⟩, f2, q2⟩)
          · exact ⟨f, (hp _ _ f ha hb).2 (.inl q)⟩
          · exact ⟨_, (hp _ _ _ ha hb).2 (.inr ⟨f1, f2, q1, q2, rfl⟩)⟩
  · intro a b
    rw [VS.add_lt]
    by_cases ha : S.vl (a + 1) = 0
    · rw [abs_lt, abs_lt, hv]
      exact ⟨fun q => absurd ha q.1, fun q => q.elim (fun q => absurd ha q.1) fun q => absurd q.1 (un ha hx).1⟩
    · by_cases hb : S.vl (b + 1) = 0
      · rw [abs_lt, abs_lt, hv]
        exact ⟨fun q => absurd hb q.2.1, fun q => q.elim (fun q => absurd hb q.2.1) fun q => absurd q.2.1 (un hb hy).2⟩
      · rw [abs_le_kn ha hx, abs_le_kn hy hb, abs_lt, abs_lt, abs_lt, abs_lt, hv]
        constructor
        · rintro ⟨_, _, q⟩
          rcases (hp _ _ _ ha hb).1 q with q | ⟨f1, f2, q1, q2, q3⟩
          · exact .inl ⟨ha, hb, q⟩
          · refine .inr ⟨q1.le, q2.le, ?_⟩
            cases f1
            · cases s
              · cases f2
                · simp at q3
                · exact .inr (.inr ⟨hy, hb, q2⟩)
              · exact .inr (.inl rfl)
            · exact .inl ⟨ha, hx, q1⟩
        · rintro (⟨_, _, q⟩ | ⟨⟨f1, q1⟩, ⟨f2, q2⟩, q3⟩)
          · exact ⟨ha, hb, (hp _ _ _ ha hb).2 (.inl q)⟩
          · refine ⟨ha, hb, ?_⟩
            rcases q3 with ⟨_, _, q3⟩ | q3 | ⟨_, _, q3⟩
            · exact (hp _ _ _ ha hb).2 (.inr ⟨true, f2, q3, q2, by simp⟩)
            · exact (hp _ _ _ ha hb).2 (.inr ⟨f1, f2, q1, q2, by simp [q3]⟩)
            · exact (hp _ _ _ ha hb).2 (.inr ⟨f1, true, q1, q3, by simp⟩)
  · intro a b
    show _ ↔ S.abs.ne a b = true
    rw [abs_ne, abs_ne, hv]
    unfold PS.ne; rw [hq]
theorem abs_addchild {S : PS} (h : Core S) {x y : Nat} (st : Bool) (hx : S.vl (x + 1) ≠ 0) (hy : S.vl (y + 1) ≠ 0) (hn : ¬ Le (Ed S.nd) (S.vl (y + 1)) (S.vl (x + 1))) (hs : S.nodes.length + 1 < 2147483648) :
    (S.addchild (S.vl (x + 1)) (S.vl (y + 1)) st).abs = S.abs.add x y st := by
  obtain ⟨f1, f2, f3, f4, f5, f6, f7, f8⟩ := addchild_facts h.toWF0 (S.vl (x + 1)) (S.vl (y + 1)) st (h.va _) (h.va _) hs
  exact abs_edge f6 f8 hx hy fun a b f _ _ => addchild_new h.toWF0 st (h.va _) (h.va _) hy hn (h.va a) (h.va b)

/-! ## a node that nothing leads to -/
theorem top_path {E E' : ERel} {e : Nat} (ho : ∀ a b s, a ≠ e → (E' a b s ↔ E a b s)) (hi : ∀ a s, ¬ E' a e s) {a b : Nat} {f : Bool} (ha : a ≠ e) : PE E' a b f ↔ PE E a b f := by
  constructor
  · intro k
    induction k with
    | nil => exact .nil _
    | cons q k ih =>
      rename_i a b c s t
      have hb : b ≠ e := by rintro rfl; exact hi _ _ q
      exact .cons ((ho _ _ _ ha).1 q) (ih hb)
  · intro k
    induction k with
    | nil => exact .nil _
    | cons q k ih =>
      rename_i a b c s t
      have q' := (ho _ _ _ ha).2 q
      have hb : b ≠ e := by rintro rfl; exact hi _ _ q'
      exact .cons q' (ih hb)
theorem top_rank {E E' : ERel} {e : Nat} {rk : Nat → Nat} (hr : Rk E rk) (ho : ∀ a b s, a ≠ e → E' a b s → E a b s) (hi : ∀ a s, ¬ E' a e s) : ∃ rk', Rk E' rk' := by
  refine ⟨fun x => if x = e then 0 else rk x + 1, fun a b s q => ?_⟩
  have hb : b ≠ e := by rintro rfl; exact hi _ _ q
  simp only [hb, if_false]
  by_cases ha : a = e
  · simp [ha]
  · have := hr _ _ _ (ho _ _ _ ha q)
    simp only [ha, if_false]; omega

/-! ## Core under the parts of the operations -/
theorem Core.push {S : PS} (h : Core S) (u : Un) : Core (S.push u) := ⟨h.toWF1.push u, h.nz, h.n0, h.rk, h.r0, h.ids⟩
theorem Core.rts {S : PS} (h : Core S) {f : Nat → Bool} (hf : ∀ r, f r = true → r < S.nodes.length) (h0 : f 0 = false) : Core { S with rt := f } := ⟨h.toWF1.rts hf, h.nz, h.n0, h.rk, h0, h.ids⟩
theorem newX_ndf (S : PS) : S.newX.nd = S.nd := funext fun j => newX_nd S j
theorem Core.newX {S : PS} (h : Core S) (hs : S.nodes.length + 1 < 2147483648) : Core S.newX := by
  have hn := newX_ndf S
  refine ⟨h.toWF1.newX hs, ?_, by rw [hn]; exact h.n0, by rw [hn]; exact h.rk, h.r0, h.ids⟩
  intro i j s e; rw [hn] at e; exact h.nz i j s e
theorem Core.newV {S : PS} (h : Core S) {x : Nat} (hx : 1 ≤ x ∧ x ≤ 12) (hs : S.nodes.length + 1 < 2147483648) : Core (S.newV x) := by
  have hn := newV_nd S x
  refine ⟨h.toWF1.newV x hs, ?_, by rw [hn]; exact h.n0, by rw [hn]; exact h.rk, h.r0, fun id hid => ?_⟩
  · intro i j s e; rw [hn] at e; exact h.nz i j s e
  · have hid : upd S.vl x (S.last + 1) id ≠ 0 := hid
    unfold upd at hid
    split at hid
    · rename_i e; rw [e]; exact hx
    · exact h.ids id hid
theorem Core.addchild {S : PS} (h : Core S) {i c : Nat} (st : Bool) (hi : i < S.nodes.length) (hc : c < S.nodes.length) (hi0 : i ≠ 0) (hc0 : c ≠ 0) (hn : ¬ Le (Ed S.nd) c i) (hs : S.nodes.length + 1 < 2147483648) : Core (S.addchild i c st) := by
  obtain ⟨f1, f2, f3, f4, f5, f6, f7, f8⟩ := addchild_facts h.toWF0 i c st hi hc hs
  obtain ⟨rk, hr⟩ := h.rk
  have sh := addchild_shape h.toWF0 st hi hc0
  refine ⟨h.toWF1.addchild i c st hi hc hs, ?_, ?_, addchild_rank h.toWF0 st hi hc hc0 hr hn, by rw [f7]; exact h.r0, fun id => by rw [f6]; exact h.ids id⟩
  · intro a b s e
    rcases sh with ⟨_, ho, hE⟩ | ⟨_, ho, k, r, hk, hE1, hE2⟩
    · by_cases ha : a = i
      · subst ha
        rcases (hE b s).1 e with q | ⟨rfl, _⟩
        · exact h.nz _ _ _ q
        · exact hc0
      · exact h.nz _ _ _ ((Ed_same (ho a ha)).1 e)
    · by_cases ha : a = i
      · subst ha
        rcases (hE1 b s).1 e with q | ⟨rfl, _⟩
        · exact h.nz _ _ _ ((hk b s).2 (.inl q))
        · have := h.pos; omega
      · by_cases ha2 : a = S.nodes.length
        · subst ha2
          rcases (hE2 b s).1 e with q | ⟨rfl, _⟩
          · exact h.nz _ _ _ ((hk b s).2 (.inr q))
          · exact hc0
        · exact h.nz _ _ _ ((Ed_same (ho a ha ha2)).1 e)
  · rw [f5 0 h.pos hi0.symm]; exact h.n0
end Go.Proofs.Ytapnmgkpljlgmaa
namespace Go.Proofs.Ytapnmgkpljlgmaa

/-- A node in use. -/
def live (S : PS) (x : Nat) : Prop := (x ≠ 0 ∧ ∃ id, S.vl id = x) ∨ S.nd x ≠ (0, 0)
structure Roots (S : PS) (X : Nat → Prop) : Prop where
  dj : ∀ {r1 r2 x}, S.rt r1 = true → S.rt r2 = true → Le (Ed S.nd) r1 x → Le (Ed S.nd) r2 x → r1 = r2
  lv : ∀ x, live S x → X x ∨ ∃ r, S.rt r = true ∧ Le (Ed S.nd) r x
/-- All that holds of the poset. -/
structure OK (S : PS) : Prop extends Core S where
  rs : Roots S fun _ => False
theorem OK.under {S : PS} (h : OK S) {x : Nat} (hx : live S x) : ∃ r, S.rt r = true ∧ Le (Ed S.nd) r x := (h.rs.lv x hx).resolve_left id
theorem OK.val {S : PS} (h : OK S) {id : Nat} (hx : S.vl id ≠ 0) : ∃ r, S.rt r = true ∧ Le (Ed S.nd) r (S.vl id) := h.under (.inl ⟨hx, id, rfl⟩)
theorem OK.rootOK {S : PS} (h : OK S) : RootOK S := fun id hid => by
  obtain ⟨r, h1, h2⟩ := h.val hid
  exact ⟨r, h1, reach_le.2 h2⟩
theorem live_lt {S : PS} (h : Core S) {x : Nat} (hx : live S x) : x < S.nodes.length := by
  rcases hx with ⟨_, id, rfl⟩ | hx
  · exact h.va id
  · refine Nat.lt_of_not_le fun q => hx (nd_nil h.toWF0 q)
theorem OK.push {S : PS} (h : OK S) (u : Un) : OK (S.push u) := ⟨h.toCore.push u, h.rs.dj, h.rs.lv⟩

/-! ## addchild -/
theorem addchild_fan {S : PS} (wf : WF0 S) {i c : Nat} (st : Bool) (hi : i < S.nodes.length) (hc : c < S.nodes.length) (hc0 : c ≠ 0) :
    Fan (S.addchild i c st).nd i S.nodes.length (S.addchild i c st).nodes.length (fun y s => Ed S.nd i y s ∨ (y = c ∧ s = st)) :=
  (Fan.start hi wf.rng).addchild (addchild_shape wf st hi hc0) hc
theorem fan_dead {nd : Nat → Nat × Nat} {i n m : Nat} {Out : Nat → Bool → Prop} (h : Fan nd i n m Out) {a x : Nat} {f : Bool} (k : PE (Ed nd) a x f) (hx : n ≤ x) : n ≤ a ∨ Le (Ed nd) a i := by
  induction k with
  | nil => exact .inl hx
  | cons e k ih =>
    rename_i a b c s t
    rcases ih hx with h1 | h1
    · rcases (h.inx _ _ _ e h1).2 with rfl | ⟨q, _⟩
      · exact .inr (Le.refl _)
      · exact .inl q
    · exact .inr ((PE.one e).le.trans h1)

theorem addchild_roots {S : PS} (h : Core S) {i c r0 : Nat} (st : Bool) {X : Nat → Prop} (hi : i < S.nodes.length) (hc : c < S.nodes.length) (hc0 : c ≠ 0) (hn : ¬ Le (Ed S.nd) c i) (hs : S.nodes.length + 1 < 2147483648)
    (h0 : S.rt r0 = true) (h0i : Le (Ed S.nd) r0 i) (hx : ∀ r x, S.rt r = true → Le (Ed S.nd) c x → Le (Ed S.nd) r x → r = r0)
    (dj : ∀ {r1 r2 x}, S.rt r1 = true → S.rt r2 = true → Le (Ed S.nd) r1 x → Le (Ed S.nd) r2 x → r1 = r2)
    (lv : ∀ x, live S x → X x ∨ Le (Ed S.nd) c x ∨ ∃ r, S.rt r = true ∧ Le (Ed S.nd) r x) : Roots (S.addchild i c st) X := by
  obtain ⟨f1, f2, f3, f4, f5, f6, f7, f8⟩ := addchild_facts h.toWF0 i c st hi hc hs
  have fan := addchild_fan h.toWF0 st hi hc hc0
  have hp : ∀ {a b}, a < S.nodes.length → b < S.nodes.length → (Le (Ed (S.addchild i c st).nd) a b ↔ Le (Ed S.nd) a b ∨ (Le (Ed S.nd) a i ∧ Le (Ed S.nd) c b)) := by
    intro a b ha hb
    constructor
    · rintro ⟨f, p⟩
      rcases (addchild_new h.toWF0 st hi hc hc0 hn ha hb).1 p with p | ⟨f1, f2, p1, p2, _⟩
      · exact .inl p.le
      · exact .inr ⟨p1.le, p2.le⟩
    · rintro (⟨f, p⟩ | ⟨⟨f1, p1⟩, f2, p2⟩)
      · exact ⟨f, (addchild_new h.toWF0 st hi hc hc0 hn ha hb).2 (.inl p)⟩
      · exact ⟨_, (addchild_new h.toWF0 st hi hc hc0 hn ha hb).2 (.inr ⟨f1, f2, p1, p2, rfl⟩)⟩
  have hl0 := h.ro r0 h0
  have hri : Le (Ed (S.addchild i c st).nd) r0 i := (hp hl0 hi).2 (.inl h0i)
  have hrc : Le (Ed (S.addchild i c st).nd) r0 c := (hp hl0 hc).2 (.inr ⟨h0i, Le.refl _⟩)
  refine ⟨?_, ?_⟩
  · intro r1 r2 x q1 q2 k1 k2
    rw [f7] at q1 q2
    have l1 := h.ro r1 q1
    have l2 := h.ro r2 q2
    have big : ∀ r, S.rt r = true → Le (Ed (S.addchild i c st).nd) r i → r = r0 := by
      intro r q k
      rcases (hp (h.ro r q) hi).1 k with k | ⟨k, _⟩ <;> exact dj q h0 k h0i
    by_cases hxl : x < S.nodes.length
    · rcases (hp l1 hxl).1 k1 with k1 | ⟨k1, k3⟩ <;> rcases (hp l2 hxl).1 k2 with k2 | ⟨k2, k4⟩
      · exact dj q1 q2 k1 k2
      · exact (hx r1 x q1 k4 k1).trans (dj q2 h0 k2 h0i).symm
      · exact (dj q1 h0 k1 h0i).trans (hx r2 x q2 k3 k2).symm
      · exact dj q1 q2 k1 k2
    · obtain ⟨g1, k1⟩ := k1
      obtain ⟨g2, k2⟩ := k2
      have e1 := (fan_dead fan k1 (by omega)).resolve_left (by omega)
      have e2 := (fan_dead fan k2 (by omega)).resolve_left (by omega)
      exact (big r1 q1 e1).trans (big r2 q2 e2).symm
  · intro x hx
    have root : Le (Ed (S.addchild i c st).nd) r0 x → X x ∨ ∃ r, (S.addchild i c st).rt r = true ∧ Le (Ed (S.addchild i c st).nd) r x := fun q => .inr ⟨r0, by rw [f7]; exact h0, q⟩
    by_cases hxi : x = i
    · rw [hxi] at root ⊢; exact root hri
    · by_cases hxl : x < S.nodes.length
      · have hl : live S x := by
          rcases hx with ⟨h1, id, h2⟩ | hx
          · exact .inl ⟨h1, id, by rw [f6] at h2; exact h2⟩
          · rw [f5 x hxl hxi] at hx; exact .inr hx
        rcases lv x hl with q | q | ⟨r, q1, q2⟩
        · exact .inl q
        · exact root ((hp hl0 hxl).2 (.inr ⟨h0i, q⟩))
        · exact .inr ⟨r, by rw [f7]; exact q1, (hp (h.ro r q1) hxl).2 (.inl q2)⟩
      · refine root (hri.trans ?_)
        rcases hx with ⟨h1, id, h2⟩ | hx
        · rw [f6] at h2
          have := h.va id; omega
        · have : x < (S.addchild i c st).nodes.length := Nat.lt_of_not_le fun q => hx (nd_nil f1 q)
          exact (fan.down _ x (Nat.le_refl _) (by omega) this).le

/-! ## mergeroot -/
theorem mergeroot_nd {S : PS} (wf : WF0 S) {r1 r2 : Nat} (j : Nat) : (S.mergeroot r1 r2).nd j = if j = S.last + 1 then (eg r1 false, eg r2 false) else S.nd j := by
  have hl1 : S.last + 1 < S.newX.nodes.length := by rw [newX_len]; have := wf.la; omega
  have e : (S.mergeroot r1 r2).nd j = ((S.newX.setl (S.last + 1) (eg r1 false)).setr (S.last + 1) (eg r2 false)).nd j := rfl
  rw [e, setr_nd _ (by rw [PS.setl_len]; exact hl1)]
  split
  · rw [setl_nd _ hl1, if_pos rfl]
  · rename_i hj; rw [setl_nd _ hl1, if_neg hj, newX_nd]
theorem mergeroot_rt (S : PS) (r1 r2 r : Nat) : (S.mergeroot r1 r2).rt r = upd (upd (upd S.rt r1 false) (S.last + 1) true) r2 false r := rfl
theorem mergeroot_ok {S : PS} (h : OK S) {r1 r2 : Nat} (h1 : S.rt r1 = true) (h2 : S.rt r2 = true) (hne : r1 ≠ r2) (hs : S.nodes.length + 1 < 2147483648) :
    OK (S.mergeroot r1 r2) ∧ (∀ a b f, a < S.nodes.length → (PE (Ed (S.mergeroot r1 r2).nd) a b f ↔ PE (Ed S.nd) a b f)) ∧ (S.mergeroot r1 r2).rt S.nodes.length = true ∧
      (∀ x, Le (Ed S.nd) r1 x ∨ Le (Ed S.nd) r2 x → Le (Ed (S.mergeroot r1 r2).nd) S.nodes.length x) := by
  have hla := h.la
  have l1 := h.ro r1 h1
  have l2 := h.ro r2 h2
  have n1 : r1 ≠ 0 := by rintro rfl; rw [h.r0] at h1; cases h1
  have n2 : r2 ≠ 0 := by rintro rfl; rw [h.r0] at h2; cases h2
  obtain ⟨w1, w2, w3⟩ := mergeroot_wf h.toWF1 h1 h2 hs
  have hnd := fun j => mergeroot_nd (r1 := r1) (r2 := r2) h.toWF0 j
  rw [hla] at hnd
  have ho : ∀ a b s, a ≠ S.nodes.length → (Ed (S.mergeroot r1 r2).nd a b s ↔ Ed S.nd a b s) := fun a b s ha => Ed_same (by rw [hnd, if_neg ha])
  have he : ∀ b s, Ed (S.mergeroot r1 r2).nd S.nodes.length b s ↔ (b = r1 ∨ b = r2) ∧ s = false := by
    intro b s
    rw [Ed_at (l := eg r1 false) (r := eg r2 false) (by rw [hnd, if_pos rfl]), isE_eg n1, isE_eg n2]
    constructor
    · rintro (⟨q1, q2⟩ | ⟨q1, q2⟩)
      · exact ⟨.inl q1, q2⟩
      · exact ⟨.inr q1, q2⟩
    · rintro ⟨q | q, q2⟩
      · exact .inl ⟨q, q2⟩
      · exact .inr ⟨q, q2⟩
  have hi : ∀ a s, ¬ Ed (S.mergeroot r1 r2).nd a S.nodes.length s := by
    intro a s e
    by_cases ha : a = S.nodes.length
    · subst ha
      rcases ((he _ _).1 e).1 with q | q <;> omega
    · have := (h.rng _ _ _ ((ho _ _ _ ha).1 e)).2; omega
  have hp : ∀ a b f, a ≠ S.nodes.length → (PE (Ed (S.mergeroot r1 r2).nd) a b f ↔ PE (Ed S.nd) a b f) := fun a b f ha => top_path ho hi ha
  have hpl : ∀ a b, a ≠ S.nodes.length → (Le (Ed (S.mergeroot r1 r2).nd) a b ↔ Le (Ed S.nd) a b) := fun a b ha => ⟨fun ⟨f, q⟩ => ⟨f, (hp a b f ha).1 q⟩, fun ⟨f, q⟩ => ⟨f, (hp a b f ha).2 q⟩⟩
  have htop : ∀ x, Le (Ed (S.mergeroot r1 r2).nd) S.nodes.length x ↔ x = S.nodes.length ∨ Le (Ed S.nd) r1 x ∨ Le (Ed S.nd) r2 x := by
    intro x
    constructor
    · rintro ⟨f, p⟩
      generalize hz : S.nodes.length = z at p
      cases p with
      | nil => exact .inl rfl
      | cons e p =>
        subst hz
        rcases ((he _ _).1 e).1 with rfl | rfl
        · exact .inr (.inl ((hpl _ _ (by omega)).1 p.le))
        · exact .inr (.inr ((hpl _ _ (by omega)).1 p.le))
    · rintro (rfl | q | q)
      · exact Le.refl _
      · exact (PE.one ((he r1 false).2 ⟨.inl rfl, rfl⟩)).le.trans ((hpl _ _ (by omega)).2 q)
      · exact (PE.one ((he r2 false).2 ⟨.inr rfl, rfl⟩)).le.trans ((hpl _ _ (by omega)).2 q)
  have hrt : ∀ r, (S.mergeroot r1 r2).rt r = true ↔ r = S.nodes.length ∨ (S.rt r = true ∧ r ≠ r1 ∧ r ≠ r2) := by
    intro r
    rw [mergeroot_rt]
    unfold upd
    rw [hla]
    have hnew : S.rt S.nodes.length = false := by rw [← hla]; exact h.rt_new
    by_cases e2 : r = r2
    · subst e2; simp; omega
    · by_cases e : r = S.nodes.length
      · subst e; simp [show S.nodes.length ≠ r2 by omega]
      · by_cases e1 : r = r1
        · subst e1; simp [e2, e]
        · simp [e, e1, e2]
  obtain ⟨rk, hr⟩ := h.rk
  refine ⟨⟨⟨w1, ?_, ?_, top_rank hr (fun a b s ha => (ho a b s ha).1) hi, ?_, h.ids⟩, ?_, ?_⟩, fun a b f ha => hp a b f (by omega), (hrt _).2 (.inl rfl), fun x q => (htop x).2 (.inr q)⟩
  · intro a b s e
    by_cases ha : a = S.nodes.length
    · subst ha
      rcases ((he _ _).1 e).1 with rfl | rfl
      · exact n1
      · exact n2
    · exact h.nz _ _ _ ((ho _ _ _ ha).1 e)
  · rw [hnd, if_neg (by have := h.pos; omega)]; exact h.n0
  · cases e : (S.mergeroot r1 r2).rt 0
    · rfl
    · rcases (hrt 0).1 e with q | q
      · have := h.pos; omega
      · rw [h.r0] at q; cases q.1
  · intro s1 s2 x q1 q2 k1 k2
    rcases (hrt s1).1 q1 with rfl | ⟨q1, q3, q4⟩ <;> rcases (hrt s2).1 q2 with rfl | ⟨q2, q5, q6⟩
    · rfl
    · have ls := h.ro s2 q2
      have k2 := (hpl _ _ (by omega)).1 k2
      rcases (htop x).1 k1 with rfl | k1 | k1
      · have := (h.fresh (Nat.le_refl _)).2 k2; omega
      · exact absurd (h.rs.dj q2 h1 k2 k1) q5
      · exact absurd (h.rs.dj q2 h2 k2 k1) q6
    · have ls := h.ro s1 q1
      have k1 := (hpl _ _ (by omega)).1 k1
      rcases (htop x).1 k2 with rfl | k2 | k2
      · have := (h.fresh (Nat.le_refl _)).2 k1; omega
      · exact absurd (h.rs.dj q1 h1 k1 k2) q3
      · exact absurd (h.rs.dj q1 h2 k1 k2) q4
    · have := h.ro s1 q1
      have := h.ro s2 q2
      exact h.rs.dj q1 q2 ((hpl _ _ (by omega)).1 k1) ((hpl _ _ (by omega)).1 k2)
  · intro x hx
    refine .inr ?_
    by_cases hxe : x = S.nodes.length
    · exact ⟨_, (hrt _).2 (.inl rfl), (htop x).2 (.inl hxe)⟩
    · have hl : live S x := by
        rcases hx with q | q
        · exact .inl q
        · rw [hnd, if_neg hxe] at q; exact .inr q
      obtain ⟨r, q1, q2⟩ := h.under hl
      by_cases e1 : r = r1
      · exact ⟨_, (hrt _).2 (.inl rfl), (htop x).2 (.inr (.inl (e1 ▸ q2)))⟩
      · by_cases e2 : r = r2
        · exact ⟨_, (hrt _).2 (.inl rfl), (htop x).2 (.inr (.inr (e2 ▸ q2)))⟩
        · have := h.ro r q1
          exact ⟨r, (hrt _).2 (.inr ⟨q1, e1, e2⟩), (hpl _ _ (by omega)).2 q2⟩

/-! ## aliasnodes -/
theorem alStep_flds (S : PS) (i1 : Nat) (T : Nat → Bool) (k : Nat) (x : Nat × Nat) : (S.alStep i1 T k x).vl = S.vl ∧ (S.alStep i1 T k x).rt = S.rt ∧ (S.alStep i1 T k x).nq = S.nq := by
  have hadd : ∀ (S : PS) i c st, (S.addchild i c st).vl = S.vl ∧ (S.addchild i c st).rt = S.rt ∧ (S.addchild i c st).nq = S.nq := by
    intro S i c st; unfold PS.addchild; split <;> (try split) <;> (try split) <;> exact ⟨rfl, rfl, rfl⟩
  have hA : ∀ (S : PS) l, (S.alA i1 T k l).vl = S.vl ∧ (S.alA i1 T k l).rt = S.rt ∧ (S.alA i1 T k l).nq = S.nq := by
    intro S l; unfold PS.alA; split <;> exact ⟨rfl, rfl, rfl⟩
  have hB : ∀ (S : PS) l, (S.alB i1 T k l).vl = S.vl ∧ (S.alB i1 T k l).rt = S.rt ∧ (S.alB i1 T k l).nq = S.nq := by
    intro S l; unfold PS.alB; split <;> exact ⟨rfl, rfl, rfl⟩
  have hC : ∀ (S : PS) l, (S.alC i1 T l).vl = S.vl ∧ (S.alC i1 T l).rt = S.rt ∧ (S.alC i1 T l).nq = S.nq := by
    intro S l; unfold PS.alC; split
    · exact hadd _ _ _ _
    · exact ⟨rfl, rfl, rfl⟩
  have hAB : ((S.alA i1 T k x.1).alB i1 T k x.2).vl = S.vl ∧ ((S.alA i1 T k x.1).alB i1 T k x.2).rt = S.rt ∧ ((S.alA i1 T k x.1).alB i1 T k x.2).nq = S.nq :=
    ⟨(hB _ _).1.trans (hA _ _).1, (hB _ _).2.1.trans (hA _ _).2.1, (hB _ _).2.2.trans (hA _ _).2.2⟩
  unfold PS.alStep
  split
  · exact ⟨rfl, rfl, rfl⟩
  · split
    · refine ⟨?_, ?_, ?_⟩
      · show ((((S.alA i1 T k x.1).alB i1 T k x.2).alC i1 T x.1).alC i1 T x.2).vl = _
        rw [(hC _ _).1, (hC _ _).1, hAB.1]
      · show ((((S.alA i1 T k x.1).alB i1 T k x.2).alC i1 T x.1).alC i1 T x.2).rt = _
        rw [(hC _ _).2.1, (hC _ _).2.1, hAB.2.1]
      · show ((((S.alA i1 T k x.1).alB i1 T k x.2).alC i1 T x.1).alC i1 T x.2).nq = _
        rw [(hC _ _).2.2, (hC _ _).2.2, hAB.2.2]
    · exact hAB
theorem alN_flds (S : PS) (i1 : Nat) (T : Nat → Bool) : ∀ k, (S.alN i1 T k).vl = S.vl ∧ (S.alN i1 T k).rt = S.rt ∧ (S.alN i1 T k).nq = S.nq
  | 0 => ⟨rfl, rfl, rfl⟩
  | k + 1 => by
    obtain ⟨a1, a2, a3⟩ := alN_flds S i1 T k
    obtain ⟨b1, b2, b3⟩ := alStep_flds (S.alN i1 T k) i1 T k (S.nd k)
    exact ⟨b1.trans a1, b2.trans a2, b3.trans a3⟩

/-- What the nodes of T, which become i1, have to be like. -/
structure AlK (S : PS) (i1 : Nat) (T : Nat → Bool) (r0 : Nat) : Prop extends AlH S i1 T where
  bk : ∀ t s, T t = true → ¬ Ed S.nd t i1 s
  ns : ∀ a b s, inK T i1 a → inK T i1 b → Ed S.nd a b s → s = false
  cv : ∀ a b c, inK T i1 a → inK T i1 c → Le (Ed S.nd) a b → Le (Ed S.nd) b c → inK T i1 b
  tl : ∀ x, T x = true → x < S.nodes.length
  nr : ∀ x, T x = true → S.rt x = false
  h0 : S.rt r0 = true
  ur : ∀ x, inK T i1 x → Le (Ed S.nd) r0 x

theorem bound_rk (rk : Nat → Nat) : ∀ n, ∃ M, ∀ x, x < n → rk x ≤ M
  | 0 => ⟨0, fun x h => absurd h (by omega)⟩
  | n + 1 => by
    obtain ⟨M, h⟩ := bound_rk rk n
    refine ⟨M + rk n, fun x hx => ?_⟩
    by_cases e : x = n
    · subst e; omega
    · have := h x (by omega); omega
theorem star_split {E : ERel} {K : Nat → Prop} {a c : Nat} {f : Bool} (h : PE (star E K) a c f) : Le E a c ∨ ∃ k1 k2, K k1 ∧ K k2 ∧ Le E a k1 ∧ Le E k2 c := by
  induction h with
  | nil => exact .inl (Le.refl _)
  | cons e _ ih =>
    rcases e with e | ⟨q1, q2, rfl⟩
    · rcases ih with ih | ⟨k1, k2, h1, h2, h3, h4⟩
      · exact .inl ((PE.one e).le.trans ih)
      · exact .inr ⟨k1, k2, h1, h2, (PE.one e).le.trans h3, h4⟩
    · rcases ih with ih | ⟨k1, k2, h1, h2, h3, h4⟩
      · exact .inr ⟨_, _, q1, q2, Le.refl _, ih⟩
      · exact .inr ⟨_, k2, q1, h2, Le.refl _, h4⟩

theorem alias_vl {S : PS} {i1 : Nat} {T : Nat → Bool} (t0 : T 0 = false) {ids : List Nat} (hids : ∀ id, id ∈ ids ↔ S.vl id ≠ 0) (id : Nat) : (S.alias i1 T ids).vl id = pr T i1 (S.vl id) := by
  show (S.alN i1 T S.nodes.length).alF i1 T ids id = _
  unfold PS.alF pr
  rw [(alN_flds S i1 T _).1]
  by_cases hT : T (S.vl id) = true
  · have : id ∈ ids := (hids id).2 fun e => by rw [e, t0] at hT; cases hT
    rw [if_pos ⟨this, hT⟩, if_pos hT]
  · rw [if_neg fun q => hT q.2, if_neg hT]

theorem alias_ok {S : PS} (h : OK S) {i1 r0 : Nat} {T : Nat → Bool} (H : AlK S i1 T r0) {ids : List Nat} (hids : ∀ id, id ∈ ids ↔ S.vl id ≠ 0) :
    OK (S.alias i1 T ids) ∧ ∀ a b f, S.vl a ≠ 0 → S.vl b ≠ 0 → (PE (Ed (S.alias i1 T ids).nd) (pr T i1 (S.vl a)) (pr T i1 (S.vl b)) f ↔ PE (star (Ed S.nd) (inK T i1)) (S.vl a) (S.vl b) f) := by
  obtain ⟨rk, hr⟩ := h.rk
  obtain ⟨M, hM⟩ := bound_rk rk S.nodes.length
  have hil := H.il
  have inv := alN_inv H.toAlH S.nodes.length (Nat.le_refl _)
  have hnm := inv.fan.nm
  obtain ⟨g1, g2, g3⟩ := alN_flds S i1 T S.nodes.length
  have hq : ∃ rk', Rk (quo (Ed S.nd) T i1) rk' := hr.quo (M := M) (fun x hx => by
    rcases hx with hx | rfl
    · exact hM x (H.tl x hx)
    · exact hM _ hil) H.cv
  have path : ∀ {a c f}, a < S.nodes.length → c < S.nodes.length → T a = false → T c = false → (PE (Ed (S.alN i1 T S.nodes.length).nd) a c f ↔ PE (star (Ed S.nd) (inK T i1)) a c f) := by
    intro a c f ha hc ta tc
    rw [al_path H.toAlH hr H.bk ha hc ta tc, quo_iff hr H.ns, pr_ne ta, pr_ne tc]
  have hpl : ∀ {x}, x < S.nodes.length → pr T i1 x < S.nodes.length := fun {x} hx => by unfold pr; split <;> omega
  have rtT : ∀ {r}, S.rt r = true → T r = false := fun {r} q => by
    cases e : T r
    · rfl
    · rw [H.nr r e] at q; cases q
  have le : ∀ {a c}, a < S.nodes.length → c < S.nodes.length → T a = false → T c = false → Le (Ed S.nd) a c → Le (Ed (S.alN i1 T S.nodes.length).nd) a c := by
    rintro a c ha hc ta tc ⟨f, q⟩
    exact ⟨f, (path ha hc ta tc).2 (q.mono fun _ _ _ e => .inl e)⟩
  have l0 := h.ro r0 H.h0
  have ri : Le (Ed (S.alN i1 T S.nodes.length).nd) r0 i1 := le l0 hil (rtT H.h0) H.ti (H.ur i1 (.inr rfl))
  refine ⟨⟨⟨⟨(⟨inv.wf.la, inv.wf.sz, inv.wf.ir⟩ : WF0 (S.alias i1 T ids)), fun r hr => ?_, fun id => ?_, fun i j hq => ?_⟩, ?_, ?_, al_rank H.toAlH hr H.bk hq, by show (S.alN i1 T S.nodes.length).rt 0 = false; rw [g2]; exact h.r0, fun id hid => ?_⟩, ?_, ?_⟩, ?_⟩
  · have : (S.alN i1 T S.nodes.length).rt r = true := hr
    rw [g2] at this
    have := h.ro r this
    show r < (S.alN i1 T S.nodes.length).nodes.length
    omega
  · rw [alias_vl H.t0 hids]
    have := hpl (h.va id)
    show _ < (S.alN i1 T S.nodes.length).nodes.length
    omega
  · have : (S.alN i1 T S.nodes.length).nq i j = true := hq
    rw [g3] at this
    have := h.qa i j this
    show i < (S.alN i1 T S.nodes.length).nodes.length
    omega
  · intro a b s e
    have e : Ed (S.alN i1 T S.nodes.length).nd a b s := e
    by_cases hb : b < S.nodes.length
    · by_cases ha : a ≠ i1 ∧ a < S.nodes.length
      · obtain ⟨_, b0, e0, rfl⟩ := (al_ed H.toAlH ha.2 ha.1).1 e
        unfold pr; split
        · exact H.i0
        · exact h.nz _ _ _ e0
      · have hcl : a = i1 ∨ S.nodes.length ≤ a := by
          by_cases q : a = i1
          · exact .inl q
          · exact .inr (Nat.le_of_not_lt fun w => ha ⟨q, w⟩)
        rcases (inv.fan.out b s hb).2 ⟨a, hcl, e⟩ with q | ⟨t, _, _, q, _⟩
        · exact h.nz _ _ _ q
        · exact h.nz _ _ _ q
    · have := h.pos; omega
  · show (S.alN i1 T S.nodes.length).nd 0 = _
    rw [inv.lo 0 h.pos (Ne.symm H.i0), if_pos h.pos, if_neg (by rw [H.t0]; decide), h.n0]
    simp [ren, H.t0]
  · rw [alias_vl H.t0 hids] at hid
    refine h.ids id fun e => hid ?_
    rw [e, pr_ne H.t0]
  · intro r1 r2 x q1 q2 k1 k2
    have q1 : (S.alN i1 T S.nodes.length).rt r1 = true := q1
    have q2 : (S.alN i1 T S.nodes.length).rt r2 = true := q2
    rw [g2] at q1 q2
    have key : ∀ y, y < S.nodes.length → T y = false → Le (Ed (S.alN i1 T S.nodes.length).nd) r1 y → Le (Ed (S.alN i1 T S.nodes.length).nd) r2 y → r1 = r2 := by
      rintro y hy ty ⟨f1, p1⟩ ⟨f2, p2⟩
      have p1 := star_split ((path (h.ro r1 q1) hy (rtT q1) ty).1 p1)
      have p2 := star_split ((path (h.ro r2 q2) hy (rtT q2) ty).1 p2)
      have is0 : ∀ {r k}, S.rt r = true → inK T i1 k → Le (Ed S.nd) r k → r = r0 := fun q hk l => h.rs.dj q H.h0 l (H.ur _ hk)
      rcases p1 with p1 | ⟨a1, a2, h1, h2, h3, h4⟩ <;> rcases p2 with p2 | ⟨b1, b2, h5, h6, h7, h8⟩
      · exact h.rs.dj q1 q2 p1 p2
      · rw [is0 q2 h5 h7]; exact h.rs.dj q1 H.h0 p1 ((H.ur _ h6).trans h8)
      · rw [is0 q1 h1 h3]; exact h.rs.dj H.h0 q2 ((H.ur _ h2).trans h4) p2
      · rw [is0 q1 h1 h3, is0 q2 h5 h7]
    by_cases hx : T x = true ∨ S.nodes.length ≤ x
    · obtain ⟨f1, p1⟩ := k1
      obtain ⟨f2, p2⟩ := k2
      have no : ∀ {r}, S.rt r = true → ¬ (T r = true ∨ S.nodes.length ≤ r) := by
        rintro r q (w | w)
        · rw [rtT q] at w; cases w
        · have := h.ro r q; omega
      exact key i1 hil H.ti ((al_dead H.toAlH p1 hx).resolve_left (no q1)) ((al_dead H.toAlH p2 hx).resolve_left (no q2))
    · exact key x (Nat.lt_of_not_le fun w => hx (.inr w)) (by
        cases e : T x
        · rfl
        · exact absurd (.inl e) hx) k1 k2
  · intro x hx
    refine .inr ?_
    have root : Le (Ed (S.alN i1 T S.nodes.length).nd) r0 x → ∃ r, (S.alias i1 T ids).rt r = true ∧ Le (Ed (S.alias i1 T ids).nd) r x := fun q => ⟨r0, by show (S.alN i1 T S.nodes.length).rt r0 = true; rw [g2]; exact H.h0, q⟩
    by_cases hxi : x = i1
    · rw [hxi] at root ⊢; exact root ri
    · have old : live S x → T x = false → ∃ r, (S.alias i1 T ids).rt r = true ∧ Le (Ed (S.alias i1 T ids).nd) r x := by
        intro hl ht
        obtain ⟨r, q1, q2⟩ := h.under hl
        exact ⟨r, by show (S.alN i1 T S.nodes.length).rt r = true; rw [g2]; exact q1, le (h.ro r q1) (live_lt h.toCore hl) (rtT q1) ht q2⟩
      rcases hx with ⟨h1, id, h2⟩ | hx
      · rw [alias_vl H.t0 hids] at h2
        have ht : T (S.vl id) = false := by
          cases e : T (S.vl id)
          · rfl
          · rw [pr_eq (.inl e)] at h2; exact absurd h2.symm hxi
        rw [pr_ne ht] at h2
        exact old (.inl ⟨h1, id, h2⟩) (h2 ▸ ht)
      · have hx : (S.alN i1 T S.nodes.length).nd x ≠ (0, 0) := hx
        by_cases hxl : x < S.nodes.length
        · rw [inv.lo x hxl hxi, if_pos hxl] at hx
          by_cases ht : T x = true
          · rw [if_pos ht] at hx; exact absurd rfl hx
          · rw [if_neg ht] at hx
            refine old (.inr fun e => hx ?_) (by simpa using ht)
            rw [e]; simp [ren, H.t0]
        · have : x < (S.alN i1 T S.nodes.length).nodes.length := Nat.lt_of_not_le fun q => hx (nd_nil inv.wf q)
          exact root (ri.trans (inv.fan.down _ x (Nat.le_refl _) (by omega) this).le)
  · intro a b f ha hb
    show PE (Ed (S.alN i1 T S.nodes.length).nd) _ _ f ↔ _
    rw [al_path H.toAlH hr H.bk (hpl (h.va a)) (hpl (h.va b)) (pr_out H.ti) (pr_out H.ti), ← quo_iff hr H.ns]
end Go.Proofs.Ytapnmgkpljlgmaa
namespace Go.Proofs.Ytapnmgkpljlgmaa

/-- Whatever Undo leads to from S, it leads to from S', too. -/
def Rev (S S' : PS) : Prop := ∀ T, Undone S T → Undone S' T
theorem Rev.refl (S : PS) : Rev S S := fun _ h => h
theorem Rev.trans {S S' S'' : PS} (h : Rev S S') (k : Rev S' S'') : Rev S S'' := fun T q => k T (h T q)
theorem Rev.pop {S S' : PS} {u : Un} (hl : S'.lg = u :: S.lg) (h : PUn { S' with lg := S.lg } u S) : Rev S S' := fun T k => .step S' u S.lg S T hl h k
theorem PS.eqs {S T : PS} (h1 : S.last = T.last) (h2 : S.nodes = T.nodes) (h3 : S.vl = T.vl) (h4 : S.rt = T.rt) (h5 : S.nq = T.nq) (h6 : S.lg = T.lg) : S = T := by
  cases S; cases T; simp only at h1 h2 h3 h4 h5 h6; subst h1 h2 h3 h4 h5 h6; rfl
theorem set_nd (S : PS) {i : Nat} (hi : i < S.nodes.length) : S.nodes.set i (S.nd i) = S.nodes := by
  apply List.ext_getElem?
  intro j
  by_cases h : j = i
  · subst h
    rw [List.getElem?_set_self hi]
    unfold PS.nd
    rw [List.getD_eq_getElem?_getD, List.getElem?_eq_getElem hi]; rfl
  · rw [List.getElem?_set_ne (fun e => h e.symm)]
theorem set_nd' (S : PS) {i : Nat} (hi : i < S.nodes.length) {v : Nat × Nat} (hv : S.nd i = v) : S.nodes.set i v = S.nodes := hv ▸ set_nd S hi

/-- The same, with the pass' outcome given by its parts. -/
theorem PUn.to {S T T' : PS} {u : Un} (h : PUn S u T) (e : T = T') : PUn S u T' := e ▸ h
theorem nd_lg (S : PS) (l : List Un) : ({ S with lg := l } : PS).nd = S.nd := rfl

theorem Rev.setl (S : PS) {i : Nat} (e : Nat) (hi : i < S.nodes.length) {l : Nat} (hl : (S.nd i).1 = l) : Rev S ((S.setl i e).push ⟨2, i, 0, l⟩) := by
  refine Rev.pop rfl ((PUn.chl _ i 0 l (by show i < (S.setl i e).nodes.length; rw [PS.setl_len]; exact hi)).to ?_)
  refine PS.eqs rfl ?_ rfl rfl rfl rfl
  show (S.setl i e).nodes.set i (l, ((S.setl i e).nd i).2) = S.nodes
  rw [setl_nd _ hi, if_pos rfl]
  show (S.nodes.set i _).set i _ = _
  rw [List.set_set]
  exact set_nd' S hi (by rw [← hl])
theorem Rev.setr (S : PS) {i : Nat} (e : Nat) (hi : i < S.nodes.length) {r : Nat} (hr : (S.nd i).2 = r) : Rev S ((S.setr i e).push ⟨3, i, 0, r⟩) := by
  refine Rev.pop rfl ((PUn.chr _ i 0 r (by show i < (S.setr i e).nodes.length; rw [PS.setr_len]; exact hi)).to ?_)
  refine PS.eqs rfl ?_ rfl rfl rfl rfl
  show (S.setr i e).nodes.set i (((S.setr i e).nd i).1, r) = S.nodes
  rw [setr_nd _ hi, if_pos rfl]
  show (S.nodes.set i _).set i _ = _
  rw [List.set_set]
  exact set_nd' S hi (by rw [← hr])
/-- A new node with whatever children, that stands for no value. -/
theorem Rev.node {S S1 : PS} (wf : WF0 S) (hs : S.nodes.length + 1 < 2147483648) (h1 : S1.last = S.last + 1) (h2 : S1.nodes.length = S.nodes.length + 1) (h3 : S1.nodes.take S.nodes.length = S.nodes)
    (h4 : S1.vl = S.vl) (h5 : S1.rt = S.rt) (h6 : S1.nq = S.nq) {x : Nat} (h7 : S1.lg = ⟨5, x, 0, 0⟩ :: S.lg) (hx : x = S.last + 1) : Rev S S1 := by
  have hla := wf.la
  subst hx
  refine Rev.pop h7 ((PUn.nodeX ({ S1 with lg := S.lg } : PS) S.last 0 h1 (by show S1.nodes.length = _; omega) (by omega)).to ?_)
  refine PS.eqs rfl ?_ h4 h5 h6 rfl
  show S1.nodes.take (S.last + 1) = _
  rw [hla]; exact h3
theorem Rev.newX {S : PS} (wf : WF0 S) (hs : S.nodes.length + 1 < 2147483648) : Rev S S.newX :=
  Rev.node wf hs rfl (newX_len S) (by show (S.nodes ++ [(0, 0)]).take _ = _; rw [List.take_left]) rfl rfl rfl rfl rfl
theorem Rev.newV {S : PS} (wf : WF0 S) {x : Nat} (hx : x ≠ 0) (hv : S.vl x = 0) (hs : S.nodes.length + 1 < 2147483648) : Rev S (S.newV x) := by
  have hla := wf.la
  refine Rev.pop rfl ((PUn.nodeV _ S.last x 0 rfl (by show (S.nodes ++ [(0, 0)]).length = _; simp; omega) (by omega) hx (by show upd S.vl x (S.last + 1) x = _; simp [upd])).to ?_)
  refine PS.eqs rfl ?_ ?_ rfl rfl rfl
  · show (S.nodes ++ [(0, 0)]).take (S.last + 1) = _
    rw [hla, List.take_left]
  · funext j
    show upd (upd S.vl x _) x 0 j = _
    unfold upd
    by_cases h : j = x
    · simp [h, hv]
    · simp [h]
theorem Rev.addRoot {S : PS} {i : Nat} (hi : i < S.nodes.length) (h0 : S.nd i = (0, 0)) (hr : S.rt i = false) : Rev S (S.addRoot i) := by
  refine Rev.pop rfl ((PUn.root ({ (S.addRoot i) with lg := S.lg } : PS) i 0 0 hi h0 (by show upd S.rt i true i = true; simp [upd])).to ?_)
  refine PS.eqs rfl rfl rfl ?_ rfl rfl
  funext j
  show upd (upd S.rt i true) i false j = _
  unfold upd
  by_cases h : j = i
  · simp [h, hr]
  · simp [h]
theorem Rev.swapRoot {S : PS} {o e : Nat} (st : Bool) (he : e < S.nodes.length) (h0 : S.nd e = (0, 0)) (ho : S.rt o = true) (hr : S.rt e = false) : Rev S (S.swapRoot o e st) := by
  have hne : o ≠ e := by rintro rfl; rw [ho] at hr; cases hr
  refine Rev.pop rfl ((PUn.chroot ({ (S.swapRoot o e st) with lg := S.lg } : PS) e 0 (eg o st) he h0 (by show upd (upd S.rt o false) e true e = true; simp [upd]) (by show upd (upd S.rt o false) e true (eg o st / 2) = false; rw [eg_half]; simp [upd, hne])).to ?_)
  refine PS.eqs rfl rfl rfl ?_ rfl rfl
  funext j
  show upd (upd (upd (upd S.rt o false) e true) e false) (eg o st / 2) true j = _
  rw [eg_half]
  unfold upd
  by_cases h : j = o
  · simp [h, ho]
  · by_cases h2 : j = e
    · simp [h2, hr, hne.symm]
    · simp [h, h2]
theorem Rev.mark {S : PS} {a b : Nat} (ha : a < 2147483648) : Rev S (S.mark a b) := by
  unfold PS.mark
  split
  · exact Rev.refl S
  · rename_i h
    refine Rev.pop rfl ((PUn.neq _ b a 0 (by show setQ S.nq a b a b = true; simp [setQ]) ha).to ?_)
    refine PS.eqs rfl rfl rfl rfl ?_ rfl
    funext i j
    show clrQ (setQ S.nq a b) a b i j = _
    unfold clrQ setQ
    by_cases e : i = a ∧ j = b
    · obtain ⟨rfl, rfl⟩ := e
      simp; simpa using h
    · have : (decide (i = a) && decide (j = b)) = false := by rw [Bool.and_eq_false_iff]; simp; omega
      simp [this]
theorem Rev.mark2 {S : PS} {a b : Nat} (ha : a < 2147483648) (hb : b < 2147483648) : Rev S (S.mark2 a b) := by
  unfold PS.mark2; split
  · exact Rev.mark hb
  · exact Rev.mark ha
theorem Rev.aliasV {S : PS} {x y : Nat} (hx : S.vl x ≠ 0) (hy : S.vl y = 0) : Rev S (S.aliasV x y) := by
  refine Rev.pop rfl ((PUn.alias0 _ y 0 (by show upd S.vl y (S.vl x) y ≠ 0; simpa [upd] using hx)).to ?_)
  refine PS.eqs rfl rfl ?_ rfl rfl rfl
  funext j
  show upd (upd S.vl y _) y 0 j = _
  unfold upd
  by_cases h : j = y
  · simp [h, hy]
  · simp [h]
theorem Rev.mergeroot {S : PS} (h : Core S) {r1 r2 : Nat} (h1 : S.rt r1 = true) (h2 : S.rt r2 = true) (hne : r1 ≠ r2) (hs : S.nodes.length + 1 < 2147483648) : Rev S (S.mergeroot r1 r2) := by
  have hla := h.la
  have l1 := h.ro r1 h1
  have l2 := h.ro r2 h2
  have hl1 : S.last + 1 < S.newX.nodes.length := by rw [newX_len]; omega
  have hnew : S.rt (S.last + 1) = false := h.rt_new
  have hq : Rev S ((S.newX.setl (S.last + 1) (eg r1 false)).setr (S.last + 1) (eg r2 false)) := by
    refine Rev.node h.toWF0 hs rfl (by rw [PS.setr_len, PS.setl_len, newX_len]) ?_ rfl rfl rfl rfl rfl
    show (((S.nodes ++ [(0, 0)]).set (S.last + 1) _).set (S.last + 1) _).take _ = _
    rw [List.take_set_of_le (by omega), List.take_set_of_le (by omega), List.take_left]
  refine hq.trans ?_
  have hnd : ((S.newX.setl (S.last + 1) (eg r1 false)).setr (S.last + 1) (eg r2 false)).nd (S.last + 1) = (eg r1 false, eg r2 false) := by
    rw [setr_nd _ (by rw [PS.setl_len]; exact hl1), if_pos rfl, setl_nd _ hl1, if_pos rfl]
  have hnd2 : ({ (S.mergeroot r1 r2) with lg := ((S.newX.setl (S.last + 1) (eg r1 false)).setr (S.last + 1) (eg r2 false)).lg } : PS).nd (S.last + 1) = (eg r1 false, eg r2 false) := hnd
  refine Rev.pop (u := ⟨9, S.last + 1, 0, 0⟩) rfl ((PUn.merge _ (S.last + 1) 0 0 ?_ ?_ ?_ ?_ ?_ ?_ ?_ ?_).to ?_)
  · show S.last + 1 < ((S.newX.setl (S.last + 1) (eg r1 false)).setr (S.last + 1) (eg r2 false)).nodes.length
    rw [PS.setr_len, PS.setl_len]; exact hl1
  · show upd (upd (upd S.rt r1 false) (S.last + 1) true) r2 false (S.last + 1) = true
    unfold upd; rw [if_neg (by omega), if_pos rfl]
  · rw [hnd2, eg_half]
    show upd (upd (upd S.rt r1 false) (S.last + 1) true) r2 false r1 = false
    unfold upd; rw [if_neg hne, if_neg (by omega), if_pos rfl]
  · rw [hnd2, eg_half]
    show upd (upd (upd S.rt r1 false) (S.last + 1) true) r2 false r2 = false
    unfold upd; rw [if_pos rfl]
  · rw [hnd2, eg_half, eg_half]; exact hne
  · intro r hr
    show r < ((S.newX.setl (S.last + 1) (eg r1 false)).setr (S.last + 1) (eg r2 false)).nodes.length
    rw [PS.setr_len, PS.setl_len, newX_len]
    have hr : upd (upd (upd S.rt r1 false) (S.last + 1) true) r2 false r = true := hr
    have : r = S.last + 1 ∨ S.rt r = true := by
      by_cases e1 : r = S.last + 1
      · exact .inl e1
      · by_cases e2 : r = r2
        · simp [upd, e2] at hr
        · by_cases e3 : r = r1
          · simp [upd, e3, hne, show r1 ≠ S.last + 1 by omega] at hr
          · exact .inr (by simpa [upd, e1, e2, e3] using hr)
    rcases this with e | e
    · omega
    · have := h.ro r e; omega
  · show ((S.newX.setl (S.last + 1) (eg r1 false)).setr (S.last + 1) (eg r2 false)).nodes.length < _
    rw [PS.setr_len, PS.setl_len, newX_len]; exact hs
  · rw [hnd2, eg_half]
    show r1 < ((S.newX.setl (S.last + 1) (eg r1 false)).setr (S.last + 1) (eg r2 false)).nodes.length
    rw [PS.setr_len, PS.setl_len, newX_len]; omega
  · refine PS.eqs rfl rfl rfl ?_ rfl rfl
    simp only [hnd2, eg_half]
    funext j
    show upd (upd (upd (upd (upd (upd S.rt r1 false) (S.last + 1) true) r2 false) (S.last + 1) false) r1 true) r2 true j = S.rt j
    unfold upd
    by_cases e2 : j = r2
    · simp [e2, h2]
    · by_cases e1 : j = r1
      · simp [e1, h1, hne]
      · by_cases e3 : j = S.last + 1
        · subst e3; simp [e1, e2, hnew]
        · simp [e1, e2, e3]
theorem Rev.addchild {S : PS} (wf : WF0 S) {i c : Nat} (st : Bool) (hi : i < S.nodes.length) (hs : S.nodes.length + 1 < 2147483648) : Rev S (S.addchild i c st) := by
  have hla := wf.la
  have hl1 : S.last + 1 < S.newX.nodes.length := by rw [newX_len]; omega
  have hi1 : i < S.newX.nodes.length := by rw [newX_len]; omega
  unfold PS.addchild
  split
  · rename_i h; exact Rev.setl S _ hi h
  · split
    · rename_i h; exact Rev.setr S _ hi h
    · have go : ∀ l, Rev S ((S.newX.setl (S.last + 1) l).setr (S.last + 1) (eg c st)) ∧ ((S.newX.setl (S.last + 1) l).setr (S.last + 1) (eg c st)).nd i = S.nd i ∧ i < ((S.newX.setl (S.last + 1) l).setr (S.last + 1) (eg c st)).nodes.length := by
        intro l
        refine ⟨Rev.node wf hs rfl (by rw [PS.setr_len, PS.setl_len, newX_len]) ?_ rfl rfl rfl rfl rfl, ?_, by rw [PS.setr_len, PS.setl_len]; exact hi1⟩
        · show (((S.nodes ++ [(0, 0)]).set (S.last + 1) _).set (S.last + 1) _).take _ = _
          rw [List.take_set_of_le (by omega), List.take_set_of_le (by omega), List.take_left]
        · rw [setr_nd _ (by rw [PS.setl_len]; exact hl1), if_neg (by omega), setl_nd _ hl1, if_neg (by omega), newX_nd]
      split
      · obtain ⟨g1, g2, g3⟩ := go (S.nd i).2
        exact g1.trans (Rev.setr _ _ g3 (by rw [g2]))
      · obtain ⟨g1, g2, g3⟩ := go (S.nd i).1
        exact g1.trans (Rev.setl _ _ g3 (by rw [g2]))

/-! ## aliasnodes -/
def PS.setn (S : PS) (k : Nat) (v : Nat × Nat) : PS := { S with nodes := S.nodes.set k v }
theorem setn_nd {S : PS} {k : Nat} (v : Nat × Nat) (hk : k < S.nodes.length) (j : Nat) : (S.setn k v).nd j = if j = k then v else S.nd j := nd_set S.nodes k v hk j
theorem setn_nd_ne {S : PS} {k : Nat} (v : Nat × Nat) {j : Nat} (h : j ≠ k) : (S.setn k v).nd j = S.nd j := by
  show (S.nodes.set k v).getD j (0, 0) = S.nodes.getD j (0, 0)
  simp only [List.getD_eq_getElem?_getD]
  rw [List.getElem?_set_ne (fun e => h e.symm)]
theorem setn_setl (S : PS) {k i e : Nat} (v : Nat × Nat) (h : i ≠ k) : (S.setn k v).setl i e = (S.setl i e).setn k v := by
  refine PS.eqs rfl ?_ rfl rfl rfl rfl
  show (S.nodes.set k v).set i (e, ((S.setn k v).nd i).2) = (S.nodes.set i (e, (S.nd i).2)).set k v
  rw [setn_nd_ne v h, List.set_comm _ _ (fun q => h q.symm)]
theorem setn_setr (S : PS) {k i e : Nat} (v : Nat × Nat) (h : i ≠ k) : (S.setn k v).setr i e = (S.setr i e).setn k v := by
  refine PS.eqs rfl ?_ rfl rfl rfl rfl
  show (S.nodes.set k v).set i (((S.setn k v).nd i).1, e) = (S.nodes.set i ((S.nd i).1, e)).set k v
  rw [setn_nd_ne v h, List.set_comm _ _ (fun q => h q.symm)]
theorem setn_newX (S : PS) {k : Nat} (v : Nat × Nat) (hk : k < S.nodes.length) : (S.setn k v).newX = S.newX.setn k v := by
  refine PS.eqs rfl ?_ rfl rfl rfl rfl
  show S.nodes.set k v ++ [(0, 0)] = (S.nodes ++ [(0, 0)]).set k v
  rw [List.set_append_left _ _ hk]
theorem setn_push (S : PS) (k : Nat) (v : Nat × Nat) (u : Un) : (S.setn k v).push u = (S.push u).setn k v := rfl
theorem setn_addchild {S : PS} (wf : WF0 S) {k i c : Nat} (st : Bool) (v : Nat × Nat) (hk : k < S.nodes.length) (h : i ≠ k) : (S.setn k v).addchild i c st = (S.addchild i c st).setn k v := by
  have hla := wf.la
  have hl : (S.setn k v).last = S.last := rfl
  have hne : S.last + 1 ≠ k := by omega
  unfold PS.addchild
  rw [setn_nd_ne v h, hl, setn_newX _ _ hk]
  split
  · rw [setn_setl _ _ h, setn_push]
  · split
    · rw [setn_setr _ _ h, setn_push]
    · split
      · rw [setn_setl _ _ hne, setn_setr _ _ hne, setn_setr _ _ h, setn_push]
      · rw [setn_setl _ _ hne, setn_setr _ _ hne, setn_setl _ _ h, setn_push]
theorem setn_alC {S : PS} (wf : WF0 S) {k i l : Nat} {T : Nat → Bool} (v : Nat × Nat) (hk : k < S.nodes.length) (h : i ≠ k) : (S.setn k v).alC i T l = (S.alC i T l).setn k v := by
  unfold PS.alC; split
  · exact setn_addchild wf _ v hk h
  · rfl
theorem Rev.alC {S : PS} (wf : WF0 S) {i l : Nat} {T : Nat → Bool} (hi : i < S.nodes.length) (hs : S.nodes.length + 1 < 2147483648) : Rev S (S.alC i T l) := by
  unfold PS.alC; split
  · exact Rev.addchild wf _ hi hs
  · exact Rev.refl _
/-- A pass that puts back what is there. -/
theorem Rev.idleL (S : PS) {k l : Nat} (hk : k < S.nodes.length) (hl : (S.nd k).1 = l) : Rev S (S.push ⟨2, k, 0, l⟩) := by
  refine Rev.pop rfl ((PUn.chl _ k 0 l hk).to ?_)
  refine PS.eqs rfl ?_ rfl rfl rfl rfl
  show S.nodes.set k (l, (S.nd k).2) = _
  exact set_nd' S hk (by rw [← hl])
theorem Rev.idleR (S : PS) {k r : Nat} (hk : k < S.nodes.length) (hr : (S.nd k).2 = r) : Rev S (S.push ⟨3, k, 0, r⟩) := by
  refine Rev.pop rfl ((PUn.chr _ k 0 r hk).to ?_)
  refine PS.eqs rfl ?_ rfl rfl rfl rfl
  show S.nodes.set k ((S.nd k).1, r) = _
  exact set_nd' S hk (by rw [← hr])
theorem setn_self (S : PS) {k : Nat} {v : Nat × Nat} (hk : k < S.nodes.length) (hv : S.nd k = v) : S.setn k v = S := PS.eqs rfl (set_nd' S hk hv) rfl rfl rfl rfl

theorem alC_keep {W : PS} (wf : WF0 W) {i k l : Nat} {T : Nat → Bool} (hi : i < W.nodes.length) (hk : k < W.nodes.length) (hki : i ≠ k) (hl : l ≠ 0 → l / 2 < W.nodes.length) (hs : W.nodes.length + 1 < 2147483648) :
    WF0 (W.alC i T l) ∧ (W.alC i T l).nodes.length ≤ W.nodes.length + 1 ∧ W.nodes.length ≤ (W.alC i T l).nodes.length ∧ (W.alC i T l).nd k = W.nd k := by
  unfold PS.alC; split
  · rename_i q
    obtain ⟨g1, g2, g3, _, g5, _⟩ := addchild_facts wf i (l / 2) (l % 2 == 1) hi (hl q.1) hs
    exact ⟨g1, g2, g3, g5 k hk (Ne.symm hki)⟩
  · exact ⟨wf, by omega, by omega, rfl⟩
theorem Rev.alStep {S S1 : PS} {i1 k : Nat} {T : Nat → Bool} (H : AlH S i1 T) (hk : k < S.nodes.length) (h : AlI S i1 T k S1) : Rev S1 (S1.alStep i1 T k (S.nd k)) := by
  have hil := H.il
  have hsz := H.sz
  have hnm := h.fan.nm
  have hlen := h.len
  unfold PS.alStep
  by_cases hki : k = i1
  · rw [if_pos hki]; exact Rev.refl _
  · rw [if_neg hki]
    have hk1 : k < S1.nodes.length := by omega
    have hi1 : i1 < S1.nodes.length := by omega
    have hnk : S1.nd k = S.nd k := by rw [h.lo k hk hki, if_neg (Nat.lt_irrefl k)]
    obtain ⟨l, r, hlr⟩ : ∃ l r, S.nd k = (l, r) := ⟨_, _, rfl⟩
    rw [hlr] at hnk ⊢
    simp only
    have hA := alA_nd (i1 := i1) (T := T) hk1 (show (S1.nd k).1 = l by rw [hnk])
    have hAk : (S1.alA i1 T k l).nd k = (ren T i1 l, r) := by rw [hA, if_pos rfl, hnk]
    have lA := alA_len S1 i1 k l T
    have hkA : k < (S1.alA i1 T k l).nodes.length := by rw [lA]; exact hk1
    by_cases hT : T k = true
    · rw [if_pos hT]
      -- the state with the two passes of the new names, and the node as it was
      have eA : ∃ us : List Un, (S1.alA i1 T k l).alB i1 T k r = ({ S1 with lg := us } : PS).setn k (ren T i1 l, ren T i1 r) ∧ Rev S1 { S1 with lg := us } := by
        unfold PS.alA PS.alB ren
        by_cases h1 : T (l / 2) = true <;> by_cases h2 : T (r / 2) = true
        · refine ⟨⟨3, k, 0, r⟩ :: ⟨2, k, 0, l⟩ :: S1.lg, ?_, (Rev.idleL S1 hk1 (by rw [hnk])).trans (Rev.idleR _ hk1 (by rw [push_nd, hnk]))⟩
          rw [if_pos h1, if_pos h2, if_pos h1, if_pos h2]
          refine PS.eqs rfl ?_ rfl rfl rfl rfl
          show (S1.nodes.set k _).set k (((S1.setl k _).nd k).1, _) = _
          rw [setl_nd _ hk1, if_pos rfl, List.set_set]; rfl
        · refine ⟨⟨2, k, 0, l⟩ :: S1.lg, ?_, Rev.idleL S1 hk1 (by rw [hnk])⟩
          rw [if_pos h1, if_neg h2, if_pos h1, if_neg h2]
          refine PS.eqs rfl ?_ rfl rfl rfl rfl
          show S1.nodes.set k (_, (S1.nd k).2) = S1.nodes.set k _
          rw [hnk]
        · refine ⟨⟨3, k, 0, r⟩ :: S1.lg, ?_, Rev.idleR S1 hk1 (by rw [hnk])⟩
          rw [if_neg h1, if_pos h2, if_neg h1, if_pos h2]
          refine PS.eqs rfl ?_ rfl rfl rfl rfl
          show S1.nodes.set k ((S1.nd k).1, _) = S1.nodes.set k _
          rw [hnk]
        · refine ⟨S1.lg, ?_, Rev.refl _⟩
          rw [if_neg h1, if_neg h2, if_neg h1, if_neg h2]
          exact (setn_self S1 hk1 hnk).symm
      obtain ⟨us, e1, hrev⟩ := eA
      rw [e1]
      have wfU : WF0 ({ S1 with lg := us } : PS) := ⟨h.wf.la, h.wf.sz, h.wf.ir⟩
      refine hrev.trans ?_
      generalize hU : ({ S1 with lg := us } : PS) = U at *
      have kU : k < U.nodes.length := by rw [← hU]; exact hk1
      have iU : i1 < U.nodes.length := by rw [← hU]; exact hi1
      have lU : U.nodes.length = S1.nodes.length := by rw [← hU]
      have nU : U.nd k = (l, r) := by rw [← hU]; exact hnk
      have c1 := setn_alC (T := T) (l := l) wfU (ren T i1 l, ren T i1 r) kU (Ne.symm hki)
      have f1 : WF0 (U.alC i1 T l) ∧ (U.alC i1 T l).nodes.length ≤ U.nodes.length + 1 ∧ U.nodes.length ≤ (U.alC i1 T l).nodes.length ∧ (U.alC i1 T l).nd k = (l, r) := by
        obtain ⟨g1, g2, g3, g4⟩ := alC_keep (T := T) (l := l) wfU iU kU (Ne.symm hki) (fun q => by
          have := (H.wf.rng _ _ _ ((Ed_at hlr).2 (.inl ⟨q, rfl, rfl⟩))).2; omega) (by omega)
        exact ⟨g1, g2, g3, g4.trans nU⟩
      obtain ⟨w1, m1, m2, n1⟩ := f1
      have c2 := setn_alC (T := T) (l := r) w1 (ren T i1 l, ren T i1 r) (show k < (U.alC i1 T l).nodes.length by omega) (Ne.symm hki)
      have f2 : ((U.alC i1 T l).alC i1 T r).nd k = (l, r) ∧ k < ((U.alC i1 T l).alC i1 T r).nodes.length := by
        obtain ⟨g1, g2, g3, g4⟩ := alC_keep (T := T) (l := r) w1 (by omega) (k := k) (by omega) (Ne.symm hki) (fun q => by
          have := (H.wf.rng _ _ _ ((Ed_at hlr).2 (.inr ⟨q, rfl, rfl⟩))).2; omega) (by omega)
        exact ⟨g4.trans n1, by omega⟩
      rw [c1, c2]
      refine ((Rev.alC (l := l) (T := T) wfU iU (by omega)).trans (Rev.alC (i := i1) (l := r) (T := T) w1 (by omega) (by omega))).trans ?_
      -- the last two passes put the node back as it was
      obtain ⟨n2, k2⟩ := f2
      generalize (U.alC i1 T l).alC i1 T r = V at *
      intro T' hT'
      have kV : k < ((V.setn k (ren T i1 l, ren T i1 r)).setl k 0).nodes.length := by rw [PS.setl_len]; simpa [PS.setn] using k2
      refine .step _ _ _ _ _ rfl (PUn.chr _ k 0 r (by show k < (((V.setn k _).setl k 0).setr k 0).nodes.length; rw [PS.setr_len]; exact kV)) (.step _ ⟨2, k, 0, l⟩ V.lg V _ rfl ((PUn.chl _ k 0 l ?_).to ?_) hT')
      · show k < ((((V.setn k _).setl k 0).setr k 0).setr k r).nodes.length
        rw [PS.setr_len, PS.setr_len]; exact kV
      · refine PS.eqs rfl ?_ rfl rfl rfl rfl
        have hk3 : k < (V.setn k (ren T i1 l, ren T i1 r)).nodes.length := by simpa [PS.setn] using k2
        have hk4 : k < (((V.setn k (ren T i1 l, ren T i1 r)).setl k 0).setr k 0).nodes.length := by rw [PS.setr_len]; exact kV
        show ((((V.nodes.set k _).set k _).set k _).set k _).set k (l, (((((V.setn k (ren T i1 l, ren T i1 r)).setl k 0).setr k 0).setr k r).nd k).2) = V.nodes
        rw [setr_nd _ hk4, if_pos rfl, List.set_set, List.set_set, List.set_set, List.set_set]
        exact set_nd' V k2 n2
    · rw [if_neg hT]
      have q1 : Rev S1 (S1.alA i1 T k l) := by
        unfold PS.alA; split
        · exact Rev.setl S1 _ hk1 (by rw [hnk])
        · exact Rev.refl _
      refine q1.trans ?_
      unfold PS.alB; split
      · exact Rev.setr _ _ hkA (by rw [hAk])
      · exact Rev.refl _
theorem Rev.alN {S : PS} {i1 : Nat} {T : Nat → Bool} (H : AlH S i1 T) : ∀ k, k ≤ S.nodes.length → Rev S (S.alN i1 T k)
  | 0, _ => Rev.refl _
  | k + 1, hk => (Rev.alN H k (by omega)).trans (Rev.alStep H (by omega) (alN_inv H k (by omega)))
theorem Rev.alE {S : PS} {i1 : Nat} {T : Nat → Bool} (h0 : T 0 = false) (hi : T i1 = false) : ∀ ids : List Nat, ids.Nodup → Rev S (S.alE i1 T ids)
  | [], _ => by rw [PS.alE_nil]; exact Rev.refl _
  | id :: ids, hn => by
    obtain ⟨hn1, hn2⟩ := List.nodup_cons.1 hn
    refine (Rev.alE h0 hi ids hn2).trans ?_
    cases ht : T (S.vl id)
    · rw [PS.alE_no ht]; exact Rev.refl _
    · rw [PS.alE_yes ht]
      have hv : S.vl id ≠ 0 := by intro e; rw [e, h0] at ht; cases ht
      refine Rev.pop rfl ((PUn.alias _ (S.vl id) id 0 hv ?_).to ?_)
      · show upd (S.alF i1 T ids) id i1 id ≠ _
        simp only [upd, if_true]
        intro e; rw [← e, hi] at ht; cases ht
      · refine PS.eqs rfl rfl ?_ rfl rfl rfl
        funext j
        show upd (upd (S.alF i1 T ids) id i1) id (S.vl id) j = S.alF i1 T ids j
        unfold upd
        by_cases e : j = id
        · subst e; simp [PS.alF_new hn1]
        · simp [e]
theorem Rev.alias {S : PS} {i1 : Nat} {T : Nat → Bool} (H : AlH S i1 T) {ids : List Nat} (hn : ids.Nodup) : Rev S (S.alias i1 T ids) :=
  (Rev.alN H _ (Nat.le_refl _)).trans (Rev.alE H.t0 H.ti ids hn)
end Go.Proofs.Ytapnmgkpljlgmaa
namespace Go.Proofs.Ytapnmgkpljlgmaa

/-- V's order is that of the walks between the values' nodes. -/
structure Mod (V : VS) (v : Nat → Nat) (E : ERel) : Prop where
  kn : ∀ a, V.kn a = true ↔ v a ≠ 0
  le : ∀ a b, V.le a b = true ↔ a = b ∨ (v a ≠ 0 ∧ v b ≠ 0 ∧ Le E (v a) (v b))
  lt : ∀ a b, V.lt a b = true ↔ v a ≠ 0 ∧ v b ≠ 0 ∧ PE E (v a) (v b) true
theorem abs_mod (S : PS) : Mod S.abs (fun a => S.vl (a + 1)) (Ed S.nd) := ⟨fun _ => abs_kn, fun _ _ => abs_le, fun _ _ => abs_lt⟩
theorem Mod.add {V : VS} {v : Nat → Nat} {E : ERel} (h : Mod V v E) {x y : Nat} {s : Bool} (hx : v x ≠ 0) (hy : v y ≠ 0) (hs : ∀ g, PE E (v y) (v x) g → g = false ∧ s = false) : Mod (V.add x y s) v (addR E (v x) (v y) s) := by
  have lk : ∀ {a b}, v a ≠ 0 → v b ≠ 0 → (V.le a b = true ↔ Le E (v a) (v b)) := by
    intro a b ha hb
    rw [h.le]
    constructor
    · rintro (rfl | q)
      · exact Le.refl _
      · exact q.2.2
    · exact fun q => .inr ⟨ha, hb, q⟩
  have un : ∀ {a z}, v a = 0 → v z ≠ 0 → V.le a z ≠ true ∧ V.le z a ≠ true := by
    intro a z ha hz
    rw [Ne, Ne, h.le, h.le]
    exact ⟨fun q => q.elim (fun e => hz (e ▸ ha)) fun q => q.1 ha, fun q => q.elim (fun e => hz (e ▸ ha)) fun q => q.2.1 ha⟩
  refine ⟨fun a => ?_, fun a b => ?_, fun a b => ?_⟩
  · rw [VS.add_kn, h.kn]
    exact ⟨fun q => q.elim id fun q => q.elim (fun e => e ▸ hx) (fun e => e ▸ hy), .inl⟩
  · rw [VS.add_le]
    by_cases ha : v a = 0
    · rw [h.le a b]
      refine ⟨fun q => q.elim (fun q => q.elim .inl fun q => absurd ha q.1) fun q => absurd q.1 (un ha hx).1, fun q => q.elim (fun e => .inl (.inl e)) fun q => absurd ha q.1⟩
    · by_cases hb : v b = 0
      · rw [h.le a b]
        refine ⟨fun q => q.elim (fun q => q.elim .inl fun q => absurd hb q.2.1) fun q => absurd q.2 (un hb hy).2, fun q => q.elim (fun e => .inl (.inl e)) fun q => absurd hb q.2.1⟩
      · rw [lk ha hb, lk ha hx, lk hy hb]
        constructor
        · rintro (⟨f, q⟩ | ⟨⟨f1, q1⟩, f2, q2⟩)
          · exact .inr ⟨ha, hb, f, (add_iff hs).2 (.inl q)⟩
          · exact .inr ⟨ha, hb, _, (add_iff hs).2 (.inr ⟨f1, f2, q1, q2, rfl⟩)⟩
        · rintro (rfl | ⟨_, _, f, q⟩)
          · exact .inl (Le.refl _)
          · rcases (add_iff hs).1 q with q | ⟨f1, f2, q1, q2, _⟩
            · exact .inl q.le
            · exact .inr ⟨q1.le, q2.le⟩
  · rw [VS.add_lt]
    by_cases ha : v a = 0
    · rw [h.lt a b]
      exact ⟨fun q => q.elim (fun q => absurd ha q.1) fun q => absurd q.1 (un ha hx).1, fun q => absurd ha q.1⟩
    · by_cases hb : v b = 0
      · rw [h.lt a b]
        exact ⟨fun q => q.elim (fun q => absurd hb q.2.1) fun q => absurd q.2.1 (un hb hy).2, fun q => absurd hb q.2.1⟩
      · rw [lk ha hx, lk hy hb, h.lt, h.lt, h.lt]
        constructor
        · rintro (⟨_, _, q⟩ | ⟨⟨f1, q1⟩, ⟨f2, q2⟩, q3⟩)
          · exact ⟨ha, hb, (add_iff hs).2 (.inl q)⟩
          · refine ⟨ha, hb, ?_⟩
            rcases q3 with ⟨_, _, q3⟩ | q3 | ⟨_, _, q3⟩
            · exact (add_iff hs).2 (.inr ⟨true, f2, q3, q2, by simp⟩)
            · exact (add_iff hs).2 (.inr ⟨f1, f2, q1, q2, by simp [q3]⟩)
            · exact (add_iff hs).2 (.inr ⟨f1, true, q1, q3, by simp⟩)
        · rintro ⟨_, _, q⟩
          rcases (add_iff hs).1 q with q | ⟨f1, f2, q1, q2, q3⟩
          · exact .inl ⟨ha, hb, q⟩
          · refine .inr ⟨q1.le, q2.le, ?_⟩
            cases f1
            · cases s
              · cases f2
                · simp at q3
                · exact .inr (.inr ⟨hy, hb, q2⟩)
              · exact .inr (.inl rfl)
            · exact .inl ⟨ha, hx, q1⟩
theorem Mod.uniq {V W : VS} {v v' : Nat → Nat} {E E' : ERel} (h : Mod V v E) (k : Mod W v' E') (hv : ∀ a, v' a = 0 ↔ v a = 0) (hp : ∀ a b f, v a ≠ 0 → v b ≠ 0 → (PE E' (v' a) (v' b) f ↔ PE E (v a) (v b) f)) :
    (∀ a, W.kn a = true ↔ V.kn a = true) ∧ (∀ a b, W.le a b = true ↔ V.le a b = true) ∧ ∀ a b, W.lt a b = true ↔ V.lt a b = true := by
  have nv : ∀ a, v' a ≠ 0 ↔ v a ≠ 0 := fun a => not_congr (hv a)
  refine ⟨fun a => by rw [k.kn, h.kn, nv], fun a b => ?_, fun a b => ?_⟩
  · rw [k.le, h.le, nv, nv]
    constructor
    · rintro (q | ⟨q1, q2, f, q3⟩)
      · exact .inl q
      · exact .inr ⟨q1, q2, f, (hp _ _ f q1 q2).1 q3⟩
    · rintro (q | ⟨q1, q2, f, q3⟩)
      · exact .inl q
      · exact .inr ⟨q1, q2, f, (hp _ _ f q1 q2).2 q3⟩
  · rw [k.lt, h.lt, nv, nv]
    constructor
    · rintro ⟨q1, q2, q3⟩
      exact ⟨q1, q2, (hp _ _ _ q1 q2).1 q3⟩
    · rintro ⟨q1, q2, q3⟩
      exact ⟨q1, q2, (hp _ _ _ q1 q2).2 q3⟩

/-- What is recorded as not equal, once p's class has p's node. -/
theorem abs_fold {S S' : PS} {W : VS} (rk : ∃ rk, Rk (Ed S'.nd) rk) (hq : S'.nq = S.nq) {p : Nat} (hp : S.vl (p + 1) ≠ 0) (hp' : S'.vl (p + 1) = S.vl (p + 1))
    (hv : ∀ a, S'.vl (a + 1) ≠ S'.vl (p + 1) → S'.vl (a + 1) = S.vl (a + 1)) (hW : ∀ a, W.eq a p = true ↔ S'.abs.eq a p = true) (a b : Nat) : S'.abs.ne a b = S.abs.ne (W.rep p a) (W.rep p b) := by
  obtain ⟨rk, hr⟩ := rk
  have key : ∀ a, S'.vl (a + 1) = S.vl (W.rep p a + 1) := by
    intro a
    unfold VS.rep
    split
    · rename_i h
      rw [hW, VS.eq_iff, abs_le, abs_le] at h
      rcases h with ⟨q | ⟨q1, q2, q3⟩, q' | ⟨q4, q5, q6⟩⟩
      · rw [q]; exact hp'
      · rw [q]; exact hp'
      · rw [← q']; exact hp'
      · rw [hr.anti q3 q6]; exact hp'
    · rename_i h
      refine hv a fun e => h ?_
      rw [hW, VS.eq_iff, abs_le_kn (by rw [e, hp']; exact hp) (by rw [hp']; exact hp), abs_le_kn (by rw [hp']; exact hp) (by rw [e, hp']; exact hp), e]
      exact ⟨Le.refl _, Le.refl _⟩
  rw [Bool.eq_iff_iff, abs_ne, abs_ne, ← key, ← key]
  unfold PS.ne; rw [hq]

/-! ## sizes of aliasnodes -/
theorem alStep_lg (S : PS) (i1 : Nat) (T : Nat → Bool) (k : Nat) (x : Nat × Nat) : (S.alStep i1 T k x).lg.length ≤ S.lg.length + 8 := by
  have hadd : ∀ (S : PS) i c st, (S.addchild i c st).lg.length ≤ S.lg.length + 2 := by
    intro S i c st; unfold PS.addchild; split <;> (try split) <;> (try split) <;> simp [PS.push, PS.setl, PS.setr, PS.newX]
  have hA : ∀ (S : PS) l, (S.alA i1 T k l).lg.length ≤ S.lg.length + 1 := by intro S l; unfold PS.alA; split <;> simp [PS.push, PS.setl]
  have hB : ∀ (S : PS) l, (S.alB i1 T k l).lg.length ≤ S.lg.length + 1 := by intro S l; unfold PS.alB; split <;> simp [PS.push, PS.setr]
  have hC : ∀ (S : PS) l, (S.alC i1 T l).lg.length ≤ S.lg.length + 2 := by
    intro S l; unfold PS.alC; split
    · exact hadd _ _ _ _
    · omega
  have a1 := hA S x.1
  have a2 := hB (S.alA i1 T k x.1) x.2
  have a3 := hC ((S.alA i1 T k x.1).alB i1 T k x.2) x.1
  have a4 := hC (((S.alA i1 T k x.1).alB i1 T k x.2).alC i1 T x.1) x.2
  unfold PS.alStep
  split
  · omega
  · split
    · simp only [PS.alD, PS.push, PS.setl, PS.setr, List.length_cons]; omega
    · omega
theorem alN_lg (S : PS) (i1 : Nat) (T : Nat → Bool) : ∀ k, (S.alN i1 T k).lg.length ≤ S.lg.length + 8 * k
  | 0 => by show S.lg.length ≤ _; omega
  | k + 1 => by
    have h1 := alN_lg S i1 T k
    have h2 := alStep_lg (S.alN i1 T k) i1 T k (S.nd k)
    show ((S.alN i1 T k).alStep i1 T k (S.nd k)).lg.length ≤ _
    omega
theorem alias_size {S : PS} (h : Core S) {i1 : Nat} {T : Nat → Bool} (H : AlH S i1 T) {ids : List Nat} (hn : ids.Nodup) (hids : ∀ id, id ∈ ids ↔ S.vl id ≠ 0) :
    (S.alias i1 T ids).nodes.length ≤ 3 * S.nodes.length ∧ (S.alias i1 T ids).lg.length ≤ S.lg.length + 8 * S.nodes.length + 13 := by
  have h1 := (alN_inv H S.nodes.length (Nat.le_refl _)).len
  have h2 := alN_lg S i1 T S.nodes.length
  have h3 := PS.alE_lg (S.alN i1 T S.nodes.length) i1 T ids
  have h4 := nodup_bound 13 ids hn fun x hx => by have := h.ids x ((hids x).1 hx); omega
  constructor
  · show (S.alN i1 T S.nodes.length).nodes.length ≤ _; omega
  · show ((S.alN i1 T S.nodes.length).alE i1 T ids).lg.length ≤ _; omega

/-- What an operation about x and y leaves behind. -/
structure Eff (S S' : PS) (V' : VS) (x y : Nat) : Prop where
  ok : OK S'
  rev : Rev S S'
  abs : S'.abs = V'
  sz : (S'.nodes.length ≤ S.nodes.length + 5 ∧ S'.lg.length ≤ S.lg.length + 20) ∨
    (S'.nodes.length ≤ 3 * S.nodes.length + 5 ∧ S'.lg.length ≤ S.lg.length + 10 * S.nodes.length + 1200 ∧ S.abs.eq x y ≠ true ∧ V'.eq x y = true)
theorem Eff.refl {S : PS} (h : OK S) (x y : Nat) : Eff S S S.abs x y := ⟨h, Rev.refl S, rfl, .inl ⟨by omega, by omega⟩⟩

theorem Le.zero {S : PS} (h : Core S) {a : Nat} (k : Le (Ed S.nd) a 0) : a = 0 := by
  obtain ⟨f, p⟩ := k
  generalize hz : 0 = z at p
  induction p with
  | nil => first | rfl | exact hz.symm | exact hz
  | cons e p ih =>
    have := ih hz
    subst hz
    exact absurd this (h.nz _ _ _ e)
theorem Le.lt {S : PS} (h : Core S) {a b : Nat} (k : Le (Ed S.nd) a b) (ha : a < S.nodes.length) : b < S.nodes.length := by
  refine Nat.lt_of_not_le fun q => ?_
  have := (h.fresh q).2 k
  omega

/-- All between i and j becomes one; p's node i stays. -/
theorem collapse_eff {S : PS} (h : OK S) (room : Room S) {p q : Nat} (hp : S.vl (p + 1) ≠ 0) (hq : S.vl (q + 1) ≠ 0) (hne : S.vl (p + 1) ≠ S.vl (q + 1)) (hle : Le (Ed S.nd) (S.vl (p + 1)) (S.vl (q + 1)))
    (hlt : ¬ PE (Ed S.nd) (S.vl (p + 1)) (S.vl (q + 1)) true) {ids : List Nat} (hn : ids.Nodup) (hids : ∀ id, id ∈ ids ↔ S.vl id ≠ 0) :
    OK (S.alias (S.vl (p + 1)) (S.mid (S.vl (p + 1)) (S.vl (q + 1))) ids) ∧ Rev S (S.alias (S.vl (p + 1)) (S.mid (S.vl (p + 1)) (S.vl (q + 1))) ids) ∧
      (S.alias (S.vl (p + 1)) (S.mid (S.vl (p + 1)) (S.vl (q + 1))) ids).abs = (S.abs.add q p false).fold p ∧
      (S.alias (S.vl (p + 1)) (S.mid (S.vl (p + 1)) (S.vl (q + 1))) ids).nodes.length ≤ 3 * S.nodes.length ∧ (S.alias (S.vl (p + 1)) (S.mid (S.vl (p + 1)) (S.vl (q + 1))) ids).lg.length ≤ S.lg.length + 8 * S.nodes.length + 13 := by
  obtain ⟨rk, hr⟩ := h.rk
  have hsz := room.sz
  have li := h.va (p + 1)
  have hmod := abs_mod S
  obtain ⟨r0, h01, h02⟩ := h.val hp
  have vi : ∃ i, S.vl (p + 1) = i := ⟨_, rfl⟩
  have vj : ∃ j, S.vl (q + 1) = j := ⟨_, rfl⟩
  obtain ⟨i, vi⟩ := vi
  obtain ⟨j, vj⟩ := vj
  rw [vi] at hp hne hle hlt h02 li
  rw [vj] at hq hne hle hlt
  rw [vi, vj]
  have hT : ∀ x, S.mid i j x = true ↔ x ≠ i ∧ Le (Ed S.nd) i x ∧ Le (Ed S.nd) x j := by
    intro x
    have := fpath_iff (S := S) (a := i) (b := j) ⟨hq, h.n0, h.pos, hr, fun x y s e => (h.rng x y s e).2⟩ li hle x
    unfold PS.mid clrB
    rw [Bool.and_eq_true, this, decide_eq_true_iff]
    exact ⟨fun q => ⟨q.2, q.1⟩, fun q => ⟨q.2, q.1⟩⟩
  have ti : S.mid i j i = false := by
    cases e : S.mid i j i
    · rfl
    · exact absurd rfl ((hT i).1 e).1
  have hK : ∀ x, inK (S.mid i j) i x → Le (Ed S.nd) i x ∧ Le (Ed S.nd) x j := by
    rintro x (k | rfl)
    · exact ((hT x).1 k).2
    · exact ⟨Le.refl _, hle⟩
  have Kh : ∀ x, Le (Ed S.nd) i x → Le (Ed S.nd) x j → inK (S.mid i j) i x := by
    intro x k1 k2
    by_cases e : x = i
    · exact .inr e
    · exact .inl ((hT x).2 ⟨e, k1, k2⟩)
  have H : AlK S i (S.mid i j) r0 := {
    wf := h.toWF0
    nz := h.nz
    i0 := hp
    il := li
    ti := ti
    t0 := by
      cases e : S.mid i j 0
      · rfl
      · exact absurd (Le.zero h.toCore ((hT 0).1 e).2.1) hp
    sz := by omega
    bk := fun t s k e => ((hT t).1 k).1 (hr.anti (PE.one e).le ((hT t).1 k).2.1)
    ns := fun a b s ka kb e => by
      cases s
      · rfl
      · obtain ⟨⟨f1, k1⟩, _⟩ := hK a ka
        obtain ⟨_, f2, k2⟩ := hK b kb
        exact absurd ((k1.trans (PE.one e)).trans' k2 (by simp)) hlt
    cv := fun a b c ka kc k1 k2 => Kh b ((hK a ka).1.trans k1) (k2.trans (hK c kc).2)
    tl := fun x k => Le.lt h.toCore ((hT x).1 k).2.1 li
    nr := fun x k => by
      cases e : S.rt x
      · rfl
      · have := h.rs.dj h01 e (h02.trans ((hT x).1 k).2.1) (Le.refl x)
        subst this
        exact absurd (hr.anti h02 ((hT r0).1 k).2.1) ((hT r0).1 k).1
    h0 := h01
    ur := fun x k => h02.trans (hK x k).1 }
  obtain ⟨hok, hpath⟩ := alias_ok h H hids
  have hs := alias_size h.toCore H.toAlH hn hids
  have hvl := fun id => alias_vl (S := S) (i1 := i) (T := S.mid i j) H.t0 hids id
  refine ⟨hok, Rev.alias H.toAlH hn, ?_, hs.1, hs.2⟩
  have pr0 : ∀ x, pr (S.mid i j) i x = 0 ↔ x = 0 := by
    intro x; unfold pr; split
    · rename_i k
      exact ⟨fun e => absurd e hp, fun e => by rw [e, H.t0] at k; cases k⟩
    · exact Iff.rfl
  have hm2 : Mod (S.abs.add q p false) (fun a => S.vl (a + 1)) (addR (Ed S.nd) j i false) := by
    have := hmod.add (x := q) (y := p) (s := false) (by show S.vl (q + 1) ≠ 0; rw [vj]; exact hq) (by show S.vl (p + 1) ≠ 0; rw [vi]; exact hp) (by
      intro g k
      have k : PE (Ed S.nd) (S.vl (p + 1)) (S.vl (q + 1)) g := k
      rw [vi, vj] at k
      cases g
      · exact ⟨rfl, rfl⟩
      · exact absurd k hlt)
    simpa only [vi, vj] using this
  obtain ⟨u1, u2, u3⟩ := hm2.uniq (abs_mod (S.alias i (S.mid i j) ids)) (fun a => by show (S.alias i _ ids).vl (a + 1) = 0 ↔ _; rw [hvl]; exact pr0 _) (fun a b f ha hb => by
    show PE _ ((S.alias i _ ids).vl (a + 1)) ((S.alias i _ ids).vl (b + 1)) f ↔ _
    rw [hvl, hvl, hpath _ _ f ha hb, star_back ti hle hne hlt hT])
  have hne2 := abs_fold (S := S) (S' := S.alias i (S.mid i j) ids) (W := S.abs.add q p false) hok.rk (alN_flds S i (S.mid i j) _).2.2 (p := p) (by rw [vi]; exact hp) (by rw [hvl, vi, pr_ne ti])
    (fun a k => by
      rw [hvl, hvl, vi, pr_ne ti] at k
      rw [hvl]
      unfold pr at k ⊢
      split
      · rename_i w; rw [if_pos w] at k; exact absurd rfl k
      · rfl)
    (fun a => by rw [VS.eq_iff, VS.eq_iff, u2, u2])
  apply VS.ext'
  · exact u1
  · exact u2
  · exact u3
  · intro a b
    show _ ↔ S.abs.ne _ _ = true
    rw [hne2 a b]

/-- Two nodes that are not comparable become one; x's node stays. -/
theorem join_eff {S : PS} (h : OK S) (hsz : 3 * S.nodes.length + 10 < 2147483648) {x y r0 : Nat} (hx : S.vl (x + 1) ≠ 0) (hy : S.vl (y + 1) ≠ 0) (h1 : ¬ Le (Ed S.nd) (S.vl (x + 1)) (S.vl (y + 1))) (h2 : ¬ Le (Ed S.nd) (S.vl (y + 1)) (S.vl (x + 1)))
    (h0 : S.rt r0 = true) (h0x : Le (Ed S.nd) r0 (S.vl (x + 1))) (h0y : Le (Ed S.nd) r0 (S.vl (y + 1))) {ids : List Nat} (hn : ids.Nodup) (hids : ∀ id, id ∈ ids ↔ S.vl id ≠ 0) :
    OK (S.alias (S.vl (x + 1)) (setB (fun _ => false) (S.vl (y + 1))) ids) ∧ Rev S (S.alias (S.vl (x + 1)) (setB (fun _ => false) (S.vl (y + 1))) ids) ∧
      (S.alias (S.vl (x + 1)) (setB (fun _ => false) (S.vl (y + 1))) ids).abs = ((S.abs.add x y false).add y x false).fold x ∧
      (S.alias (S.vl (x + 1)) (setB (fun _ => false) (S.vl (y + 1))) ids).nodes.length ≤ 3 * S.nodes.length ∧ (S.alias (S.vl (x + 1)) (setB (fun _ => false) (S.vl (y + 1))) ids).lg.length ≤ S.lg.length + 8 * S.nodes.length + 13 := by
  obtain ⟨rk, hr⟩ := h.rk
  have li := h.va (x + 1)
  have lj := h.va (y + 1)
  have hmod := abs_mod S
  obtain ⟨i, vi⟩ : ∃ i, S.vl (x + 1) = i := ⟨_, rfl⟩
  obtain ⟨j, vj⟩ : ∃ j, S.vl (y + 1) = j := ⟨_, rfl⟩
  rw [vi] at hx h1 h2 h0x li
  rw [vj] at hy h1 h2 h0y lj
  rw [vi, vj]
  have hij : i ≠ j := by rintro rfl; exact h1 (Le.refl _)
  have hT : ∀ z, setB (fun _ => false) j z = true ↔ z = j := by intro z; simp [setB]
  have ti : setB (fun _ => false) j i = false := by simp [setB, hij]
  have hK : ∀ z, inK (setB (fun _ => false) j) i z ↔ z = j ∨ z = i := by intro z; unfold inK; rw [hT]
  have H : AlK S i (setB (fun _ => false) j) r0 := {
    wf := h.toWF0
    nz := h.nz
    i0 := hx
    il := li
    ti := ti
    t0 := by simp [setB, Ne.symm hy]
    sz := hsz
    bk := fun t s k e => by rw [hT] at k; subst k; exact h2 (PE.one e).le
    ns := fun a b s ka kb e => by
      rw [hK] at ka kb
      rcases ka with rfl | rfl <;> rcases kb with rfl | rfl
      · exact absurd rfl (hr.ne e)
      · exact absurd (PE.one e).le h2
      · exact absurd (PE.one e).le h1
      · exact absurd rfl (hr.ne e)
    cv := fun a b c ka kc k1 k2 => by
      rw [hK] at ka kc
      rw [hK]
      rcases ka with rfl | rfl <;> rcases kc with rfl | rfl
      · exact .inl (hr.anti k2 k1)
      · exact absurd (k1.trans k2) h2
      · exact absurd (k1.trans k2) h1
      · exact .inr (hr.anti k2 k1)
    tl := fun z k => by rw [hT] at k; subst k; exact lj
    nr := fun z k => by
      rw [hT] at k; subst k
      cases e : S.rt z
      · rfl
      · have := h.rs.dj h0 e h0y (Le.refl z)
        subst this
        exact absurd h0x h2
    h0 := h0
    ur := fun z k => by
      rw [hK] at k
      rcases k with rfl | rfl
      · exact h0y
      · exact h0x }
  obtain ⟨hok, hpath⟩ := alias_ok h H hids
  have hs := alias_size h.toCore H.toAlH hn hids
  have hvl := fun id => alias_vl (S := S) (i1 := i) (T := setB (fun _ => false) j) H.t0 hids id
  refine ⟨hok, Rev.alias H.toAlH hn, ?_, hs.1, hs.2⟩
  have pr0 : ∀ z, pr (setB (fun _ => false) j) i z = 0 ↔ z = 0 := by
    intro z; unfold pr; split
    · rename_i k
      rw [hT] at k
      exact ⟨fun e => absurd e hx, fun e => absurd (k ▸ e) hy⟩
    · exact Iff.rfl
  have hm1 : Mod (S.abs.add x y false) (fun a => S.vl (a + 1)) (addR (Ed S.nd) i j false) := by
    have := hmod.add (x := x) (y := y) (s := false) (by show S.vl (x + 1) ≠ 0; rw [vi]; exact hx) (by show S.vl (y + 1) ≠ 0; rw [vj]; exact hy) (by
      intro g k
      have k : PE (Ed S.nd) (S.vl (y + 1)) (S.vl (x + 1)) g := k
      rw [vi, vj] at k
      exact absurd k.le h2)
    simpa only [vi, vj] using this
  have hm2 : Mod ((S.abs.add x y false).add y x false) (fun a => S.vl (a + 1)) (addR (addR (Ed S.nd) i j false) j i false) := by
    have := hm1.add (x := y) (y := x) (s := false) (by show S.vl (y + 1) ≠ 0; rw [vj]; exact hy) (by show S.vl (x + 1) ≠ 0; rw [vi]; exact hx) (by
      intro g k
      have k : PE _ (S.vl (x + 1)) (S.vl (y + 1)) g := k
      rw [vi, vj] at k
      rcases (add_iff fun g k => absurd k.le h2).1 k with k | ⟨f1, f2, k1, k2, rfl⟩
      · exact absurd k.le h1
      · rw [hr.self k1, hr.self k2]; exact ⟨rfl, rfl⟩)
    simpa only [vi, vj] using this
  obtain ⟨u1, u2, u3⟩ := hm2.uniq (abs_mod (S.alias i (setB (fun _ => false) j) ids)) (fun a => by show (S.alias i _ ids).vl (a + 1) = 0 ↔ _; rw [hvl]; exact pr0 _) (fun a b f ha hb => by
    show PE _ ((S.alias i _ ids).vl (a + 1)) ((S.alias i _ ids).vl (b + 1)) f ↔ _
    rw [hvl, hvl, hpath _ _ f ha hb, star_two hT])
  have hne2 := abs_fold (S := S) (S' := S.alias i (setB (fun _ => false) j) ids) (W := (S.abs.add x y false).add y x false) hok.rk (alN_flds S i _ _).2.2 (p := x) (by rw [vi]; exact hx) (by rw [hvl, vi, pr_ne ti])
    (fun a k => by
      rw [hvl, hvl, vi, pr_ne ti] at k
      rw [hvl]
      unfold pr at k ⊢
      split
      · rename_i w; rw [if_pos w] at k; exact absurd rfl k
      · rfl)
    (fun a => by rw [VS.eq_iff, VS.eq_iff, u2, u2])
  apply VS.ext'
  · exact u1
  · exact u2
  · exact u3
  · intro a b
    show _ ↔ S.abs.ne _ _ = true
    rw [hne2 a b]
end Go.Proofs.Ytapnmgkpljlgmaa
namespace Go.Proofs.Ytapnmgkpljlgmaa

theorem addRoot_core {S : PS} (h : Core S) {i : Nat} (hi : i < S.nodes.length) (h0 : i ≠ 0) : Core (S.addRoot i) := by
  refine Core.push (S := { S with rt := upd S.rt i true }) (h.rts (fun r hr => ?_) ?_) _
  · unfold upd at hr
    split at hr
    · rename_i e; rw [e]; exact hi
    · exact h.ro r hr
  · unfold upd; rw [if_neg (Ne.symm h0)]; exact h.r0
theorem swapRoot_core {S : PS} (h : Core S) {o e : Nat} (st : Bool) (he : e < S.nodes.length) (h0 : e ≠ 0) : Core (S.swapRoot o e st) := by
  refine Core.push (S := { S with rt := upd (upd S.rt o false) e true }) (h.rts (fun r hr => ?_) ?_) _
  · unfold upd at hr
    split at hr
    · rename_i q; rw [q]; exact he
    · split at hr
      · cases hr
      · exact h.ro r hr
  · unfold upd; rw [if_neg (Ne.symm h0)]
    split
    · rfl
    · exact h.r0
theorem touch_add {V : VS} {x y : Nat} {s : Bool} : ((V.touch x).touch y).add x y s = V.add x y s ∧ (V.touch x).add x y s = V.add x y s ∧ (V.touch y).add x y s = V.add x y s := by
  refine ⟨VS.ext' (fun a => ?_) (fun _ _ => Iff.rfl) (fun _ _ => Iff.rfl) fun _ _ => Iff.rfl, VS.ext' (fun a => ?_) (fun _ _ => Iff.rfl) (fun _ _ => Iff.rfl) fun _ _ => Iff.rfl, VS.ext' (fun a => ?_) (fun _ _ => Iff.rfl) (fun _ _ => Iff.rfl) fun _ _ => Iff.rfl⟩
  · simp only [VS.add_kn, touch_kn]
    exact ⟨fun q => q.elim (fun q => q.elim (fun q => q.elim .inl fun q => .inr (.inl q)) fun q => .inr (.inr q)) .inr, fun q => q.elim (fun q => .inl (.inl (.inl q))) .inr⟩
  · simp only [VS.add_kn, touch_kn]
    exact ⟨fun q => q.elim (fun q => q.elim .inl fun q => .inr (.inl q)) .inr, fun q => q.elim (fun q => .inl (.inl q)) .inr⟩
  · simp only [VS.add_kn, touch_kn]
    exact ⟨fun q => q.elim (fun q => q.elim .inl fun q => .inr (.inr q)) .inr, fun q => q.elim (fun q => .inl (.inl q)) .inr⟩
theorem addchild_sz {S : PS} (h : WF0 S) (i c : Nat) (st : Bool) (hi : i < S.nodes.length) (hc : c < S.nodes.length) (hs : S.nodes.length + 1 < 2147483648) :
    (S.addchild i c st).nodes.length ≤ S.nodes.length + 1 ∧ (S.addchild i c st).lg.length ≤ S.lg.length + 2 ∧ S.nodes.length ≤ (S.addchild i c st).nodes.length := by
  obtain ⟨_, a, b, c, _⟩ := addchild_facts h i c st hi hc hs
  exact ⟨a, c, b⟩
theorem newV_vl (S : PS) (x j : Nat) : (S.newV x).vl j = if j = x then S.last + 1 else S.vl j := rfl
theorem newV_len (S : PS) (x : Nat) : (S.newV x).nodes.length = S.nodes.length + 1 := by simp [PS.newV]

/-- Where one of the two has no node, nothing is known of them. -/
theorem un_known {S : PS} {x y : Nat} (hxy : x ≠ y) (h : S.vl (x + 1) = 0 ∨ S.vl (y + 1) = 0) : S.abs.le x y ≠ true ∧ S.abs.le y x ≠ true ∧ S.abs.lt x y ≠ true ∧ S.abs.lt y x ≠ true ∧ S.abs.ne x y ≠ true ∧ S.abs.ne y x ≠ true ∧ S.abs.eq x y ≠ true := by
  have h1 : S.abs.le x y ≠ true := by rw [Ne, abs_le_un h]; exact hxy
  refine ⟨h1, ?_, ?_, ?_, ?_, ?_, fun q => h1 (VS.eq_iff.1 q).1⟩
  · rw [Ne, abs_le_un h.symm]; exact hxy.symm
  · rw [Ne, abs_lt]; rintro ⟨a, b, _⟩; rcases h with h | h <;> contradiction
  · rw [Ne, abs_lt]; rintro ⟨a, b, _⟩; rcases h with h | h <;> contradiction
  · rw [Ne, abs_ne]; rintro ⟨a, b, _⟩; rcases h with h | h <;> contradiction
  · rw [Ne, abs_ne]; rintro ⟨a, b, _⟩; rcases h with h | h <;> contradiction
theorem setO_un {S : PS} {x y : Nat} (hxy : x ≠ y) (h : S.vl (x + 1) = 0 ∨ S.vl (y + 1) = 0) (st : Bool) : S.abs.setO x y st = (S.abs.add x y st, true) := by
  obtain ⟨a, b, _, _, c, _, d⟩ := un_known hxy h
  have c' : S.abs.ne x y = false := by simpa using c
  unfold VS.setO
  rw [if_neg d, if_neg a, if_neg b, c', Bool.or_false]

theorem ordNew_eff {S : PS} (h : OK S) (hsz : S.nodes.length + 10 < 2147483648) {x y : Nat} (hxy : x ≠ y) (hxl : x < 12) (hyl : y < 12) (hx : S.vl (x + 1) = 0) (hy : S.vl (y + 1) = 0) (st : Bool) : Eff S (S.ordNew (x + 1) (y + 1) st) (S.abs.add x y st) x y := by
  have hla := h.la
  have hp := h.pos
  have hyx : y + 1 ≠ x + 1 := by omega
  have c1 : Core (S.newV (x + 1)) := h.toCore.newV (by omega) (by omega)
  have hy1 : (S.newV (x + 1)).vl (y + 1) = 0 := by rw [newV_vl, if_neg hyx]; exact hy
  have c2 : Core ((S.newV (x + 1)).newV (y + 1)) := c1.newV (by omega) (by rw [newV_len]; omega)
  have l2 : ((S.newV (x + 1)).newV (y + 1)).nodes.length = S.nodes.length + 2 := by rw [newV_len, newV_len]
  have n2 : ((S.newV (x + 1)).newV (y + 1)).nd = S.nd := (newV_nd _ _).trans (newV_nd _ _)
  have r2 : ((S.newV (x + 1)).newV (y + 1)).rt = S.rt := rfl
  have c3 : Core (((S.newV (x + 1)).newV (y + 1)).addRoot (S.last + 1)) := addRoot_core c2 (by rw [l2]; omega) (by omega)
  have vx : (((S.newV (x + 1)).newV (y + 1)).addRoot (S.last + 1)).vl (x + 1) = S.last + 1 := by
    show ((S.newV (x + 1)).newV (y + 1)).vl (x + 1) = _
    rw [newV_vl, if_neg (Ne.symm hyx), newV_vl, if_pos rfl]
  have vy : (((S.newV (x + 1)).newV (y + 1)).addRoot (S.last + 1)).vl (y + 1) = S.last + 2 := by
    show ((S.newV (x + 1)).newV (y + 1)).vl (y + 1) = _
    rw [newV_vl, if_pos rfl]; rfl
  have a3 : (((S.newV (x + 1)).newV (y + 1)).addRoot (S.last + 1)).abs = (S.abs.touch x).touch y := by
    rw [← abs_newV h.toCore hx, ← abs_newV c1 hy1]
    exact abs_same rfl rfl rfl
  have n3 : (((S.newV (x + 1)).newV (y + 1)).addRoot (S.last + 1)).nd = S.nd := n2
  have l3 : (((S.newV (x + 1)).newV (y + 1)).addRoot (S.last + 1)).nodes.length = S.nodes.length + 2 := l2
  have t3 : ∀ r, (((S.newV (x + 1)).newV (y + 1)).addRoot (S.last + 1)).rt r = true ↔ r = S.last + 1 ∨ S.rt r = true := by
    intro r
    show upd S.rt (S.last + 1) true r = true ↔ _
    unfold upd
    by_cases e : r = S.last + 1 <;> simp [e]
  have v3 : ∀ j, (((S.newV (x + 1)).newV (y + 1)).addRoot (S.last + 1)).vl j = if j = y + 1 then S.last + 2 else if j = x + 1 then S.last + 1 else S.vl j := fun j => rfl
  have g3 : (((S.newV (x + 1)).newV (y + 1)).addRoot (S.last + 1)).lg.length = S.lg.length + 3 := by simp [PS.addRoot, PS.push, PS.newV]
  have rev3 : Rev S (((S.newV (x + 1)).newV (y + 1)).addRoot (S.last + 1)) :=
    ((Rev.newV h.toWF0 (by omega) hx (by omega)).trans (Rev.newV c1.toWF0 (by omega) hy1 (by rw [newV_len]; omega))).trans (Rev.addRoot (by rw [l2]; omega) (by rw [n2]; exact nd_nil h.toWF0 (by omega)) h.rt_new)
  have e : S.ordNew (x + 1) (y + 1) st = (((S.newV (x + 1)).newV (y + 1)).addRoot (S.last + 1)).addchild (S.last + 1) (S.last + 2) st := rfl
  rw [e]
  generalize ((S.newV (x + 1)).newV (y + 1)).addRoot (S.last + 1) = U at *
  have fr1 : ∀ b, Le (Ed U.nd) (S.last + 1) b → b = S.last + 1 := fun b k => (h.fresh (x := S.last + 1) (b := b) (by omega)).1 (by rw [n3] at k; exact k)
  have fr2 : ∀ b, Le (Ed U.nd) b (S.last + 1) → b = S.last + 1 := fun b k => (h.fresh (x := S.last + 1) (b := b) (by omega)).2 (by rw [n3] at k; exact k)
  have fr3 : ∀ b, Le (Ed U.nd) (S.last + 2) b → b = S.last + 2 := fun b k => (h.fresh (x := S.last + 2) (b := b) (by omega)).1 (by rw [n3] at k; exact k)
  have fr4 : ∀ b, Le (Ed U.nd) b (S.last + 2) → b = S.last + 2 := fun b k => (h.fresh (x := S.last + 2) (b := b) (by omega)).2 (by rw [n3] at k; exact k)
  have hn : ¬ Le (Ed U.nd) (S.last + 2) (S.last + 1) := fun k => by have := fr2 _ k; omega
  obtain ⟨s1, s2, _⟩ := addchild_sz c3.toWF0 (S.last + 1) (S.last + 2) st (by rw [l3]; omega) (by rw [l3]; omega) (by rw [l3]; omega)
  refine ⟨⟨c3.addchild st (by omega) (by omega) (by omega) (by omega) hn (by omega), ?_⟩, rev3.trans (Rev.addchild c3.toWF0 st (by omega) (by omega)), ?_, .inl ⟨by omega, by omega⟩⟩
  · refine addchild_roots (r0 := S.last + 1) c3 st (by omega) (by omega) (by omega) hn (by omega) ((t3 _).2 (.inl rfl)) (Le.refl _) ?_ ?_ ?_
    · intro r z hr k1 k2
      have hz := fr3 z k1
      subst hz
      have hz := fr4 r k2
      subst hz
      rcases (t3 _).1 hr with q | q
      · exact q
      · have := h.ro _ q; omega
    · intro r1 r2 z q1 q2 k1 k2
      rcases (t3 _).1 q1 with rfl | q1 <;> rcases (t3 _).1 q2 with rfl | q2
      · rfl
      · have := fr1 z k1; subst this
        exact (fr2 r2 k2).symm
      · have := fr1 z k2; subst this
        exact fr2 r1 k1
      · rw [n3] at k1 k2; exact h.rs.dj q1 q2 k1 k2
    · intro z hz
      by_cases e1 : z = S.last + 1
      · exact .inr (.inr ⟨S.last + 1, (t3 _).2 (.inl rfl), e1 ▸ Le.refl _⟩)
      · by_cases e2 : z = S.last + 2
        · exact .inr (.inl (e2 ▸ Le.refl _))
        · have hl : live S z := by
            rcases hz with ⟨q1, id, q2⟩ | q
            · rw [v3] at q2
              split at q2
              · omega
              · split at q2
                · omega
                · exact .inl ⟨q1, id, q2⟩
            · rw [n3] at q; exact .inr q
          obtain ⟨r, q1, q2⟩ := h.under hl
          exact .inr (.inr ⟨r, (t3 _).2 (.inr q1), by rw [n3]; exact q2⟩)
  · have := abs_addchild c3 (x := x) (y := y) st (by rw [vx]; omega) (by rw [vy]; omega) (by rw [vx, vy]; exact hn) (by omega)
    rw [vx, vy, a3, touch_add.1] at this
    exact this

theorem ordR_eff {S : PS} (h : OK S) (hsz : S.nodes.length + 10 < 2147483648) {x y : Nat} (hxy : x ≠ y) (hyl : y < 12) (hx : S.vl (x + 1) ≠ 0) (hy : S.vl (y + 1) = 0) (st : Bool) : Eff S (S.ordR (x + 1) (y + 1) st) (S.abs.add x y st) x y := by
  have hla := h.la
  have hp := h.pos
  have hyx : y + 1 ≠ x + 1 := by omega
  have c1 : Core (S.newV (y + 1)) := h.toCore.newV (by omega) (by omega)
  have l1 : (S.newV (y + 1)).nodes.length = S.nodes.length + 1 := newV_len _ _
  have n1 : (S.newV (y + 1)).nd = S.nd := newV_nd _ _
  have t1 : (S.newV (y + 1)).rt = S.rt := rfl
  have vx : (S.newV (y + 1)).vl (x + 1) = S.vl (x + 1) := by rw [newV_vl, if_neg (Ne.symm hyx)]
  have vy : (S.newV (y + 1)).vl (y + 1) = S.last + 1 := by rw [newV_vl, if_pos rfl]
  have v1 := newV_vl S (y + 1)
  have a1 := abs_newV h.toCore hy
  have g1 : (S.newV (y + 1)).lg.length = S.lg.length + 1 := rfl
  have rev1 : Rev S (S.newV (y + 1)) := Rev.newV h.toWF0 (by omega) hy (by omega)
  have e : S.ordR (x + 1) (y + 1) st = (S.newV (y + 1)).addchild (S.vl (x + 1)) (S.last + 1) st := rfl
  rw [e]
  obtain ⟨r0, h01, h02⟩ := h.val hx
  have li := h.va (x + 1)
  generalize S.newV (y + 1) = U at *
  have fr1 : ∀ b, Le (Ed U.nd) (S.last + 1) b → b = S.last + 1 := fun b k => (h.fresh (x := S.last + 1) (b := b) (by omega)).1 (by rw [n1] at k; exact k)
  have fr2 : ∀ b, Le (Ed U.nd) b (S.last + 1) → b = S.last + 1 := fun b k => (h.fresh (x := S.last + 1) (b := b) (by omega)).2 (by rw [n1] at k; exact k)
  have hn : ¬ Le (Ed U.nd) (S.last + 1) (S.vl (x + 1)) := fun k => by have := fr1 _ k; omega
  obtain ⟨s1, s2, _⟩ := addchild_sz c1.toWF0 (S.vl (x + 1)) (S.last + 1) st (by omega) (by omega) (by omega)
  refine ⟨⟨c1.addchild st (by omega) (by omega) hx (by omega) hn (by omega), ?_⟩, rev1.trans (Rev.addchild c1.toWF0 st (by omega) (by omega)), ?_, .inl ⟨by omega, by omega⟩⟩
  · refine addchild_roots (r0 := r0) c1 st (by omega) (by omega) (by omega) hn (by omega) (by rw [t1]; exact h01) (by rw [n1]; exact h02) ?_ ?_ ?_
    · intro r z hr k1 k2
      have hz := fr1 z k1
      subst hz
      have hz := fr2 r k2
      subst hz
      rw [t1] at hr
      have := h.ro _ hr; omega
    · intro r1 r2 z q1 q2 k1 k2
      rw [t1] at q1 q2
      rw [n1] at k1 k2; exact h.rs.dj q1 q2 k1 k2
    · intro z hz
      by_cases e2 : z = S.last + 1
      · exact .inr (.inl (e2 ▸ Le.refl _))
      · have hl : live S z := by
          rcases hz with ⟨q1, id, q2⟩ | q
          · rw [v1] at q2
            split at q2
            · omega
            · exact .inl ⟨q1, id, q2⟩
          · rw [n1] at q; exact .inr q
        obtain ⟨r, q1, q2⟩ := h.under hl
        exact .inr (.inr ⟨r, by rw [t1]; exact q1, by rw [n1]; exact q2⟩)
  · have := abs_addchild c1 (x := x) (y := y) st (by rw [vx]; exact hx) (by rw [vy]; omega) (by rw [vx, vy]; exact hn) (by omega)
    rw [vx, vy, a1, touch_add.2.2] at this
    exact this

theorem ordL_eff {S : PS} (h : OK S) (hsz : S.nodes.length + 10 < 2147483648) {x y : Nat} (hxy : x ≠ y) (hxl : x < 12) (hx : S.vl (x + 1) = 0) (hy : S.vl (y + 1) ≠ 0) (hr : S.rt (S.vl (y + 1)) = true) (st : Bool) : Eff S (S.ordL (x + 1) (y + 1) st) (S.abs.add x y st) x y := by
  have hla := h.la
  have hp := h.pos
  have hyx : y + 1 ≠ x + 1 := by omega
  have lj := h.va (y + 1)
  have c1 : Core (S.newV (x + 1)) := h.toCore.newV (by omega) (by omega)
  have c2 : Core ((S.newV (x + 1)).swapRoot (S.vl (y + 1)) (S.last + 1) st) := swapRoot_core c1 st (by rw [newV_len]; omega) (by omega)
  have l1 : ((S.newV (x + 1)).swapRoot (S.vl (y + 1)) (S.last + 1) st).nodes.length = S.nodes.length + 1 := newV_len S (x + 1)
  have n1 : ((S.newV (x + 1)).swapRoot (S.vl (y + 1)) (S.last + 1) st).nd = S.nd := newV_nd S (x + 1)
  have t1 : ∀ r, ((S.newV (x + 1)).swapRoot (S.vl (y + 1)) (S.last + 1) st).rt r = true ↔ r = S.last + 1 ∨ (S.rt r = true ∧ r ≠ S.vl (y + 1)) := by
    intro r
    show upd (upd S.rt (S.vl (y + 1)) false) (S.last + 1) true r = true ↔ _
    unfold upd
    by_cases e : r = S.last + 1
    · simp [e]
    · by_cases e2 : r = S.vl (y + 1) <;> simp [e, e2] <;> omega
  have v1 : ∀ j, ((S.newV (x + 1)).swapRoot (S.vl (y + 1)) (S.last + 1) st).vl j = if j = x + 1 then S.last + 1 else S.vl j := fun j => rfl
  have a1 : ((S.newV (x + 1)).swapRoot (S.vl (y + 1)) (S.last + 1) st).abs = S.abs.touch x := by
    rw [← abs_newV h.toCore hx]
    exact abs_same rfl rfl rfl
  have g1 : ((S.newV (x + 1)).swapRoot (S.vl (y + 1)) (S.last + 1) st).lg.length = S.lg.length + 2 := rfl
  have rev1 : Rev S ((S.newV (x + 1)).swapRoot (S.vl (y + 1)) (S.last + 1) st) :=
    (Rev.newV h.toWF0 (by omega) hx (by omega)).trans (Rev.swapRoot st (by rw [newV_len]; omega) (by rw [newV_nd]; exact nd_nil h.toWF0 (by omega)) hr h.rt_new)
  have e : S.ordL (x + 1) (y + 1) st = ((S.newV (x + 1)).swapRoot (S.vl (y + 1)) (S.last + 1) st).addchild (S.last + 1) (S.vl (y + 1)) st := rfl
  rw [e]
  generalize (S.newV (x + 1)).swapRoot (S.vl (y + 1)) (S.last + 1) st = U at *
  have fr1 : ∀ b, Le (Ed U.nd) (S.last + 1) b → b = S.last + 1 := fun b k => (h.fresh (x := S.last + 1) (b := b) (by omega)).1 (by rw [n1] at k; exact k)
  have fr2 : ∀ b, Le (Ed U.nd) b (S.last + 1) → b = S.last + 1 := fun b k => (h.fresh (x := S.last + 1) (b := b) (by omega)).2 (by rw [n1] at k; exact k)
  have hn : ¬ Le (Ed U.nd) (S.vl (y + 1)) (S.last + 1) := fun k => by have := fr2 _ k; omega
  have vx : U.vl (x + 1) = S.last + 1 := by rw [v1, if_pos rfl]
  have vy : U.vl (y + 1) = S.vl (y + 1) := by rw [v1, if_neg hyx]
  obtain ⟨s1, s2, _⟩ := addchild_sz c2.toWF0 (S.last + 1) (S.vl (y + 1)) st (by omega) (by omega) (by omega)
  refine ⟨⟨c2.addchild st (by omega) (by omega) (by omega) hy hn (by omega), ?_⟩, rev1.trans (Rev.addchild c2.toWF0 st (by omega) (by omega)), ?_, .inl ⟨by omega, by omega⟩⟩
  · refine addchild_roots (r0 := S.last + 1) c2 st (by omega) (by omega) hy hn (by omega) ((t1 _).2 (.inl rfl)) (Le.refl _) ?_ ?_ ?_
    · intro r z hr' k1 k2
      rcases (t1 r).1 hr' with q | ⟨q1, q2⟩
      · exact q
      · rw [n1] at k1 k2
        exact absurd (h.rs.dj q1 hr k2 k1) q2
    · intro r1 r2 z q1 q2 k1 k2
      rcases (t1 r1).1 q1 with rfl | ⟨q1, _⟩ <;> rcases (t1 r2).1 q2 with rfl | ⟨q2, _⟩
      · rfl
      · have := fr1 z k1; subst this
        exact (fr2 r2 k2).symm
      · have := fr1 z k2; subst this
        exact fr2 r1 k1
      · rw [n1] at k1 k2; exact h.rs.dj q1 q2 k1 k2
    · intro z hz
      by_cases e2 : z = S.last + 1
      · exact .inr (.inr ⟨_, (t1 _).2 (.inl rfl), e2 ▸ Le.refl _⟩)
      · have hl : live S z := by
          rcases hz with ⟨q1, id, q2⟩ | q
          · rw [v1] at q2
            split at q2
            · omega
            · exact .inl ⟨q1, id, q2⟩
          · rw [n1] at q; exact .inr q
        obtain ⟨r, q1, q2⟩ := h.under hl
        by_cases e3 : r = S.vl (y + 1)
        · exact .inr (.inl (by rw [n1, ← e3]; exact q2))
        · exact .inr (.inr ⟨r, (t1 _).2 (.inr ⟨q1, e3⟩), by rw [n1]; exact q2⟩)
  · have := abs_addchild c2 (x := x) (y := y) st (by rw [vx]; omega) (by rw [vy]; exact hy) (by rw [vx, vy]; exact hn) (by omega)
    rw [vx, vy, a1, touch_add.2.1] at this
    exact this

/-- A child for a node that nothing leads to and that is no value's: what is known of the values stays. -/
theorem addchild_top {S : PS} (h : Core S) {e c : Nat} (st : Bool) (he : e < S.nodes.length) (hc : c < S.nodes.length) (hc0 : c ≠ 0) (hce : c ≠ e) (ht : ∀ a, Le (Ed S.nd) a e → a = e) {a b : Nat} {f : Bool} (ha : a < S.nodes.length) (hb : b < S.nodes.length) (hae : a ≠ e) :
    PE (Ed (S.addchild e c st).nd) a b f ↔ PE (Ed S.nd) a b f := by
  rw [addchild_new h.toWF0 st he hc hc0 (fun k => hce (ht c k)) ha hb]
  exact ⟨fun q => q.elim id fun ⟨f1, f2, q1, _⟩ => absurd (ht a q1.le) hae, .inl⟩
theorem addchild_top_abs {S : PS} (h : Core S) {e c : Nat} (st : Bool) (he : e < S.nodes.length) (hc : c < S.nodes.length) (hc0 : c ≠ 0) (hce : c ≠ e) (ht : ∀ a, Le (Ed S.nd) a e → a = e) (hv : ∀ id, S.vl id ≠ e) (hs : S.nodes.length + 1 < 2147483648) :
    (S.addchild e c st).abs = S.abs := by
  obtain ⟨f1, f2, f3, f4, f5, f6, f7, f8⟩ := addchild_facts h.toWF0 e c st he hc hs
  exact abs_congr f6 f8 fun a b f _ _ => addchild_top h st he hc hc0 hce ht (h.va a) (h.va b) (hv a)

set_option maxHeartbeats 400000 in
theorem ordX_eff {S : PS} (h : OK S) (hsz : S.nodes.length + 10 < 2147483648) {x y r : Nat} (hxy : x ≠ y) (hxl : x < 12) (hx : S.vl (x + 1) = 0) (hy : S.vl (y + 1) ≠ 0) (hr : S.rt r = true) (hry : Le (Ed S.nd) r (S.vl (y + 1))) (st : Bool) : Eff S (S.ordX (x + 1) (y + 1) r st) (S.abs.add x y st) x y := by
  have hla := h.la
  have hp := h.pos
  have hyx : y + 1 ≠ x + 1 := by omega
  have lj := h.va (y + 1)
  have lr := h.ro r hr
  have r0 : r ≠ 0 := by rintro rfl; rw [h.r0] at hr; cases hr
  have c1 : Core (S.newV (x + 1)) := h.toCore.newV (by omega) (by omega)
  have c1' : Core (S.newV (x + 1)).newX := c1.newX (by rw [newV_len]; omega)
  have l1' : (S.newV (x + 1)).newX.nodes.length = S.nodes.length + 2 := by rw [newX_len, newV_len]
  have c2 : Core ((S.newV (x + 1)).newX.swapRoot r (S.last + 2) false) := swapRoot_core c1' false (by omega) (by omega)
  have l2 : ((S.newV (x + 1)).newX.swapRoot r (S.last + 2) false).nodes.length = S.nodes.length + 2 := l1'
  have n1' : (S.newV (x + 1)).newX.nd = S.nd := (newX_ndf _).trans (newV_nd _ _)
  have n2 : ((S.newV (x + 1)).newX.swapRoot r (S.last + 2) false).nd = S.nd := n1'
  have t2 : ∀ s, ((S.newV (x + 1)).newX.swapRoot r (S.last + 2) false).rt s = true ↔ s = S.last + 2 ∨ (S.rt s = true ∧ s ≠ r) := by
    intro s
    show upd (upd S.rt r false) (S.last + 2) true s = true ↔ _
    unfold upd
    by_cases e : s = S.last + 2
    · simp [e]
    · by_cases e2 : s = r <;> simp [e, e2] <;> omega
  have v2 : ∀ j, ((S.newV (x + 1)).newX.swapRoot r (S.last + 2) false).vl j = if j = x + 1 then S.last + 1 else S.vl j := fun j => rfl
  have a2 : ((S.newV (x + 1)).newX.swapRoot r (S.last + 2) false).abs = S.abs.touch x := by
    rw [← abs_newV h.toCore hx]
    exact abs_same rfl rfl (n2.trans (newV_nd _ _).symm)
  have g2 : ((S.newV (x + 1)).newX.swapRoot r (S.last + 2) false).lg.length = S.lg.length + 3 := rfl
  have hnew : (S.newV (x + 1)).newX.rt (S.last + 2) = false := by
    show S.rt (S.last + 2) = false
    cases e : S.rt (S.last + 2)
    · rfl
    · have := h.ro _ e; omega
  have rev2 : Rev S ((S.newV (x + 1)).newX.swapRoot r (S.last + 2) false) :=
    ((Rev.newV h.toWF0 (by omega) hx (by omega)).trans (Rev.newX c1.toWF0 (by rw [newV_len]; omega))).trans (Rev.swapRoot false (by omega) (by rw [n1']; exact nd_nil h.toWF0 (by omega)) hr hnew)
  have e : S.ordX (x + 1) (y + 1) r st = ((((S.newV (x + 1)).newX.swapRoot r (S.last + 2) false).addchild (S.last + 2) r false).addchild (S.last + 2) (S.last + 1) false).addchild (S.last + 1) (S.vl (y + 1)) st := rfl
  rw [e]
  generalize (S.newV (x + 1)).newX.swapRoot r (S.last + 2) false = U at *
  have vU : ∀ id, U.vl id < U.nodes.length ∧ U.vl id ≠ S.last + 2 := by
    intro id; rw [v2, l2]
    split
    · omega
    · have := h.va id; omega
  have fr : ∀ z, S.nodes.length ≤ z → ∀ b, (Le (Ed U.nd) z b → b = z) ∧ (Le (Ed U.nd) b z → b = z) := fun z hz b => by rw [n2]; exact h.fresh hz
  -- the new root takes the old one below it
  have ht2 : ∀ a, Le (Ed U.nd) a (S.last + 2) → a = S.last + 2 := fun a k => (fr _ (by omega) a).2 k
  have hn2 : ¬ Le (Ed U.nd) r (S.last + 2) := fun k => by have := ht2 _ k; omega
  obtain ⟨s31, s32, s33⟩ := addchild_sz c2.toWF0 (S.last + 2) r false (by omega) (by omega) (by omega)
  have c3 := c2.addchild false (i := S.last + 2) (c := r) (by omega) (by omega) (by omega) r0 hn2 (by omega)
  have rs3 : Roots (U.addchild (S.last + 2) r false) (fun z => z = S.last + 1) := by
    refine addchild_roots (r0 := S.last + 2) c2 false (by omega) (by omega) r0 hn2 (by omega) ((t2 _).2 (.inl rfl)) (Le.refl _) ?_ ?_ ?_
    · intro s z hs k1 k2
      rcases (t2 s).1 hs with q | ⟨q1, q2⟩
      · exact q
      · rw [n2] at k1 k2
        exact absurd (h.rs.dj q1 hr k2 k1) q2
    · intro r1 r2 z q1 q2 k1 k2
      rcases (t2 r1).1 q1 with rfl | ⟨q1, _⟩ <;> rcases (t2 r2).1 q2 with rfl | ⟨q2, _⟩
      · rfl
      · have := (fr _ (by omega) z).1 k1; subst this
        exact ((fr _ (by omega) r2).2 k2).symm
      · have := (fr _ (by omega) z).1 k2; subst this
        exact (fr _ (by omega) r1).2 k1
      · rw [n2] at k1 k2; exact h.rs.dj q1 q2 k1 k2
    · intro z hz
      by_cases e2 : z = S.last + 1
      · exact .inl e2
      · have hl : live S z := by
          rcases hz with ⟨q1, id, q2⟩ | q
          · rw [v2] at q2
            split at q2
            · omega
            · exact .inl ⟨q1, id, q2⟩
          · rw [n2] at q; exact .inr q
        obtain ⟨s, q1, q2⟩ := h.under hl
        by_cases e3 : s = r
        · exact .inr (.inl (by rw [n2, ← e3]; exact q2))
        · exact .inr (.inr ⟨s, (t2 _).2 (.inr ⟨q1, e3⟩), by rw [n2]; exact q2⟩)
  have p3 : ∀ {a b f}, a < U.nodes.length → b < U.nodes.length → a ≠ S.last + 2 → (PE (Ed (U.addchild (S.last + 2) r false).nd) a b f ↔ PE (Ed U.nd) a b f) := fun ha hb hae => addchild_top c2 false (by omega) (by omega) r0 (by omega) ht2 ha hb hae
  have q3 : ∀ {b f}, b < U.nodes.length → PE (Ed U.nd) r b f → Le (Ed (U.addchild (S.last + 2) r false).nd) (S.last + 2) b := fun hb k => ⟨_, (addchild_new c2.toWF0 false (by omega) (by omega) r0 hn2 (by omega) hb).2 (.inr ⟨_, _, .nil _, k, rfl⟩)⟩
  have a3 := addchild_top_abs c2 false (e := S.last + 2) (c := r) (by omega) (by omega) r0 (by omega) ht2 (fun id => (vU id).2) (by omega)
  obtain ⟨_, _, _, _, _, v3, t3, _⟩ := addchild_facts c2.toWF0 (S.last + 2) r false (by omega) (by omega) (by omega)
  have rev3 := rev2.trans (Rev.addchild c2.toWF0 (i := S.last + 2) (c := r) false (by omega) (by omega))
  have f3 := addchild_fan c2.toWF0 false (i := S.last + 2) (c := r) (by omega) (by omega) r0
  generalize U.addchild (S.last + 2) r false = W at *
  -- nothing leads to the new root, nor to x's node
  have noin : ∀ z, (z = S.last + 1 ∨ z = S.last + 2) → ∀ a, Le (Ed W.nd) a z → a = z := by
    rintro z hz a ⟨f, k⟩
    have hz1 : z < U.nodes.length := by omega
    by_cases ha : a < U.nodes.length
    · by_cases hae : a = S.last + 2
      · subst hae
        have k' := (f3.path (show S.last + 2 < U.nodes.length by omega) hz1).1 k
        generalize hw : S.last + 2 = w at k'
        cases k' with
        | nil => rfl
        | cons e k2 =>
          subst hw
          obtain ⟨hb, ⟨q, _⟩ | ⟨_, q | ⟨rfl, _⟩⟩⟩ := e
          · exact absurd rfl q
          · exfalso
            rw [n2] at q
            have := (h.rng _ _ _ q).1; omega
          · have k := (p3 (by omega) hz1 (by omega)).1 ((f3.path (by omega) hz1).2 k2)
            have := (fr z (by omega) _).2 k.le
            omega
      · exact (fr z (by omega) a).2 ((p3 ha hz1 hae).1 k).le
    · rcases c3.fresh (x := a) (b := z) with q
      have hla := k
      have : ∀ {a f}, PE (Ed W.nd) a z f → U.nodes.length ≤ a → False := by
        intro a f k ha
        cases k with
        | nil => omega
        | cons e k =>
          rename_i b s t
          -- what a new node leads to, the new root leads to
          by_cases hb : b < U.nodes.length
          · have hout := (f3.out b s hb).2 ⟨a, .inr ha, e⟩
            rcases hout with q | ⟨rfl, _⟩
            · rw [n2] at q
              have := (h.rng _ _ _ q).1; omega
            · have k := (p3 (by omega) hz1 (by omega)).1 k
              have := (fr z (by omega) _).2 k.le
              omega
          · have := f3.rng _ _ _ e
            have := (f3.inx _ _ _ e (by omega)).2
            omega
      exact (this k (by omega)).elim
  have hn3 : ¬ Le (Ed W.nd) (S.last + 1) (S.last + 2) := fun k => by have := noin _ (.inr rfl) _ k; omega
  obtain ⟨s41, s42, s43⟩ := addchild_sz c3.toWF0 (S.last + 2) (S.last + 1) false (by omega) (by omega) (by omega)
  have c4 := c3.addchild false (i := S.last + 2) (c := S.last + 1) (by omega) (by omega) (by omega) (by omega) hn3 (by omega)
  have t3' : ∀ s, W.rt s = true ↔ s = S.last + 2 ∨ (S.rt s = true ∧ s ≠ r) := fun s => by rw [t3]; exact t2 s
  have iso : ∀ z, Le (Ed W.nd) (S.last + 1) z → z < U.nodes.length → z = S.last + 1 := by
    rintro z ⟨f, k⟩ hz
    exact (fr _ (by omega) z).1 ((p3 (by omega) hz (by omega)).1 k).le
  have iso' : ∀ z, Le (Ed W.nd) (S.last + 1) z → z = S.last + 1 := by
    intro z k
    by_cases hz : z < U.nodes.length
    · exact iso z k hz
    · obtain ⟨f, k⟩ := k
      have := (fan_dead f3 k (by omega)).resolve_left (by omega)
      exact absurd this hn3
  have rs4 : Roots (W.addchild (S.last + 2) (S.last + 1) false) (fun _ => False) := by
    refine addchild_roots (r0 := S.last + 2) c3 false (by omega) (by omega) (by omega) hn3 (by omega) ((t3' _).2 (.inl rfl)) (Le.refl _) ?_ rs3.dj ?_
    · intro s z hs k1 k2
      have := iso' z k1; subst this
      have := noin _ (.inl rfl) s k2; subst this
      rcases (t3' _).1 hs with q | ⟨q, _⟩
      · omega
      · have := h.ro _ q; omega
    · intro z hz
      rcases rs3.lv z hz with q | q
      · exact .inr (.inl (q ▸ Le.refl _))
      · exact .inr (.inr q)
  have vW : ∀ id, W.vl id ≠ S.last + 2 := fun id => by rw [v3]; exact (vU id).2
  have a4 := addchild_top_abs c3 false (e := S.last + 2) (c := S.last + 1) (by omega) (by omega) (by omega) (by omega) (noin _ (.inr rfl)) vW (by omega)
  obtain ⟨_, _, _, _, _, v4, t4, _⟩ := addchild_facts c3.toWF0 (S.last + 2) (S.last + 1) false (by omega) (by omega) (by omega)
  have rev4 := rev3.trans (Rev.addchild c3.toWF0 (i := S.last + 2) (c := S.last + 1) false (by omega) (by omega))
  have p4 : ∀ {a b f}, a < W.nodes.length → b < W.nodes.length → a ≠ S.last + 2 → (PE (Ed (W.addchild (S.last + 2) (S.last + 1) false).nd) a b f ↔ PE (Ed W.nd) a b f) := fun ha hb hae => addchild_top c3 false (by omega) (by omega) (by omega) (by omega) (noin _ (.inr rfl)) ha hb hae
  have q4 : ∀ {a b f}, a < W.nodes.length → b < W.nodes.length → PE (Ed W.nd) a b f → PE (Ed (W.addchild (S.last + 2) (S.last + 1) false).nd) a b f := fun ha hb k => (addchild_new c3.toWF0 false (by omega) (by omega) (by omega) hn3 ha hb).2 (.inl k)
  have q4' : Le (Ed (W.addchild (S.last + 2) (S.last + 1) false).nd) (S.last + 2) (S.last + 1) := ⟨_, (addchild_new c3.toWF0 false (by omega) (by omega) (by omega) hn3 (by omega) (by omega)).2 (.inr ⟨_, _, .nil _, .nil _, rfl⟩)⟩
  generalize W.addchild (S.last + 2) (S.last + 1) false = Z at *
  have hn4 : ¬ Le (Ed Z.nd) (S.vl (y + 1)) (S.last + 1) := by
    rintro ⟨f, k⟩
    have := noin _ (.inl rfl) _ ((p4 (by omega) (by omega) (by omega)).1 k).le
    omega
  have vx : Z.vl (x + 1) = S.last + 1 := by rw [v4, v3, v2, if_pos rfl]
  have vy : Z.vl (y + 1) = S.vl (y + 1) := by rw [v4, v3, v2, if_neg hyx]
  have t4' : Z.rt (S.last + 2) = true := by rw [t4]; exact (t3' _).2 (.inl rfl)
  have huy : Le (Ed Z.nd) (S.last + 2) (S.vl (y + 1)) := by
    obtain ⟨f, k⟩ := hry
    obtain ⟨g, k⟩ := q3 (b := S.vl (y + 1)) (by omega) (by rw [n2]; exact k)
    exact ⟨g, q4 (by omega) (by omega) k⟩
  obtain ⟨s51, s52, s53⟩ := addchild_sz c4.toWF0 (S.last + 1) (S.vl (y + 1)) st (by omega) (by omega) (by omega)
  refine ⟨⟨c4.addchild st (by omega) (by omega) (by omega) hy hn4 (by omega), ?_⟩, rev4.trans (Rev.addchild c4.toWF0 st (by omega) (by omega)), ?_, .inl ⟨by omega, by omega⟩⟩
  · refine addchild_roots (r0 := S.last + 2) c4 st (by omega) (by omega) hy hn4 (by omega) t4' q4' ?_ rs4.dj ?_
    · intro s z hs k1 k2
      exact rs4.dj hs t4' k2 (huy.trans k1)
    · intro z hz
      exact (rs4.lv z hz).elim .inl fun q => .inr (.inr q)
  · have := abs_addchild c4 (x := x) (y := y) st (by rw [vx]; omega) (by rw [vy]; exact hy) (by rw [vx, vy]; exact hn4) (by omega)
    rw [vx, vy, a4, a3, a2, touch_add.2.1] at this
    exact this
end Go.Proofs.Ytapnmgkpljlgmaa
namespace Go.Proofs.Ytapnmgkpljlgmaa

/-- Both values are there. -/
theorem known_iff {S : PS} (h : OK S) {x y : Nat} (hx : S.vl (x + 1) ≠ 0) (hy : S.vl (y + 1) ≠ 0) :
    (S.abs.le x y = true ↔ Le (Ed S.nd) (S.vl (x + 1)) (S.vl (y + 1))) ∧ (S.abs.lt x y = true ↔ PE (Ed S.nd) (S.vl (x + 1)) (S.vl (y + 1)) true) ∧ (S.abs.eq x y = true ↔ S.vl (x + 1) = S.vl (y + 1)) ∧
      S.abs.ne x y = S.ne (S.vl (x + 1)) (S.vl (y + 1)) := by
  obtain ⟨rk, hr⟩ := h.rk
  refine ⟨abs_le_kn hx hy, ?_, ?_, ?_⟩
  · rw [abs_lt]; exact ⟨fun q => q.2.2, fun q => ⟨hx, hy, q⟩⟩
  · rw [VS.eq_iff, abs_le_kn hx hy, abs_le_kn hy hx]
    exact ⟨fun q => hr.anti q.1 q.2, fun q => by rw [q]; exact ⟨Le.refl _, Le.refl _⟩⟩
  · rw [Bool.eq_iff_iff, abs_ne]; exact ⟨fun q => q.2.2, fun q => ⟨hx, hy, q⟩⟩

/-- One more edge between two values under one root. -/
theorem link_eff {S : PS} (h : OK S) (hsz : S.nodes.length + 10 < 2147483648) {x y r0 : Nat} (hx : S.vl (x + 1) ≠ 0) (hy : S.vl (y + 1) ≠ 0) (hn : ¬ Le (Ed S.nd) (S.vl (y + 1)) (S.vl (x + 1)))
    (h0 : S.rt r0 = true) (h1 : Le (Ed S.nd) r0 (S.vl (x + 1))) (h2 : Le (Ed S.nd) r0 (S.vl (y + 1))) (st : Bool) :
    OK (S.addchild (S.vl (x + 1)) (S.vl (y + 1)) st) ∧ Rev S (S.addchild (S.vl (x + 1)) (S.vl (y + 1)) st) ∧ (S.addchild (S.vl (x + 1)) (S.vl (y + 1)) st).abs = S.abs.add x y st ∧
      (S.addchild (S.vl (x + 1)) (S.vl (y + 1)) st).nodes.length ≤ S.nodes.length + 1 ∧ (S.addchild (S.vl (x + 1)) (S.vl (y + 1)) st).lg.length ≤ S.lg.length + 2 := by
  have li := h.va (x + 1)
  have lj := h.va (y + 1)
  obtain ⟨s1, s2, _⟩ := addchild_sz h.toWF0 (S.vl (x + 1)) (S.vl (y + 1)) st li lj (by omega)
  refine ⟨⟨h.toCore.addchild st li lj hx hy hn (by omega), ?_⟩, Rev.addchild h.toWF0 st li (by omega), abs_addchild h.toCore st hx hy hn (by omega), s1, s2⟩
  refine addchild_roots h.toCore st li lj hy hn (by omega) h0 h1 ?_ h.rs.dj fun z hz => .inr (.inr (h.under hz))
  intro r z hr k1 k2
  exact h.rs.dj hr h0 k2 (h2.trans k1)

/-- Both under one root. -/
theorem joined_eff {S T : PS} (h : OK S) (hsz : S.nodes.length + 10 < 2147483648) {x y : Nat} (hx : S.vl (x + 1) ≠ 0) (hy : S.vl (y + 1) ≠ 0) (hJ : Joined S (S.vl (x + 1)) (S.vl (y + 1)) T) :
    OK T ∧ Rev S T ∧ T.abs = S.abs ∧ T.vl = S.vl ∧ T.nq = S.nq ∧ T.nodes.length ≤ S.nodes.length + 1 ∧ T.lg.length ≤ S.lg.length + 2 ∧ (∀ a b f, a < S.nodes.length → (PE (Ed T.nd) a b f ↔ PE (Ed S.nd) a b f)) ∧
      ∃ r, T.rt r = true ∧ Le (Ed T.nd) r (S.vl (x + 1)) ∧ Le (Ed T.nd) r (S.vl (y + 1)) := by
  obtain ⟨r1, r2, h1, k1, h2, k2, rfl⟩ := hJ
  rw [reach_le] at k1 k2
  by_cases e : r1 = r2
  · rw [if_pos e]
    subst e
    exact ⟨h, Rev.refl S, rfl, rfl, rfl, by omega, by omega, fun _ _ _ _ => Iff.rfl, r1, h1, k1, k2⟩
  · rw [if_neg e]
    obtain ⟨m1, m2, m3, m4⟩ := mergeroot_ok h h1 h2 e (by omega)
    obtain ⟨_, w2, w3⟩ := mergeroot_wf h.toWF1 h1 h2 (by omega)
    exact ⟨m1, Rev.mergeroot h.toCore h1 h2 e (by omega), abs_congr rfl rfl fun a b f _ _ => m2 _ _ f (h.va a), rfl, rfl, by omega, by omega, m2, _, m3, m4 _ (.inl k1), m4 _ (.inr k2)⟩

theorem setO_eff {S S' : PS} {b : Bool} (h : OK S) (vok : VOK S.abs) (room : Room S) {x y : Nat} (hxy : x ≠ y) (hxl : x < 12) (hyl : y < 12) (st : Bool) (k : S.SetO (x + 1) (y + 1) st S' b) :
    Eff S S' (S.abs.setO x y st).1 x y ∧ b = (S.abs.setO x y st).2 := by
  have hsz := room.sz
  rcases k with ⟨hx, hy, rfl, rfl⟩ | ⟨hx, hy, rfl, rfl⟩ | ⟨hx, hy, hr, rfl, rfl⟩ | ⟨hx, hy, hr, rfl, r, hr1, hr2, rfl⟩ | ⟨hx, hy, he, rfl, rfl⟩ | ⟨hx, hy, he, k⟩
  · rw [setO_un hxy (.inl hx)]; exact ⟨ordNew_eff h (by omega) hxy hxl hyl hx hy st, rfl⟩
  · rw [setO_un hxy (.inr hy)]; exact ⟨ordR_eff h (by omega) hxy hyl hx hy st, rfl⟩
  · rw [setO_un hxy (.inl hx)]; exact ⟨ordL_eff h (by omega) hxy hxl hx hy hr st, rfl⟩
  · rw [setO_un hxy (.inl hx)]; exact ⟨ordX_eff h (by omega) hxy hxl hx hy hr1 (reach_le.1 hr2) st, rfl⟩
  · obtain ⟨_, _, q3, _⟩ := known_iff h hx hy
    unfold VS.setO
    rw [if_pos (q3.2 he)]
    exact ⟨Eff.refl h x y, rfl⟩
  · obtain ⟨q1, q2, q3, q4⟩ := known_iff h hx hy
    obtain ⟨p1, p2, _, _⟩ := known_iff h hy hx
    have heq : ¬ S.abs.eq x y = true := fun q => he (q3.1 q)
    rw [← q4] at k
    rcases k with ⟨k1, rfl, rfl⟩ | ⟨k1, k2, k3, rfl, rfl⟩ | ⟨k1, k2, k3, k⟩ | ⟨k1, k2, rfl, T, hJ, rfl⟩
    · rw [reach_le] at k1
      have hle := q1.2 k1
      have hn : ¬ Le (Ed S.nd) (S.vl (y + 1)) (S.vl (x + 1)) := fun q => heq (VS.eq_iff.2 ⟨hle, p1.2 q⟩)
      unfold VS.setO
      rw [if_neg heq, if_pos hle]
      refine ⟨?_, rfl⟩
      unfold PS.tighten
      split
      · rename_i c
        simp only [Bool.and_eq_true] at c
        obtain ⟨r0, h1, h2⟩ := h.val hx
        rw [c.1]
        obtain ⟨e1, e2, e3, e4, e5⟩ := link_eff h (by omega) hx hy hn h1 h2 (h2.trans k1) true
        exact ⟨e1, e2, e3, .inl ⟨by omega, by omega⟩⟩
      · rename_i c
        simp only [Bool.and_eq_true, Bool.not_eq_true', not_and] at c
        have := add_idle vok (s := st || S.abs.ne x y) hle hxy fun q => q2.2 (by
          have := c q
          rw [← reach_lt]; simpa using this)
        rw [this]; exact Eff.refl h x y
    · rw [reach_nle] at k1
      rw [reach_le] at k2
      unfold VS.setO
      rw [if_neg heq, if_neg fun q => k1 (q1.1 q), if_pos (p1.2 k2), if_pos (by rw [k3]; simp)]
      exact ⟨Eff.refl h x y, rfl⟩
    · rw [reach_nle] at k1
      rw [reach_le] at k2
      unfold VS.setO
      rw [if_neg heq, if_neg fun q => k1 (q1.1 q), if_pos (p1.2 k2), k3]
      rcases k with ⟨k, rfl, rfl⟩ | ⟨k, rfl, ids, hn, hids, rfl⟩
      · rw [reach_lt] at k
        rw [if_pos (by rw [p2.2 k]; simp)]
        exact ⟨Eff.refl h x y, rfl⟩
      · rw [reach_nlt] at k
        rw [if_neg (by simp only [Bool.false_or]; exact fun q => k (p2.1 q))]
        obtain ⟨e1, e2, e3, e4, e5⟩ := collapse_eff h room (p := y) (q := x) hy hx (Ne.symm he) k2 k hn hids
        refine ⟨⟨e1, e2, e3, .inr ⟨by omega, by omega, heq, ?_⟩⟩, rfl⟩
        rw [fold_eq, VS.eq_iff, VS.add_le, VS.add_le]
        exact ⟨.inr ⟨vok.rf x, vok.rf y⟩, .inl (p1.2 k2)⟩
    · rw [reach_nle] at k1 k2
      unfold VS.setO
      rw [if_neg heq, if_neg fun q => k1 (q1.1 q), if_neg fun q => k2 (p1.1 q)]
      refine ⟨?_, rfl⟩
      obtain ⟨j1, j2, j3, j4, j5, j6, j7, j8, r, j9, j10, j11⟩ := joined_eff h (by omega) hx hy hJ
      have hn : ¬ Le (Ed T.nd) (S.vl (y + 1)) (S.vl (x + 1)) := fun ⟨f, q⟩ => k2 ⟨f, (j8 _ _ f (h.va _)).1 q⟩
      have := link_eff j1 (x := x) (y := y) (by omega) (by rw [j4]; exact hx) (by rw [j4]; exact hy) (by rw [j4]; exact hn) j9 (by rw [j4]; exact j10) (by rw [j4]; exact j11) (st || S.abs.ne x y)
      rw [j4, j3] at this
      obtain ⟨e1, e2, e3, e4, e5⟩ := this
      exact ⟨e1, j2.trans e2, e3, .inl ⟨by omega, by omega⟩⟩

/-! ## SetEqual -/
theorem newRoot_ok {S : PS} (h : OK S) (hsz : S.nodes.length + 10 < 2147483648) {x : Nat} (hxl : x < 12) (hx : S.vl (x + 1) = 0) :
    OK (S.newRoot (x + 1)) ∧ Rev S (S.newRoot (x + 1)) ∧ (S.newRoot (x + 1)).abs = S.abs.touch x ∧ (S.newRoot (x + 1)).nodes.length = S.nodes.length + 1 ∧ (S.newRoot (x + 1)).lg.length = S.lg.length + 2 := by
  have hla := h.la
  have c1 : Core (S.newV (x + 1)) := h.toCore.newV (by omega) (by omega)
  have c2 : Core ((S.newV (x + 1)).addRoot (S.last + 1)) := addRoot_core c1 (by rw [newV_len]; omega) (by omega)
  have e : S.newRoot (x + 1) = (S.newV (x + 1)).addRoot (S.last + 1) := rfl
  rw [e]
  have n2 : ((S.newV (x + 1)).addRoot (S.last + 1)).nd = S.nd := newV_nd S (x + 1)
  have t2 : ∀ r, ((S.newV (x + 1)).addRoot (S.last + 1)).rt r = true ↔ r = S.last + 1 ∨ S.rt r = true := by
    intro r
    show upd S.rt (S.last + 1) true r = true ↔ _
    unfold upd
    by_cases e : r = S.last + 1 <;> simp [e]
  have v2 : ∀ j, ((S.newV (x + 1)).addRoot (S.last + 1)).vl j = if j = x + 1 then S.last + 1 else S.vl j := fun j => rfl
  have l2 : ((S.newV (x + 1)).addRoot (S.last + 1)).nodes.length = S.nodes.length + 1 := newV_len S (x + 1)
  have rev2 : Rev S ((S.newV (x + 1)).addRoot (S.last + 1)) := (Rev.newV h.toWF0 (by omega) hx (by omega)).trans (Rev.addRoot (by rw [newV_len]; omega) (by rw [newV_nd]; exact nd_nil h.toWF0 (by omega)) h.rt_new)
  have a2 : ((S.newV (x + 1)).addRoot (S.last + 1)).abs = S.abs.touch x := by
    rw [← abs_newV h.toCore hx]; exact abs_same rfl rfl rfl
  refine ⟨⟨c2, ?_, ?_⟩, rev2, a2, l2, rfl⟩
  · intro r1 r2 z q1 q2 k1 k2
    rw [n2] at k1 k2
    have fr := fun b => h.fresh (x := S.last + 1) (b := b) (by omega)
    rcases (t2 r1).1 q1 with rfl | q1 <;> rcases (t2 r2).1 q2 with rfl | q2
    · rfl
    · have := (fr z).1 k1; subst this
      exact ((fr r2).2 k2).symm
    · have := (fr z).1 k2; subst this
      exact (fr r1).2 k1
    · exact h.rs.dj q1 q2 k1 k2
  · intro z hz
    refine .inr ?_
    by_cases e2 : z = S.last + 1
    · exact ⟨_, (t2 _).2 (.inl rfl), e2 ▸ Le.refl _⟩
    · have hl : live S z := by
        rcases hz with ⟨q1, id, q2⟩ | q
        · rw [v2] at q2
          split at q2
          · omega
          · exact .inl ⟨q1, id, q2⟩
        · rw [n2] at q; exact .inr q
      obtain ⟨r, q1, q2⟩ := h.under hl
      exact ⟨r, (t2 _).2 (.inr q1), by rw [n2]; exact q2⟩

/-- Value y, that has no node, gets x's. -/
theorem aliasV_eff {S : PS} (h : OK S) {x y : Nat} (hxy : x ≠ y) (hyl : y < 12) (hx : S.vl (x + 1) ≠ 0) (hy : S.vl (y + 1) = 0) :
    OK (S.aliasV (x + 1) (y + 1)) ∧ Rev S (S.aliasV (x + 1) (y + 1)) ∧ (S.aliasV (x + 1) (y + 1)).abs = ((S.abs.add x y false).add y x false).fold x ∧ (S.aliasV (x + 1) (y + 1)).abs = ((S.abs.add y x false).add x y false).fold x := by
  obtain ⟨rk, hr⟩ := h.rk
  have hv : ∀ j, (S.aliasV (x + 1) (y + 1)).vl j = if j = y + 1 then S.vl (x + 1) else S.vl j := fun j => rfl
  have hok : OK (S.aliasV (x + 1) (y + 1)) := by
    refine ⟨⟨⟨⟨h.la, h.sz, h.ir⟩, h.ro, fun id => ?_, h.qa⟩, h.nz, h.n0, ⟨rk, hr⟩, h.r0, fun id hid => ?_⟩, h.rs.dj, fun z hz => h.rs.lv z ?_⟩
    · rw [hv]; split
      · exact h.va _
      · exact h.va _
    · rw [hv] at hid
      split at hid
      · rename_i e; omega
      · exact h.ids id hid
    · rcases hz with ⟨q1, id, q2⟩ | q
      · rw [hv] at q2
        split at q2
        · exact .inl ⟨q1, _, q2⟩
        · exact .inl ⟨q1, id, q2⟩
      · exact .inr q
  have vy : (S.aliasV (x + 1) (y + 1)).vl (y + 1) = S.vl (x + 1) := by rw [hv, if_pos rfl]
  have vo : ∀ a, a ≠ y → (S.aliasV (x + 1) (y + 1)).vl (a + 1) = S.vl (a + 1) := fun a ha => by rw [hv, if_neg (by omega)]
  have nd' : (S.aliasV (x + 1) (y + 1)).nd = S.nd := rfl
  have ly : ∀ a, S.abs.le a y = true ↔ a = y := fun a => abs_le_un (.inr hy)
  have yl : ∀ a, S.abs.le y a = true ↔ y = a := fun a => abs_le_un (.inl hy)
  have ty : ∀ a, S.abs.lt a y ≠ true ∧ S.abs.lt y a ≠ true := fun a => by
    rw [Ne, Ne, abs_lt, abs_lt]; exact ⟨fun q => q.2.1 hy, fun q => q.1 hy⟩
  have hxx : ∀ a, S.vl (a + 1) ≠ 0 → (S.abs.le a x = true ↔ Le (Ed S.nd) (S.vl (a + 1)) (S.vl (x + 1))) ∧ (S.abs.le x a = true ↔ Le (Ed S.nd) (S.vl (x + 1)) (S.vl (a + 1))) := fun a ha => ⟨abs_le_kn ha hx, abs_le_kn hx ha⟩
  have rx : S.abs.le x x = true := (hxx x hx).1.2 (Le.refl _)
  have ix : S.abs.lt x x ≠ true := by rw [Ne, abs_lt]; exact fun q => absurd (hr.self q.2.2) (by decide)
  -- the order
  have ole : ∀ a b, (S.aliasV (x + 1) (y + 1)).abs.le a b = true ↔ S.abs.le a b = true ∨ ((S.abs.le a x = true ∨ a = y) ∧ (S.abs.le x b = true ∨ b = y)) := by
    intro a b
    by_cases ha : a = y
    · by_cases hb : b = y
      · subst ha; subst hb
        rw [abs_le]; simp
      · subst ha
        by_cases hkb : S.vl (b + 1) = 0
        · rw [abs_le_un (.inr (by rw [vo b hb]; exact hkb)), yl, abs_le_un (.inr hkb)]
          constructor
          · exact .inl
          · rintro (q | ⟨_, q | q⟩)
            · exact q
            · subst q; exact absurd hkb hx
            · exact absurd q hb
        · rw [abs_le_kn (by rw [vy]; exact hx) (by rw [vo b hb]; exact hkb), vy, vo b hb, nd', yl, (hxx b hkb).2]
          exact ⟨fun q => .inr ⟨.inr rfl, .inl q⟩, fun q => q.elim (fun q => absurd q.symm hb) fun q => q.2.elim id fun q => absurd q hb⟩
    · by_cases hb : b = y
      · subst hb
        by_cases hka : S.vl (a + 1) = 0
        · rw [abs_le_un (.inl (by rw [vo a ha]; exact hka)), ly, abs_le_un (.inl hka)]
          constructor
          · exact .inl
          · rintro (q | ⟨q | q, _⟩)
            · exact q
            · subst q; exact absurd hka hx
            · exact q
        · rw [abs_le_kn (by rw [vo a ha]; exact hka) (by rw [vy]; exact hx), vy, vo a ha, nd', ly, (hxx a hka).1]
          exact ⟨fun q => .inr ⟨.inl q, .inr rfl⟩, fun q => q.elim (fun q => absurd q ha) fun q => q.1.elim id fun q => absurd q ha⟩
      · have e : (S.aliasV (x + 1) (y + 1)).abs.le a b = S.abs.le a b := by
          rw [Bool.eq_iff_iff, abs_le, abs_le, vo a ha, vo b hb, nd']
        rw [e]
        constructor
        · exact .inl
        · rintro (q | ⟨q1 | q1, q2 | q2⟩)
          · exact q
          · rw [abs_le] at *
            rcases q1 with rfl | ⟨q3, q4, q5⟩
            · exact q2
            · rcases q2 with rfl | ⟨q6, q7, q8⟩
              · exact .inr ⟨q3, q4, q5⟩
              · exact .inr ⟨q3, q7, q5.trans q8⟩
          · exact absurd q2 hb
          · exact absurd q1 ha
          · exact absurd q1 ha
  have olt : ∀ a b, (S.aliasV (x + 1) (y + 1)).abs.lt a b = true ↔ S.abs.lt a b = true ∨ (a = y ∧ S.abs.lt x b = true) ∨ (b = y ∧ S.abs.lt a x = true) := by
    intro a b
    by_cases ha : a = y
    · by_cases hb : b = y
      · subst ha; subst hb
        rw [abs_lt, vy, nd']
        constructor
        · exact fun q => absurd (hr.self q.2.2) (by decide)
        · rintro (q | ⟨_, q⟩ | ⟨_, q⟩)
          · exact absurd q (ty _).1
          · exact absurd q (ty _).1
          · exact absurd q (ty _).2
      · subst ha
        rw [abs_lt, vy, vo b hb, nd']
        constructor
        · exact fun q => .inr (.inl ⟨rfl, abs_lt.2 q⟩)
        · rintro (q | ⟨_, q⟩ | ⟨q, _⟩)
          · exact absurd q (ty _).2
          · exact abs_lt.1 q
          · exact absurd q hb
    · by_cases hb : b = y
      · subst hb
        rw [abs_lt, vy, vo a ha, nd']
        constructor
        · exact fun q => .inr (.inr ⟨rfl, abs_lt.2 q⟩)
        · rintro (q | ⟨q, _⟩ | ⟨_, q⟩)
          · exact absurd q (ty _).1
          · exact absurd q ha
          · exact abs_lt.1 q
      · rw [abs_lt, vo a ha, vo b hb, nd', ← abs_lt]
        exact ⟨.inl, fun q => q.elim id fun q => q.elim (fun q => absurd q.1 ha) fun q => absurd q.1 hb⟩
  have okn : ∀ a, (S.aliasV (x + 1) (y + 1)).abs.kn a = true ↔ S.abs.kn a = true ∨ a = y := by
    intro a
    rw [abs_kn, abs_kn]
    by_cases ha : a = y
    · subst ha; rw [vy]; simp [hx]
    · rw [vo a ha]; simp [ha]
  have tx : ∀ a b, S.abs.lt a b = true → S.abs.le a b = true := fun a b q => abs_le.2 (.inr ⟨(abs_lt.1 q).1, (abs_lt.1 q).2.1, (abs_lt.1 q).2.2.le⟩)
  have lr : ∀ a b c, S.abs.le a b = true → S.abs.lt b c = true → S.abs.lt a c = true := by
    intro a b c q1 q2
    rw [abs_lt] at *; rw [abs_le] at q1
    rcases q1 with rfl | ⟨q3, q4, f, q5⟩
    · exact q2
    · exact ⟨q3, q2.2.1, q5.trans' q2.2.2 (by simp)⟩
  have rl : ∀ a b c, S.abs.lt a b = true → S.abs.le b c = true → S.abs.lt a c = true := by
    intro a b c q1 q2
    rw [abs_lt] at *; rw [abs_le] at q2
    rcases q2 with rfl | ⟨q3, q4, f, q5⟩
    · exact q1
    · exact ⟨q1.1, q4, q1.2.2.trans' q5 (by simp)⟩
  have kx : S.abs.kn x = true := abs_kn.2 hx
  have two : ∀ W : VS, (W = (S.abs.add x y false).add y x false ∨ W = (S.abs.add y x false).add x y false) → (S.aliasV (x + 1) (y + 1)).abs = W.fold x := by
    intro W hW
    have w1 : ∀ a, W.kn a = true ↔ S.abs.kn a = true ∨ a = y := by
      intro a
      rcases hW with rfl | rfl <;> simp only [VS.add_kn]
      · constructor
        · rintro ((q | q | q) | q | q)
          · exact .inl q
          · exact .inl (q ▸ kx)
          · exact .inr q
          · exact .inr q
          · exact .inl (q ▸ kx)
        · rintro (q | q)
          · exact .inl (.inl q)
          · exact .inr (.inl q)
      · constructor
        · rintro ((q | q | q) | q | q)
          · exact .inl q
          · exact .inr q
          · exact .inl (q ▸ kx)
          · exact .inl (q ▸ kx)
          · exact .inr q
        · rintro (q | q)
          · exact .inl (.inl q)
          · exact .inr (.inr q)
    have w2 : ∀ a b, W.le a b = true ↔ S.abs.le a b = true ∨ ((S.abs.le a x = true ∨ a = y) ∧ (S.abs.le x b = true ∨ b = y)) := by
      intro a b
      have e1 : S.abs.le x x = true := rx
      rcases hW with rfl | rfl <;> simp only [VS.add_le, ly, yl, e1, true_and, and_true, true_or, or_true, eq_comm (a := y)]
      · constructor
        · rintro ((q | ⟨q1, q2⟩) | ⟨q1 | q1, q2 | q2⟩)
          · exact .inl q
          · exact .inr ⟨.inl q1, .inr q2⟩
          · exact .inr ⟨.inr q1, .inl q2⟩
          · exact .inr ⟨.inr q1, .inr q2⟩
          · exact .inr ⟨.inl q1, .inl q2⟩
          · exact .inr ⟨.inl q1, .inr q2⟩
        · rintro (q | ⟨q1 | q1, q2 | q2⟩)
          · exact .inl (.inl q)
          · exact .inr ⟨.inr q1, .inl q2⟩
          · exact .inl (.inr ⟨q1, q2⟩)
          · exact .inr ⟨.inl q1, .inl q2⟩
          · exact .inr ⟨.inl q1, .inr q2⟩
      · constructor
        · rintro ((q | ⟨q1, q2⟩) | ⟨q1 | q1, q2 | q2⟩)
          · exact .inl q
          · exact .inr ⟨.inr q1, .inl q2⟩
          · exact .inr ⟨.inl q1, .inr q2⟩
          · exact .inr ⟨.inl q1, .inl q2⟩
          · exact .inr ⟨.inr q1, .inr q2⟩
          · exact .inr ⟨.inr q1, .inl q2⟩
        · rintro (q | ⟨q1 | q1, q2 | q2⟩)
          · exact .inl (.inl q)
          · exact .inr ⟨.inl q1, .inr q2⟩
          · exact .inr ⟨.inl q1, .inl q2⟩
          · exact .inl (.inr ⟨q1, q2⟩)
          · exact .inr ⟨.inr q1, .inl q2⟩
    have w3 : ∀ a b, W.lt a b = true ↔ S.abs.lt a b = true ∨ (a = y ∧ S.abs.lt x b = true) ∨ (b = y ∧ S.abs.lt a x = true) := by
      intro a b
      have f1 : (S.abs.lt x x = true) = False := eq_false ix
      have f2 : ∀ a, (S.abs.lt a y = true) = False := fun a => eq_false (ty a).1
      have f3 : ∀ a, (S.abs.lt y a = true) = False := fun a => eq_false (ty a).2
      have f4 : S.abs.le x x = true := rx
      rcases hW with rfl | rfl <;> simp only [VS.add_lt, VS.add_le, ly, yl, f1, f2, f3, f4, Bool.false_eq_true, false_or, or_false, and_false, false_and, true_and, and_true, true_or, or_true, eq_comm (a := y)]
      · constructor
        · rintro ((q | ⟨q1, q2, q3⟩) | ⟨q1, q2, q3⟩)
          · exact .inl q
          · exact .inr (.inr ⟨q2, q3⟩)
          · rcases q3 with ⟨q3, q4⟩ | q3
            · rcases q2 with q2 | q2
              · exact .inl (rl _ _ _ q4 q2)
              · exact .inr (.inr ⟨q2, q4⟩)
            · rcases q1 with q1 | q1
              · exact .inr (.inl ⟨q1, q3⟩)
              · exact .inl (lr _ _ _ q1 q3)
        · rintro (q | ⟨q1, q2⟩ | ⟨q1, q2⟩)
          · exact .inl (.inl q)
          · exact .inr ⟨.inl q1, .inl (tx _ _ q2), .inr q2⟩
          · exact .inl (.inr ⟨tx _ _ q2, q1, q2⟩)
      · constructor
        · rintro ((q | ⟨q1, q2, q3⟩) | ⟨q1, q2, q3⟩)
          · exact .inl q
          · exact .inr (.inl ⟨q1, q3⟩)
          · rcases q3 with q3 | ⟨q3, q4⟩
            · rcases q2 with q2 | q2
              · exact .inr (.inr ⟨q2, q3⟩)
              · exact .inl (rl _ _ _ q3 q2)
            · rcases q1 with q1 | q1
              · exact .inl (lr _ _ _ q1 q4)
              · exact .inr (.inl ⟨q1, q4⟩)
        · rintro (q | ⟨q1, q2⟩ | ⟨q1, q2⟩)
          · exact .inl (.inl q)
          · exact .inl (.inr ⟨q1, tx _ _ q2, q2⟩)
          · exact .inr ⟨.inl (tx _ _ q2), .inl q1, .inl q2⟩
    have wn : W.ne = S.abs.ne := by rcases hW with rfl | rfl <;> rfl
    have hne2 := abs_fold (S := S) (S' := S.aliasV (x + 1) (y + 1)) (W := W) hok.rk rfl (p := x) hx (vo x hxy)
      (fun a q => by
        by_cases ha : a = y
        · subst ha; rw [vy, vo x hxy] at q; exact absurd rfl q
        · exact vo a ha)
      (fun a => by rw [VS.eq_iff, VS.eq_iff, w2, w2, ole, ole])
    apply VS.ext'
    · intro a; exact (okn a).trans (w1 a).symm
    · intro a b; exact (ole a b).trans (w2 a b).symm
    · intro a b; exact (olt a b).trans (w3 a b).symm
    · intro a b
      show _ ↔ W.ne _ _ = true
      rw [hne2 a b, wn]
  exact ⟨hok, Rev.aliasV hx hy, two _ (.inl rfl), two _ (.inr rfl)⟩

theorem setE_eff {S S' : PS} {b : Bool} (h : OK S) (vok : VOK S.abs) (room : Room S) {x y : Nat} (hxy : x ≠ y) (hxl : x < 12) (hyl : y < 12) (k : S.SetE (x + 1) (y + 1) S' b) :
    Eff S S' (S.abs.setE x y).1 x y ∧ b = (S.abs.setE x y).2 := by
  have hsz := room.sz
  have un : (S.vl (x + 1) = 0 ∨ S.vl (y + 1) = 0) → S.abs.setE x y = (((S.abs.add x y false).add y x false).fold (if S.abs.kn x = false ∧ S.abs.kn y = true then y else x), true) := by
    intro hu
    obtain ⟨a, b, _, _, c, _, d⟩ := un_known hxy hu
    unfold VS.setE
    rw [if_neg d, if_neg c, if_neg a, if_neg b]
  rcases k with ⟨hx, hy, rfl, rfl⟩ | ⟨hx, hy, rfl, rfl⟩ | ⟨hx, hy, rfl, rfl⟩ | ⟨hx, hy, he, rfl, rfl⟩ | ⟨hx, hy, he, k⟩
  · rw [un (.inl hx)]
    have hkn : ¬ (S.abs.kn x = false ∧ S.abs.kn y = true) := fun q => abs_kn.1 q.2 hy
    rw [if_neg hkn]
    obtain ⟨e1, e2, e3, e4, e5⟩ := newRoot_ok h (by omega) hxl hx
    have hla := h.la
    obtain ⟨g1, g2, g3, _⟩ := aliasV_eff e1 (x := x) (y := y) hxy hyl (by show upd S.vl (x + 1) (S.last + 1) (x + 1) ≠ 0; simp [upd]) (by show upd S.vl (x + 1) (S.last + 1) (y + 1) = 0; unfold upd; rw [if_neg (by omega)]; exact hy)
    rw [e3] at g3
    refine ⟨⟨g1, e2.trans g2, g3.trans ?_, .inl ⟨?_, ?_⟩⟩, rfl⟩
    · rw [touch_add.2.1]
    · show (S.newRoot (x + 1)).nodes.length ≤ _; omega
    · show (S.newRoot (x + 1)).lg.length + 1 ≤ _; omega
  · rw [un (.inr hy)]
    have hkn : ¬ (S.abs.kn x = false ∧ S.abs.kn y = true) := fun q => abs_kn.1 q.2 hy
    rw [if_neg hkn]
    obtain ⟨g1, g2, g3, _⟩ := aliasV_eff h (x := x) (y := y) hxy hyl hx hy
    exact ⟨⟨g1, g2, g3, .inl ⟨by show S.nodes.length ≤ _; omega, by show S.lg.length + 1 ≤ _; omega⟩⟩, rfl⟩
  · rw [un (.inl hx)]
    have hkn : S.abs.kn x = false ∧ S.abs.kn y = true := ⟨Bool.eq_false_iff.2 fun e => abs_kn.1 e hx, abs_kn.2 hy⟩
    rw [if_pos hkn]
    obtain ⟨g1, g2, _, g3⟩ := aliasV_eff h (x := y) (y := x) (Ne.symm hxy) hxl hy hx
    exact ⟨⟨g1, g2, g3, .inl ⟨by show S.nodes.length ≤ _; omega, by show S.lg.length + 1 ≤ _; omega⟩⟩, rfl⟩
  · obtain ⟨_, _, q3, _⟩ := known_iff h hx hy
    unfold VS.setE
    rw [if_pos (q3.2 he)]
    exact ⟨Eff.refl h x y, rfl⟩
  · obtain ⟨q1, q2, q3, q4⟩ := known_iff h hx hy
    obtain ⟨p1, p2, _, _⟩ := known_iff h hy hx
    have heq : ¬ S.abs.eq x y = true := fun q => he (q3.1 q)
    unfold PS.EqB at k
    rw [← q4] at k
    unfold VS.setE
    rw [if_neg heq]
    rcases k with ⟨k0, rfl, rfl⟩ | ⟨k0, k1, k⟩ | ⟨k0, k1, k2, k⟩ | ⟨k0, k1, k2, rfl, T, hJ, ids, hn, hids, rfl⟩
    · rw [if_pos k0]; exact ⟨Eff.refl h x y, rfl⟩
    · rw [reach_le] at k1
      rw [if_neg (by rw [k0]; decide), if_pos (q1.2 k1)]
      rcases k with ⟨k, rfl, rfl⟩ | ⟨k, rfl, ids, hn, hids, rfl⟩
      · rw [reach_lt] at k
        rw [if_pos (q2.2 k)]
        exact ⟨Eff.refl h x y, rfl⟩
      · rw [reach_nlt] at k
        rw [if_neg fun q => k (q2.1 q)]
        obtain ⟨e1, e2, e3, e4, e5⟩ := collapse_eff h room (p := x) (q := y) hx hy he k1 k hn hids
        refine ⟨⟨e1, e2, e3, .inr ⟨by omega, by omega, heq, ?_⟩⟩, rfl⟩
        rw [fold_eq, VS.eq_iff, VS.add_le, VS.add_le]
        exact ⟨.inl (q1.2 k1), .inr ⟨vok.rf y, vok.rf x⟩⟩
    · rw [reach_nle] at k1
      rw [reach_le] at k2
      rw [if_neg (by rw [k0]; decide), if_neg fun q => k1 (q1.1 q), if_pos (p1.2 k2)]
      rcases k with ⟨k, rfl, rfl⟩ | ⟨k, rfl, ids, hn, hids, rfl⟩
      · rw [reach_lt] at k
        rw [if_pos (p2.2 k)]
        exact ⟨Eff.refl h x y, rfl⟩
      · rw [reach_nlt] at k
        rw [if_neg fun q => k (p2.1 q)]
        obtain ⟨e1, e2, e3, e4, e5⟩ := collapse_eff h room (p := y) (q := x) hy hx (Ne.symm he) k2 k hn hids
        refine ⟨⟨e1, e2, e3, .inr ⟨by omega, by omega, heq, ?_⟩⟩, rfl⟩
        rw [fold_eq, VS.eq_iff, VS.add_le, VS.add_le]
        exact ⟨.inr ⟨vok.rf x, vok.rf y⟩, .inl (p1.2 k2)⟩
    · rw [reach_nle] at k1 k2
      rw [if_neg (by rw [k0]; decide), if_neg fun q => k1 (q1.1 q), if_neg fun q => k2 (p1.1 q)]
      have hkn : ¬ (S.abs.kn x = false ∧ S.abs.kn y = true) := fun q => by have := abs_kn.2 hx; rw [q.1] at this; cases this
      rw [if_neg hkn]
      obtain ⟨j1, j2, j3, j4, j5, j6, j7, j8, r, j9, j10, j11⟩ := joined_eff h (by omega) hx hy hJ
      have := join_eff j1 (x := x) (y := y) (r0 := r) (by omega) (by rw [j4]; exact hx) (by rw [j4]; exact hy)
        (by rw [j4]; exact fun ⟨f, q⟩ => k1 ⟨f, (j8 _ _ f (h.va _)).1 q⟩) (by rw [j4]; exact fun ⟨f, q⟩ => k2 ⟨f, (j8 _ _ f (h.va _)).1 q⟩) j9 (by rw [j4]; exact j10) (by rw [j4]; exact j11) (ids := ids) hn (fun id => by rw [j4]; exact hids id)
      rw [j4, j3] at this
      obtain ⟨e1, e2, e3, e4, e5⟩ := this
      refine ⟨⟨e1, j2.trans e2, e3, .inr ⟨by omega, by omega, heq, ?_⟩⟩, rfl⟩
      rw [fold_eq, VS.eq_iff]
      exact ⟨VS.add_le.2 (.inl (VS.add_le.2 (.inr ⟨vok.rf x, vok.rf y⟩))), VS.add_le.2 (.inr ⟨VS.add_le.2 (.inl (vok.rf y)), VS.add_le.2 (.inl (vok.rf x))⟩)⟩

/-! ## SetNonEqual -/
theorem mark2_ne (S : PS) {i j : Nat} (hij : i ≠ j) (k l : Nat) : (S.mark2 i j).ne k l = true ↔ S.ne k l = true ∨ (k = i ∧ l = j) ∨ (k = j ∧ l = i) := by
  have hq : ∀ a b, ∀ c d, (S.mark a b).nq c d = true ↔ S.nq c d = true ∨ (c = a ∧ d = b) := by
    intro a b c d
    unfold PS.mark
    split
    · rename_i h
      exact ⟨.inl, fun q => q.elim id fun q => by rw [q.1, q.2]; exact h⟩
    · show setQ S.nq a b c d = true ↔ _
      unfold setQ; simp
  unfold PS.ne
  by_cases hkl : k = l
  · rw [if_pos hkl, if_pos hkl]
    simp only [Bool.false_eq_true, false_or, false_iff]
    rintro (⟨rfl, rfl⟩ | ⟨rfl, rfl⟩)
    · exact hij hkl
    · exact hij hkl.symm
  · rw [if_neg hkl, if_neg hkl]
    unfold PS.mark2
    by_cases h1 : i < j <;> by_cases h2 : k < l
    · rw [if_pos h1, if_pos h2, if_pos h2, hq]
      constructor
      · rintro (q | ⟨rfl, rfl⟩)
        · exact .inl q
        · exact .inr (.inl ⟨rfl, rfl⟩)
      · rintro (q | ⟨rfl, rfl⟩ | ⟨rfl, rfl⟩)
        · exact .inl q
        · exact .inr ⟨rfl, rfl⟩
        · omega
    · rw [if_pos h1, if_neg h2, if_neg h2, hq]
      constructor
      · rintro (q | ⟨rfl, rfl⟩)
        · exact .inl q
        · exact .inr (.inr ⟨rfl, rfl⟩)
      · rintro (q | ⟨rfl, rfl⟩ | ⟨rfl, rfl⟩)
        · exact .inl q
        · omega
        · exact .inr ⟨rfl, rfl⟩
    · rw [if_neg h1, if_pos h2, if_pos h2, hq]
      constructor
      · rintro (q | ⟨rfl, rfl⟩)
        · exact .inl q
        · exact .inr (.inr ⟨rfl, rfl⟩)
      · rintro (q | ⟨rfl, rfl⟩ | ⟨rfl, rfl⟩)
        · exact .inl q
        · omega
        · exact .inr ⟨rfl, rfl⟩
    · rw [if_neg h1, if_neg h2, if_neg h2, hq]
      constructor
      · rintro (q | ⟨rfl, rfl⟩)
        · exact .inl q
        · exact .inr (.inl ⟨rfl, rfl⟩)
      · rintro (q | ⟨rfl, rfl⟩ | ⟨rfl, rfl⟩)
        · exact .inl q
        · exact .inr ⟨rfl, rfl⟩
        · omega
theorem mark2_eff {S : PS} (h : OK S) {x y : Nat} (hx : S.vl (x + 1) ≠ 0) (hy : S.vl (y + 1) ≠ 0) (hne : S.vl (x + 1) ≠ S.vl (y + 1)) :
    OK (S.mark2 (S.vl (x + 1)) (S.vl (y + 1))) ∧ Rev S (S.mark2 (S.vl (x + 1)) (S.vl (y + 1))) ∧ (S.mark2 (S.vl (x + 1)) (S.vl (y + 1))).abs = S.abs.mark x y := by
  have li := h.va (x + 1)
  have lj := h.va (y + 1)
  have hz := h.sz
  obtain ⟨m1, m2, m3, m4, m5⟩ := mark2_facts S (S.vl (x + 1)) (S.vl (y + 1))
  have hne' := mark2_ne S hne
  have hw := h.toWF1.mark2 li lj
  have rev : Rev S (S.mark2 (S.vl (x + 1)) (S.vl (y + 1))) := Rev.mark2 (by omega) (by omega)
  generalize S.mark2 (S.vl (x + 1)) (S.vl (y + 1)) = U at *
  have nd' : U.nd = S.nd := by funext i; unfold PS.nd; rw [m1]
  have okU : OK U := by
    refine ⟨⟨hw, by intro i j s e; rw [nd'] at e; exact h.nz i j s e, by rw [nd']; exact h.n0, by rw [nd']; exact h.rk, by rw [m3]; exact h.r0, fun id => by rw [m2]; exact h.ids id⟩, ?_, ?_⟩
    · intro r1 r2 z q1 q2 k1 k2
      rw [m3] at q1 q2; rw [nd'] at k1 k2
      exact h.rs.dj q1 q2 k1 k2
    · intro z hz
      have hl : live S z := by
        rcases hz with ⟨q1, id, q2⟩ | q
        · rw [m2] at q2; exact .inl ⟨q1, id, q2⟩
        · rw [nd'] at q; exact .inr q
      obtain ⟨r, q1, q2⟩ := h.under hl
      exact .inr ⟨r, by rw [m3]; exact q1, by rw [nd']; exact q2⟩
  refine ⟨okU, rev, ?_⟩
  have eqv : ∀ a z, S.vl (z + 1) ≠ 0 → (S.abs.eq a z = true ↔ S.vl (a + 1) = S.vl (z + 1)) := by
    intro a z hz
    by_cases ha : S.vl (a + 1) = 0
    · rw [VS.eq_iff, abs_le_un (.inl ha), abs_le_un (.inr ha)]
      exact ⟨fun q => by rw [q.1], fun q => absurd (q ▸ ha) hz⟩
    · exact (known_iff h ha hz).2.2.1
  apply VS.ext'
  · intro a; rw [VS.mark_kn, abs_kn, abs_kn, m2]
    exact ⟨.inl, fun q => q.elim id fun q => q.elim (fun e => e ▸ hx) fun e => e ▸ hy⟩
  · intro a b
    show _ ↔ S.abs.le a b = true
    rw [abs_le, abs_le, m2, nd']
  · intro a b
    show _ ↔ S.abs.lt a b = true
    rw [abs_lt, abs_lt, m2, nd']
  · intro a b
    rw [VS.mark_ne, abs_ne, abs_ne, m2, hne', eqv a x hx, eqv b y hy, eqv a y hy, eqv b x hx]
    constructor
    · rintro ⟨q1, q2, q | q | q⟩
      · exact .inl ⟨q1, q2, q⟩
      · exact .inr (.inl q)
      · exact .inr (.inr q)
    · rintro (⟨q1, q2, q⟩ | ⟨q1, q2⟩ | ⟨q1, q2⟩)
      · exact ⟨q1, q2, .inl q⟩
      · exact ⟨by rw [q1]; exact hx, by rw [q2]; exact hy, .inr (.inl ⟨q1, q2⟩)⟩
      · exact ⟨by rw [q1]; exact hy, by rw [q2]; exact hx, .inr (.inr ⟨q1, q2⟩)⟩
theorem ensure_eff {S : PS} (h : OK S) (hsz : S.nodes.length + 10 < 2147483648) {x : Nat} (hxl : x < 12) : OK (S.ensure (x + 1)) ∧ Rev S (S.ensure (x + 1)) ∧ (S.ensure (x + 1)).abs = S.abs.touch x ∧ (S.ensure (x + 1)).nodes.length ≤ S.nodes.length + 1 ∧ (S.ensure (x + 1)).lg.length ≤ S.lg.length + 2 ∧ (S.ensure (x + 1)).vl (x + 1) ≠ 0 ∧ ∀ z, z ≠ x → (S.ensure (x + 1)).vl (z + 1) = S.vl (z + 1) := by
  rcases ensure_cases S (x + 1) with ⟨e0, e⟩ | ⟨e0, e⟩ <;> rw [e]
  · obtain ⟨e1, e2, e3, e4, e5⟩ := newRoot_ok h hsz hxl e0
    refine ⟨e1, e2, e3, by omega, by omega, ?_, fun z hz => ?_⟩
    · show upd S.vl (x + 1) (S.last + 1) (x + 1) ≠ 0; simp [upd]
    · show upd S.vl (x + 1) (S.last + 1) (z + 1) = _; unfold upd; rw [if_neg (by omega)]
  · refine ⟨h, Rev.refl S, ?_, by omega, by omega, e0, fun _ _ => rfl⟩
    refine VS.ext' (fun a => ?_) (fun _ _ => Iff.rfl) (fun _ _ => Iff.rfl) fun _ _ => Iff.rfl
    rw [touch_kn]
    exact ⟨.inl, fun q => q.elim id fun q => by rw [q]; exact abs_kn.2 e0⟩

theorem setN_eff {S : PS} (h : OK S) (vok : VOK S.abs) (room : Room S) {x y : Nat} (hxy : x ≠ y) (hxl : x < 12) (hyl : y < 12) :
    Eff S (S.setNE (x + 1) (y + 1)).1 (S.abs.setN x y).1 x y ∧ (S.setNE (x + 1) (y + 1)).2 = (S.abs.setN x y).2 := by
  have hsz := room.sz
  unfold PS.setNE
  by_cases hu : S.vl (x + 1) = 0 ∨ S.vl (y + 1) = 0
  · rw [if_pos hu]
    obtain ⟨a, b, _, _, c, _, d⟩ := un_known hxy hu
    unfold VS.setN
    rw [if_neg c, if_neg d, if_neg a, if_neg b]
    refine ⟨?_, rfl⟩
    obtain ⟨e1, e2, e3, e4, e5, e6, e7⟩ := ensure_eff h (by omega) hxl
    obtain ⟨g1, g2, g3, g4, g5, g6, g7⟩ := ensure_eff e1 (by omega) hyl
    have hne : ((S.ensure (x + 1)).ensure (y + 1)).vl (x + 1) ≠ ((S.ensure (x + 1)).ensure (y + 1)).vl (y + 1) := ensure_ne h.toWF1 (by omega) fun q => by rcases hu with w | w <;> omega
    have m5 := (mark2_facts ((S.ensure (x + 1)).ensure (y + 1)) (((S.ensure (x + 1)).ensure (y + 1)).vl (x + 1)) (((S.ensure (x + 1)).ensure (y + 1)).vl (y + 1)))
    obtain ⟨k1, k2, k3⟩ := mark2_eff g1 (x := x) (y := y) (by rw [g7 x hxy]; exact e6) g6 hne
    refine ⟨k1, (e2.trans g2).trans k2, k3.trans ?_, .inl ⟨?_, ?_⟩⟩
    · rw [g3, e3]
      refine VS.ext' (fun a => ?_) (fun _ _ => Iff.rfl) (fun _ _ => Iff.rfl) fun _ _ => Iff.rfl
      simp only [VS.mark_kn, touch_kn]
      exact ⟨fun q => q.elim (fun q => q.elim (fun q => q.elim .inl fun q => .inr (.inl q)) fun q => .inr (.inr q)) .inr, fun q => q.elim (fun q => .inl (.inl (.inl q))) .inr⟩
    · show (PS.mark2 _ _ _).nodes.length ≤ _
      rw [m5.1]; omega
    · show (PS.mark2 _ _ _).lg.length ≤ _
      have := m5.2.2.2.2; omega
  · rw [if_neg hu]
    have hx : S.vl (x + 1) ≠ 0 := fun e => hu (.inl e)
    have hy : S.vl (y + 1) ≠ 0 := fun e => hu (.inr e)
    obtain ⟨q1, q2, q3, q4⟩ := known_iff h hx hy
    obtain ⟨p1, p2, _, _⟩ := known_iff h hy hx
    unfold VS.setN
    rw [q4]
    by_cases hn : S.ne (S.vl (x + 1)) (S.vl (y + 1)) = true
    · rw [if_pos hn, if_pos hn]; exact ⟨Eff.refl h x y, rfl⟩
    · rw [if_neg hn, if_neg hn]
      by_cases he : S.vl (x + 1) = S.vl (y + 1)
      · rw [if_pos he, if_pos (q3.2 he)]; exact ⟨Eff.refl h x y, rfl⟩
      · rw [if_neg he, if_neg fun q => he (q3.1 q)]
        have mf := mark2_facts S (S.vl (x + 1)) (S.vl (y + 1))
        obtain ⟨k1, k2, k3⟩ := mark2_eff h hx hy he
        rw [setnoneq_known hx hy]
        generalize S.mark2 (S.vl (x + 1)) (S.vl (y + 1)) = U at *
        obtain ⟨m1, m2, m3, m4, m5⟩ := mf
        have ndU : U.nd = S.nd := by funext i; unfold PS.nd; rw [m1]
        obtain ⟨rk, hr⟩ := h.rk
        have sl : ∀ {c : Bool}, ∀ W : PS, W.nd = S.nd → ∀ a b, W.strictify a b = if reachB S.nd a b false = true ∧ reachB S.nd a b true = false then W.addchild a b true else W := by
          intro c W hW a b
          unfold PS.strictify; rw [hW]
          by_cases w1 : reachB S.nd a b false = true <;> by_cases w2 : reachB S.nd a b true = true <;> simp [w1, w2]
        by_cases hl : Le (Ed S.nd) (S.vl (x + 1)) (S.vl (y + 1))
        · have hnl : ¬ Le (Ed S.nd) (S.vl (y + 1)) (S.vl (x + 1)) := fun q => he (hr.anti hl q)
          rw [if_pos (q1.2 hl)]
          refine ⟨?_, rfl⟩
          by_cases ht : PE (Ed S.nd) (S.vl (x + 1)) (S.vl (y + 1)) true
          · rw [sl (c := true) U ndU, if_neg (by rw [reach_lt.2 ht]; simp), sl (c := true) U ndU, if_neg (by rw [reach_nle.2 hnl]; simp)]
            have hvm : VOK (S.abs.mark x y) := vok.mark fun q => he (q3.1 q)
            refine ⟨k1, k2, ?_, .inl ⟨by show U.nodes.length ≤ _; rw [m1]; omega, by show U.lg.length ≤ _; omega⟩⟩
            rw [add_idle hvm (show (S.abs.mark x y).le x y = true from q1.2 hl) hxy fun _ => show (S.abs.mark x y).lt x y = true from q2.2 ht]
            exact k3
          · rw [sl (c := true) U ndU, if_pos ⟨reach_le.2 hl, reach_nlt.2 ht⟩]
            obtain ⟨r0, h1, h2⟩ := h.val hx
            obtain ⟨e1, e2, e3, e4, e5⟩ := link_eff k1 (x := x) (y := y) (by rw [m1]; omega) (by rw [m2]; exact hx) (by rw [m2]; exact hy) (by rw [ndU, m2]; exact hnl) (by rw [m3]; exact h1) (by rw [ndU, m2]; exact h2) (by rw [ndU, m2]; exact h2.trans hl) true
            have hp := fun f => addchild_new (f := f) k1.toWF0 (i1 := S.vl (x + 1)) (c := S.vl (y + 1)) true (by rw [m1]; exact h.va _) (by rw [m1]; exact h.va _) hy (by rw [ndU]; exact hnl) (a := S.vl (y + 1)) (b := S.vl (x + 1)) (by rw [m1]; exact h.va _) (by rw [m1]; exact h.va _)
            rw [m2, m1] at e4
            rw [m2] at e1 e2 e3 e5
            have hno : ¬ Le (Ed (U.addchild (S.vl (x + 1)) (S.vl (y + 1)) true).nd) (S.vl (y + 1)) (S.vl (x + 1)) := by
              rintro ⟨f, q⟩
              rw [ndU] at hp
              rcases (hp f).1 q with q | ⟨_, _, q, _, _⟩
              · exact hnl q.le
              · exact hnl q.le
            have : (U.addchild (S.vl (x + 1)) (S.vl (y + 1)) true).strictify (S.vl (y + 1)) (S.vl (x + 1)) = U.addchild (S.vl (x + 1)) (S.vl (y + 1)) true := by
              unfold PS.strictify; rw [if_neg]; rw [reach_nle.2 hno]; simp
            rw [this]
            refine ⟨e1, k2.trans e2, e3.trans (by rw [k3]), .inl ⟨?_, ?_⟩⟩
            · show (U.addchild _ _ true).nodes.length ≤ _; omega
            · show (U.addchild _ _ true).lg.length ≤ _; omega
        · rw [if_neg fun q => hl (q1.1 q), sl (c := true) U ndU, if_neg (by rw [reach_nle.2 hl]; simp), sl (c := true) U ndU]
          by_cases hl2 : Le (Ed S.nd) (S.vl (y + 1)) (S.vl (x + 1))
          · rw [if_pos (p1.2 hl2)]
            refine ⟨?_, rfl⟩
            by_cases ht : PE (Ed S.nd) (S.vl (y + 1)) (S.vl (x + 1)) true
            · rw [if_neg (by rw [reach_lt.2 ht]; simp)]
              have hvm : VOK (S.abs.mark x y) := vok.mark fun q => he (q3.1 q)
              refine ⟨k1, k2, ?_, .inl ⟨by show U.nodes.length ≤ _; rw [m1]; omega, by show U.lg.length ≤ _; omega⟩⟩
              rw [add_idle hvm (show (S.abs.mark x y).le y x = true from p1.2 hl2) (Ne.symm hxy) fun _ => show (S.abs.mark x y).lt y x = true from p2.2 ht]
              exact k3
            · rw [if_pos ⟨reach_le.2 hl2, reach_nlt.2 ht⟩]
              obtain ⟨r0, h1, h2⟩ := h.val hy
              obtain ⟨e1, e2, e3, e4, e5⟩ := link_eff k1 (x := y) (y := x) (by rw [m1]; omega) (by rw [m2]; exact hy) (by rw [m2]; exact hx) (by rw [ndU, m2]; exact hl) (by rw [m3]; exact h1) (by rw [ndU, m2]; exact h2) (by rw [ndU, m2]; exact h2.trans hl2) true
              rw [m2, m1] at e4
              rw [m2] at e1 e2 e3 e5
              refine ⟨e1, k2.trans e2, e3.trans (by rw [k3]), .inl ⟨?_, ?_⟩⟩
              · show (U.addchild _ _ true).nodes.length ≤ _; omega
              · show (U.addchild _ _ true).lg.length ≤ _; omega
          · rw [if_neg fun q => hl2 (p1.1 q), if_neg (by rw [reach_nle.2 hl2]; simp)]
            exact ⟨⟨k1, k2, k3, .inl ⟨by show U.nodes.length ≤ _; rw [m1]; omega, by show U.lg.length ≤ _; omega⟩⟩, rfl⟩

/-! ## the questions -/
theorem qOrd_abs {S : PS} (h : OK S) (x y : Nat) : S.qOrd (x + 1) (y + 1) = S.abs.lt x y := by
  obtain ⟨rk, hr⟩ := h.rk
  rw [Bool.eq_iff_iff, abs_lt]
  unfold PS.qOrd PS.both
  simp only [Bool.and_eq_true, bne_iff_ne, reach_lt]
  constructor
  · rintro ⟨⟨q1, q2⟩, _, q3⟩; exact ⟨q1, q2, q3⟩
  · rintro ⟨q1, q2, q3⟩
    refine ⟨⟨q1, q2⟩, fun e => ?_, q3⟩
    rw [e] at q3; exact absurd (hr.self q3) (by decide)
theorem qLe_abs {S : PS} {x y : Nat} (hxy : x ≠ y) : S.qLe (x + 1) (y + 1) = S.abs.le x y := by
  rw [Bool.eq_iff_iff, abs_le]
  unfold PS.qLe PS.both
  simp only [Bool.and_eq_true, bne_iff_ne, Bool.or_eq_true, beq_iff_eq, reach_le]
  constructor
  · rintro ⟨⟨q1, q2⟩, q3 | q3⟩
    · exact .inr ⟨q1, q2, by rw [q3]; exact Le.refl _⟩
    · exact .inr ⟨q1, q2, q3⟩
  · rintro (q | ⟨q1, q2, q3⟩)
    · exact absurd q hxy
    · exact ⟨⟨q1, q2⟩, .inr q3⟩
theorem qEq_abs {S : PS} (h : OK S) {x y : Nat} (hxy : x ≠ y) : S.qEq (x + 1) (y + 1) = S.abs.eq x y := by
  rw [Bool.eq_iff_iff]
  unfold PS.qEq PS.both
  simp only [Bool.and_eq_true, bne_iff_ne, beq_iff_eq]
  by_cases hu : S.vl (x + 1) = 0 ∨ S.vl (y + 1) = 0
  · rw [VS.eq_iff, abs_le_un hu]
    exact ⟨fun q => hu.elim (fun w => absurd w q.1.1) fun w => absurd w q.1.2, fun q => absurd q.1 hxy⟩
  · have hx : S.vl (x + 1) ≠ 0 := fun e => hu (.inl e)
    have hy : S.vl (y + 1) ≠ 0 := fun e => hu (.inr e)
    rw [(known_iff h hx hy).2.2.1]
    exact ⟨fun q => q.2, fun q => ⟨⟨hx, hy⟩, q⟩⟩
theorem qNe_abs {S : PS} (h : OK S) (x y : Nat) : S.qNe (x + 1) (y + 1) = (S.abs.ne x y || S.abs.lt x y || S.abs.lt y x) := by
  unfold PS.qNe
  rw [qOrd_abs h, qOrd_abs h, Bool.eq_iff_iff]
  simp only [Bool.and_eq_true, Bool.or_eq_true, or_assoc]
  unfold PS.both
  simp only [Bool.and_eq_true, bne_iff_ne]
  constructor
  · rintro ⟨⟨q1, q2⟩, q | q⟩
    · exact .inl (abs_ne.2 ⟨q1, q2, q⟩)
    · exact .inr q
  · rintro (q | q | q)
    · have q := abs_ne.1 q; exact ⟨⟨q.1, q.2.1⟩, .inl q.2.2⟩
    · exact ⟨⟨(abs_lt.1 q).1, (abs_lt.1 q).2.1⟩, .inr (.inl q)⟩
    · exact ⟨⟨(abs_lt.1 q).2.1, (abs_lt.1 q).1⟩, .inr (.inr q)⟩
end Go.Proofs.Ytapnmgkpljlgmaa
