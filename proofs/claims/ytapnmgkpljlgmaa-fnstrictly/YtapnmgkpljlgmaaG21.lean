/- What follows from a row of facts: the reference's table of all pairs is the closure. Telling facts without SetNonEqual: the value machine, and the walks over the facts. Scripts: the value machine with a stack, the reference with its facts and marks; without SetNonEqual both answer the same. What holds of the machine's answers: one law after the other. Numbers: facts that are true of numbers; facts that contradict each other nowhere are true of some numbers. What is refused contradicts what was recorded, and what is reported follows from that. Two runs side by side: the other way round, numbered anew; facts in another order. Rows of values, rings, stars. SetNonEqual behind facts that fit, and ahead of others. -/
import Derived.Test.YtapnmgkpljlgmaaG15
import Derived.Test.YtapnmgkpljlgmaaG18
set_option linter.unusedVariables false
set_option linter.unusedSimpArgs false
namespace Go.Proofs.Ytapnmgkpljlgmaa

abbrev Mat := Nat → Nat → Nat
def rs (M : Mat) (x y n : Nat) : Mat := fun a b => if a = x ∧ b = y then max n (M a b) else M a b
def stp (k i j : Nat) (M : Mat) : Mat := if 0 < M i k ∧ 0 < M k j then rs M i j (max (M i k) (M k j)) else M
def rowF (k i : Nat) : Nat → Mat → Mat
  | 0, M => M
  | n + 1, M => stp k i n (rowF k i n M)
def rndF (v k : Nat) : Nat → Mat → Mat
  | 0, M => M
  | n + 1, M => rowF k n v (rndF v k n M)
def allF (v : Nat) : Nat → Mat → Mat
  | 0, M => M
  | n + 1, M => rndF v n v (allF v n M)

theorem stp_ge (k i j : Nat) (M : Mat) (a b : Nat) : M a b ≤ stp k i j M a b := by
  unfold stp; split
  · unfold rs; split
    · exact Nat.le_max_right _ _
    · exact Nat.le_refl _
  · exact Nat.le_refl _
theorem rowF_ge (k i : Nat) : ∀ (n : Nat) (M : Mat) (a b : Nat), M a b ≤ rowF k i n M a b
  | 0, _, _, _ => Nat.le_refl _
  | n + 1, M, a, b => Nat.le_trans (rowF_ge k i n M a b) (stp_ge k i n _ a b)
theorem rndF_ge (v k : Nat) : ∀ (n : Nat) (M : Mat) (a b : Nat), M a b ≤ rndF v k n M a b
  | 0, _, _, _ => Nat.le_refl _
  | n + 1, M, a, b => Nat.le_trans (rndF_ge v k n M a b) (rowF_ge k n v _ a b)
theorem allF_ge (v : Nat) : ∀ (n : Nat) (M : Mat) (a b : Nat), M a b ≤ allF v n M a b
  | 0, _, _, _ => Nat.le_refl _
  | n + 1, M, a, b => Nat.le_trans (allF_ge v n M a b) (rndF_ge v n v _ a b)
theorem allF_le (v : Nat) (M : Mat) {n m : Nat} (h : n ≤ m) (a b : Nat) : allF v n M a b ≤ allF v m M a b := by
  induction h with
  | refl => exact Nat.le_refl _
  | step _ ih => exact Nat.le_trans ih (rndF_ge v _ v _ a b)

def nw (k : Nat) (M : Mat) (a b : Nat) : Nat := if 0 < M a k ∧ 0 < M k b then max (M a b) (max (M a k) (M k b)) else M a b
theorem nw_row {k : Nat} {M : Mat} (h : M k k ≤ 1) (b : Nat) : nw k M k b = M k b := by
  unfold nw; split
  · rename_i q; simp only [Nat.max_def]; split <;> split at * <;> omega
  · rfl
theorem nw_col {k : Nat} {M : Mat} (h : M k k ≤ 1) (a : Nat) : nw k M a k = M a k := by
  unfold nw; split
  · omega
  · rfl
theorem rowF_eq {k i : Nat} {M cur : Mat} (h : M k k ≤ 1) (h1 : ∀ b, cur k b = M k b) (h2 : ∀ a, cur a k = M a k) (h3 : ∀ b, cur i b = M i b) : ∀ (n a b : Nat), rowF k i n cur a b = if a = i ∧ b < n then nw k M i b else cur a b
  | 0, a, b => by rw [if_neg (by omega)]; rfl
  | n + 1, a, b => by
    have ih := rowF_eq h h1 h2 h3 n
    have e1 : rowF k i n cur i k = M i k := by
      rw [ih]; split
      · exact nw_col h i
      · exact h2 i
    have e2 : rowF k i n cur k n = M k n := by
      rw [ih, if_neg (by omega)]; exact h1 n
    have e3 : rowF k i n cur i n = M i n := by rw [ih, if_neg (by omega)]; exact h3 n
    show stp k i n (rowF k i n cur) a b = _
    unfold stp
    rw [e1, e2]
    by_cases hab : a = i ∧ b = n
    · obtain ⟨rfl, rfl⟩ := hab
      rw [if_pos (show a = a ∧ b < b + 1 by omega)]
      unfold nw
      split
      · unfold rs; rw [if_pos ⟨rfl, rfl⟩, e3, Nat.max_comm]
      · exact e3
    · have e4 : (if 0 < M i k ∧ 0 < M k n then rs (rowF k i n cur) i n (max (M i k) (M k n)) else rowF k i n cur) a b = rowF k i n cur a b := by
        split
        · unfold rs; rw [if_neg hab]
        · rfl
      rw [e4, ih]
      by_cases q : a = i ∧ b < n
      · rw [if_pos q, if_pos (by omega)]
      · rw [if_neg q, if_neg (by omega)]
theorem rndF_eq {v k : Nat} {M : Mat} (h : M k k ≤ 1) : ∀ (n a b : Nat), rndF v k n M a b = if a < n ∧ b < v then nw k M a b else M a b
  | 0, a, b => by rw [if_neg (by omega)]; rfl
  | n + 1, a, b => by
    have ih := rndF_eq (v := v) h n
    have := rowF_eq (i := n) (cur := rndF v k n M) h (fun b => by
      rw [ih]; split
      · exact nw_row h b
      · rfl) (fun a => by
      rw [ih]; split
      · exact nw_col h a
      · rfl) (fun b => by rw [ih, if_neg (by omega)]) v a b
    show rowF k n v (rndF v k n M) a b = _
    rw [this, ih]
    by_cases q : a = n
    · subst q
      by_cases hb : b < v
      · rw [if_pos ⟨rfl, hb⟩, if_pos ⟨by omega, hb⟩]
      · rw [if_neg (by omega), if_neg (by omega), if_neg (by omega)]
    · rw [if_neg (by omega)]
      by_cases q2 : a < n ∧ b < v
      · rw [if_pos q2, if_pos (by omega)]
      · rw [if_neg q2, if_neg (by omega)]

theorem nw_spec (k : Nat) (M : Mat) (a b : Nat) : (0 < M a k ∧ 0 < M k b ∧ M a b ≤ nw k M a b ∧ M a k ≤ nw k M a b ∧ M k b ≤ nw k M a b ∧ (nw k M a b = M a b ∨ nw k M a b = M a k ∨ nw k M a b = M k b)) ∨ ((M a k = 0 ∨ M k b = 0) ∧ nw k M a b = M a b) := by
  unfold nw; split
  · rename_i q
    refine .inl ⟨q.1, q.2, Nat.le_max_left _ _, Nat.le_trans (Nat.le_max_left _ _) (Nat.le_max_right _ _), Nat.le_trans (Nat.le_max_right _ _) (Nat.le_max_right _ _), ?_⟩
    omega
  · exact .inr ⟨by omega, rfl⟩
theorem closed_aux {a b c p q r s d X Y Z : Nat} (h1 : 0 < X) (h2 : 0 < Y) (c1 : 0 < a → 0 < b → a ≤ c ∧ b ≤ c) (c2 : 0 < r → 0 < b → r ≤ q ∧ b ≤ q) (c3 : 0 < a → 0 < s → a ≤ p ∧ s ≤ p) (c4 : 0 < r → 0 < s → r ≤ d ∧ s ≤ d) (hd : d ≤ 1)
    (x : (0 < p ∧ 0 < r ∧ a ≤ X ∧ p ≤ X ∧ r ≤ X ∧ (X = a ∨ X = p ∨ X = r)) ∨ ((p = 0 ∨ r = 0) ∧ X = a))
    (y : (0 < s ∧ 0 < q ∧ b ≤ Y ∧ s ≤ Y ∧ q ≤ Y ∧ (Y = b ∨ Y = s ∨ Y = q)) ∨ ((s = 0 ∨ q = 0) ∧ Y = b))
    (z : (0 < p ∧ 0 < q ∧ c ≤ Z ∧ p ≤ Z ∧ q ≤ Z ∧ (Z = c ∨ Z = p ∨ Z = q)) ∨ ((p = 0 ∨ q = 0) ∧ Z = c)) : X ≤ Z ∧ Y ≤ Z := by
  by_cases pa : 0 < a <;> by_cases pb : 0 < b <;> by_cases pr : 0 < r <;> by_cases ps : 0 < s <;> simp only [pa, pb, pr, ps, forall_const, false_implies] at c1 c2 c3 c4 <;> omega
/-- Where no value is less than itself, the table is closed. -/
theorem allF_closed {v : Nat} {M : Mat} : ∀ n, n ≤ v → (∀ i, i < v → allF v n M i i ≤ 1) → ∀ m i j, m < n → i < v → j < v → 0 < allF v n M i m → 0 < allF v n M m j → max (allF v n M i m) (allF v n M m j) ≤ allF v n M i j
  | 0, _, _, m, i, j, hm, _, _, _, _ => by omega
  | n + 1, hn, hd, m, i, j, hm, hi, hj, h1, h2 => by
    have hd0 : ∀ i, i < v → allF v n M i i ≤ 1 := fun i hi => Nat.le_trans (rndF_ge v n v _ i i) (hd i hi)
    have ih := allF_closed n (by omega) hd0
    have hnn := hd0 n (by omega)
    have e : ∀ a b, a < v → b < v → allF v (n + 1) M a b = nw n (allF v n M) a b := fun a b ha hb => by
      show rndF v n v (allF v n M) a b = _
      rw [rndF_eq hnn, if_pos ⟨ha, hb⟩]
    have hmv : m < v := by omega
    rw [e i m hi hmv, e m j hmv hj] at *
    rw [e i j hi hj]
    generalize allF v n M = N at *
    by_cases hmn : m = n
    · subst hmn
      rw [nw_col hnn, nw_row hnn] at *
      unfold nw; rw [if_pos ⟨h1, h2⟩]
      exact Nat.le_max_right _ _
    · have c := fun i j hi hj => ih m i j (by omega) hi hj
      have hnv : n < v := by omega
      have c1 := c i j hi hj
      have c2 := c n j hnv hj
      have c3 := c i n hi hnv
      have c4 := c n n hnv hnv
      simp only [Nat.max_le] at c1 c2 c3 c4
      have b1 := nw_spec n N i m
      have b2 := nw_spec n N m j
      have b3 := nw_spec n N i j
      exact Nat.max_le.2 (closed_aux h1 h2 c1 c2 c3 c4 hnn b1 b2 b3)

/-! ## facts -/
structure Stp where
  op : Nat
  x : Nat
  y : Nat
/-- The edges of the facts. -/
def FE (F : List Stp) : ERel := fun a b s => ∃ f ∈ F, (f.op = 0 ∧ a = f.x ∧ b = f.y ∧ s = true) ∨ (f.op = 1 ∧ a = f.x ∧ b = f.y ∧ s = false) ∨ (f.op = 2 ∧ ((a = f.x ∧ b = f.y) ∨ (a = f.y ∧ b = f.x)) ∧ s = false)
def mf (M : Mat) (f : Stp) : Mat := if f.op = 0 then rs M f.x f.y 2 else if f.op = 1 then rs M f.x f.y 1 else if f.op = 2 then rs (rs M f.x f.y 1) f.y f.x 1 else M
def m0 (F : List Stp) : Mat := F.foldl mf fun _ _ => 0
def known (v : Nat) (F : List Stp) : Mat := allF v v (m0 F)
/-- A number that stands in the table is that of a walk. -/
def Snd (E : ERel) (M : Mat) : Prop := ∀ a b, M a b ≤ 2 ∧ (0 < M a b → ∃ c s t, E a c s ∧ PE E c b t ∧ (M a b = 2 → (s || t) = true))
theorem Snd.rs {E : ERel} {M : Mat} (h : Snd E M) {x y n : Nat} (hn : n ≤ 2) (hw : 0 < n → ∃ c s t, E x c s ∧ PE E c y t ∧ (n = 2 → (s || t) = true)) : Snd E (rs M x y n) := by
  intro a b
  unfold Go.Proofs.Ytapnmgkpljlgmaa.rs
  split
  · rename_i e
    obtain ⟨rfl, rfl⟩ := e
    obtain ⟨h1, h2⟩ := h a b
    rcases Nat.le_total n (M a b) with q | q
    · rw [Nat.max_eq_right q]; exact ⟨h1, h2⟩
    · rw [Nat.max_eq_left q]; exact ⟨hn, hw⟩
  · exact h a b
theorem Snd.stp {E : ERel} {M : Mat} (h : Snd E M) (k i j : Nat) : Snd E (stp k i j M) := by
  unfold Go.Proofs.Ytapnmgkpljlgmaa.stp
  split
  · rename_i q
    obtain ⟨h1, h2⟩ := h i k
    obtain ⟨h3, h4⟩ := h k j
    obtain ⟨c, s, t, e1, e2, e3⟩ := h2 q.1
    obtain ⟨d, s', t', g1, g2, g3⟩ := h4 q.2
    refine h.rs (Nat.max_le.2 ⟨h1, h3⟩) fun _ => ⟨c, s, t || (s' || t'), e1, e2.trans (.cons g1 g2), fun hm => ?_⟩
    rcases Nat.le_total (M i k) (M k j) with w | w
    · rw [Nat.max_eq_right w] at hm
      have := g3 hm
      rw [this]; simp
    · rw [Nat.max_eq_left w] at hm
      have := e3 hm
      rw [← Bool.or_assoc, this]; simp
  · exact h
theorem Snd.row {E : ERel} (k i : Nat) : ∀ (n : Nat) (M : Mat), Snd E M → Snd E (rowF k i n M)
  | 0, _, h => h
  | n + 1, M, h => (Snd.row k i n M h).stp k i n
theorem Snd.rnd {E : ERel} (v k : Nat) : ∀ (n : Nat) (M : Mat), Snd E M → Snd E (rndF v k n M)
  | 0, _, h => h
  | n + 1, M, h => Snd.row k n v _ (Snd.rnd v k n M h)
theorem Snd.all {E : ERel} (v : Nat) : ∀ (n : Nat) (M : Mat), Snd E M → Snd E (allF v n M)
  | 0, _, h => h
  | n + 1, M, h => Snd.rnd v n v _ (Snd.all v n M h)
theorem rs_ge (M : Mat) (x y n a b : Nat) : M a b ≤ rs M x y n a b := by
  unfold rs; split
  · exact Nat.le_max_right _ _
  · exact Nat.le_refl _
theorem mf_ge (M : Mat) (f : Stp) (a b : Nat) : M a b ≤ mf M f a b := by
  have r : ∀ (M : Mat) x y n, M a b ≤ rs M x y n a b := fun M x y n => by
    unfold rs; split
    · exact Nat.le_max_right _ _
    · exact Nat.le_refl _
  unfold mf
  split
  · exact r _ _ _ _
  · split
    · exact r _ _ _ _
    · split
      · exact Nat.le_trans (r M _ _ _) (r _ _ _ _)
      · exact Nat.le_refl _
theorem rs_at (M : Mat) (x y n : Nat) : n ≤ rs M x y n x y := by unfold rs; rw [if_pos ⟨rfl, rfl⟩]; exact Nat.le_max_left _ _
theorem m0_snoc (F : List Stp) (f : Stp) : m0 (F ++ [f]) = mf (m0 F) f := by unfold m0; rw [List.foldl_append]; rfl
theorem FE_mono {F G : List Stp} (h : ∀ f ∈ F, f ∈ G) {a b : Nat} {s : Bool} (e : FE F a b s) : FE G a b s := by
  obtain ⟨f, hf, e⟩ := e; exact ⟨f, h f hf, e⟩
theorem m0_snd : ∀ (n : Nat) (F : List Stp), F.length = n → Snd (FE F) (m0 F)
  | 0, F, h => by
    have : F = [] := List.eq_nil_of_length_eq_zero h
    subst this
    exact fun a b => ⟨Nat.zero_le _, fun h => absurd h (by show ¬ 0 < 0; omega)⟩
  | n + 1, F, h => by
    rcases List.eq_nil_or_concat F with rfl | ⟨F', f, rfl⟩
    · simp at h
    · rw [List.concat_eq_append] at *
      have ih := m0_snd n F' (by simpa using h)
      have ih' : Snd (FE (F' ++ [f])) (m0 F') := fun a b => ⟨(ih a b).1, fun q => by
        obtain ⟨c, s, t, e1, e2, e3⟩ := (ih a b).2 q
        exact ⟨c, s, t, FE_mono (fun f hf => by simp [hf]) e1, e2.mono fun _ _ _ e => FE_mono (fun f hf => by simp [hf]) e, e3⟩⟩
      rw [m0_snoc]
      have ed : ∀ a b s, ((f.op = 0 ∧ a = f.x ∧ b = f.y ∧ s = true) ∨ (f.op = 1 ∧ a = f.x ∧ b = f.y ∧ s = false) ∨ (f.op = 2 ∧ ((a = f.x ∧ b = f.y) ∨ (a = f.y ∧ b = f.x)) ∧ s = false)) → FE (F' ++ [f]) a b s := fun a b s e => ⟨f, by simp, e⟩
      unfold mf
      split
      · rename_i h0
        exact ih'.rs (by omega) fun _ => ⟨f.y, true, false, ed _ _ _ (.inl ⟨h0, rfl, rfl, rfl⟩), .nil _, fun _ => rfl⟩
      · split
        · rename_i h1
          exact ih'.rs (by omega) fun _ => ⟨f.y, false, false, ed _ _ _ (.inr (.inl ⟨h1, rfl, rfl, rfl⟩)), .nil _, fun q => by omega⟩
        · split
          · rename_i h2
            exact (ih'.rs (by omega) fun _ => ⟨f.y, false, false, ed _ _ _ (.inr (.inr ⟨h2, .inl ⟨rfl, rfl⟩, rfl⟩)), .nil _, fun q => by omega⟩).rs (by omega)
              fun _ => ⟨f.x, false, false, ed _ _ _ (.inr (.inr ⟨h2, .inr ⟨rfl, rfl⟩, rfl⟩)), .nil _, fun q => by omega⟩
          · exact ih'
def num (s : Bool) : Nat := if s then 2 else 1
theorem m0_edge : ∀ (n : Nat) (F : List Stp), F.length = n → ∀ a b s, FE F a b s → num s ≤ m0 F a b
  | 0, F, h, a, b, s, e => by
    have : F = [] := List.eq_nil_of_length_eq_zero h
    subst this
    obtain ⟨f, hf, _⟩ := e; simp at hf
  | n + 1, F, h, a, b, s, e => by
    rcases List.eq_nil_or_concat F with rfl | ⟨F', f, rfl⟩
    · simp at h
    · rw [List.concat_eq_append] at *
      rw [m0_snoc]
      obtain ⟨g, hg, e⟩ := e
      simp only [List.mem_append, List.mem_singleton] at hg
      rcases hg with hg | rfl
      · exact Nat.le_trans (m0_edge n F' (by simpa using h) a b s ⟨g, hg, e⟩) (mf_ge _ _ _ _)
      · unfold mf
        rcases e with ⟨h0, rfl, rfl, rfl⟩ | ⟨h1, rfl, rfl, rfl⟩ | ⟨h2, e, rfl⟩
        · rw [if_pos h0]; exact rs_at _ _ _ _
        · rw [if_neg (by omega), if_pos h1]; exact rs_at _ _ _ _
        · rw [if_neg (by omega), if_neg (by omega), if_pos h2]
          rcases e with ⟨rfl, rfl⟩ | ⟨rfl, rfl⟩
          · exact Nat.le_trans (rs_at (m0 F') g.x g.y 1) (rs_ge _ _ _ _ _ _)
          · exact rs_at _ _ _ _
def InV (v : Nat) (F : List Stp) : Prop := ∀ f ∈ F, f.op ≤ 2 → f.x < v ∧ f.y < v
theorem FE_lt {v : Nat} {F : List Stp} (h : InV v F) {a b : Nat} {s : Bool} (e : FE F a b s) : a < v ∧ b < v := by
  obtain ⟨f, hf, e⟩ := e
  have := h f hf (by omega)
  omega
theorem known_walk {v : Nat} {F : List Stp} (hF : InV v F) (hd : ∀ i, i < v → known v F i i ≤ 1) {a c b : Nat} {s t : Bool} (e : FE F a c s) (k : PE (FE F) c b t) : num (s || t) ≤ known v F a b := by
  induction k generalizing a s with
  | nil c =>
    rw [Bool.or_false]
    exact Nat.le_trans (m0_edge _ F rfl _ _ _ e) (allF_ge v v _ _ _)
  | cons e2 k ih =>
    rename_i c d b s' t'
    have h1 : num s ≤ known v F a c := Nat.le_trans (m0_edge _ F rfl _ _ _ e) (allF_ge v v _ _ _)
    have h2 := ih e2
    have hb : b < v := by
      clear ih h2 h1
      have : ∀ {x y f}, PE (FE F) x y f → x < v → y < v := by
        intro x y f k
        induction k with
        | nil => exact id
        | cons e _ ih => exact fun _ => ih (FE_lt hF e).2
      exact this k (FE_lt hF e2).2
    have n1 : ∀ s, 0 < num s := fun s => by cases s <;> simp [num]
    have := allF_closed v (Nat.le_refl v) hd c a b (FE_lt hF e).2 (FE_lt hF e).1 hb (Nat.lt_of_lt_of_le (n1 _) h1) (Nat.lt_of_lt_of_le (n1 _) h2)
    have m := Nat.max_le.1 this
    have k1 := Nat.le_trans h1 m.1
    have k2 := Nat.le_trans h2 m.2
    show num (s || (s' || t')) ≤ known v F a b
    cases s
    · rw [Bool.false_or]; exact k2
    · rw [Bool.true_or]; exact k1
/-- The table, and the walks. -/
theorem known_diag {v : Nat} {F : List Stp} (hF : InV v F) : (∃ i, i < v ∧ known v F i i = 2) ↔ ∃ i, PE (FE F) i i true := by
  have snd := Snd.all v v (m0 F) (m0_snd _ F rfl)
  constructor
  · rintro ⟨i, _, h⟩
    obtain ⟨c, s, t, e1, e2, e3⟩ := (snd i i).2 (by show 0 < known v F i i; omega)
    exact ⟨i, e3 h ▸ .cons e1 e2⟩
  · rintro ⟨i, h⟩
    refine Classical.byContradiction fun hn => ?_
    have hd : ∀ i, i < v → known v F i i ≤ 1 := fun i hi => by
      have := (snd i i).1
      have h2 : known v F i i ≠ 2 := fun q => hn ⟨i, hi, q⟩
      show known v F i i ≤ 1
      have : known v F i i ≤ 2 := this
      omega
    generalize hf : true = f at h
    cases h with
    | nil => cases hf
    | cons e k =>
      have h1 := known_walk hF hd e k
      rw [← hf] at h1
      have := hd i (FE_lt hF e).1
      simp [num] at h1
      omega
theorem known_iff2 {v : Nat} {F : List Stp} (hF : InV v F) (hn : ¬ ∃ i, PE (FE F) i i true) {a b : Nat} (hab : a ≠ b) : (0 < known v F a b ↔ Le (FE F) a b) ∧ (known v F a b = 2 ↔ PE (FE F) a b true) := by
  have snd := Snd.all v v (m0 F) (m0_snd _ F rfl)
  have hd : ∀ i, i < v → known v F i i ≤ 1 := fun i hi => by
    have : known v F i i ≤ 2 := (snd i i).1
    have h2 : known v F i i ≠ 2 := fun q => hn ((known_diag hF).1 ⟨i, hi, q⟩)
    omega
  have up : ∀ f, PE (FE F) a b f → num f ≤ known v F a b := by
    intro f h
    cases h with
    | nil => exact absurd rfl hab
    | cons e k => exact known_walk hF hd e k
  constructor
  · constructor
    · intro h
      obtain ⟨c, s, t, e1, e2, _⟩ := (snd a b).2 h
      exact ⟨_, .cons e1 e2⟩
    · rintro ⟨f, h⟩
      have := up f h
      cases f <;> simp [num] at this <;> omega
  · constructor
    · intro h
      obtain ⟨c, s, t, e1, e2, e3⟩ := (snd a b).2 (by show 0 < known v F a b; omega)
      exact e3 h ▸ .cons e1 e2
    · intro h
      have h1 := up _ h
      have h2 : known v F a b ≤ 2 := (snd a b).1
      simp [num] at h1
      omega
end Go.Proofs.Ytapnmgkpljlgmaa
namespace Go.Proofs.Ytapnmgkpljlgmaa

/-- The machine's order is that of walks over E. -/
structure Sim (V : VS) (E : ERel) : Prop where
  le : ∀ a b, V.le a b = true ↔ Le E a b
  lt : ∀ a b, V.lt a b = true ↔ PE E a b true

theorem Le.mono {E E' : ERel} (h : ∀ a b s, E a b s → E' a b s) {a b : Nat} (k : Le E a b) : Le E' a b := ⟨_, k.choose_spec.mono h⟩
theorem add_le_iff {E : ERel} {x y : Nat} {s : Bool} {a b : Nat} : Le (addR E x y s) a b ↔ Le E a b ∨ (Le E a x ∧ Le E y b) := by
  constructor
  · rintro ⟨f, k⟩
    induction k with
    | nil => exact .inl (Le.refl _)
    | cons e _ ih =>
      rcases e with e | ⟨rfl, rfl, rfl⟩
      · have l := (PE.one e).le
        rcases ih with ih | ⟨h1, h2⟩
        · exact .inl (l.trans ih)
        · exact .inr ⟨l.trans h1, h2⟩
      · rcases ih with ih | ⟨h1, h2⟩
        · exact .inr ⟨Le.refl _, ih⟩
        · exact .inr ⟨Le.refl _, h2⟩
  · have m : ∀ a b t, E a b t → addR E x y s a b t := fun _ _ _ e => .inl e
    rintro (h | ⟨h1, h2⟩)
    · exact h.mono m
    · exact (h1.mono m).trans ((PE.one (.inr ⟨rfl, rfl, rfl⟩)).le.trans (h2.mono m))
theorem Sim.add {V : VS} {E : ERel} (h : Sim V E) {x y : Nat} {s : Bool} (hn : Le E y x → s = false ∧ ¬ PE E y x true) : Sim (V.add x y s) (addR E x y s) where
  le a b := by rw [VS.add_le, add_le_iff, h.le, h.le, h.le]
  lt a b := by
    rw [VS.add_lt, h.lt, h.lt, h.lt, h.le, h.le, add_iff (fun g k => by
      obtain ⟨h1, h2⟩ := hn k.le
      cases g
      · exact ⟨rfl, h1⟩
      · exact absurd k h2)]
    constructor
    · rintro (k | ⟨⟨f1, k1⟩, ⟨f2, k2⟩, k3⟩)
      · exact .inl k
      · rcases k3 with k3 | rfl | k3
        · exact .inr ⟨true, f2, k3, k2, by simp⟩
        · exact .inr ⟨f1, f2, k1, k2, by simp⟩
        · exact .inr ⟨f1, true, k1, k3, by simp⟩
    · rintro (k | ⟨f1, f2, k1, k2, k3⟩)
      · exact .inl k
      · refine .inr ⟨k1.le, k2.le, ?_⟩
        cases f1
        · cases s
          · cases f2
            · simp at k3
            · exact .inr (.inr k2)
          · exact .inr (.inl rfl)
        · exact .inl k1
/-- An edge that says nothing new. -/
theorem Sim.idle {V : VS} {E : ERel} (o : VO V) (h : Sim V E) {x y : Nat} {s : Bool} (hxy : V.le x y = true) (hs : s = true → V.lt x y = true) : Sim V (addR E x y s) := by
  have hn : Le E y x → s = false ∧ ¬ PE E y x true := by
    intro k
    have k := (h.le y x).2 k
    refine ⟨?_, fun q => ?_⟩
    · cases s
      · rfl
      · exact absurd (o.rl (hs rfl) k) (o.ir x)
    · have q := (h.lt y x).2 q
      exact absurd (o.lr hxy q) (o.ir x)
  have k := h.add hn
  constructor
  · intro a b
    rw [← k.le, VS.add_le]
    exact ⟨.inl, fun q => q.elim id fun q => o.tr (o.tr q.1 hxy) q.2⟩
  · intro a b
    rw [← k.lt, VS.add_lt]
    refine ⟨.inl, fun q => q.elim id fun ⟨q1, q2, q3⟩ => ?_⟩
    rcases q3 with q3 | q3 | q3
    · exact o.rl q3 (o.tr hxy q2)
    · exact o.lr q1 (o.rl (hs q3) q2)
    · exact o.lr (o.tr q1 hxy) q3
theorem Sim.congr {V : VS} {E E' : ERel} (h : Sim V E) (he : ∀ a b s, E a b s ↔ E' a b s) : Sim V E' := by
  have : E = E' := funext fun a => funext fun b => funext fun s => propext (he a b s)
  exact this ▸ h
theorem Sim.fold {V : VS} {E : ERel} (h : Sim V E) (r : Nat) : Sim (V.fold r) E := ⟨h.le, h.lt⟩
theorem Sim.same {V W : VS} {E : ERel} (h : Sim V E) (h1 : W.le = V.le) (h2 : W.lt = V.lt) : Sim W E := ⟨fun a b => by rw [h1]; exact h.le a b, fun a b => by rw [h2]; exact h.lt a b⟩

/-- The edges with one fact more. -/
theorem FE_snoc (F : List Stp) (f : Stp) {a b : Nat} {s : Bool} : FE (F ++ [f]) a b s ↔ FE F a b s ∨ ((f.op = 0 ∧ a = f.x ∧ b = f.y ∧ s = true) ∨ (f.op = 1 ∧ a = f.x ∧ b = f.y ∧ s = false) ∨ (f.op = 2 ∧ ((a = f.x ∧ b = f.y) ∨ (a = f.y ∧ b = f.x)) ∧ s = false)) := by
  constructor
  · rintro ⟨g, hg, e⟩
    simp only [List.mem_append, List.mem_singleton] at hg
    rcases hg with hg | rfl
    · exact .inl ⟨g, hg, e⟩
    · exact .inr e
  · rintro (⟨g, hg, e⟩ | e)
    · exact ⟨g, by simp [hg], e⟩
    · exact ⟨f, by simp, e⟩
theorem FE_ord (F : List Stp) (x y : Nat) (st : Bool) (a b : Nat) (s : Bool) : addR (FE F) x y st a b s ↔ FE (F ++ [⟨if st then 0 else 1, x, y⟩]) a b s := by
  rw [FE_snoc]
  cases st <;> simp [addR]
theorem FE_eq (F : List Stp) (x y : Nat) (a b : Nat) (s : Bool) : addR (addR (FE F) x y false) y x false a b s ↔ FE (F ++ [⟨2, x, y⟩]) a b s := by
  rw [FE_snoc]
  simp only [addR]
  constructor
  · rintro ((h | ⟨rfl, rfl, rfl⟩) | ⟨rfl, rfl, rfl⟩)
    · exact .inl h
    · simp
    · simp
  · rintro (h | h | h | ⟨_, h | h, h2⟩)
    · exact .inl (.inl h)
    · exact absurd h.1 (by decide)
    · exact absurd h.1 (by decide)
    · exact .inl (.inr ⟨h.1, h.2, h2⟩)
    · exact .inr ⟨h.1, h.2, h2⟩

/-- What telling does to the order. -/
structure Told (V : VS) (r : VS × Bool) (E' : ERel) : Prop where
  yes : r.2 = true → Sim r.1 E'
  no : r.2 = false → r.1 = V ∧ ∃ i, PE E' i i true
  ne : ∀ a b, r.1.ne a b = false
theorem setO_told {V : VS} {E : ERel} (o : VO V) (h : Sim V E) (hn : ∀ a b, V.ne a b = false) (x y : Nat) (st : Bool) : Told V (V.setO x y st) (addR E x y st) := by
  have m : ∀ a b t, E a b t → addR E x y st a b t := fun _ _ _ e => .inl e
  have new : PE (addR E x y st) x y st := .one (.inr ⟨rfl, rfl, rfl⟩)
  unfold VS.setO
  rw [hn]
  split
  · rename_i he
    rw [VS.eq_iff] at he
    refine ⟨fun k => ?_, fun k => ⟨rfl, ?_⟩, hn⟩
    · exact h.idle o he.1 (by intro q; rw [q] at k; cases k)
    · have : st = true := by cases st <;> simp at k ⊢
      obtain ⟨f, hf⟩ := (h.le y x).1 he.2
      exact ⟨x, (new.trans' (hf.mono m) (by rw [this]; simp))⟩
  · rename_i he
    rw [VS.eq_iff] at he
    split
    · rename_i hl
      refine ⟨fun _ => ?_, fun k => (by cases k), hn⟩
      rw [Bool.or_false]
      exact h.add fun k => absurd ⟨hl, (h.le y x).2 k⟩ he
    · split
      · rename_i hl
        split
        · rename_i hc
          refine ⟨fun k => (by simp at k), fun _ => ⟨rfl, ?_⟩, hn⟩
          rw [Bool.or_false, Bool.or_eq_true] at hc
          obtain ⟨f, hf⟩ := (h.le y x).1 hl
          rcases hc with hc | hc
          · exact ⟨x, (new.trans' (hf.mono m) (by rw [hc]; simp))⟩
          · exact ⟨x, new.trans' (((h.lt y x).1 hc).mono m) (by simp)⟩
        · rename_i hc
          rw [Bool.or_false, Bool.or_eq_true] at hc
          have : st = false := by cases st <;> simp at hc ⊢
          subst this
          refine ⟨fun _ => (h.add fun _ => ⟨rfl, fun k => hc (.inr ((h.lt y x).2 k))⟩).fold _, fun k => (by cases k), fun a b => hn _ _⟩
      · rename_i hl
        refine ⟨fun _ => ?_, fun k => (by cases k), hn⟩
        rw [Bool.or_false]
        exact h.add fun k => absurd ((h.le y x).2 k) hl
theorem setE_told {V : VS} {E : ERel} (o : VO V) (h : Sim V E) (hn : ∀ a b, V.ne a b = false) (x y : Nat) : Told V (V.setE x y) (addR (addR E x y false) y x false) := by
  have m : ∀ a b t, E a b t → addR (addR E x y false) y x false a b t := fun _ _ _ e => .inl (.inl e)
  have n1 : PE (addR (addR E x y false) y x false) x y false := .one (.inl (.inr ⟨rfl, rfl, rfl⟩))
  have n2 : PE (addR (addR E x y false) y x false) y x false := .one (.inr ⟨rfl, rfl, rfl⟩)
  unfold VS.setE
  rw [hn]
  split
  · rename_i he
    rw [VS.eq_iff] at he
    exact ⟨fun k => (h.idle o he.1 (by intro q; cases q)).idle o he.2 (by intro q; cases q), fun k => (by cases k), hn⟩
  · rename_i he
    rw [VS.eq_iff] at he
    rw [if_neg (by decide)]
    split
    · rename_i hl
      split
      · rename_i hc
        refine ⟨fun k => (by simp at k), fun _ => ⟨rfl, x, ?_⟩, hn⟩
        exact (((h.lt x y).1 hc).mono m).trans n2
      · rename_i hc
        refine ⟨fun _ => ?_, fun k => (by cases k), fun a b => hn _ _⟩
        have k := h.idle (s := false) o hl (by intro q; cases q)
        exact (k.add fun _ => ⟨rfl, fun q => hc ((k.lt x y).2 q)⟩).fold _
    · rename_i hl
      split
      · rename_i hr
        split
        · rename_i hc
          refine ⟨fun k => (by simp at k), fun _ => ⟨rfl, y, ?_⟩, hn⟩
          exact (((h.lt y x).1 hc).mono m).trans n1
        · rename_i hc
          refine ⟨fun _ => ?_, fun k => (by cases k), fun a b => hn _ _⟩
          have k := h.add (x := x) (y := y) (s := false) fun _ => ⟨rfl, fun q => hc ((h.lt y x).2 q)⟩
          have oo : VO (V.add x y false) := o.add fun _ => ⟨rfl, hc⟩
          exact (k.idle oo (VS.add_le.2 (.inl hr)) (by intro q; cases q)).fold _
      · rename_i hr
        refine ⟨fun _ => ?_, fun k => (by cases k), fun a b => hn _ _⟩
        have k := h.add (x := x) (y := y) (s := false) fun q => absurd ((h.le y x).2 q) hr
        have hlt : ¬ V.lt x y = true := fun q => hl (o.ll q)
        refine (k.add fun _ => ⟨rfl, fun q => ?_⟩).fold _
        have q := (k.lt x y).2 q
        rw [VS.add_lt] at q
        rcases q with q | ⟨_, _, q | q | q⟩
        · exact hlt q
        · exact o.ir x q
        · cases q
        · exact o.ir y q

/-! ## the reference's answers -/
def fitB (v : Nat) (F : List Stp) : Bool := ((List.range v).all fun i => known v F i i != 2) && F.all fun f => !(f.op == 3 && decide (0 < known v F f.x f.y) && decide (0 < known v F f.y f.x))
def holdB (v : Nat) (F : List Stp) (s : Stp) : Bool :=
  if s.op = 4 then known v F s.x s.y == 2 else if s.op = 5 then decide (0 < known v F s.x s.y) else if s.op = 6 then known v F s.x s.y == 1 && known v F s.y s.x == 1
  else known v F s.x s.y == 2 || known v F s.y s.x == 2
def Plain (F : List Stp) : Prop := ∀ f ∈ F, f.op ≤ 2
theorem fitB_iff {v : Nat} {F : List Stp} (hF : InV v F) (hp : Plain F) : fitB v F = true ↔ ¬ ∃ i, PE (FE F) i i true := by
  rw [← known_diag hF]
  unfold fitB
  rw [Bool.and_eq_true, List.all_eq_true, List.all_eq_true]
  constructor
  · rintro ⟨h, _⟩ ⟨i, hi, hk⟩
    have := h i (List.mem_range.2 hi)
    rw [bne_iff_ne] at this
    exact this hk
  · intro h
    refine ⟨fun i hi => ?_, fun f hf => ?_⟩
    · rw [bne_iff_ne]; exact fun hk => h ⟨i, List.mem_range.1 hi, hk⟩
    · have := hp f hf
      have : (f.op == 3) = false := by rw [beq_eq_false_iff_ne]; omega
      rw [this]; rfl
theorem sim_fits {V : VS} {F : List Stp} (o : VO V) (h : Sim V (FE F)) : ¬ ∃ i, PE (FE F) i i true := fun ⟨i, k⟩ => o.ir i ((h.lt i i).2 k)
/-- A question, answered by the table and by the machine. -/
theorem sim_known {v : Nat} {V : VS} {F : List Stp} (hF : InV v F) (o : VO V) (h : Sim V (FE F)) {a b : Nat} (hab : a ≠ b) : (0 < known v F a b ↔ V.le a b = true) ∧ (known v F a b = 2 ↔ V.lt a b = true) := by
  obtain ⟨h1, h2⟩ := known_iff2 hF (sim_fits o h) hab
  exact ⟨h1.trans (h.le a b).symm, h2.trans (h.lt a b).symm⟩
theorem known_le2 (v : Nat) (F : List Stp) (a b : Nat) : known v F a b ≤ 2 := (Snd.all v v (m0 F) (m0_snd _ F rfl) a b).1
theorem sim_eq {v : Nat} {V : VS} {F : List Stp} (hF : InV v F) (o : VO V) (h : Sim V (FE F)) {a b : Nat} (hab : a ≠ b) : (known v F a b = 1 ∧ known v F b a = 1) ↔ V.eq a b = true := by
  obtain ⟨h1, h2⟩ := sim_known hF o h hab
  obtain ⟨h3, h4⟩ := sim_known hF o h hab.symm
  rw [VS.eq_iff, ← h1, ← h3]
  constructor
  · omega
  · rintro ⟨k1, k2⟩
    have b1 := known_le2 v F a b
    have b2 := known_le2 v F b a
    have n1 : known v F a b ≠ 2 := fun q => o.ir a (o.rl (h2.1 q) (h3.1 k2))
    have n2 : known v F b a ≠ 2 := fun q => o.ir b (o.rl (h4.1 q) (h1.1 k1))
    omega
end Go.Proofs.Ytapnmgkpljlgmaa
namespace Go.Proofs.Ytapnmgkpljlgmaa

/-! ## the machine -/
abbrev MS := VS × List VS
def mstep (m : MS) (s : Stp) : MS × Bool :=
  if s.op = 8 then ((m.1, m.1 :: m.2), true) else if s.op = 9 then ((m.2.headD m.1, m.2.tail), true) else (((m.1.ans s.op s.x s.y).1, m.2), (m.1.ans s.op s.x s.y).2)
def mrun : MS → List Stp → MS × List Bool
  | m, [] => (m, [])
  | m, s :: l => ((mrun (mstep m s).1 l).1, (mstep m s).2 :: (mrun (mstep m s).1 l).2)
theorem mrun_app (m : MS) (a b : List Stp) : mrun m (a ++ b) = ((mrun (mrun m a).1 b).1, (mrun m a).2 ++ (mrun (mrun m a).1 b).2) := by
  induction a generalizing m with
  | nil => rfl
  | cons s a ih => simp [mrun, ih]
theorem mrun_snoc (m : MS) (a : List Stp) (s : Stp) : mrun m (a ++ [s]) = ((mstep (mrun m a).1 s).1, (mrun m a).2 ++ [(mstep (mrun m a).1 s).2]) := by
  rw [mrun_app]; rfl
theorem mrun_len (m : MS) (a : List Stp) : (mrun m a).2.length = a.length := by
  induction a generalizing m with
  | nil => rfl
  | cons s a ih => simp [mrun, ih]
def m00 : MS := (VS.nil, [])
def outs (l : List Stp) : List Bool := (mrun m00 l).2
theorem outs_len (l : List Stp) : (outs l).length = l.length := mrun_len _ _

/-! ## the reference -/
abbrev RS := List Stp × List Nat
def rstep (v : Nat) (r : RS) (s : Stp) : RS × Bool :=
  if s.op = 8 then ((r.1, r.2 ++ [r.1.length]), true) else if s.op = 9 then ((r.1.take (r.2.getLast?.getD 0), r.2.dropLast), true)
  else if 4 ≤ s.op ∧ s.op ≤ 7 then (r, holdB v r.1 s)
  else if fitB v (r.1 ++ [s]) = true then ((r.1 ++ [s], r.2), true) else (r, false)
def rrun (v : Nat) : RS → List Stp → RS × List Bool
  | m, [] => (m, [])
  | m, s :: l => ((rrun v (rstep v m s).1 l).1, (rstep v m s).2 :: (rrun v (rstep v m s).1 l).2)
theorem rrun_app (v : Nat) (m : RS) (a b : List Stp) : rrun v m (a ++ b) = ((rrun v (rrun v m a).1 b).1, (rrun v m a).2 ++ (rrun v (rrun v m a).1 b).2) := by
  induction a generalizing m with
  | nil => rfl
  | cons s a ih => simp [rrun, ih]
theorem rrun_snoc (v : Nat) (m : RS) (a : List Stp) (s : Stp) : rrun v m (a ++ [s]) = ((rstep v (rrun v m a).1 s).1, (rrun v m a).2 ++ [(rstep v (rrun v m a).1 s).2]) := by
  rw [rrun_app]; rfl
theorem rrun_len (v : Nat) (m : RS) (a : List Stp) : (rrun v m a).2.length = a.length := by
  induction a generalizing m with
  | nil => rfl
  | cons s a ih => simp [rrun, ih]
def refs (v : Nat) (l : List Stp) : List Bool := (rrun v ([], []) l).2

/-! ## good scripts -/
def WfS (v : Nat) (s : Stp) : Prop := s.op ≤ 9 ∧ (s.op ≤ 7 → s.x < v ∧ s.y < v ∧ s.x ≠ s.y)
/-- There is a checkpoint for each Undo, d of them before. -/
def Deep : Nat → List Stp → Prop
  | _, [] => True
  | d, s :: l => if s.op = 8 then Deep (d + 1) l else if s.op = 9 then 0 < d ∧ Deep (d - 1) l else Deep d l
structure GoodS (v d : Nat) (l : List Stp) : Prop where
  wf : ∀ s ∈ l, WfS v s
  deep : Deep d l
theorem GoodS.cons {v d : Nat} {s : Stp} {l : List Stp} (h : GoodS v d (s :: l)) : WfS v s ∧ (s.op = 9 → 0 < d) ∧ GoodS v (if s.op = 8 then d + 1 else if s.op = 9 then d - 1 else d) l := by
  obtain ⟨h1, h2⟩ := h
  refine ⟨h1 s (by simp), ?_, fun t ht => h1 t (by simp [ht]), ?_⟩
  · intro e; unfold Deep at h2; rw [if_neg (by omega), if_pos e] at h2; exact h2.1
  · unfold Deep at h2
    split at h2
    · rename_i q; rw [if_pos q]; exact h2
    · rename_i q; rw [if_neg q]
      split at h2
      · rename_i q; rw [if_pos q]; exact h2.2
      · rename_i q; rw [if_neg q]; exact h2
def NoN (l : List Stp) : Prop := ∀ s ∈ l, s.op ≠ 3

/-! ## both side by side -/
structure Pair1 (v : Nat) (V : VS) (F : List Stp) : Prop where
  ok : VOK V
  sim : Sim V (FE F)
  ne : ∀ a b, V.ne a b = false
  inv : InV v F
  pl : Plain F
inductive Stk (v : Nat) : List Stp → List Nat → List VS → Prop
  | nil (F : List Stp) : Stk v F [] []
  | snoc {F : List Stp} {ms : List Nat} {stk : List VS} {k : Nat} {V : VS} : k ≤ F.length → Pair1 v V (F.take k) → Stk v (F.take k) ms stk → Stk v F (ms ++ [k]) (V :: stk)
theorem Stk.more {v : Nat} {F : List Stp} {ms : List Nat} {stk : List VS} (h : Stk v F ms stk) (s : Stp) : Stk v (F ++ [s]) ms stk := by
  cases h with
  | nil => exact .nil _
  | snoc hk hp hs =>
    have e : (F ++ [s]).take _ = F.take _ := List.take_append_of_le_length hk
    exact .snoc (by simp; omega) (by rw [e]; exact hp) (by rw [e]; exact hs)
theorem sim_nil : Sim VS.nil (FE []) where
  le a b := by
    simp only [VS.nil, decide_eq_true_eq]
    constructor
    · rintro rfl; exact Le.refl _
    · rintro ⟨f, k⟩
      cases k with
      | nil => rfl
      | cons e _ => obtain ⟨g, hg, _⟩ := e; simp at hg
  lt a b := by
    simp only [VS.nil]
    constructor
    · intro k; cases k
    · intro k
      generalize hf : true = f at k
      cases k with
      | nil => cases hf
      | cons e _ => obtain ⟨g, hg, _⟩ := e; simp at hg
theorem pair_nil (v : Nat) : Pair1 v VS.nil [] := ⟨VOK.nil, sim_nil, fun _ _ => rfl, fun f hf => by simp at hf, fun f hf => by simp at hf⟩

theorem stp_eta (s : Stp) {n : Nat} (h : s.op = n) : s = ⟨n, s.x, s.y⟩ := by cases s; simp only at h; rw [h]
theorem ans_told {v : Nat} {V : VS} {F : List Stp} (h : Pair1 v V F) {s : Stp} (hs : s.op ≤ 2) : Told V (V.ans s.op s.x s.y) (FE (F ++ [s])) := by
  have q : s.op = 0 ∨ s.op = 1 ∨ s.op = 2 := by omega
  unfold VS.ans
  rcases q with q | q | q
  · rw [if_pos q, stp_eta s q]
    have := setO_told h.ok.toVO h.sim h.ne s.x s.y true
    have e : addR (FE F) s.x s.y true = FE (F ++ [⟨0, s.x, s.y⟩]) := funext fun a => funext fun b => funext fun t => propext (FE_ord F s.x s.y true a b t)
    rwa [e] at this
  · rw [if_neg (by omega), if_pos q, stp_eta s q]
    have := setO_told h.ok.toVO h.sim h.ne s.x s.y false
    have e : addR (FE F) s.x s.y false = FE (F ++ [⟨1, s.x, s.y⟩]) := funext fun a => funext fun b => funext fun t => propext (FE_ord F s.x s.y false a b t)
    rwa [e] at this
  · rw [if_neg (by omega), if_neg (by omega), if_pos q, stp_eta s q]
    have := setE_told h.ok.toVO h.sim h.ne s.x s.y
    have e : addR (addR (FE F) s.x s.y false) s.y s.x false = FE (F ++ [⟨2, s.x, s.y⟩]) := funext fun a => funext fun b => funext fun t => propext (FE_eq F s.x s.y a b t)
    rwa [e] at this
theorem pair_set {v : Nat} {V : VS} {F : List Stp} (h : Pair1 v V F) {s : Stp} (hs : s.op ≤ 2) (hx : s.x < v) (hy : s.y < v) :
    fitB v (F ++ [s]) = (V.ans s.op s.x s.y).2 ∧ ((V.ans s.op s.x s.y).2 = true → Pair1 v (V.ans s.op s.x s.y).1 (F ++ [s])) ∧ ((V.ans s.op s.x s.y).2 = false → (V.ans s.op s.x s.y).1 = V) := by
  have t := ans_told h hs
  have i : InV v (F ++ [s]) := fun f hf => by
    simp only [List.mem_append, List.mem_singleton] at hf
    rcases hf with hf | rfl
    · exact h.inv f hf
    · exact fun _ => ⟨hx, hy⟩
  have p : Plain (F ++ [s]) := fun f hf => by
    simp only [List.mem_append, List.mem_singleton] at hf
    rcases hf with hf | rfl
    · exact h.pl f hf
    · exact hs
  have o := ans_ok h.ok s.op s.x s.y
  refine ⟨?_, fun k => ⟨o, t.yes k, t.ne, i, p⟩, fun k => (t.no k).1⟩
  rw [Bool.eq_iff_iff, fitB_iff i p]
  constructor
  · intro k
    cases e : (V.ans s.op s.x s.y).2
    · exact absurd (t.no e).2 k
    · rfl
  · intro k; exact sim_fits o.toVO (t.yes k)
theorem pair_ask {v : Nat} {V : VS} {F : List Stp} (h : Pair1 v V F) {s : Stp} (hs : 4 ≤ s.op ∧ s.op ≤ 7) (hxy : s.x ≠ s.y) : V.ans s.op s.x s.y = (V, holdB v F s) := by
  obtain ⟨h1, h2⟩ := sim_known h.inv h.ok.toVO h.sim hxy
  obtain ⟨h3, h4⟩ := sim_known h.inv h.ok.toVO h.sim hxy.symm
  have h5 := sim_eq h.inv h.ok.toVO h.sim hxy
  have q : s.op = 4 ∨ s.op = 5 ∨ s.op = 6 ∨ s.op = 7 := by omega
  unfold VS.ans holdB
  rw [if_neg (by omega), if_neg (by omega), if_neg (by omega), if_neg (by omega)]
  rcases q with q | q | q | q
  · rw [if_pos q, if_pos q]
    congr 1
    rw [Bool.eq_iff_iff, beq_iff_eq, h2]
  · rw [if_neg (by omega), if_pos q, if_neg (by omega), if_pos q]
    congr 1
    rw [Bool.eq_iff_iff, decide_eq_true_eq, h1]
  · rw [if_neg (by omega), if_neg (by omega), if_pos q, if_neg (by omega), if_neg (by omega), if_pos q]
    congr 1
    rw [Bool.eq_iff_iff, Bool.and_eq_true, beq_iff_eq, beq_iff_eq, h5]
  · rw [if_neg (by omega), if_neg (by omega), if_neg (by omega), if_neg (by omega), if_neg (by omega), if_neg (by omega)]
    congr 1
    rw [Bool.eq_iff_iff, Bool.or_eq_true, Bool.or_eq_true, Bool.or_eq_true, beq_iff_eq, beq_iff_eq, h2, h4, h.ne]
    simp
theorem pair_run {v : Nat} : ∀ (l : List Stp) (m : MS) (r : RS), Pair1 v m.1 r.1 → Stk v r.1 r.2 m.2 → GoodS v m.2.length l → NoN l →
    (rrun v r l).2 = (mrun m l).2 ∧ Pair1 v (mrun m l).1.1 (rrun v r l).1.1 ∧ Stk v (rrun v r l).1.1 (rrun v r l).1.2 (mrun m l).1.2
  | [], m, r, h, k, _, _ => ⟨rfl, h, k⟩
  | s :: l, (V, stk), (F, ms), h, k, g, n => by
    obtain ⟨g1, g2, g3⟩ := g.cons
    have n' : NoN l := fun t ht => n t (by simp [ht])
    have n0 : s.op ≠ 3 := n s (by simp)
    simp only at h k g g3 g2
    unfold mrun rrun
    have key : (rstep v (F, ms) s).2 = (mstep (V, stk) s).2 ∧ Pair1 v (mstep (V, stk) s).1.1 (rstep v (F, ms) s).1.1 ∧ Stk v (rstep v (F, ms) s).1.1 (rstep v (F, ms) s).1.2 (mstep (V, stk) s).1.2 ∧
        (mstep (V, stk) s).1.2.length = (if s.op = 8 then stk.length + 1 else if s.op = 9 then stk.length - 1 else stk.length) := by
      unfold mstep rstep
      by_cases q8 : s.op = 8
      · rw [if_pos q8, if_pos q8, if_pos q8]
        exact ⟨rfl, h, .snoc (Nat.le_refl _) (by rw [List.take_length]; exact h) (by rw [List.take_length]; exact k), rfl⟩
      · rw [if_neg q8, if_neg q8, if_neg q8]
        by_cases q9 : s.op = 9
        · rw [if_pos q9, if_pos q9, if_pos q9]
          have := g2 q9
          cases k with
          | nil => simp at this
          | snoc hk hp hs =>
            refine ⟨rfl, ?_, ?_, ?_⟩
            · simpa using hp
            · simpa using hs
            · simp
        · rw [if_neg q9, if_neg q9, if_neg q9]
          obtain ⟨w1, w2⟩ := g1
          obtain ⟨w3, w4, w5⟩ := w2 (by omega)
          by_cases q : 4 ≤ s.op ∧ s.op ≤ 7
          · rw [if_pos q, pair_ask h q w5]
            exact ⟨rfl, h, k, rfl⟩
          · rw [if_neg q]
            obtain ⟨p1, p2, p3⟩ := pair_set h (s := s) (by omega) w3 w4
            simp only
            rw [p1]
            cases e : (V.ans s.op s.x s.y).2
            · rw [if_neg (by decide)]
              refine ⟨rfl, ?_, k, trivial⟩
              simp only; rw [p3 e]; exact h
            · rw [if_pos rfl]
              exact ⟨rfl, p2 e, k.more s, trivial⟩
    obtain ⟨k1, k2, k3, k4⟩ := key
    have ih := pair_run l (mstep (V, stk) s).1 (rstep v (F, ms) s).1 k2 k3 (by rw [k4]; exact g3) n'
    refine ⟨?_, ih.2⟩
    simp only
    rw [k1, ih.1]
/-- Without SetNonEqual the reference answers what the machine answers. -/
theorem refs_outs {v : Nat} {l : List Stp} (g : GoodS v 0 l) (n : NoN l) : refs v l = outs l := (pair_run l m00 ([], []) (pair_nil v) (.nil _) g n).1
end Go.Proofs.Ytapnmgkpljlgmaa
namespace Go.Proofs.Ytapnmgkpljlgmaa

/-! ## what holds of all states -/
structure MOK (m : MS) : Prop where
  cur : VOK m.1
  stk : ∀ V ∈ m.2, VOK V
theorem MOK.nil : MOK m00 := ⟨VOK.nil, fun V h => by simp [m00] at h⟩
theorem MOK.step {m : MS} (h : MOK m) (s : Stp) : MOK (mstep m s).1 := by
  unfold mstep
  split
  · exact ⟨h.cur, fun V hV => by
      rcases List.mem_cons.1 hV with rfl | hV
      · exact h.cur
      · exact h.stk V hV⟩
  · split
    · obtain ⟨V, stk⟩ := m
      cases stk with
      | nil => exact h
      | cons W stk => exact ⟨h.stk W (by simp), fun U hU => h.stk U (by simp at hU ⊢; exact .inr hU)⟩
    · exact ⟨ans_ok h.cur _ _ _, h.stk⟩
theorem MOK.run {m : MS} (h : MOK m) (l : List Stp) : MOK (mrun m l).1 := by
  induction l generalizing m with
  | nil => exact h
  | cons s l ih => exact ih (h.step s)
def MSt (l : List Stp) : VS := (mrun m00 l).1.1
theorem St_ok (l : List Stp) : VOK (MSt l) := (MOK.nil.run l).cur

/-! ## questions -/
def Ask (s : Stp) : Prop := 4 ≤ s.op ∧ s.op ≤ 7
def qa (V : VS) (s : Stp) : Bool := (V.ans s.op s.x s.y).2
theorem ans_ask (V : VS) {s : Stp} (h : Ask s) : (V.ans s.op s.x s.y).1 = V := by
  obtain ⟨h1, h2⟩ := h
  unfold VS.ans
  rw [if_neg (by omega), if_neg (by omega), if_neg (by omega), if_neg (by omega)]
  split
  · rfl
  · split
    · rfl
    · split <;> rfl
theorem mstep_ask (m : MS) {s : Stp} (h : Ask s) : mstep m s = (m, qa m.1 s) := by
  have h' := h
  obtain ⟨h1, h2⟩ := h'
  unfold mstep
  rw [if_neg (by omega), if_neg (by omega), ans_ask _ h]; rfl
theorem mrun_ask (m : MS) {l : List Stp} (h : ∀ s ∈ l, Ask s) : mrun m l = (m, l.map (qa m.1)) := by
  induction l with
  | nil => rfl
  | cons s l ih =>
    unfold mrun
    rw [mstep_ask m (h s (by simp)), ih fun t ht => h t (by simp [ht])]; rfl
theorem mstep_set (m : MS) {s : Stp} (h : s.op ≤ 3) : mstep m s = (((m.1.ans s.op s.x s.y).1, m.2), qa m.1 s) := by
  unfold mstep
  rw [if_neg (by omega), if_neg (by omega)]; rfl
theorem qa4 (V : VS) (x y : Nat) : qa V ⟨4, x, y⟩ = V.lt x y := rfl
theorem qa5 (V : VS) (x y : Nat) : qa V ⟨5, x, y⟩ = V.le x y := rfl
theorem qa6 (V : VS) (x y : Nat) : qa V ⟨6, x, y⟩ = V.eq x y := rfl
theorem qa7 (V : VS) (x y : Nat) : qa V ⟨7, x, y⟩ = (V.ne x y || V.lt x y || V.lt y x) := rfl

/-! ## one fact -/
theorem setO_yes {V : VS} (o : VO V) {x y : Nat} {st : Bool} (h : (V.setO x y st).2 = true) : (V.setO x y st).1.le x y = true ∧ (st = true → (V.setO x y st).1.lt x y = true) := by
  have a : ∀ s, (V.add x y s).le x y = true := fun s => VS.add_le.2 (.inr ⟨o.rf x, o.rf y⟩)
  have b : ∀ s, s = true → (V.add x y s).lt x y = true := fun s hs => VS.add_lt.2 (.inr ⟨o.rf x, o.rf y, .inr (.inl hs)⟩)
  unfold VS.setO at *
  split at h
  · rename_i q
    rw [if_pos q]
    refine ⟨(VS.eq_iff.1 q).1, fun e => ?_⟩
    rw [e] at h; cases h
  · rename_i q
    rw [if_neg q]
    split at h
    · rename_i q2
      rw [if_pos q2]
      exact ⟨a _, fun e => b _ (by rw [e]; rfl)⟩
    · rename_i q2
      rw [if_neg q2]
      split at h
      · rename_i q3
        rw [if_pos q3]
        split at h
        · cases h
        · rename_i q4
          rw [if_neg q4]
          refine ⟨a false, fun e => ?_⟩
          rw [e] at q4; exact absurd rfl q4
      · rename_i q3
        rw [if_neg q3]
        exact ⟨a _, fun e => b _ (by rw [e]; rfl)⟩
theorem setE_yes {V : VS} (o : VO V) {x y : Nat} (h : (V.setE x y).2 = true) : (V.setE x y).1.eq x y = true := by
  unfold VS.setE at *
  split at h
  · rename_i q; rw [if_pos q]; exact q
  · rename_i q
    rw [if_neg q]
    split at h
    · cases h
    · rename_i q2
      rw [if_neg q2]
      split at h
      · rename_i q3
        rw [if_pos q3]
        split at h
        · cases h
        · rename_i q4
          rw [if_neg q4]
          exact VS.eq_iff.2 ⟨(VS.add_le (s := false)).2 (.inl q3), (VS.add_le (s := false)).2 (.inr ⟨o.rf y, o.rf x⟩)⟩
      · rename_i q3
        rw [if_neg q3]
        split at h
        · rename_i q4
          rw [if_pos q4]
          split at h
          · cases h
          · rename_i q5
            rw [if_neg q5]
            exact VS.eq_iff.2 ⟨(VS.add_le (s := false)).2 (.inr ⟨o.rf x, o.rf y⟩), (VS.add_le (s := false)).2 (.inl q4)⟩
        · rename_i q4
          rw [if_neg q4]
          refine VS.eq_iff.2 ⟨(VS.add_le (s := false)).2 (.inl ((VS.add_le (s := false)).2 (.inr ⟨o.rf x, o.rf y⟩))), (VS.add_le (s := false)).2 (.inr ⟨(VS.add_le (s := false)).2 (.inl (o.rf y)), (VS.add_le (s := false)).2 (.inl (o.rf x))⟩)⟩
theorem setN_yes {V : VS} (o : VO V) {x y : Nat} (h : (V.setN x y).2 = true) : (V.setN x y).1.ne x y = true := by
  have m : (V.mark x y).ne x y = true := VS.mark_ne.2 (.inr (.inl ⟨o.eqr x, o.eqr y⟩))
  unfold VS.setN at *
  split at h
  · rename_i q; rw [if_pos q]; exact q
  · rename_i q
    rw [if_neg q]
    split at h
    · cases h
    · rename_i q2
      rw [if_neg q2]
      split
      · exact m
      · split
        · exact m
        · exact m
/-- What was recorded is reported. -/
theorem told_law {V : VS} (o : VO V) {s : Stp} (hs : s.op ≤ 3) (h : qa V s = true) : qa (V.ans s.op s.x s.y).1 ⟨s.op + 4, s.x, s.y⟩ = true := by
  have q : s.op = 0 ∨ s.op = 1 ∨ s.op = 2 ∨ s.op = 3 := by omega
  obtain ⟨op, x, y⟩ := s
  simp only at q h ⊢
  rcases q with rfl | rfl | rfl | rfl
  · exact (setO_yes o (st := true) h).2 rfl
  · exact (setO_yes o (st := false) h).1
  · exact setE_yes o h
  · show ((V.setN x y).1.ne x y || _ || _) = true
    rw [setN_yes o h]; rfl
/-- What is refused changes nothing. -/
theorem refused_law {V : VS} {s : Stp} (hs : s.op ≤ 3) (h : qa V s = false) : (V.ans s.op s.x s.y).1 = V := by
  have q : s.op = 0 ∨ s.op = 1 ∨ s.op = 2 ∨ s.op = 3 := by omega
  obtain ⟨op, x, y⟩ := s
  simp only at q h ⊢
  have so : ∀ st, (V.setO x y st).2 = false → (V.setO x y st).1 = V := by
    intro st h
    revert h
    unfold VS.setO
    repeat' split
    all_goals first | exact fun _ => rfl | exact fun h => absurd h (by simp)
  rcases q with rfl | rfl | rfl | rfl
  · exact so true h
  · exact so false h
  · show (V.setE x y).1 = V
    have h : (V.setE x y).2 = false := h
    revert h
    unfold VS.setE
    repeat' split
    all_goals first | exact fun _ => rfl | exact fun h => absurd h (by simp)
  · show (V.setN x y).1 = V
    have h : (V.setN x y).2 = false := h
    revert h
    unfold VS.setN
    repeat' split
    all_goals first | exact fun _ => rfl | exact fun h => absurd h (by simp)
/-- What was reported of an order or as equal stays so. -/
theorem grows_law {V : VS} (s t : Stp) (ht : 4 ≤ t.op ∧ t.op ≤ 6) (h : qa V t = true) : qa (V.ans s.op s.x s.y).1 t = true := by
  have g := ans_grows V s.op s.x s.y
  obtain ⟨op, x, y⟩ := t
  have q : op = 4 ∨ op = 5 ∨ op = 6 := by simp only at ht; omega
  rcases q with rfl | rfl | rfl
  · exact g.lt h
  · exact g.le h
  · exact g.eq h
/-- What was reported as not equal stays so, whatever is told as less or as not equal. -/
theorem apart_law {V : VS} (s : Stp) (hs : s.op = 0 ∨ s.op = 3) {x y : Nat} (h : qa V ⟨7, x, y⟩ = true) : qa (V.ans s.op s.x s.y).1 ⟨7, x, y⟩ = true := by
  have g := ans_grows V s.op s.x s.y
  rw [qa7, Bool.or_eq_true, Bool.or_eq_true] at *
  rcases h with (h | h) | h
  · refine .inl (.inl ?_)
    obtain ⟨op, a, b⟩ := s
    simp only at hs g ⊢
    rcases hs with rfl | rfl
    · show (V.setO a b true).1.ne x y = true
      unfold VS.setO
      split
      · exact h
      · split
        · exact h
        · split
          · rw [if_pos (by simp)]; exact h
          · exact h
    · show (V.setN a b).1.ne x y = true
      have m : (V.mark a b).ne x y = true := VS.mark_ne.2 (.inl h)
      unfold VS.setN
      repeat' split
      all_goals first | exact h | exact m
  · exact .inl (.inr (g.lt h))
  · exact .inr (g.lt h)
/-- A fact that is told twice is accepted twice or refused twice, and the second time nothing changes. -/
theorem twice_law {V : VS} (v : VOK V) {s : Stp} (hs : s.op ≤ 3) (hxy : s.x ≠ s.y) : (V.ans s.op s.x s.y).1.ans s.op s.x s.y = V.ans s.op s.x s.y := by
  cases h : qa V s
  · rw [refused_law hs h]
  · have ok := ans_ok v s.op s.x s.y
    have gro := ans_grows V s.op s.x s.y
    have q : s.op = 0 ∨ s.op = 1 ∨ s.op = 2 ∨ s.op = 3 := by omega
    obtain ⟨op, x, y⟩ := s
    simp only at q h hxy ok gro ⊢
    have e2 : (V.ans op x y).2 = true := h
    rcases q with rfl | rfl | rfl | rfl
    · show (V.setO x y true).1.setO x y true = V.setO x y true
      obtain ⟨k1, k0⟩ := setO_yes v.toVO (x := x) (y := y) (st := true) h
      have k2 := k0 rfl
      clear k0
      have ok : VOK (V.setO x y true).1 := ok
      have e2 : (V.setO x y true).2 = true := e2
      generalize V.setO x y true = r at *
      obtain ⟨W, b⟩ := r
      simp only at k1 k2 ok e2 ⊢
      subst e2
      unfold VS.setO
      rw [if_neg (by rw [VS.eq_iff]; exact fun q => ok.ir x (ok.rl k2 q.2)), if_pos k1, Bool.true_or, add_idle ok k1 hxy (fun _ => k2)]
    · show (V.setO x y false).1.setO x y false = V.setO x y false
      obtain ⟨k1, _⟩ := setO_yes v.toVO (x := x) (y := y) (st := false) h
      have ok : VOK (V.setO x y false).1 := ok
      have e2 : (V.setO x y false).2 = true := e2
      have k2 : (V.setO x y false).1.eq x y ≠ true → (V.setO x y false).1.ne x y = true → (V.setO x y false).1.lt x y = true := by
        have b : (V.add x y (false || V.ne x y)).ne x y = true → (V.add x y (false || V.ne x y)).lt x y = true := fun hs => VS.add_lt.2 (.inr ⟨v.rf x, v.rf y, .inr (.inl (by have : V.ne x y = true := hs; simpa using this))⟩)
        unfold VS.setO at *
        split
        · rename_i q; exact fun k => absurd q k
        · split
          · exact fun _ => b
          · split
            · rename_i q3
              split
              · rename_i q4
                rename_i q1 q2
                rw [if_neg q1, if_neg q2, if_pos q3, if_pos q4] at e2
                cases e2
              · exact fun k => absurd (VS.eq_iff.2 ⟨(VS.add_le (s := false)).2 (.inr ⟨v.rf x, v.rf y⟩), (VS.add_le (s := false)).2 (.inl q3)⟩) k
            · exact fun _ => b
      generalize V.setO x y false = r at *
      obtain ⟨W, b⟩ := r
      simp only at k1 k2 ok e2 ⊢
      subst e2
      unfold VS.setO
      by_cases q : W.eq x y = true
      · rw [if_pos q]; rfl
      · rw [if_neg q, if_pos k1, Bool.false_or, add_idle ok k1 hxy (k2 q)]
    · show (V.setE x y).1.setE x y = V.setE x y
      have k := setE_yes v.toVO (x := x) (y := y) h
      have e2 : (V.setE x y).2 = true := e2
      generalize V.setE x y = r at *
      obtain ⟨W, b⟩ := r
      simp only at k e2 ⊢
      subst e2
      unfold VS.setE
      rw [if_pos k]
    · show (V.setN x y).1.setN x y = V.setN x y
      have k := setN_yes v.toVO (x := x) (y := y) h
      have e2 : (V.setN x y).2 = true := e2
      generalize V.setN x y = r at *
      obtain ⟨W, b⟩ := r
      simp only at k e2 ⊢
      subst e2
      unfold VS.setN
      rw [if_pos k]

/-! ## Undo -/
def SetS (l : List Stp) : Prop := ∀ s ∈ l, s.op ≤ 3
theorem mrun_sets (V : VS) (stk : List VS) {l : List Stp} (h : SetS l) : (mrun (V, stk) l).1.2 = stk := by
  induction l generalizing V with
  | nil => rfl
  | cons s l ih =>
    unfold mrun
    rw [mstep_set _ (h s (by simp))]
    exact ih _ fun t ht => h t (by simp [ht])
/-- How deep it is behind a script. -/
def dpt : Nat → List Stp → Nat
  | d, [] => d
  | d, s :: l => dpt (if s.op = 8 then d + 1 else if s.op = 9 then d - 1 else d) l
theorem mrun_stack (stk : List VS) : ∀ (l : List Stp) (V : VS) (pre : List VS), Deep pre.length l → ∃ pre', (mrun (V, pre ++ stk) l).1.2 = pre' ++ stk ∧ pre'.length = dpt pre.length l
  | [], V, pre, _ => ⟨pre, rfl, rfl⟩
  | s :: l, V, pre, h => by
    unfold mrun mstep dpt
    unfold Deep at h
    by_cases q8 : s.op = 8
    · rw [if_pos q8] at h ⊢
      rw [if_pos q8]
      exact mrun_stack stk l V (V :: pre) h
    · rw [if_neg q8] at h ⊢
      rw [if_neg q8]
      by_cases q9 : s.op = 9
      · rw [if_pos q9] at h ⊢
        rw [if_pos q9]
        cases pre with
        | nil => exact absurd h.1 (by decide)
        | cons W pre => exact mrun_stack stk l W pre h.2
      · rw [if_neg q9] at h ⊢
        rw [if_neg q9]
        exact mrun_stack stk l _ pre h
theorem mrun_undo (W : VS) (stk : List VS) : ∀ (pre : List VS) (V : VS) (l : List Stp), l.length = pre.length + 1 → (∀ s ∈ l, s.op = 9) → (mrun (V, pre ++ W :: stk) l).1 = (W, stk)
  | [], V, [s], _, h => by
    unfold mrun mstep
    rw [if_neg (by rw [h s (by simp)]; decide), if_pos (h s (by simp))]; rfl
  | [], V, [], hl, _ => by simp at hl
  | [], V, _ :: _ :: _, hl, _ => by simp at hl
  | U :: pre, V, [], hl, _ => by simp at hl
  | U :: pre, V, s :: l, hl, h => by
    unfold mrun mstep
    rw [if_neg (by rw [h s (by simp)]; decide), if_pos (h s (by simp))]
    exact mrun_undo W stk pre U l (by simpa using hl) fun t ht => h t (by simp [ht])
/-- Behind Undo all is as at the checkpoint. -/
theorem undo_law (m : MS) {b back : List Stp} (hb : Deep 0 b) (hl : back.length = dpt 0 b + 1) (h9 : ∀ s ∈ back, s.op = 9) (c : Stp) (hc : c.op = 8) : (mrun m (c :: (b ++ back))).1 = m := by
  obtain ⟨V, stk⟩ := m
  unfold mrun
  have e : (mstep (V, stk) c).1 = (V, V :: stk) := by unfold mstep; rw [if_pos hc]
  rw [e, mrun_app]
  obtain ⟨pre, h1, h2⟩ := mrun_stack (V :: stk) b V [] hb
  have h1 : (mrun (V, V :: stk) b).1.2 = pre ++ V :: stk := h1
  have e2 : (mrun (V, V :: stk) b).1 = ((mrun (V, V :: stk) b).1.1, pre ++ V :: stk) := by rw [← h1]
  rw [e2]
  exact mrun_undo V stk pre _ back (by rw [hl, h2]; rfl) h9

/-! ## what questions say of each other -/
theorem both_law {V : VS} (v : VOK V) (x y : Nat) : qa V ⟨6, x, y⟩ = qa V ⟨6, y, x⟩ ∧ qa V ⟨7, x, y⟩ = qa V ⟨7, y, x⟩ := by
  constructor
  · rw [qa6, qa6, Bool.eq_iff_iff, VS.eq_iff, VS.eq_iff]; exact And.comm
  · rw [qa7, qa7, Bool.eq_iff_iff]
    simp only [Bool.or_eq_true]
    constructor
    · rintro ((h | h) | h)
      · exact .inl (.inl (v.sy h))
      · exact .inr h
      · exact .inl (.inr h)
    · rintro ((h | h) | h)
      · exact .inl (.inl (v.sy h))
      · exact .inr h
      · exact .inl (.inr h)
theorem one_lt {V : VS} (v : VOK V) {x y : Nat} (h : V.lt x y = true) : V.le x y = true ∧ V.eq x y = false ∧ V.le y x = false := by
  have h2 : V.le y x = false := by
    cases e : V.le y x
    · rfl
    · exact absurd (v.rl h e) (v.ir x)
  exact ⟨v.ll h, by unfold VS.eq; rw [h2, Bool.and_false], h2⟩
theorem merged_law {V : VS} (v : VOK V) {x y : Nat} (h : V.eq x y = true) (z : Nat) : V.lt x z = V.lt y z ∧ V.lt z x = V.lt z y ∧ V.le x z = V.le y z ∧ V.eq x z = V.eq y z ∧ qa V ⟨7, x, z⟩ = qa V ⟨7, y, z⟩ := by
  have key : ∀ {x y : Nat}, V.eq x y = true → ∀ z, (V.lt x z = true → V.lt y z = true) ∧ (V.lt z x = true → V.lt z y = true) ∧ (V.le x z = true → V.le y z = true) ∧ (V.eq x z = true → V.eq y z = true) ∧ (V.ne x z = true → V.ne y z = true) := by
    intro x y h z
    obtain ⟨h1, h2⟩ := VS.eq_iff.1 h
    exact ⟨v.lr h2, fun k => v.rl k h1, v.tr h2, fun k => v.eqt (VO.eqs h) k, v.cg h⟩
  have a := key h z
  have b := key (VO.eqs h) z
  have e1 : V.lt x z = V.lt y z := Bool.eq_iff_iff.2 ⟨a.1, b.1⟩
  have e2 : V.lt z x = V.lt z y := Bool.eq_iff_iff.2 ⟨a.2.1, b.2.1⟩
  refine ⟨e1, e2, Bool.eq_iff_iff.2 ⟨a.2.2.1, b.2.2.1⟩, Bool.eq_iff_iff.2 ⟨a.2.2.2.1, b.2.2.2.1⟩, ?_⟩
  rw [qa7, qa7, e1, e2, Bool.eq_iff_iff.2 ⟨a.2.2.2.2, b.2.2.2.2⟩]
end Go.Proofs.Ytapnmgkpljlgmaa
namespace Go.Proofs.Ytapnmgkpljlgmaa

/-- A fact, or what a question asks, is true of numbers. -/
def numOk (n : Nat → Int) (s : Stp) : Prop := if s.op = 0 ∨ s.op = 4 then n s.x < n s.y else if s.op = 1 ∨ s.op = 5 then n s.x ≤ n s.y else if s.op = 2 ∨ s.op = 6 then n s.x = n s.y else n s.x ≠ n s.y
structure NS (n : Nat → Int) (V : VS) : Prop where
  le : ∀ {a b}, V.le a b = true → n a ≤ n b
  lt : ∀ {a b}, V.lt a b = true → n a < n b
  ne : ∀ {a b}, V.ne a b = true → n a ≠ n b
theorem NS.eq {n : Nat → Int} {V : VS} (h : NS n V) {a b : Nat} (k : V.eq a b = true) : n a = n b := by
  have := VS.eq_iff.1 k
  exact Int.le_antisymm (h.le this.1) (h.le this.2)
theorem NS.nil (n : Nat → Int) : NS n VS.nil := by
  refine ⟨fun k => ?_, fun k => ?_, fun k => ?_⟩
  · simp only [VS.nil, decide_eq_true_eq] at k; subst k; exact Int.le_refl _
  · cases k
  · cases k
theorem NS.add {n : Nat → Int} {V : VS} (h : NS n V) {x y : Nat} {s : Bool} (h1 : n x ≤ n y) (h2 : s = true → n x < n y) : NS n (V.add x y s) := by
  refine ⟨fun k => ?_, fun k => ?_, h.ne⟩
  · rw [VS.add_le] at k
    rcases k with k | ⟨k1, k2⟩
    · exact h.le k
    · have := h.le k1; have := h.le k2; omega
  · rw [VS.add_lt] at k
    rcases k with k | ⟨k1, k2, k3⟩
    · exact h.lt k
    · have a1 := h.le k1; have a2 := h.le k2
      rcases k3 with k3 | k3 | k3
      · have := h.lt k3; omega
      · have := h2 k3; omega
      · have := h.lt k3; omega
theorem NS.fold {n : Nat → Int} {V : VS} (h : NS n V) (r : Nat) : NS n (V.fold r) := by
  have e : ∀ a, n (V.rep r a) = n a := fun a => by
    unfold VS.rep
    split
    · rename_i k; exact (h.eq k).symm
    · rfl
  refine ⟨h.le, h.lt, fun {a b} k => ?_⟩
  have := h.ne (a := V.rep r a) (b := V.rep r b) k
  rwa [e, e] at this
theorem NS.mark {n : Nat → Int} {V : VS} (h : NS n V) {x y : Nat} (k : n x ≠ n y) : NS n (V.mark x y) := by
  refine ⟨h.le, h.lt, fun q => ?_⟩
  rw [VS.mark_ne] at q
  rcases q with q | ⟨q1, q2⟩ | ⟨q1, q2⟩
  · exact h.ne q
  · rw [h.eq q1, h.eq q2]; exact k
  · rw [h.eq q1, h.eq q2]; exact k.symm
/-- A fact that is true of the numbers is accepted. -/
theorem num_set {n : Nat → Int} {V : VS} (h : NS n V) {s : Stp} (hs : s.op ≤ 3) (hn : numOk n s) : qa V s = true ∧ NS n (V.ans s.op s.x s.y).1 := by
  have q : s.op = 0 ∨ s.op = 1 ∨ s.op = 2 ∨ s.op = 3 := by omega
  obtain ⟨op, x, y⟩ := s
  unfold numOk at hn
  simp only at q hn ⊢
  rcases q with rfl | rfl | rfl | rfl
  · rw [if_pos (by omega)] at hn
    show (V.setO x y true).2 = true ∧ NS n (V.setO x y true).1
    unfold VS.setO
    have n1 : ¬ V.eq x y = true := fun k => by have := h.eq k; omega
    have n2 : ¬ V.le y x = true := fun k => by have := h.le k; omega
    rw [if_neg n1, if_neg n2]
    split
    · exact ⟨rfl, h.add (by omega) fun _ => hn⟩
    · exact ⟨rfl, h.add (by omega) fun _ => hn⟩
  · rw [if_neg (by omega), if_pos (by omega)] at hn
    show (V.setO x y false).2 = true ∧ NS n (V.setO x y false).1
    unfold VS.setO
    have nn : (false || V.ne x y) = true → n x < n y := fun k => by
      have := h.ne (a := x) (b := y) (by simpa using k); omega
    split
    · exact ⟨rfl, h⟩
    · split
      · exact ⟨rfl, h.add hn nn⟩
      · split
        · rename_i k
          have k := h.le k
          split
          · rename_i c
            rw [Bool.or_eq_true] at c
            rcases c with c | c
            · have := nn c; omega
            · have := h.lt c; omega
          · exact ⟨rfl, (h.add hn (by intro c; cases c)).fold _⟩
        · exact ⟨rfl, h.add hn nn⟩
  · rw [if_neg (by omega), if_neg (by omega), if_pos (by omega)] at hn
    show (V.setE x y).2 = true ∧ NS n (V.setE x y).1
    have n1 : ¬ V.ne x y = true := fun k => h.ne k hn
    have n2 : ¬ V.lt x y = true := fun k => by have := h.lt k; omega
    have n3 : ¬ V.lt y x = true := fun k => by have := h.lt k; omega
    have a1 : NS n (V.add x y false) := h.add (by omega) (by intro c; cases c)
    have a2 : NS n (V.add y x false) := h.add (by omega) (by intro c; cases c)
    unfold VS.setE
    rw [if_neg n1, if_neg n2, if_neg n3]
    split
    · exact ⟨rfl, h⟩
    · split
      · exact ⟨rfl, a2.fold _⟩
      · split
        · exact ⟨rfl, a1.fold _⟩
        · exact ⟨rfl, (a1.add (by omega) (by intro c; cases c)).fold _⟩
  · rw [if_neg (by omega), if_neg (by omega), if_neg (by omega)] at hn
    show (V.setN x y).2 = true ∧ NS n (V.setN x y).1
    have n1 : ¬ V.eq x y = true := fun k => hn (h.eq k)
    have m := h.mark hn
    unfold VS.setN
    rw [if_neg n1]
    split
    · exact ⟨rfl, h⟩
    · split
      · rename_i k; have k := h.le k
        exact ⟨rfl, m.add k fun _ => by omega⟩
      · split
        · rename_i k; have k := h.le k
          exact ⟨rfl, m.add k fun _ => by omega⟩
        · exact ⟨rfl, m⟩
theorem num_ask {n : Nat → Int} {V : VS} (h : NS n V) {s : Stp} (hs : Ask s) (hq : qa V s = true) : numOk n s := by
  obtain ⟨h1, h2⟩ := hs
  have q : s.op = 4 ∨ s.op = 5 ∨ s.op = 6 ∨ s.op = 7 := by omega
  obtain ⟨op, x, y⟩ := s
  unfold numOk
  simp only at q ⊢
  rcases q with rfl | rfl | rfl | rfl
  · rw [if_pos (by omega)]; exact h.lt hq
  · rw [if_neg (by omega), if_pos (by omega)]; exact h.le hq
  · rw [if_neg (by omega), if_neg (by omega), if_pos (by omega)]; exact h.eq hq
  · rw [if_neg (by omega), if_neg (by omega), if_neg (by omega)]
    rw [qa7, Bool.or_eq_true, Bool.or_eq_true] at hq
    rcases hq with (k | k) | k
    · exact h.ne k
    · have := h.lt k; omega
    · have := h.lt k; omega
structure MN (n : Nat → Int) (m : MS) : Prop where
  cur : NS n m.1
  stk : ∀ V ∈ m.2, NS n V
theorem MN.nil (n : Nat → Int) : MN n m00 := ⟨NS.nil n, fun V h => by simp [m00] at h⟩
theorem MN.pop {n : Nat → Int} {m : MS} (h : MN n m) : MN n (m.2.headD m.1, m.2.tail) := by
  obtain ⟨V, stk⟩ := m
  cases stk with
  | nil => exact ⟨h.cur, fun U hU => by simp at hU⟩
  | cons W stk => exact ⟨h.stk W (by simp), fun U hU => h.stk U (by simp at hU ⊢; exact .inr hU)⟩
theorem num_step {n : Nat → Int} {m : MS} (h : MN n m) {s : Stp} (h9 : s.op ≤ 9) (hn : s.op ≤ 3 → numOk n s) : MN n (mstep m s).1 ∧ (s.op ≤ 3 → (mstep m s).2 = true) ∧ (Ask s → (mstep m s).2 = true → numOk n s) := by
  by_cases h3 : s.op ≤ 3
  · obtain ⟨k1, k2⟩ := num_set h.cur h3 (hn h3)
    rw [mstep_set m h3]
    exact ⟨⟨k2, h.stk⟩, fun _ => k1, fun a => absurd a.1 (by omega)⟩
  · by_cases ha : Ask s
    · rw [mstep_ask m ha]
      exact ⟨h, fun k => absurd k h3, fun a k => num_ask h.cur a k⟩
    · have : s.op = 8 ∨ s.op = 9 := by unfold Ask at ha; omega
      refine ⟨?_, fun k => absurd k h3, fun a => absurd a ha⟩
      unfold mstep
      rcases this with e | e
      · rw [if_pos e]; exact ⟨h.cur, fun V hV => by
          rcases List.mem_cons.1 hV with rfl | hV
          · exact h.cur
          · exact h.stk V hV⟩
      · rw [if_neg (by omega), if_pos e]; exact h.pop
/-- Facts that are true of numbers are never refused, and what is reported is true of them. -/
theorem num_run {n : Nat → Int} : ∀ (l : List Stp) (m : MS), MN n m → (∀ s ∈ l, s.op ≤ 9 ∧ (s.op ≤ 3 → numOk n s)) → MN n (mrun m l).1 ∧ ∀ (i : Nat) (s : Stp) (b : Bool), l[i]? = some s → (mrun m l).2[i]? = some b → (s.op ≤ 3 → b = true) ∧ (Ask s → b = true → numOk n s)
  | [], m, h, _ => ⟨h, fun i s b k => by simp at k⟩
  | t :: l, m, h, hl => by
    obtain ⟨k1, k2, k3⟩ := num_step h (hl t (by simp)).1 (hl t (by simp)).2
    obtain ⟨j1, j2⟩ := num_run l (mstep m t).1 k1 fun s hs => hl s (by simp [hs])
    unfold mrun
    refine ⟨j1, fun i s b hi hb => ?_⟩
    cases i with
    | zero =>
      simp only [List.getElem?_cons_zero, Option.some.injEq] at hi hb
      subst hi hb
      exact ⟨k2, k3⟩
    | succ i =>
      simp only [List.getElem?_cons_succ] at hi hb
      exact j2 i s b hi hb

/-! ## numbers for facts that fit -/
def cntN (p : Nat → Prop) [DecidablePred p] : Nat → Nat
  | 0 => 0
  | k + 1 => cntN p k + if p k then 1 else 0
theorem cntN_le {p q : Nat → Prop} [DecidablePred p] [DecidablePred q] (h : ∀ a, p a → q a) : ∀ k, cntN p k ≤ cntN q k
  | 0 => Nat.le_refl _
  | k + 1 => by
    have := cntN_le h k
    unfold cntN
    by_cases hp : p k
    · rw [if_pos hp, if_pos (h k hp)]; omega
    · rw [if_neg hp]; split <;> omega
theorem cntN_lt {p q : Nat → Prop} [DecidablePred p] [DecidablePred q] (h : ∀ a, p a → q a) {b : Nat} (hq : q b) (hp : ¬ p b) : ∀ k, b < k → cntN p k < cntN q k
  | 0, hb => by omega
  | k + 1, hb => by
    by_cases e : b = k
    · have := cntN_le h k
      subst e
      unfold cntN
      rw [if_neg hp, if_pos hq]; omega
    · have := cntN_lt h hq hp k (by omega)
      unfold cntN
      by_cases hp : p k
      · rw [if_pos hp, if_pos (h k hp)]; omega
      · rw [if_neg hp]; split <;> omega
open Classical in
noncomputable def lst (E : ERel) (a : Nat) : Nat → Nat
  | 0 => a
  | k + 1 => if Le E a k ∧ Le E k a then (if lst E a k < k then lst E a k else k) else lst E a k
open Classical in
theorem lst_in (E : ERel) (a : Nat) : ∀ k, Le E a (lst E a k) ∧ Le E (lst E a k) a
  | 0 => ⟨Le.refl _, Le.refl _⟩
  | k + 1 => by
    have ih := lst_in E a k
    unfold lst
    split
    · rename_i h
      split
      · exact ih
      · exact h
    · exact ih
open Classical in
theorem lst_min (E : ERel) (a : Nat) : ∀ k b, b < k → Le E a b → Le E b a → lst E a k ≤ b
  | 0, b, hb, _, _ => by omega
  | k + 1, b, hb, h1, h2 => by
    unfold lst
    by_cases e : b = k
    · subst e
      rw [if_pos ⟨h1, h2⟩]
      split <;> omega
    · have := lst_min E a k b (by omega) h1 h2
      split
      · split <;> omega
      · exact this
open Classical in
noncomputable def numOf (E : ERel) (v : Nat) (a : Nat) : Int := ((cntN (fun b => Le E b a) v * (v + 1) + lst E a v : Nat) : Int)
open Classical in
theorem numOf_eq {E : ERel} {v a b : Nat} (ha : a < v) (hb : b < v) (h1 : Le E a b) (h2 : Le E b a) : numOf E v a = numOf E v b := by
  have e1 : cntN (fun c => Le E c a) v = cntN (fun c => Le E c b) v := Nat.le_antisymm (cntN_le (fun c k => k.trans h1) v) (cntN_le (fun c k => k.trans h2) v)
  have l1 := lst_in E a v
  have l2 := lst_in E b v
  have b1 : lst E a v < v := Nat.lt_of_le_of_lt (lst_min E a v a ha (Le.refl _) (Le.refl _)) ha
  have b2 : lst E b v < v := Nat.lt_of_le_of_lt (lst_min E b v b hb (Le.refl _) (Le.refl _)) hb
  have e2 : lst E a v = lst E b v := Nat.le_antisymm (lst_min E a v _ b2 (h1.trans l2.1) (l2.2.trans h2)) (lst_min E b v _ b1 (h2.trans l1.1) (l1.2.trans h1))
  unfold numOf; rw [e1, e2]
open Classical in
theorem numOf_lt {E : ERel} {v a b : Nat} (ha : a < v) (hb : b < v) (h1 : Le E a b) (h2 : ¬ Le E b a) : numOf E v a < numOf E v b := by
  have e1 : cntN (fun c => Le E c a) v < cntN (fun c => Le E c b) v := cntN_lt (p := fun c => Le E c a) (q := fun c => Le E c b) (b := b) (fun c k => Le.trans k h1) (Le.refl b) h2 v hb
  have b1 : lst E a v < v := Nat.lt_of_le_of_lt (lst_min E a v a ha (Le.refl _) (Le.refl _)) ha
  unfold numOf
  have : (cntN (fun c => Le E c a) v + 1) * (v + 1) ≤ cntN (fun c => Le E c b) v * (v + 1) := Nat.mul_le_mul_right _ e1
  rw [Nat.add_mul] at this
  omega
open Classical in
theorem numOf_ne {E : ERel} {v a b : Nat} (ha : a < v) (hb : b < v) (h : numOf E v a = numOf E v b) : Le E a b ∧ Le E b a := by
  have b1 : lst E a v < v := Nat.lt_of_le_of_lt (lst_min E a v a ha (Le.refl _) (Le.refl _)) ha
  have b2 : lst E b v < v := Nat.lt_of_le_of_lt (lst_min E b v b hb (Le.refl _) (Le.refl _)) hb
  have l1 := lst_in E a v
  have l2 := lst_in E b v
  have e : lst E a v = lst E b v := by
    unfold numOf at h
    have h := Int.ofNat_inj.1 h
    have := congrArg (· % (v + 1)) h
    simp only [Nat.mul_comm _ (v + 1), Nat.mul_add_mod] at this
    rwa [Nat.mod_eq_of_lt (by omega), Nat.mod_eq_of_lt (by omega)] at this
  rw [← e] at l2
  exact ⟨l1.1.trans l2.2, l2.1.trans l1.2⟩
def InV3 (v : Nat) (F : List Stp) : Prop := ∀ f ∈ F, f.op ≤ 3 ∧ f.x < v ∧ f.y < v ∧ f.x ≠ f.y
theorem InV3.inv {v : Nat} {F : List Stp} (h : InV3 v F) : InV v F := fun f hf _ => ⟨(h f hf).2.1, (h f hf).2.2.1⟩
theorem fit_iff3 {v : Nat} {F : List Stp} (hF : InV3 v F) : fitB v F = true ↔ (¬ ∃ i, PE (FE F) i i true) ∧ ∀ f ∈ F, f.op = 3 → ¬ (Le (FE F) f.x f.y ∧ Le (FE F) f.y f.x) := by
  rw [← known_diag hF.inv]
  unfold fitB
  rw [Bool.and_eq_true, List.all_eq_true, List.all_eq_true]
  have e1 : (∀ x ∈ List.range v, (known v F x x != 2) = true) ↔ ¬ ∃ i, i < v ∧ known v F i i = 2 := by
    constructor
    · rintro h ⟨i, hi, hk⟩
      have := h i (List.mem_range.2 hi)
      rw [bne_iff_ne] at this
      exact this hk
    · intro h i hi
      rw [bne_iff_ne]; exact fun hk => h ⟨i, List.mem_range.1 hi, hk⟩
  rw [e1]
  refine and_congr_right fun hd => ?_
  rw [known_diag hF.inv] at hd
  refine forall_congr' fun f => forall_congr' fun hf => ?_
  obtain ⟨_, _, _, hxy⟩ := hF f hf
  rw [← (known_iff2 hF.inv hd hxy).1, ← (known_iff2 hF.inv hd hxy.symm).1]
  simp only [Bool.not_eq_true', Bool.and_eq_false_iff, beq_eq_false_iff_ne, decide_eq_false_iff_not]
  constructor
  · rintro ((h | h) | h) h3 ⟨k1, k2⟩
    · exact h h3
    · exact h k1
    · exact h k2
  · intro h
    by_cases h3 : f.op = 3
    · have := h h3
      by_cases k1 : 0 < known v F f.x f.y
      · exact .inr fun k2 => this ⟨k1, k2⟩
      · exact .inl (.inr k1)
    · exact .inl (.inl h3)
/-- Facts that fit are true of some numbers. -/
theorem fit_num {v : Nat} {F : List Stp} (hF : InV3 v F) (h : fitB v F = true) : ∃ n, ∀ f ∈ F, numOk n f := by
  obtain ⟨h1, h2⟩ := (fit_iff3 hF).1 h
  refine ⟨numOf (FE F) v, fun f hf => ?_⟩
  obtain ⟨h3, hx, hy, hxy⟩ := hF f hf
  have e : ∀ a b s, ((f.op = 0 ∧ a = f.x ∧ b = f.y ∧ s = true) ∨ (f.op = 1 ∧ a = f.x ∧ b = f.y ∧ s = false) ∨ (f.op = 2 ∧ ((a = f.x ∧ b = f.y) ∨ (a = f.y ∧ b = f.x)) ∧ s = false)) → FE F a b s := fun a b s k => ⟨f, hf, k⟩
  have q : f.op = 0 ∨ f.op = 1 ∨ f.op = 2 ∨ f.op = 3 := by omega
  unfold numOk
  rcases q with q | q | q | q
  · rw [if_pos (by omega)]
    have e1 : PE (FE F) f.x f.y true := .one (e _ _ _ (.inl ⟨q, rfl, rfl, rfl⟩))
    exact numOf_lt hx hy e1.le fun ⟨g, k⟩ => h1 ⟨f.x, e1.trans k⟩
  · rw [if_neg (by omega), if_pos (by omega)]
    have e1 : PE (FE F) f.x f.y false := .one (e _ _ _ (.inr (.inl ⟨q, rfl, rfl, rfl⟩)))
    by_cases k : Le (FE F) f.y f.x
    · exact Int.le_of_eq (numOf_eq hx hy e1.le k)
    · exact Int.le_of_lt (numOf_lt hx hy e1.le k)
  · rw [if_neg (by omega), if_neg (by omega), if_pos (by omega)]
    have e1 : PE (FE F) f.x f.y false := .one (e _ _ _ (.inr (.inr ⟨q, .inl ⟨rfl, rfl⟩, rfl⟩)))
    have e2 : PE (FE F) f.y f.x false := .one (e _ _ _ (.inr (.inr ⟨q, .inr ⟨rfl, rfl⟩, rfl⟩)))
    exact numOf_eq hx hy e1.le e2.le
  · rw [if_neg (by omega), if_neg (by omega), if_neg (by omega)]
    exact fun k => h2 f hf q (numOf_ne hx hy k)
/-- Where it is not known that x is at most y, y may be less. -/
theorem fit_more {v : Nat} {F : List Stp} (hF : InV3 v F) (h : fitB v F = true) {x y : Nat} (hx : x < v) (hy : y < v) (hxy : x ≠ y) (hk : ¬ 0 < known v F x y) : fitB v (F ++ [⟨0, y, x⟩]) = true := by
  obtain ⟨h1, h2⟩ := (fit_iff3 hF).1 h
  rw [(known_iff2 hF.inv h1 hxy).1] at hk
  have i3 : InV3 v (F ++ [⟨0, y, x⟩]) := fun f hf => by
    simp only [List.mem_append, List.mem_singleton] at hf
    rcases hf with hf | rfl
    · exact hF f hf
    · exact ⟨by simp, hy, hx, hxy.symm⟩
  have e : addR (FE F) y x true = FE (F ++ [⟨0, y, x⟩]) := funext fun a => funext fun b => funext fun t => propext (FE_ord F y x true a b t)
  rw [fit_iff3 i3, ← e]
  constructor
  · rintro ⟨i, k⟩
    rw [add_iff fun g k => absurd k.le hk] at k
    rcases k with k | ⟨f1, f2, k1, k2, _⟩
    · exact h1 ⟨i, k⟩
    · exact hk (k2.le.trans k1.le)
  · intro f hf h3
    simp only [List.mem_append, List.mem_singleton] at hf
    rcases hf with hf | rfl
    · rw [add_le_iff, add_le_iff]
      rintro ⟨k1 | k1, k2 | k2⟩
      · exact h2 f hf h3 ⟨k1, k2⟩
      · exact hk (k2.2.trans (k1.trans k2.1))
      · exact hk (k1.2.trans (k2.trans k1.1))
      · exact hk (k2.2.trans k1.1)
    · cases h3
end Go.Proofs.Ytapnmgkpljlgmaa
namespace Go.Proofs.Ytapnmgkpljlgmaa

def followB (v : Nat) (F : List Stp) (s : Stp) : Bool :=
  if s.op = 4 then decide (0 < known v F s.x s.y) && !fitB v (F ++ [⟨2, s.x, s.y⟩])
  else if s.op = 5 then decide (0 < known v F s.x s.y)
  else if s.op = 6 then known v F s.x s.y == 1 && known v F s.y s.x == 1
  else !fitB v (F ++ [⟨2, s.x, s.y⟩])
/-- One step of the reference's look at what was told. -/
def sndStep (v : Nat) (r : RS) (s : Stp) (b : Bool) : RS × Bool :=
  if s.op = 8 then ((r.1, r.2 ++ [r.1.length]), true)
  else if s.op = 9 then ((r.1.take (r.2.getLast?.getD 0), r.2.dropLast), true)
  else if 4 ≤ s.op ∧ s.op ≤ 7 then (r, !(b && fitB v r.1 && !followB v r.1 s))
  else if b = true then ((r.1 ++ [s], r.2), true) else (r, !fitB v (r.1 ++ [s]))
def sndB (v : Nat) : RS → List Stp → List Bool → Bool
  | _, [], _ => true
  | r, s :: l, t => (sndStep v r s (t.headD false)).2 && sndB v (sndStep v r s (t.headD false)).1 l t.tail

structure Num3 (v : Nat) (V : VS) (F : List Stp) : Prop where
  num : ∀ n : Nat → Int, (∀ f ∈ F, numOk n f) → NS n V
  inv : InV3 v F
inductive Stk3 (v : Nat) : List Stp → List Nat → List VS → Prop
  | nil (F : List Stp) : Stk3 v F [] []
  | snoc {F : List Stp} {ms : List Nat} {stk : List VS} {k : Nat} {V : VS} : k ≤ F.length → Num3 v V (F.take k) → Stk3 v (F.take k) ms stk → Stk3 v F (ms ++ [k]) (V :: stk)
theorem Stk3.more {v : Nat} {F : List Stp} {ms : List Nat} {stk : List VS} (h : Stk3 v F ms stk) (s : Stp) : Stk3 v (F ++ [s]) ms stk := by
  cases h with
  | nil => exact .nil _
  | snoc hk hp hs =>
    have e : (F ++ [s]).take _ = F.take _ := List.take_append_of_le_length hk
    exact .snoc (by simp; omega) (by rw [e]; exact hp) (by rw [e]; exact hs)
theorem num_nil (v : Nat) : Num3 v VS.nil [] := ⟨fun n _ => NS.nil n, fun f hf => by simp at hf⟩
theorem InV3.snoc {v : Nat} {F : List Stp} (h : InV3 v F) {s : Stp} (hs : s.op ≤ 3 ∧ s.x < v ∧ s.y < v ∧ s.x ≠ s.y) : InV3 v (F ++ [s]) := fun f hf => by
  simp only [List.mem_append, List.mem_singleton] at hf
  rcases hf with hf | rfl
  · exact h f hf
  · exact hs
theorem num_last {v : Nat} {F : List Stp} (h : InV3 v F) {s : Stp} (hs : s.op ≤ 3 ∧ s.x < v ∧ s.y < v ∧ s.x ≠ s.y) (k : fitB v (F ++ [s]) = true) : ∃ n, (∀ f ∈ F, numOk n f) ∧ numOk n s := by
  obtain ⟨n, hn⟩ := fit_num (h.snoc hs) k
  exact ⟨n, fun f hf => hn f (by simp [hf]), hn s (by simp)⟩
theorem snd_set {v : Nat} {V : VS} {F : List Stp} (h : Num3 v V F) {s : Stp} (hs : s.op ≤ 3 ∧ s.x < v ∧ s.y < v ∧ s.x ≠ s.y) :
    (qa V s = true → Num3 v (V.ans s.op s.x s.y).1 (F ++ [s])) ∧ (qa V s = false → (V.ans s.op s.x s.y).1 = V ∧ fitB v (F ++ [s]) = false) := by
  refine ⟨fun _ => ⟨fun n hn => (num_set (h.num n fun f hf => hn f (by simp [hf])) hs.1 (hn s (by simp))).2, h.inv.snoc hs⟩, fun k => ⟨refused_law hs.1 k, ?_⟩⟩
  cases e : fitB v (F ++ [s])
  · rfl
  · obtain ⟨n, h1, h2⟩ := num_last h.inv hs e
    rw [(num_set (h.num n h1) hs.1 h2).1] at k
    cases k
theorem snd_ask {v : Nat} {V : VS} {F : List Stp} (h : Num3 v V F) {s : Stp} (hs : Ask s) (hx : s.x < v) (hy : s.y < v) (hxy : s.x ≠ s.y) (hq : qa V s = true) (hf : fitB v F = true) : followB v F s = true := by
  have apart : ¬ (∀ n, NS n V → n s.x = n s.y → False) ∨ fitB v (F ++ [⟨2, s.x, s.y⟩]) = false := by
    cases e : fitB v (F ++ [⟨2, s.x, s.y⟩])
    · exact .inr rfl
    · obtain ⟨n, h1, h2⟩ := num_last (s := ⟨2, s.x, s.y⟩) h.inv ⟨by simp, hx, hy, hxy⟩ e
      refine .inl fun k => k n (h.num n h1) ?_
      unfold numOk at h2
      rw [if_neg (by simp), if_neg (by simp), if_pos (by simp)] at h2
      exact h2
  have kn : ∀ a b, a < v → b < v → a ≠ b → V.le a b = true → 0 < known v F a b := by
    intro a b ha hb hab hl
    refine Classical.byContradiction fun hk => ?_
    have hfit := fit_more h.inv hf ha hb hab hk
    obtain ⟨n, h1, h2⟩ := num_last (s := ⟨0, b, a⟩) h.inv ⟨by simp, hb, ha, hab.symm⟩ hfit
    unfold numOk at h2
    rw [if_pos (by simp)] at h2
    have := (h.num n h1).le hl
    simp only at h2
    omega
  have lt_le : V.lt s.x s.y = true → 0 < known v F s.x s.y := by
    intro hl
    refine Classical.byContradiction fun hk => ?_
    have hfit := fit_more h.inv hf hx hy hxy hk
    obtain ⟨n, h1, h2⟩ := num_last (s := ⟨0, s.y, s.x⟩) h.inv ⟨by simp, hy, hx, hxy.symm⟩ hfit
    unfold numOk at h2
    rw [if_pos (by simp)] at h2
    have := (h.num n h1).lt hl
    simp only at h2
    omega
  obtain ⟨a1, a2⟩ := hs
  have q : s.op = 4 ∨ s.op = 5 ∨ s.op = 6 ∨ s.op = 7 := by omega
  unfold followB
  unfold qa VS.ans at hq
  rw [if_neg (by omega), if_neg (by omega), if_neg (by omega), if_neg (by omega)] at hq
  rcases q with q | q | q | q
  · rw [if_pos q] at hq ⊢
    have ap := apart.resolve_left fun k => k fun n hn he => by have := hn.lt hq; omega
    rw [ap, decide_eq_true (lt_le hq)]; rfl
  · rw [if_neg (by omega), if_pos q] at hq ⊢
    exact decide_eq_true (kn _ _ hx hy hxy hq)
  · rw [if_neg (by omega), if_neg (by omega), if_pos q] at hq ⊢
    obtain ⟨e1, e2⟩ := VS.eq_iff.1 hq
    have k1 := kn _ _ hx hy hxy e1
    have k2 := kn _ _ hy hx hxy.symm e2
    obtain ⟨f1, _⟩ := (fit_iff3 h.inv).1 hf
    have b1 := known_le2 v F s.x s.y
    have b2 := known_le2 v F s.y s.x
    have i1 := known_iff2 h.inv.inv f1 hxy
    have i2 := known_iff2 h.inv.inv f1 hxy.symm
    have n1 : known v F s.x s.y ≠ 2 := fun e => by
      obtain ⟨g, hg⟩ := i2.1.1 k2
      exact f1 ⟨s.x, ((i1.2.1 e).trans hg : PE (FE F) s.x s.x (true || g))⟩
    have n2 : known v F s.y s.x ≠ 2 := fun e => by
      obtain ⟨g, hg⟩ := i1.1.1 k1
      exact f1 ⟨s.y, ((i2.2.1 e).trans hg : PE (FE F) s.y s.y (true || g))⟩
    rw [Bool.and_eq_true, beq_iff_eq, beq_iff_eq]
    omega
  · rw [if_neg (by omega), if_neg (by omega), if_neg (by omega)] at hq ⊢
    have ap := apart.resolve_left fun k => k fun n hn he => by
      simp only [Bool.or_eq_true] at hq
      rcases hq with (hq | hq) | hq
      · exact hn.ne hq he
      · have := hn.lt hq; omega
      · have := hn.lt hq; omega
    rw [ap]; rfl
theorem snd_run {v : Nat} : ∀ (l : List Stp) (m : MS) (r : RS), Num3 v m.1 r.1 → Stk3 v r.1 r.2 m.2 → GoodS v m.2.length l → sndB v r l (mrun m l).2 = true
  | [], _, _, _, _, _ => rfl
  | s :: l, (V, stk), (F, ms), h, k, g => by
    obtain ⟨g1, g2, g3⟩ := g.cons
    simp only at h k g2 g3
    have key : (sndStep v (F, ms) s (mstep (V, stk) s).2).2 = true ∧ Num3 v (mstep (V, stk) s).1.1 (sndStep v (F, ms) s (mstep (V, stk) s).2).1.1 ∧ Stk3 v (sndStep v (F, ms) s (mstep (V, stk) s).2).1.1 (sndStep v (F, ms) s (mstep (V, stk) s).2).1.2 (mstep (V, stk) s).1.2 ∧
        (mstep (V, stk) s).1.2.length = (if s.op = 8 then stk.length + 1 else if s.op = 9 then stk.length - 1 else stk.length) := by
      unfold mstep sndStep
      by_cases q8 : s.op = 8
      · rw [if_pos q8, if_pos q8, if_pos q8]
        exact ⟨rfl, h, .snoc (Nat.le_refl _) (by rw [List.take_length]; exact h) (by rw [List.take_length]; exact k), rfl⟩
      · rw [if_neg q8, if_neg q8, if_neg q8]
        by_cases q9 : s.op = 9
        · rw [if_pos q9, if_pos q9, if_pos q9]
          have := g2 q9
          cases k with
          | nil => simp at this
          | snoc hk hp hs =>
            refine ⟨rfl, ?_, ?_, ?_⟩
            · simpa using hp
            · simpa using hs
            · simp
        · rw [if_neg q9, if_neg q9, if_neg q9]
          obtain ⟨w1, w2⟩ := g1
          obtain ⟨w3, w4, w5⟩ := w2 (by omega)
          by_cases q : 4 ≤ s.op ∧ s.op ≤ 7
          · rw [if_pos q]
            refine ⟨?_, ?_, k, rfl⟩
            · simp only
              cases e1 : (V.ans s.op s.x s.y).2
              · rfl
              · cases e2 : fitB v F
                · rfl
                · rw [snd_ask h q w3 w4 w5 e1 e2]; rfl
            · simp only
              rw [ans_ask V q]; exact h
          · rw [if_neg q]
            obtain ⟨p1, p2⟩ := snd_set h (s := s) ⟨by omega, w3, w4, w5⟩
            simp only
            cases e : (V.ans s.op s.x s.y).2
            · rw [if_neg (by decide)]
              obtain ⟨p3, p4⟩ := p2 e
              refine ⟨by simp only; rw [p4]; rfl, ?_, k, trivial⟩
              simp only; rw [p3]; exact h
            · rw [if_pos rfl]
              exact ⟨rfl, p1 e, k.more s, trivial⟩
    obtain ⟨k1, k2, k3, k4⟩ := key
    have ih := snd_run l (mstep (V, stk) s).1 (sndStep v (F, ms) s (mstep (V, stk) s).2).1 k2 k3 (by rw [k4]; exact g3)
    unfold mrun sndB
    simp only [List.headD_cons, List.tail_cons]
    rw [k1, ih]; rfl
theorem snd_outs {v : Nat} {l : List Stp} (g : GoodS v 0 l) : sndB v ([], []) l (outs l) = true := snd_run l m00 ([], []) (num_nil v) (.nil _) g
end Go.Proofs.Ytapnmgkpljlgmaa
namespace Go.Proofs.Ytapnmgkpljlgmaa

/-! ## two runs side by side -/
inductive Stk2 (R : VS → VS → Prop) : List VS → List VS → Prop
  | nil : Stk2 R [] []
  | cons {V W : VS} {a b : List VS} : R V W → Stk2 R a b → Stk2 R (V :: a) (W :: b)
theorem run2 {R : VS → VS → Prop} {f : Stp → Stp} {P : Stp → Prop} (hop : ∀ s, (f s).op = s.op)
    (hs : ∀ V W s, P s → s.op ≠ 8 → s.op ≠ 9 → R V W → (W.ans (f s).op (f s).x (f s).y).2 = (V.ans s.op s.x s.y).2 ∧ R (V.ans s.op s.x s.y).1 (W.ans (f s).op (f s).x (f s).y).1) :
    ∀ (l : List Stp) (m n : MS), (∀ s ∈ l, P s) → R m.1 n.1 → Stk2 R m.2 n.2 → (mrun n (l.map f)).2 = (mrun m l).2
  | [], _, _, _, _, _ => rfl
  | s :: l, (V, a), (W, b), hl, h, k => by
    have key : (mstep (W, b) (f s)).2 = (mstep (V, a) s).2 ∧ R (mstep (V, a) s).1.1 (mstep (W, b) (f s)).1.1 ∧ Stk2 R (mstep (V, a) s).1.2 (mstep (W, b) (f s)).1.2 := by
      unfold mstep
      rw [hop s]
      by_cases q8 : s.op = 8
      · rw [if_pos q8, if_pos q8]; exact ⟨rfl, h, .cons h k⟩
      · rw [if_neg q8, if_neg q8]
        by_cases q9 : s.op = 9
        · rw [if_pos q9, if_pos q9]
          cases k with
          | nil => exact ⟨rfl, h, .nil⟩
          | cons h2 k2 => exact ⟨rfl, h2, k2⟩
        · rw [if_neg q9, if_neg q9]
          have := hs V W s (hl s (by simp)) q8 q9 h
          rw [hop s] at this
          exact ⟨this.1, this.2, k⟩
    obtain ⟨k1, k2, k3⟩ := key
    have ih := run2 hop hs l (mstep (V, a) s).1 (mstep (W, b) (f s)).1 (fun t ht => hl t (by simp [ht])) k2 k3
    rw [List.map_cons]
    unfold mrun
    simp only
    rw [k1, ih]

/-! ## the other way round -/
structure Mir (V W : VS) : Prop where
  le : ∀ a b, W.le a b = V.le b a
  lt : ∀ a b, W.lt a b = V.lt b a
  n1 : ∀ a b, V.ne a b = false
  n2 : ∀ a b, W.ne a b = false
theorem Mir.eq {V W : VS} (h : Mir V W) (a b : Nat) : W.eq a b = V.eq b a := by unfold VS.eq; rw [h.le, h.le]
theorem eq_comm' (V : VS) (a b : Nat) : V.eq a b = V.eq b a := by unfold VS.eq; exact Bool.and_comm _ _
theorem Mir.add {V W : VS} (h : Mir V W) (x y : Nat) (s : Bool) : Mir (V.add x y s) (W.add y x s) := by
  refine ⟨fun a b => ?_, fun a b => ?_, h.n1, h.n2⟩
  · simp only [VS.add, h.le]
    generalize V.le b a = p
    generalize V.le y a = q
    generalize V.le b x = r
    cases p <;> cases q <;> cases r <;> rfl
  · simp only [VS.add, h.le, h.lt]
    generalize V.lt b a = p
    generalize V.le y a = q
    generalize V.le b x = r
    generalize V.lt y a = t
    generalize V.lt b x = u
    cases p <;> cases q <;> cases r <;> cases s <;> cases t <;> cases u <;> rfl
theorem Mir.fold {V W : VS} (h : Mir V W) (r r' : Nat) : Mir (V.fold r) (W.fold r') := ⟨h.le, h.lt, fun _ _ => h.n1 _ _, fun _ _ => h.n2 _ _⟩
theorem mir_O {V W : VS} (h : Mir V W) (x y : Nat) (st : Bool) : (W.setO y x st).2 = (V.setO x y st).2 ∧ Mir (V.setO x y st).1 (W.setO y x st).1 := by
  unfold VS.setO
  rw [h.eq y x, h.le y x, h.le x y, h.lt x y, h.n1, h.n2]
  split
  · exact ⟨rfl, h⟩
  · split
    · exact ⟨rfl, h.add _ _ _⟩
    · split
      · split
        · exact ⟨rfl, h⟩
        · exact ⟨rfl, (h.add _ _ _).fold _ _⟩
      · exact ⟨rfl, h.add _ _ _⟩
theorem mir_E {V W : VS} (h : Mir V W) (x y : Nat) : (W.setE y x).2 = (V.setE x y).2 ∧ Mir (V.setE x y).1 (W.setE y x).1 := by
  unfold VS.setE
  rw [h.eq y x, h.le y x, h.le x y, h.lt x y, h.lt y x, h.n1, h.n2]
  simp only [Bool.false_eq_true, if_false]
  split
  · exact ⟨rfl, h⟩
  · split
    · split
      · exact ⟨rfl, h⟩
      · exact ⟨rfl, (h.add _ _ _).fold _ _⟩
    · split
      · split
        · exact ⟨rfl, h⟩
        · exact ⟨rfl, (h.add _ _ _).fold _ _⟩
      · exact ⟨rfl, ((h.add _ _ _).add _ _ _).fold _ _⟩
def Stp.mir (s : Stp) : Stp := ⟨s.op, s.y, s.x⟩
theorem mir_ans {V W : VS} (s : Stp) (hp : s.op ≠ 3) (h : Mir V W) : (W.ans s.op s.y s.x).2 = (V.ans s.op s.x s.y).2 ∧ Mir (V.ans s.op s.x s.y).1 (W.ans s.op s.y s.x).1 := by
  unfold VS.ans
  split
  · exact mir_O h _ _ _
  · split
    · exact mir_O h _ _ _
    · split
      · exact mir_E h _ _
      · first
          | rw [if_neg hp, if_neg hp]
          | skip
        split
        · exact ⟨h.lt _ _, h⟩
        · split
          · exact ⟨h.le _ _, h⟩
          · split
            · exact ⟨h.eq _ _, h⟩
            · refine ⟨?_, h⟩
              simp only
              rw [h.n1, h.n2, h.lt, h.lt]
theorem mir_nil : Mir VS.nil VS.nil := ⟨fun a b => by simp [VS.nil, eq_comm], fun _ _ => rfl, fun _ _ => rfl, fun _ _ => rfl⟩
/-- Without SetNonEqual all holds the other way round, too. -/
theorem outs_mir {l : List Stp} (h : NoN l) : outs (l.map Stp.mir) = outs l :=
  run2 (R := Mir) (f := Stp.mir) (P := fun s => s.op ≠ 3) (fun _ => rfl) (fun _ _ s hp _ _ k => mir_ans s hp k) l m00 m00 h mir_nil .nil

/-! ## values numbered anew -/
structure Ren (v : Nat) (p : Nat → Nat) (V W : VS) : Prop where
  kn : ∀ a, a < v → W.kn (p a) = V.kn a
  le : ∀ a b, a < v → b < v → W.le (p a) (p b) = V.le a b
  lt : ∀ a b, a < v → b < v → W.lt (p a) (p b) = V.lt a b
  ne : ∀ a b, a < v → b < v → W.ne (p a) (p b) = V.ne a b
section
variable {v : Nat} {p : Nat → Nat} {V W : VS} (hp : ∀ a b, a < v → b < v → p a = p b → a = b)
theorem Ren.eq (h : Ren v p V W) {a b : Nat} (ha : a < v) (hb : b < v) : W.eq (p a) (p b) = V.eq a b := by unfold VS.eq; rw [h.le a b ha hb, h.le b a hb ha]
include hp in
theorem ren_dec {a b : Nat} (ha : a < v) (hb : b < v) : decide (p a = p b) = decide (a = b) := by
  rw [Bool.eq_iff_iff, decide_eq_true_eq, decide_eq_true_eq]
  exact ⟨hp a b ha hb, fun e => by rw [e]⟩
include hp in
theorem Ren.add (h : Ren v p V W) {x y : Nat} (hx : x < v) (hy : y < v) (s : Bool) : Ren v p (V.add x y s) (W.add (p x) (p y) s) := by
  refine ⟨fun a ha => ?_, fun a b ha hb => ?_, fun a b ha hb => ?_, h.ne⟩
  · simp only [VS.add]; rw [h.kn a ha, ren_dec hp ha hx, ren_dec hp ha hy]
  · simp only [VS.add]; rw [h.le a b ha hb, h.le a x ha hx, h.le y b hy hb]
  · simp only [VS.add]; rw [h.le a x ha hx, h.le y b hy hb, h.lt a b ha hb, h.lt a x ha hx, h.lt y b hy hb]
theorem Ren.rep (h : Ren v p V W) {r a : Nat} (hr : r < v) (ha : a < v) : W.rep (p r) (p a) = p (V.rep r a) ∧ V.rep r a < v := by
  unfold VS.rep
  rw [h.eq ha hr]
  split
  · exact ⟨rfl, hr⟩
  · exact ⟨rfl, ha⟩
theorem Ren.fold (h : Ren v p V W) {r : Nat} (hr : r < v) : Ren v p (V.fold r) (W.fold (p r)) := by
  refine ⟨h.kn, h.le, h.lt, fun a b ha hb => ?_⟩
  show W.ne (W.rep (p r) (p a)) (W.rep (p r) (p b)) = V.ne (V.rep r a) (V.rep r b)
  obtain ⟨e1, l1⟩ := h.rep hr ha
  obtain ⟨e2, l2⟩ := h.rep hr hb
  rw [e1, e2, h.ne _ _ l1 l2]
include hp in
theorem Ren.mark (h : Ren v p V W) {x y : Nat} (hx : x < v) (hy : y < v) : Ren v p (V.mark x y) (W.mark (p x) (p y)) := by
  refine ⟨fun a ha => ?_, h.le, h.lt, fun a b ha hb => ?_⟩
  · simp only [VS.mark]; rw [h.kn a ha, ren_dec hp ha hx, ren_dec hp ha hy]
  · simp only [VS.mark]; rw [h.ne a b ha hb, h.eq ha hx, h.eq hb hy, h.eq ha hy, h.eq hb hx]
include hp in
theorem ren_O (h : Ren v p V W) {x y : Nat} (hx : x < v) (hy : y < v) (st : Bool) : (W.setO (p x) (p y) st).2 = (V.setO x y st).2 ∧ Ren v p (V.setO x y st).1 (W.setO (p x) (p y) st).1 := by
  unfold VS.setO
  rw [h.eq hx hy, h.le x y hx hy, h.le y x hy hx, h.lt y x hy hx, h.ne x y hx hy]
  split
  · exact ⟨rfl, h⟩
  · split
    · exact ⟨rfl, h.add hp hx hy _⟩
    · split
      · split
        · exact ⟨rfl, h⟩
        · exact ⟨rfl, (h.add hp hx hy _).fold hy⟩
      · exact ⟨rfl, h.add hp hx hy _⟩
include hp in
theorem ren_E (h : Ren v p V W) {x y : Nat} (hx : x < v) (hy : y < v) : (W.setE (p x) (p y)).2 = (V.setE x y).2 ∧ Ren v p (V.setE x y).1 (W.setE (p x) (p y)).1 := by
  unfold VS.setE
  rw [h.eq hx hy, h.le x y hx hy, h.le y x hy hx, h.lt y x hy hx, h.lt x y hx hy, h.ne x y hx hy, h.kn x hx, h.kn y hy]
  split
  · exact ⟨rfl, h⟩
  · split
    · exact ⟨rfl, h⟩
    · split
      · split
        · exact ⟨rfl, h⟩
        · exact ⟨rfl, (h.add hp hy hx _).fold hx⟩
      · split
        · split
          · exact ⟨rfl, h⟩
          · exact ⟨rfl, (h.add hp hx hy _).fold hy⟩
        · refine ⟨rfl, ?_⟩
          split
          · exact ((h.add hp hx hy _).add hp hy hx _).fold hy
          · exact ((h.add hp hx hy _).add hp hy hx _).fold hx
include hp in
theorem ren_N (h : Ren v p V W) {x y : Nat} (hx : x < v) (hy : y < v) : (W.setN (p x) (p y)).2 = (V.setN x y).2 ∧ Ren v p (V.setN x y).1 (W.setN (p x) (p y)).1 := by
  unfold VS.setN
  rw [h.eq hx hy, h.le x y hx hy, h.le y x hy hx, h.ne x y hx hy]
  split
  · exact ⟨rfl, h⟩
  · split
    · exact ⟨rfl, h⟩
    · split
      · exact ⟨rfl, (h.mark hp hx hy).add hp hx hy _⟩
      · split
        · exact ⟨rfl, (h.mark hp hx hy).add hp hy hx _⟩
        · exact ⟨rfl, h.mark hp hx hy⟩
include hp in
theorem ren_ans (h : Ren v p V W) (op : Nat) {x y : Nat} (hx : x < v) (hy : y < v) : (W.ans op (p x) (p y)).2 = (V.ans op x y).2 ∧ Ren v p (V.ans op x y).1 (W.ans op (p x) (p y)).1 := by
  unfold VS.ans
  split
  · exact ren_O hp h hx hy _
  · split
    · exact ren_O hp h hx hy _
    · split
      · exact ren_E hp h hx hy
      · split
        · exact ren_N hp h hx hy
        · split
          · exact ⟨h.lt _ _ hx hy, h⟩
          · split
            · exact ⟨h.le _ _ hx hy, h⟩
            · split
              · exact ⟨h.eq hx hy, h⟩
              · refine ⟨?_, h⟩
                simp only
                rw [h.ne x y hx hy, h.lt x y hx hy, h.lt y x hy hx]
end
/-- Each value by so much more, round at v. -/
def rot (v t a : Nat) : Nat := if a + t < v then a + t else a + t - v
theorem rot_inj {v t : Nat} (a b : Nat) (ha : a < v) (hb : b < v) (h : rot v t a = rot v t b) : a = b := by
  unfold rot at h; split at h <;> split at h <;> omega
def Stp.rot (v t : Nat) (s : Stp) : Stp := if s.op = 8 ∨ s.op = 9 then s else ⟨s.op, Go.Proofs.Ytapnmgkpljlgmaa.rot v t s.x, Go.Proofs.Ytapnmgkpljlgmaa.rot v t s.y⟩
theorem ren_nil (v t : Nat) : Ren v (Go.Proofs.Ytapnmgkpljlgmaa.rot v t) VS.nil VS.nil :=
  ⟨fun _ _ => rfl, fun a b ha hb => by simp only [VS.nil]; exact ren_dec rot_inj ha hb, fun _ _ _ _ => rfl, fun _ _ _ _ => rfl⟩
/-- It does not matter how values are numbered. -/
theorem outs_rot {v t : Nat} {l : List Stp} (h : ∀ s ∈ l, WfS v s) : outs (l.map (Stp.rot v t)) = outs l :=
  run2 (R := Ren v (Go.Proofs.Ytapnmgkpljlgmaa.rot v t)) (f := Stp.rot v t) (P := WfS v) (fun s => by unfold Stp.rot; split <;> rfl) (fun V W s hw h8 h9 k => by
    have w := hw.2 (by have := hw.1; omega)
    unfold Stp.rot
    rw [if_neg (by omega)]
    exact ren_ans rot_inj k s.op w.1 w.2.1) l m00 m00 h (ren_nil v t) .nil

/-! ## facts that fit, in any order -/
theorem St_snoc (l : List Stp) {s : Stp} (h8 : s.op ≠ 8) (h9 : s.op ≠ 9) : MSt (l ++ [s]) = ((MSt l).ans s.op s.x s.y).1 := by
  unfold MSt; rw [mrun_snoc]; unfold mstep; rw [if_neg h8, if_neg h9]
theorem outs_snoc (l : List Stp) (s : Stp) : outs (l ++ [s]) = outs l ++ [(mstep (mrun m00 l).1 s).2] := by
  unfold outs; rw [mrun_snoc]
theorem outs_snoc' (l : List Stp) {s : Stp} (h8 : s.op ≠ 8) (h9 : s.op ≠ 9) : outs (l ++ [s]) = outs l ++ [qa (MSt l) s] := by
  rw [outs_snoc]; unfold mstep; rw [if_neg h8, if_neg h9]; rfl
theorem fits_all {v : Nat} : ∀ (n : Nat) (F : List Stp), F.length = n → InV v F → Plain F → fitB v F = true → outs F = F.map (fun _ => true) ∧ Pair1 v (MSt F) F
  | 0, F, h, _, _, _ => by
    have : F = [] := List.eq_nil_of_length_eq_zero h
    subst this
    exact ⟨rfl, pair_nil v⟩
  | n + 1, F, h, hi, hp, hf => by
    rcases List.eq_nil_or_concat F with rfl | ⟨F', s, rfl⟩
    · simp at h
    · rw [List.concat_eq_append] at *
      have hi' : InV v F' := fun f hf => hi f (by simp [hf])
      have hp' : Plain F' := fun f hf => hp f (by simp [hf])
      have hs := hp s (by simp)
      have hxy := hi s (by simp) hs
      have hf' : fitB v F' = true := by
        rw [fitB_iff hi' hp']
        rintro ⟨i, k⟩
        exact (fitB_iff hi hp).1 hf ⟨i, k.mono fun _ _ _ e => FE_mono (fun f hf => by simp [hf]) e⟩
      obtain ⟨ih1, ih2⟩ := fits_all n F' (by simpa using h) hi' hp' hf'
      obtain ⟨p1, p2, _⟩ := pair_set ih2 hs hxy.1 hxy.2
      have e : ((MSt F').ans s.op s.x s.y).2 = true := by rw [← p1]; exact hf
      refine ⟨?_, ?_⟩
      · rw [outs_snoc' F' (by omega) (by omega), ih1, show qa (MSt F') s = true from e]; simp
      · rw [St_snoc F' (by omega) (by omega)]; exact p2 e
theorem FE_set {F G : List Stp} (h : ∀ f, f ∈ F ↔ f ∈ G) : FE F = FE G := by
  funext a b s
  exact propext ⟨FE_mono fun f hf => (h f).1 hf, FE_mono fun f hf => (h f).2 hf⟩
theorem qa_same {v : Nat} {V W : VS} {F G : List Stp} (h : Pair1 v V F) (k : Pair1 v W G) (e : FE F = FE G) (s : Stp) (hs : Ask s) : qa V s = qa W s := by
  have hle : ∀ a b, V.le a b = W.le a b := fun a b => by rw [Bool.eq_iff_iff, h.sim.le, k.sim.le, e]
  have hlt : ∀ a b, V.lt a b = W.lt a b := fun a b => by rw [Bool.eq_iff_iff, h.sim.lt, k.sim.lt, e]
  obtain ⟨h1, h2⟩ := hs
  have e0 : ¬ s.op = 0 := by omega
  have e1 : ¬ s.op = 1 := by omega
  have e2 : ¬ s.op = 2 := by omega
  have e3 : ¬ s.op = 3 := by omega
  unfold qa VS.ans
  simp only [e0, e1, e2, e3, if_false]
  split
  · exact hlt _ _
  · split
    · exact hle _ _
    · split
      · simp only [VS.eq]; rw [hle, hle]
      · simp only; rw [h.ne, k.ne, hlt, hlt]
/-- Facts that fit can be told in any order. -/
theorem outs_order {v : Nat} {F G q : List Stp} (hi : InV v F) (hp : Plain F) (hf : fitB v F = true) (hl : G.length = F.length) (hm : ∀ f, f ∈ F ↔ f ∈ G) (hq : ∀ s ∈ q, Ask s) : outs (G ++ q) = outs (F ++ q) := by
  have hi' : InV v G := fun f h => hi f ((hm f).2 h)
  have hp' : Plain G := fun f h => hp f ((hm f).2 h)
  have e := FE_set hm
  have hf' : fitB v G = true := by rw [fitB_iff hi' hp', ← e]; exact (fitB_iff hi hp).1 hf
  obtain ⟨a1, a2⟩ := fits_all _ F rfl hi hp hf
  obtain ⟨b1, b2⟩ := fits_all _ G rfl hi' hp' hf'
  have o : ∀ L, outs (L ++ q) = outs L ++ q.map (qa (MSt L)) := fun L => by
    show (mrun m00 (L ++ q)).2 = _
    rw [mrun_app, mrun_ask _ hq]; rfl
  rw [o, o, a1, b1]
  congr 1
  · rw [List.map_const', List.map_const', hl]
  · exact List.map_congr_left fun s hs => (qa_same a2 b2 e s (hq s hs)).symm
end Go.Proofs.Ytapnmgkpljlgmaa
namespace Go.Proofs.Ytapnmgkpljlgmaa

/-! ## facts that are true of numbers fit -/
theorem num_walk {n : Nat → Int} {F : List Stp} (hp : Plain F) (hn : ∀ f ∈ F, numOk n f) {a b : Nat} {s : Bool} (k : PE (FE F) a b s) : n a ≤ n b ∧ (s = true → n a < n b) := by
  induction k with
  | nil => exact ⟨Int.le_refl _, fun e => by cases e⟩
  | cons e kk ih =>
    rename_i a b c s t
    obtain ⟨f, hf, e⟩ := e
    have h := hn f hf
    unfold numOk at h
    have key : n a ≤ n b ∧ (s = true → n a < n b) := by
      rcases e with ⟨h0, rfl, rfl, rfl⟩ | ⟨h1, rfl, rfl, rfl⟩ | ⟨h2, e, rfl⟩
      · rw [if_pos (.inl h0)] at h; exact ⟨Int.le_of_lt h, fun _ => h⟩
      · rw [if_neg (by omega), if_pos (.inl h1)] at h; exact ⟨h, fun e => by cases e⟩
      · rw [if_neg (by omega), if_neg (by omega), if_pos (.inl h2)] at h
        rcases e with ⟨rfl, rfl⟩ | ⟨rfl, rfl⟩
        · exact ⟨Int.le_of_eq h, fun e => by cases e⟩
        · exact ⟨Int.le_of_eq h.symm, fun e => by cases e⟩
    refine ⟨Int.le_trans key.1 ih.1, fun e => ?_⟩
    cases s
    · have := ih.2 (by simpa using e); have := key.1; omega
    · have := key.2 rfl; have := ih.1; omega
theorem num_fits {v : Nat} {n : Nat → Int} {F : List Stp} (hi : InV v F) (hp : Plain F) (hn : ∀ f ∈ F, numOk n f) : fitB v F = true := by
  rw [fitB_iff hi hp]
  rintro ⟨i, k⟩
  have := (num_walk hp hn k).2 rfl
  omega
theorem map_true {α : Type} (l : List α) : l.map (fun _ => true) = List.replicate l.length true := List.map_const' ..

/-! ## a row -/
theorem row_num : ∀ row : List Nat, row.Nodup → ∃ n : Nat → Int, ∀ i, i < row.length → n (row.getD i 0) = i
  | [], _ => ⟨fun _ => 0, fun i h => by simp at h⟩
  | a :: row, h => by
    obtain ⟨n, hn⟩ := row_num row (List.nodup_cons.1 h).2
    refine ⟨fun b => if b = a then 0 else n b + 1, fun i hi => ?_⟩
    cases i with
    | zero => simp
    | succ i =>
      have hi' : i < row.length := by simpa using hi
      have e : (a :: row).getD (i + 1) 0 = row.getD i 0 := rfl
      have hm : row.getD i 0 ∈ row := by rw [List.getD_eq_getElem?_getD, List.getElem?_eq_getElem hi']; exact List.getElem_mem _
      have hne : row.getD i 0 ≠ a := fun q => (List.nodup_cons.1 h).1 (q ▸ hm)
      rw [e]
      show (if row.getD i 0 = a then (0 : Int) else n (row.getD i 0) + 1) = _
      rw [if_neg hne, hn i hi']; omega
def link (row : List Nat) (strict : Int) (i : Nat) : Stp := ⟨if (i : Int) = strict then 0 else 1, row.getD i 0, row.getD (i + 1) 0⟩
def links (row : List Nat) (strict : Int) : List Stp := (List.range (row.length - 1)).map (link row strict)
theorem links_len (row : List Nat) (strict : Int) : (links row strict).length = row.length - 1 := by simp [links]
theorem links_mem {row : List Nat} {strict : Int} {f : Stp} : f ∈ links row strict ↔ ∃ i, i + 1 < row.length ∧ f = link row strict i := by
  unfold links
  simp only [List.mem_map, List.mem_range]
  constructor
  · rintro ⟨i, h, rfl⟩; exact ⟨i, by omega, rfl⟩
  · rintro ⟨i, h, rfl⟩; exact ⟨i, by omega, rfl⟩
theorem link_op (row : List Nat) (strict : Int) (i : Nat) : (link row strict i).op = 0 ∨ (link row strict i).op = 1 := by
  unfold link; simp only; split <;> simp
structure RowOK (v : Nat) (row : List Nat) : Prop where
  two : 2 ≤ row.length
  nd : row.Nodup
  lt : ∀ a ∈ row, a < v
theorem RowOK.at {v : Nat} {row : List Nat} (h : RowOK v row) {i : Nat} (hi : i < row.length) : row.getD i 0 < v := by
  rw [List.getD_eq_getElem?_getD, List.getElem?_eq_getElem hi]; exact h.lt _ (List.getElem_mem _)
theorem RowOK.ne {v : Nat} {row : List Nat} (h : RowOK v row) {i j : Nat} (hi : i < row.length) (hj : j < row.length) (hij : i ≠ j) : row.getD i 0 ≠ row.getD j 0 := by
  obtain ⟨n, hn⟩ := row_num row h.nd
  intro e
  have := hn i hi; have := hn j hj
  rw [e] at *; omega
theorem links_inv {v : Nat} {row : List Nat} (h : RowOK v row) (strict : Int) : InV v (links row strict) := fun f hf _ => by
  obtain ⟨i, hi, rfl⟩ := links_mem.1 hf
  exact ⟨h.at (by omega), h.at hi⟩
theorem links_plain (row : List Nat) (strict : Int) : Plain (links row strict) := fun f hf => by
  obtain ⟨i, hi, rfl⟩ := links_mem.1 hf
  have := link_op row strict i; omega
theorem links_num {row : List Nat} {n : Nat → Int} (hn : ∀ i, i < row.length → n (row.getD i 0) = i) (strict : Int) : ∀ f ∈ links row strict, numOk n f := fun f hf => by
  obtain ⟨i, hi, rfl⟩ := links_mem.1 hf
  have h1 := hn i (by omega)
  have h2 := hn (i + 1) hi
  have e1 : n (link row strict i).x = i := h1
  have e2 : n (link row strict i).y = ((i + 1 : Nat) : Int) := h2
  unfold numOk
  rw [e1, e2]
  rcases link_op row strict i with q | q
  · rw [if_pos (.inl q)]; omega
  · rw [if_neg (by omega), if_pos (.inl q)]; omega
def less (row : List Nat) (strict : Int) : Bool := decide (0 ≤ strict ∧ strict < (row.length : Int) - 1)
theorem row_walk {row : List Nat} {strict : Int} : ∀ (d i : Nat), i + d < row.length → ∃ f, PE (FE (links row strict)) (row.getD i 0) (row.getD (i + d) 0) f ∧ ∀ k : Nat, i ≤ k → k < i + d → (k : Int) = strict → f = true
  | 0, i, _ => ⟨false, .nil _, fun k h1 h2 => by omega⟩
  | d + 1, i, h => by
    obtain ⟨f, hf, hk⟩ := row_walk (row := row) (strict := strict) d i (by omega)
    have hm : link row strict (i + d) ∈ links row strict := links_mem.2 ⟨i + d, by omega, rfl⟩
    by_cases e : ((i + d : Nat) : Int) = strict
    · have ed : FE (links row strict) (row.getD (i + d) 0) (row.getD (i + (d + 1)) 0) true := ⟨_, hm, .inl ⟨if_pos e, rfl, rfl, rfl⟩⟩
      exact ⟨_, hf.trans (.one ed), fun k _ _ _ => Bool.or_true _⟩
    · have ed : FE (links row strict) (row.getD (i + d) 0) (row.getD (i + (d + 1)) 0) false := ⟨_, hm, .inr (.inl ⟨if_neg e, rfl, rfl, rfl⟩)⟩
      refine ⟨_, hf.trans (.one ed), fun k h1 h2 h3 => ?_⟩
      by_cases q : k = i + d
      · subst q; exact absurd h3 e
      · rw [hk k h1 (by omega) h3]; rfl
theorem row_weak {row : List Nat} {strict : Int} (h : less row strict = false) {a b : Nat} {s : Bool} (k : PE (FE (links row strict)) a b s) : s = false := by
  induction k with
  | nil => rfl
  | cons e _ ih =>
    rw [ih, Bool.or_false]
    obtain ⟨f, hf, e⟩ := e
    obtain ⟨i, hi, rfl⟩ := links_mem.1 hf
    unfold less at h
    rw [decide_eq_false_iff_not] at h
    rcases e with ⟨h0, _⟩ | ⟨_, _, _, e⟩ | ⟨_, _, e⟩
    · unfold link at h0
      simp only at h0
      split at h0
      · omega
      · cases h0
    · exact e
    · exact e
/-- The first of a row is less than the last one if one of the steps is, and at most it in any case. -/
theorem row_law {v : Nat} {row : List Nat} (h : RowOK v row) (strict : Int) {G : List Stp} (hl : G.length = row.length - 1) (hm : ∀ f, f ∈ links row strict ↔ f ∈ G) {x y : Nat} (hx : x = row.getD 0 0) (hy : y = row.getD (row.length - 1) 0) :
    outs (G ++ [⟨4, x, y⟩, ⟨5, x, y⟩, ⟨5, y, x⟩]) = List.replicate (row.length - 1) true ++ [less row strict, true, false] := by
  subst hx hy
  obtain ⟨n, hn⟩ := row_num row h.nd
  have hi := links_inv h strict
  have hp := links_plain row strict
  have hi' : InV v G := fun f k => hi f ((hm f).2 k)
  have hp' : Plain G := fun f k => hp f ((hm f).2 k)
  have hN := links_num hn strict
  have hf := num_fits hi' hp' fun f k => hN f ((hm f).2 k)
  obtain ⟨a1, a2⟩ := fits_all _ G rfl hi' hp' hf
  have e := FE_set hm
  have h2 := h.two
  obtain ⟨f, w1, w2⟩ := row_walk (row := row) (strict := strict) (row.length - 1) 0 (by omega)
  rw [Nat.zero_add] at w1
  have o : outs (G ++ [⟨4, row.getD 0 0, row.getD (row.length - 1) 0⟩, ⟨5, row.getD 0 0, row.getD (row.length - 1) 0⟩, ⟨5, row.getD (row.length - 1) 0, row.getD 0 0⟩]) = outs G ++ [(MSt G).lt (row.getD 0 0) (row.getD (row.length - 1) 0), (MSt G).le (row.getD 0 0) (row.getD (row.length - 1) 0), (MSt G).le (row.getD (row.length - 1) 0) (row.getD 0 0)] := by
    show (mrun m00 (G ++ _)).2 = _
    rw [mrun_app, mrun_ask]
    · rfl
    · intro s hs
      simp only [List.mem_cons, List.not_mem_nil, or_false] at hs
      unfold Ask
      rcases hs with rfl | rfl | rfl <;> simp
  rw [o, a1, map_true, hl]
  have c1 : (MSt G).lt (row.getD 0 0) (row.getD (row.length - 1) 0) = less row strict := by
    rw [Bool.eq_iff_iff, a2.sim.lt, ← e]
    constructor
    · intro k
      cases hq : less row strict
      · exact absurd (row_weak hq k) (by decide)
      · rfl
    · intro q
      have hq := of_decide_eq_true q
      have : f = true := w2 strict.toNat (by omega) (by omega) (by omega)
      exact this ▸ w1
  have c2 : (MSt G).le (row.getD 0 0) (row.getD (row.length - 1) 0) = true := (a2.sim.le _ _).2 (e ▸ ⟨f, w1⟩)
  have c3 : (MSt G).le (row.getD (row.length - 1) 0) (row.getD 0 0) = false := by
    cases q : (MSt G).le (row.getD (row.length - 1) 0) (row.getD 0 0)
    · rfl
    · obtain ⟨g, k⟩ := (a2.sim.le _ _).1 q
      rw [← e] at k
      have := (num_walk hp hN k).1
      rw [hn 0 (by omega), hn (row.length - 1) (by omega)] at this
      omega
  rw [c1, c2, c3]

/-! ## a ring -/
def ringAsk (row : List Nat) : List Stp := (List.range (row.length - 1)).flatMap fun i => [⟨6, row.getD (i + 1) 0, row.getD 0 0⟩, ⟨0, row.getD (i + 1) 0, row.getD i 0⟩]
def ringAns (k : Nat) : List Bool := (List.range k).flatMap fun _ => [true, false]
theorem ringAns_get (k i : Nat) (h : i < 2 * k) : (ringAns k)[i]? = some (i % 2 == 0) := by
  induction k generalizing i with
  | zero => omega
  | succ k ih =>
    have e : ringAns (k + 1) = ringAns k ++ [true, false] := by unfold ringAns; rw [List.range_succ, List.flatMap_append]; rfl
    have hl : (ringAns k).length = 2 * k := by
      clear ih e h
      induction k with
      | zero => rfl
      | succ k ih =>
        have e : ringAns (k + 1) = ringAns k ++ [true, false] := by unfold ringAns; rw [List.range_succ, List.flatMap_append]; rfl
        rw [e, List.length_append, ih]; simp; omega
    rw [e]
    by_cases q : i < 2 * k
    · rw [List.getElem?_append_left (by omega)]; exact ih i q
    · rw [List.getElem?_append_right (by omega), hl]
      have : i = 2 * k ∨ i = 2 * k + 1 := by omega
      rcases this with rfl | rfl
      · simp
      · rw [show 2 * k + 1 - 2 * k = 1 by omega]
        have : (2 * k + 1) % 2 = 1 := by omega
        rw [this]; rfl
theorem ring_asks {W : VS} {stk : List VS} (row : List Nat) (he : ∀ i j, i < row.length → j < row.length → W.eq (row.getD i 0) (row.getD j 0) = true) : ∀ k, k ≤ row.length - 1 →
    mrun (W, stk) ((List.range k).flatMap fun i => [⟨6, row.getD (i + 1) 0, row.getD 0 0⟩, ⟨0, row.getD (i + 1) 0, row.getD i 0⟩]) = ((W, stk), ringAns k)
  | 0, _ => rfl
  | k + 1, hk => by
    have ih := ring_asks (stk := stk) row he k (by omega)
    have e : ringAns (k + 1) = ringAns k ++ [true, false] := by unfold ringAns; rw [List.range_succ, List.flatMap_append]; rfl
    rw [List.range_succ, List.flatMap_append, mrun_app, ih, e]
    have e1 := he (k + 1) 0 (by omega) (by omega)
    have e2 := he (k + 1) k (by omega) (by omega)
    have q : mrun (W, stk) [⟨6, row.getD (k + 1) 0, row.getD 0 0⟩, ⟨0, row.getD (k + 1) 0, row.getD k 0⟩] = ((W, stk), [W.eq (row.getD (k + 1) 0) (row.getD 0 0), (W.setO (row.getD (k + 1) 0) (row.getD k 0) true).2]) := by
      have s1 : (W.setO (row.getD (k + 1) 0) (row.getD k 0) true).1 = W := by unfold VS.setO; rw [if_pos e2]
      show (((W.setO (row.getD (k + 1) 0) (row.getD k 0) true).1, stk), _) = _
      rw [s1]; rfl
    have s2 : (W.setO (row.getD (k + 1) 0) (row.getD k 0) true).2 = false := by unfold VS.setO; rw [if_pos e2]; rfl
    simp only [List.flatMap_cons, List.flatMap_nil, List.append_nil]
    rw [q, e1, s2]
theorem ring_law {v : Nat} {row : List Nat} (h : RowOK v row) (strict : Int) :
    ∃ t, outs (links row strict ++ (⟨1, row.getD (row.length - 1) 0, row.getD 0 0⟩ :: ringAsk row)) = List.replicate (row.length - 1) true ++ ((!less row strict) :: t) ∧ (less row strict = false → t = ringAns (row.length - 1)) := by
  obtain ⟨n, hn⟩ := row_num row h.nd
  have hi := links_inv h strict
  have hp := links_plain row strict
  have hN := links_num hn strict
  have hf := num_fits hi hp hN
  obtain ⟨a1, a2⟩ := fits_all _ _ rfl hi hp hf
  have h2 := h.two
  obtain ⟨c, hc⟩ : ∃ c : Stp, (⟨1, row.getD (row.length - 1) 0, row.getD 0 0⟩ : Stp) = c := ⟨_, rfl⟩
  have c0 : c.op = 1 := by rw [← hc]
  have cx : c.x = row.getD (row.length - 1) 0 := by rw [← hc]
  have cy : c.y = row.getD 0 0 := by rw [← hc]
  rw [hc]
  have lx : c.x < v := by rw [cx]; exact h.at (by omega)
  have ly : c.y < v := by rw [cy]; exact h.at (by omega)
  obtain ⟨p1, p2, p3⟩ := pair_set a2 (s := c) (by omega) lx ly
  have hi' : InV v (links row strict ++ [c]) := fun f hf _ => by
    simp only [List.mem_append, List.mem_singleton] at hf
    rcases hf with hf | rfl
    · exact hi f hf (by have := hp f hf; omega)
    · exact ⟨lx, ly⟩
  have hp' : Plain (links row strict ++ [c]) := fun f hf => by
    simp only [List.mem_append, List.mem_singleton] at hf
    rcases hf with hf | rfl
    · exact hp f hf
    · omega
  have fit : fitB v (links row strict ++ [c]) = !less row strict := by
    obtain ⟨f, w1, w2⟩ := row_walk (row := row) (strict := strict) (row.length - 1) 0 (by omega)
    rw [Nat.zero_add] at w1
    cases q : less row strict
    · have hz : ∀ f ∈ links row strict, f.op = 1 := fun f hf => by
        obtain ⟨i, hi, rfl⟩ := links_mem.1 hf
        rcases link_op row strict i with e | e
        · have w : FE (links row strict) (row.getD i 0) (row.getD (i + 1) 0) true := ⟨_, hf, .inl ⟨e, rfl, rfl, rfl⟩⟩
          exact absurd (row_weak q (.one w)) (by decide)
        · exact e
      exact num_fits (n := fun _ => 0) hi' hp' fun f hf => by
        simp only [List.mem_append, List.mem_singleton] at hf
        unfold numOk
        rcases hf with hf | rfl
        · rw [if_neg (by have := hz f hf; omega), if_pos (.inl (hz f hf))]; exact Int.le_refl _
        · rw [if_neg (by omega), if_pos (.inl c0)]; exact Int.le_refl _
    · have hq := of_decide_eq_true q
      have : f = true := w2 strict.toNat (by omega) (by omega) (by omega)
      subst this
      cases r : fitB v (links row strict ++ [c])
      · rfl
      · refine absurd ⟨c.x, ?_⟩ ((fitB_iff hi' hp').1 r)
        have w3 : PE (FE (links row strict ++ [c])) c.x c.y false := .one ⟨c, by simp, .inr (.inl ⟨c0, rfl, rfl, rfl⟩)⟩
        have w4 : PE (FE (links row strict ++ [c])) (row.getD 0 0) (row.getD (row.length - 1) 0) true := w1.mono fun _ _ _ e => FE_mono (fun f hf => by simp [hf]) e
        rw [← cx, ← cy] at w4
        exact (w3.trans w4 : PE _ _ _ (false || true))
  rw [fit] at p1
  have o : outs (links row strict ++ (c :: ringAsk row)) = List.replicate (row.length - 1) true ++ (((MSt (links row strict)).ans c.op c.x c.y).2 :: (mrun (((MSt (links row strict)).ans c.op c.x c.y).1, (mrun m00 (links row strict)).1.2) (ringAsk row)).2) := by
    show (mrun m00 (links row strict ++ (c :: ringAsk row))).2 = _
    rw [mrun_app]
    have e1 : (mrun m00 (links row strict)).2 = List.replicate (row.length - 1) true := by
      have : outs (links row strict) = _ := a1
      unfold outs at this
      rw [this, map_true, links_len]
    rw [e1]
    simp only
    congr 1
    have e2 : mstep (mrun m00 (links row strict)).1 c = ((((MSt (links row strict)).ans c.op c.x c.y).1, (mrun m00 (links row strict)).1.2), ((MSt (links row strict)).ans c.op c.x c.y).2) := by
      unfold mstep; rw [if_neg (by omega), if_neg (by omega)]; rfl
    show (mstep _ c).2 :: (mrun (mstep _ c).1 (ringAsk row)).2 = _
    rw [e2]
  rw [o, ← p1]
  refine ⟨_, rfl, fun q => ?_⟩
  have yes : ((MSt (links row strict)).ans c.op c.x c.y).2 = true := by rw [← p1, q]; rfl
  have P := p2 yes
  have close : Le (FE (links row strict ++ [c])) (row.getD (row.length - 1) 0) (row.getD 0 0) := by
    have w3 : PE (FE (links row strict ++ [c])) c.x c.y false := .one ⟨c, by simp, .inr (.inl ⟨c0, rfl, rfl, rfl⟩)⟩
    rw [cx, cy] at w3; exact ⟨_, w3⟩
  have up : ∀ i j, i ≤ j → j < row.length → Le (FE (links row strict ++ [c])) (row.getD i 0) (row.getD j 0) := by
    intro i j hij hj
    obtain ⟨f, w1, _⟩ := row_walk (row := row) (strict := strict) (j - i) i (by omega)
    rw [show i + (j - i) = j by omega] at w1
    exact ⟨f, w1.mono fun _ _ _ e => FE_mono (fun f hf => by simp [hf]) e⟩
  have all : ∀ i j, i < row.length → j < row.length → Le (FE (links row strict ++ [c])) (row.getD i 0) (row.getD j 0) := by
    intro i j hi hj
    exact (up i (row.length - 1) (by omega) (by omega)).trans (close.trans (up 0 j (by omega) hj))
  have he : ∀ i j, i < row.length → j < row.length → ((MSt (links row strict)).ans c.op c.x c.y).1.eq (row.getD i 0) (row.getD j 0) = true := by
    intro i j hi hj
    rw [VS.eq_iff, P.sim.le, P.sim.le]
    exact ⟨all i j hi hj, all j i hj hi⟩
  unfold ringAsk
  rw [ring_asks row he _ (Nat.le_refl _)]

/-! ## a star -/
def ray (row : List Nat) (g : Bool) (i : Nat) : Stp := if g = true then ⟨0, row.getD (i + 1) 0, row.getD 0 0⟩ else ⟨0, row.getD 0 0, row.getD (i + 1) 0⟩
def rays (row : List Nat) (g : Bool) : List Stp := (List.range (row.length - 1)).map (ray row g)
def starQ (row : List Nat) (g : Bool) (i : Nat) : List Stp := [⟨4, (ray row g i).x, (ray row g i).y⟩, ⟨7, (ray row g i).y, (ray row g i).x⟩] ++ if 0 < i then [⟨5, row.getD (i + 1) 0, row.getD i 0⟩, ⟨7, row.getD (i + 1) 0, row.getD i 0⟩] else []
def starAsk (row : List Nat) (g : Bool) (k : Nat) : List Stp := (List.range k).flatMap (starQ row g)
def starAns (k : Nat) : List Bool := (List.range k).flatMap fun i => [true, true] ++ if 0 < i then [false, false] else []
theorem starAns_succ (k : Nat) : starAns (k + 1) = starAns k ++ ([true, true] ++ if 0 < k then [false, false] else []) := by unfold starAns; rw [List.range_succ, List.flatMap_append]; simp
theorem starAns_len : ∀ k, 0 < k → (starAns k).length = 4 * k - 2
  | 1, _ => rfl
  | k + 2, _ => by rw [starAns_succ, List.length_append, starAns_len (k + 1) (by omega), if_pos (by omega)]; simp; omega
theorem starAns_get : ∀ k i, 0 < k → i < 4 * k - 2 → (starAns k)[i]? = some (decide (i < 2) || decide ((i - 2) % 4 < 2))
  | 1, i, _, h => by
    have : i = 0 ∨ i = 1 := by omega
    rcases this with rfl | rfl <;> rfl
  | k + 2, i, _, h => by
    have hl := starAns_len (k + 1) (by omega)
    rw [starAns_succ, if_pos (by omega)]
    by_cases q : i < 4 * (k + 1) - 2
    · rw [List.getElem?_append_left (by omega)]; exact starAns_get (k + 1) i (by omega) q
    · rw [List.getElem?_append_right (by omega), hl]
      have : i = 4 * k + 2 ∨ i = 4 * k + 3 ∨ i = 4 * k + 4 ∨ i = 4 * k + 5 := by omega
      rcases this with rfl | rfl | rfl | rfl
      · rw [show 4 * k + 2 - (4 * (k + 1) - 2) = 0 by omega, show (4 * k + 2 - 2) % 4 = 0 by omega]; simp
      · rw [show 4 * k + 3 - (4 * (k + 1) - 2) = 1 by omega, show (4 * k + 3 - 2) % 4 = 1 by omega]; simp
      · rw [show 4 * k + 4 - (4 * (k + 1) - 2) = 2 by omega, show (4 * k + 4 - 2) % 4 = 2 by omega]; simp
      · rw [show 4 * k + 5 - (4 * (k + 1) - 2) = 3 by omega, show (4 * k + 5 - 2) % 4 = 3 by omega]; simp
theorem ray_op (row : List Nat) (g : Bool) (i : Nat) : (ray row g i).op = 0 := by unfold ray; split <;> rfl
theorem rays_mem {row : List Nat} {g : Bool} {f : Stp} : f ∈ rays row g ↔ ∃ i, i + 1 < row.length ∧ f = ray row g i := by
  unfold rays
  simp only [List.mem_map, List.mem_range]
  constructor
  · rintro ⟨i, h, rfl⟩; exact ⟨i, by omega, rfl⟩
  · rintro ⟨i, h, rfl⟩; exact ⟨i, by omega, rfl⟩
theorem star_law {v : Nat} {row : List Nat} (h : RowOK v row) (g : Bool) : outs (rays row g ++ starAsk row g (row.length - 1)) = List.replicate (row.length - 1) true ++ starAns (row.length - 1) := by
  have h2 := h.two
  have ne0 : ∀ i, i + 1 < row.length → row.getD (i + 1) 0 ≠ row.getD 0 0 := fun i hi => h.ne hi (by omega) (by omega)
  have hi : InV v (rays row g) := fun f hf _ => by
    obtain ⟨i, hi, rfl⟩ := rays_mem.1 hf
    unfold ray
    split
    · exact ⟨h.at hi, h.at (by omega)⟩
    · exact ⟨h.at (by omega), h.at hi⟩
  have hp : Plain (rays row g) := fun f hf => by
    obtain ⟨i, hi, rfl⟩ := rays_mem.1 hf
    rw [ray_op]; omega
  have hN : ∀ f ∈ rays row g, numOk (fun a => if a = row.getD 0 0 then 0 else if g = true then -1 else 1) f := fun f hf => by
    obtain ⟨i, hi, rfl⟩ := rays_mem.1 hf
    unfold numOk
    rw [if_pos (.inl (ray_op row g i))]
    have n0 := ne0 i hi
    cases g
    · show (if row.getD 0 0 = row.getD 0 0 then (0 : Int) else _) < if row.getD (i + 1) 0 = row.getD 0 0 then 0 else _
      rw [if_neg n0, if_pos (rfl : row.getD 0 0 = row.getD 0 0)]; decide
    · show (if row.getD (i + 1) 0 = row.getD 0 0 then (0 : Int) else _) < if row.getD 0 0 = row.getD 0 0 then 0 else _
      rw [if_neg n0, if_pos (rfl : row.getD 0 0 = row.getD 0 0)]; decide
  have hf := num_fits hi hp hN
  obtain ⟨a1, a2⟩ := fits_all _ _ rfl hi hp hf
  have ed : ∀ i, i + 1 < row.length → (MSt (rays row g)).lt (ray row g i).x (ray row g i).y = true := fun i hi =>
    (a2.sim.lt _ _).2 (.one ⟨ray row g i, rays_mem.2 ⟨i, hi, rfl⟩, .inl ⟨ray_op row g i, rfl, rfl, rfl⟩⟩)
  have walk : ∀ a b s, PE (FE (rays row g)) a b s → a = b ∨ a = row.getD 0 0 ∨ b = row.getD 0 0 := by
    intro a b s k
    have edge : ∀ a b s, FE (rays row g) a b s → (g = true → b = row.getD 0 0 ∧ a ≠ row.getD 0 0) ∧ (g = false → a = row.getD 0 0 ∧ b ≠ row.getD 0 0) := by
      rintro a b s ⟨f, hf, e⟩
      obtain ⟨i, hi, rfl⟩ := rays_mem.1 hf
      have q := ray_op row g i
      rcases e with ⟨_, rfl, rfl, _⟩ | ⟨e, _⟩ | ⟨e, _⟩
      · unfold ray
        refine ⟨fun hg => ?_, fun hg => ?_⟩
        · rw [if_pos hg]; exact ⟨rfl, ne0 i hi⟩
        · rw [if_neg (by rw [hg]; decide)]; exact ⟨rfl, ne0 i hi⟩
      · omega
      · omega
    cases k with
    | nil => exact .inl rfl
    | cons e k =>
      have q := edge _ _ _ e
      cases hg : g
      · exact .inr (.inl (q.2 hg).1)
      · cases k with
        | nil => exact .inr (.inr (q.1 hg).1)
        | cons e2 k => exact absurd (q.1 hg).1 ((edge _ _ _ e2).1 hg).2
  have far : ∀ i, 0 < i → i + 1 < row.length → (MSt (rays row g)).le (row.getD (i + 1) 0) (row.getD i 0) = false ∧ qa (MSt (rays row g)) ⟨7, row.getD (i + 1) 0, row.getD i 0⟩ = false := by
    intro i hi0 hi
    have n1 := ne0 i hi
    have n2 : row.getD i 0 ≠ row.getD 0 0 := h.ne (by omega) (by omega) (by omega)
    have n3 : row.getD (i + 1) 0 ≠ row.getD i 0 := h.ne hi (by omega) (by omega)
    have e1 : (MSt (rays row g)).le (row.getD (i + 1) 0) (row.getD i 0) = false := by
      cases q : (MSt (rays row g)).le (row.getD (i + 1) 0) (row.getD i 0)
      · rfl
      · obtain ⟨s, k⟩ := (a2.sim.le _ _).1 q
        rcases walk _ _ _ k with k | k | k
        · exact absurd k n3
        · exact absurd k n1
        · exact absurd k n2
    have e2 : (MSt (rays row g)).le (row.getD i 0) (row.getD (i + 1) 0) = false := by
      cases q : (MSt (rays row g)).le (row.getD i 0) (row.getD (i + 1) 0)
      · rfl
      · obtain ⟨s, k⟩ := (a2.sim.le _ _).1 q
        rcases walk _ _ _ k with k | k | k
        · exact absurd k.symm n3
        · exact absurd k n2
        · exact absurd k n1
    refine ⟨e1, ?_⟩
    rw [qa7, a2.ne]
    have l1 : (MSt (rays row g)).lt (row.getD (i + 1) 0) (row.getD i 0) = false := by
      cases q : (MSt (rays row g)).lt (row.getD (i + 1) 0) (row.getD i 0)
      · rfl
      · rw [a2.ok.ll q] at e1; cases e1
    have l2 : (MSt (rays row g)).lt (row.getD i 0) (row.getD (i + 1) 0) = false := by
      cases q : (MSt (rays row g)).lt (row.getD i 0) (row.getD (i + 1) 0)
      · rfl
      · rw [a2.ok.ll q] at e2; cases e2
    rw [l1, l2]; rfl
  have asks : ∀ k, k ≤ row.length - 1 → (∀ s ∈ starAsk row g k, Ask s) ∧ (starAsk row g k).map (qa (MSt (rays row g))) = starAns k := by
    intro k
    induction k with
    | zero => intro _; exact ⟨fun s hs => by simp [starAsk] at hs, rfl⟩
    | succ k ih =>
      intro hk
      obtain ⟨i1, i2⟩ := ih (by omega)
      have e : starAsk row g (k + 1) = starAsk row g k ++ starQ row g k := by unfold starAsk; rw [List.range_succ, List.flatMap_append]; simp
      rw [e, starAns_succ, List.map_append, i2]
      have E := ed k (by omega)
      refine ⟨fun s hs => ?_, ?_⟩
      · rcases List.mem_append.1 hs with hs | hs
        · exact i1 s hs
        · unfold starQ at hs
          unfold Ask
          split at hs
          · simp only [List.mem_append, List.mem_cons, List.not_mem_nil, or_false] at hs
            rcases hs with (rfl | rfl) | rfl | rfl <;> simp
          · simp only [List.mem_append, List.mem_cons, List.not_mem_nil, or_false] at hs
            rcases hs with rfl | rfl <;> simp
      · congr 1
        unfold starQ
        rw [List.map_append]
        congr 1
        · simp only [List.map_cons, List.map_nil]
          rw [qa4, qa7, E, Bool.or_true]
        · by_cases q : 0 < k
          · rw [if_pos q, if_pos q]
            obtain ⟨f1, f2⟩ := far k q (by omega)
            simp only [List.map_cons, List.map_nil]
            rw [qa5, f1, f2]
          · rw [if_neg q, if_neg q]; rfl
  obtain ⟨b1, b2⟩ := asks (row.length - 1) (Nat.le_refl _)
  have e : (rays row g).length = row.length - 1 := by simp [rays]
  show (mrun m00 (rays row g ++ _)).2 = _
  rw [mrun_app, mrun_ask _ b1]
  show outs (rays row g) ++ _ = _
  rw [a1, map_true, e]
  congr 1
end Go.Proofs.Ytapnmgkpljlgmaa
namespace Go.Proofs.Ytapnmgkpljlgmaa

/-! ## SetNonEqual behind facts that fit -/
def sameB (v : Nat) (F : List Stp) (x y : Nat) : Bool := known v F x y == 1 && known v F y x == 1
def moreS (v : Nat) (F : List Stp) (x y : Nat) : List Stp :=
  if 0 < known v F x y ∧ sameB v F x y = false then F ++ [⟨0, x, y⟩] else if 0 < known v F y x ∧ sameB v F x y = false then F ++ [⟨0, y, x⟩] else F
theorem pair_add {v : Nat} {V : VS} {F : List Stp} (h : Pair1 v V F) {x y : Nat} (hx : x < v) (hy : y < v) (hn : ¬ V.le y x = true) : Pair1 v (V.add x y true) (F ++ [⟨0, x, y⟩]) where
  ok := h.ok.add hn
  sim := (h.sim.add (x := x) (y := y) (s := true) fun k => absurd ((h.sim.le _ _).2 k) hn).congr fun a b s => FE_ord F x y true a b s
  ne := h.ne
  inv := fun f hf => by
    simp only [List.mem_append, List.mem_singleton] at hf
    rcases hf with hf | rfl
    · exact h.inv f hf
    · exact fun _ => ⟨hx, hy⟩
  pl := fun f hf => by
    simp only [List.mem_append, List.mem_singleton] at hf
    rcases hf with hf | rfl
    · exact h.pl f hf
    · simp
theorem qa_order {V W : VS} (hle : W.le = V.le) (hlt : W.lt = V.lt) {s : Stp} (hs : 4 ≤ s.op ∧ s.op ≤ 6) : qa W s = qa V s := by
  have e0 : ¬ s.op = 0 := by omega
  have e1 : ¬ s.op = 1 := by omega
  have e2 : ¬ s.op = 2 := by omega
  have e3 : ¬ s.op = 3 := by omega
  unfold qa VS.ans VS.eq
  simp only [e0, e1, e2, e3, if_false, hle, hlt]
  split
  · rfl
  · split
    · rfl
    · have e6 : s.op = 6 := by omega
      simp only [e6, if_true]
theorem hold_qa {v : Nat} {V : VS} {F : List Stp} (h : Pair1 v V F) {s : Stp} (hs : 4 ≤ s.op ∧ s.op ≤ 7) (hxy : s.x ≠ s.y) : holdB v F s = qa V s := by
  unfold qa; rw [pair_ask h hs hxy]
theorem strictly_law {v : Nat} {V : VS} {F : List Stp} (h : Pair1 v V F) {x y : Nat} (hx : x < v) (hy : y < v) (hxy : x ≠ y) :
    qa V ⟨3, x, y⟩ = !sameB v F x y ∧ ∀ s : Stp, 4 ≤ s.op ∧ s.op ≤ 6 → s.x ≠ s.y → qa (V.ans 3 x y).1 s = holdB v (moreS v F x y) s := by
  obtain ⟨k1, _⟩ := sim_known h.inv h.ok.toVO h.sim hxy
  obtain ⟨k2, _⟩ := sim_known h.inv h.ok.toVO h.sim hxy.symm
  have k3 := sim_eq h.inv h.ok.toVO h.sim hxy
  have e3 : sameB v F x y = V.eq x y := by
    unfold sameB; rw [Bool.eq_iff_iff, Bool.and_eq_true, beq_iff_eq, beq_iff_eq]; exact k3
  unfold moreS
  rw [e3]
  have hans : V.ans 3 x y = V.setN x y := rfl
  have hne : ¬ V.ne x y = true := by rw [h.ne]; decide
  by_cases he : V.eq x y = true
  · rw [he, if_neg (by simp), if_neg (by simp)]
    have hs : V.setN x y = (V, false) := by unfold VS.setN; rw [if_neg hne, if_pos he]
    refine ⟨?_, fun s hs2 h2 => ?_⟩
    · show (V.ans 3 x y).2 = _; rw [hans, hs]; rfl
    · rw [hans, hs]; exact (hold_qa h (by omega) h2).symm
  · have he' : V.eq x y = false := Bool.eq_false_iff.2 he
    rw [he']
    by_cases hl : V.le x y = true
    · rw [if_pos ⟨k1.2 hl, rfl⟩]
      have hn : ¬ V.le y x = true := fun q => he (VS.eq_iff.2 ⟨hl, q⟩)
      have hs : V.setN x y = ((V.mark x y).add x y true, true) := by unfold VS.setN; rw [if_neg hne, if_neg he, if_pos hl]
      refine ⟨?_, fun s hs2 h2 => ?_⟩
      · show (V.ans 3 x y).2 = _; rw [hans, hs]; rfl
      · rw [hans, hs, hold_qa (pair_add h hx hy hn) (by omega) h2]
        exact qa_order (by rfl) (by rfl) hs2
    · rw [if_neg (fun q => hl (k1.1 q.1))]
      by_cases hr : V.le y x = true
      · rw [if_pos ⟨k2.2 hr, rfl⟩]
        have hs : V.setN x y = ((V.mark x y).add y x true, true) := by unfold VS.setN; rw [if_neg hne, if_neg he, if_neg hl, if_pos hr]
        refine ⟨?_, fun s hs2 h2 => ?_⟩
        · show (V.ans 3 x y).2 = _; rw [hans, hs]; rfl
        · rw [hans, hs, hold_qa (pair_add h hy hx hl) (by omega) h2]
          exact qa_order (by rfl) (by rfl) hs2
      · rw [if_neg (fun q => hr (k2.1 q.1))]
        have hs : V.setN x y = (V.mark x y, true) := by unfold VS.setN; rw [if_neg hne, if_neg he, if_neg hl, if_neg hr]
        refine ⟨?_, fun s hs2 h2 => ?_⟩
        · show (V.ans 3 x y).2 = _; rw [hans, hs]; rfl
        · rw [hans, hs, hold_qa h (by omega) h2]
          exact qa_order (by rfl) (by rfl) hs2

/-! ## what follows from facts that may contradict each other -/
def psv (M : Mat) : Mat := fun a b => if 0 < M a b then 1 else 0
theorem psv_pos (M : Mat) (a b : Nat) : 0 < psv M a b ↔ 0 < M a b := by unfold psv; split <;> omega
theorem psv_rs (M : Mat) (x y n : Nat) (hn : 0 < n) : psv (rs M x y n) = rs (psv M) x y 1 := by
  funext a b
  unfold psv rs
  by_cases h : a = x ∧ b = y
  · simp only [if_pos h, Nat.max_def]; split <;> split <;> (try split) <;> omega
  · simp only [if_neg h]
theorem psv_stp (M : Mat) (k i j : Nat) : psv (stp k i j M) = stp k i j (psv M) := by
  unfold stp
  by_cases h : 0 < M i k ∧ 0 < M k j
  · rw [if_pos h, if_pos (show 0 < psv M i k ∧ 0 < psv M k j from ⟨(psv_pos _ _ _).2 h.1, (psv_pos _ _ _).2 h.2⟩), psv_rs _ _ _ _ (by omega)]
    have e : max (psv M i k) (psv M k j) = 1 := by unfold psv; rw [if_pos h.1, if_pos h.2]; rfl
    rw [e]
  · rw [if_neg h, if_neg (fun q : 0 < psv M i k ∧ 0 < psv M k j => h ⟨(psv_pos _ _ _).1 q.1, (psv_pos _ _ _).1 q.2⟩)]
theorem psv_row (M : Mat) (k i : Nat) : ∀ n, psv (rowF k i n M) = rowF k i n (psv M)
  | 0 => rfl
  | n + 1 => by show psv (stp k i n (rowF k i n M)) = stp k i n (rowF k i n (psv M)); rw [psv_stp, psv_row]
theorem psv_rnd (M : Mat) (v k : Nat) : ∀ n, psv (rndF v k n M) = rndF v k n (psv M)
  | 0 => rfl
  | n + 1 => by show psv (rowF k n v (rndF v k n M)) = rowF k n v (rndF v k n (psv M)); rw [psv_row, psv_rnd]
theorem psv_all (M : Mat) (v : Nat) : ∀ n, psv (allF v n M) = allF v n (psv M)
  | 0 => rfl
  | n + 1 => by show psv (rndF v n v (allF v n M)) = rndF v n v (allF v n (psv M)); rw [psv_rnd, psv_all]
theorem known_trans {v : Nat} {F : List Stp} {a m b : Nat} (ha : a < v) (hm : m < v) (hb : b < v) (h1 : 0 < known v F a m) (h2 : 0 < known v F m b) : 0 < known v F a b := by
  have e : ∀ a b, 0 < known v F a b ↔ 0 < allF v v (psv (m0 F)) a b := fun a b => by rw [← psv_all, psv_pos]; rfl
  have le1 : ∀ a b, allF v v (psv (m0 F)) a b ≤ 1 := fun a b => by rw [← psv_all]; unfold psv; split <;> omega
  rw [e] at *
  have := allF_closed v (Nat.le_refl v) (fun i _ => le1 i i) m a b hm ha hb h1 h2
  omega
theorem known_le {v : Nat} {F : List Stp} (hF : InV v F) {a b : Nat} (h : Le (FE F) a b) (hab : a ≠ b) : 0 < known v F a b := by
  obtain ⟨f, k⟩ := h
  have n1 : ∀ s, 0 < num s := fun s => by cases s <;> simp [num]
  have first : ∀ {a c s}, FE F a c s → 0 < known v F a c := fun e => Nat.lt_of_lt_of_le (n1 _) (Nat.le_trans (m0_edge _ F rfl _ _ _ e) (allF_ge v v _ _ _))
  induction k with
  | nil => exact absurd rfl hab
  | cons e k ih =>
    rename_i a c b s t
    have h1 := first e
    by_cases q : c = b
    · exact q ▸ h1
    · have h2 := ih q
      cases k with
      | nil => exact absurd rfl q
      | cons e2 k2 =>
        have hb : b < v := by
          have : ∀ {x y f}, PE (FE F) x y f → x < v → y < v := by
            intro x y f k
            induction k with
            | nil => exact id
            | cons e _ ih => exact fun _ => ih (FE_lt hF e).2
          exact this k2 (FE_lt hF e2).2
        exact known_trans (FE_lt hF e).1 (FE_lt hF e).2 hb h1 h2

/-! ## SetNonEqual ahead of other facts -/
/-- Of the values below v only x itself can be equal to x. -/
def AloneP (v : Nat) (F : List Stp) (x : Nat) : Prop := ∀ z, z < v → z ≠ x → ¬ (0 < known v F x z ∧ 0 < known v F z x)
structure Far (v : Nat) (A : List Stp) (x y : Nat) (V : VS) : Prop where
  ok : VOK V
  le : ∀ a b, V.le a b = true → Le (FE A) a b
  ne : V.ne x y = true
section
variable {v : Nat} {A : List Stp} {x y : Nat}
theorem alone_eq {V : VS} (hA : InV v A) (hl : ∀ a b, V.le a b = true → Le (FE A) a b) (h : AloneP v A x) {r : Nat} (hr : r < v) (e : V.eq x r = true) : r = x := by
  refine Classical.byContradiction fun hn => h r hr hn ?_
  obtain ⟨e1, e2⟩ := VS.eq_iff.1 e
  exact ⟨known_le hA (hl _ _ e1) fun q => hn q.symm, known_le hA (hl _ _ e2) hn⟩
theorem add_in {V : VS} (hl : ∀ a b, V.le a b = true → Le (FE A) a b) {p q : Nat} {s : Bool} (e : Le (FE A) p q) : ∀ a b, (V.add p q s).le a b = true → Le (FE A) a b := by
  intro a b k
  rw [VS.add_le] at k
  rcases k with k | ⟨k1, k2⟩
  · exact hl _ _ k
  · exact (hl _ _ k1).trans (e.trans (hl _ _ k2))
theorem fold_ne {V : VS} (hA : InV v A) (hl : ∀ a b, V.le a b = true → Le (FE A) a b) (h1 : AloneP v A x) (h2 : AloneP v A y) (hn : V.ne x y = true) {r : Nat} (hr : r < v) : (V.fold r).ne x y = true := by
  show V.ne (V.rep r x) (V.rep r y) = true
  have e : ∀ {x}, AloneP v A x → V.rep r x = x := fun {x} h => by
    unfold VS.rep
    split
    · rename_i q; exact alone_eq hA hl h hr q
    · rfl
  rw [e h1, e h2]; exact hn
theorem far_O {V : VS} (hA : InV v A) (h1 : AloneP v A x) (h2 : AloneP v A y) (h : Far v A x y V) {p q : Nat} (hp : p < v) (hq : q < v) (st : Bool) (hpq : Le (FE A) p q) : Far v A x y (V.setO p q st).1 := by
  refine ⟨setO_ok h.ok _ _ _, ?_, ?_⟩
  · unfold VS.setO
    repeat' split
    all_goals first | exact h.le | exact add_in h.le hpq | exact fun a b k => add_in (s := false) h.le hpq a b k
  · unfold VS.setO
    repeat' split
    all_goals first | exact h.ne | exact fold_ne (V := V.add p q false) hA (add_in h.le hpq) h1 h2 h.ne hq
theorem far_E {V : VS} (hA : InV v A) (h1 : AloneP v A x) (h2 : AloneP v A y) (h : Far v A x y V) {p q : Nat} (hp : p < v) (hq : q < v) (hpq : Le (FE A) p q) (hqp : Le (FE A) q p) : Far v A x y (V.setE p q).1 := by
  refine ⟨setE_ok h.ok _ _, ?_, ?_⟩
  · unfold VS.setE
    repeat' split
    all_goals first | exact h.le | exact fun a b k => add_in (s := false) h.le hpq a b k | exact fun a b k => add_in (s := false) h.le hqp a b k | exact fun a b k => add_in (s := false) (add_in (s := false) h.le hpq) hqp a b k
  · unfold VS.setE
    split
    · exact h.ne
    · split
      · exact h.ne
      · split
        · split
          · exact h.ne
          · exact fold_ne (V := V.add q p false) hA (add_in h.le hqp) h1 h2 h.ne hp
        · split
          · split
            · exact h.ne
            · exact fold_ne (V := V.add p q false) hA (add_in h.le hpq) h1 h2 h.ne hq
          · refine fold_ne (V := (V.add p q false).add q p false) hA (add_in (add_in h.le hpq) hqp) h1 h2 h.ne ?_
            split
            · exact hq
            · exact hp
end
def told (l : List Stp) : List Stp := l.filter fun s => decide (s.op ≤ 3)
theorem told_mem {l : List Stp} {s : Stp} : s ∈ told l ↔ s ∈ l ∧ s.op ≤ 3 := by simp [told]
theorem far_run {v : Nat} {x y : Nat} {A : List Stp} (hA : InV v A) (h1 : AloneP v A x) (h2 : AloneP v A y) : ∀ (l : List Stp) (m : MS), (∀ s ∈ l, WfS v s ∧ s.op ≠ 3 ∧ (s.op ≤ 3 → s ∈ A)) → Far v A x y m.1 → (∀ V ∈ m.2, Far v A x y V) → Far v A x y (mrun m l).1.1
  | [], _, _, h, _ => h
  | s :: l, (V, stk), hl, h, k => by
    obtain ⟨w, n3, hm⟩ := hl s (by simp)
    have key : Far v A x y (mstep (V, stk) s).1.1 ∧ ∀ W ∈ (mstep (V, stk) s).1.2, Far v A x y W := by
      unfold mstep
      by_cases q8 : s.op = 8
      · rw [if_pos q8]
        exact ⟨h, fun W hW => by
          rcases List.mem_cons.1 hW with rfl | hW
          · exact h
          · exact k W hW⟩
      · rw [if_neg q8]
        by_cases q9 : s.op = 9
        · rw [if_pos q9]
          cases stk with
          | nil => exact ⟨h, fun W hW => by simp at hW⟩
          | cons U stk => exact ⟨k U (by simp), fun W hW => k W (by simp at hW ⊢; exact .inr hW)⟩
        · rw [if_neg q9]
          refine ⟨?_, k⟩
          obtain ⟨w3, w4, _⟩ := w.2 (by have := w.1; omega)
          by_cases ha : Ask s
          · simp only; rw [ans_ask V ha]; exact h
          · have h012 : s.op = 0 ∨ s.op = 1 ∨ s.op = 2 := by unfold Ask at ha; have := w.1; omega
            have hs := hm (by omega)
            simp only
            unfold VS.ans
            rcases h012 with q | q | q
            · rw [if_pos q]; exact far_O hA h1 h2 h w3 w4 _ (PE.one ⟨s, hs, .inl ⟨q, rfl, rfl, rfl⟩⟩).le
            · rw [if_neg (by omega), if_pos q]; exact far_O hA h1 h2 h w3 w4 _ (PE.one ⟨s, hs, .inr (.inl ⟨q, rfl, rfl, rfl⟩)⟩).le
            · rw [if_neg (by omega), if_neg (by omega), if_pos q]
              exact far_E hA h1 h2 h w3 w4 (PE.one ⟨s, hs, .inr (.inr ⟨q, .inl ⟨rfl, rfl⟩, rfl⟩)⟩).le (PE.one ⟨s, hs, .inr (.inr ⟨q, .inr ⟨rfl, rfl⟩, rfl⟩)⟩).le
    exact far_run hA h1 h2 l _ (fun t ht => hl t (by simp [ht])) key.1 key.2
theorem far_end {v : Nat} {A : List Stp} {x y : Nat} {V : VS} (h : Far v A x y V) (stk : List VS) :
    ∃ q0 q1 q2 q3, (mrun (V, stk) [⟨1, x, y⟩, ⟨4, x, y⟩, ⟨7, x, y⟩, ⟨2, x, y⟩]).2 = [q0, q1, q2, q3] ∧ (q0 = true → q1 = true ∧ q2 = true ∧ q3 = false) := by
  refine ⟨_, _, _, _, rfl, fun e => ?_⟩
  have e : (V.setO x y false).2 = true := e
  show (V.setO x y false).1.lt x y = true ∧ ((V.setO x y false).1.ne x y || (V.setO x y false).1.lt x y || (V.setO x y false).1.lt y x) = true ∧ ((V.setO x y false).1.setE x y).2 = false
  have he : ¬ V.eq x y = true := fun q => h.ok.ne q h.ne
  have add : V.setO x y false = (V.add x y true, true) := by
    unfold VS.setO at e ⊢
    rw [h.ne] at e ⊢
    rw [if_neg he] at e ⊢
    by_cases hl : V.le x y = true
    · rw [if_pos hl]; rfl
    · rw [if_neg hl] at e ⊢
      by_cases hr : V.le y x = true
      · rw [if_pos hr] at e; cases e
      · rw [if_neg hr]; rfl
  have ok := setO_ok h.ok x y false
  rw [add] at ok ⊢
  have lt : (V.add x y true).lt x y = true := VS.add_lt.2 (.inr ⟨h.ok.rf x, h.ok.rf y, .inr (.inl rfl)⟩)
  have ne : (V.add x y true).ne x y = true := h.ne
  refine ⟨lt, by simp only; rw [ne]; rfl, ?_⟩
  simp only
  unfold VS.setE
  rw [if_neg (fun q => ok.ne q ne), if_pos ne]
/-- Where x and y are recorded as not equal first, and stay alone, one that is at most the other is less. -/
theorem strict_law {v x y : Nat} {l : List Stp} (hl : ∀ s ∈ l, WfS v s) (hn : NoN l) (hx : x < v) (hy : y < v) (hxy : x ≠ y) (h1 : AloneP v (told l) x) (h2 : AloneP v (told l) y) :
    ∃ q0 q1 q2 q3, outs (⟨3, x, y⟩ :: (l ++ [⟨1, x, y⟩, ⟨4, x, y⟩, ⟨7, x, y⟩, ⟨2, x, y⟩])) = outs (⟨3, x, y⟩ :: l) ++ [q0, q1, q2, q3] ∧ (q0 = true → q1 = true ∧ q2 = true ∧ q3 = false) := by
  have hA : InV v (told l) := fun f hf h => by
    have := hl f (told_mem.1 hf).1
    have := this.2 (by omega)
    exact ⟨this.1, this.2.1⟩
  have e0 : VS.nil.ans 3 x y = (VS.nil.mark x y, true) := by
    show VS.nil.setN x y = _
    unfold VS.setN
    rw [if_neg (by simp [VS.nil]), if_neg (by rw [VS.eq_iff]; simp [VS.nil, hxy]), if_neg (by simp [VS.nil, hxy]), if_neg (by simp [VS.nil, Ne.symm hxy])]
  have hm : (mstep m00 ⟨3, x, y⟩).1 = (VS.nil.mark x y, []) := by
    show ((VS.nil.ans 3 x y).1, []) = _; rw [e0]
  have f0 : Far v (told l) x y (VS.nil.mark x y) := by
    refine ⟨VOK.nil.mark (by rw [Ne, VS.eq_iff]; simp [VS.nil, hxy]), fun a b k => ?_, VS.mark_ne.2 (.inr (.inl ⟨VS.eq_iff.2 ⟨VOK.nil.rf x, VOK.nil.rf x⟩, VS.eq_iff.2 ⟨VOK.nil.rf y, VOK.nil.rf y⟩⟩))⟩
    have : a = b := by simpa [VS.mark, VS.nil] using k
    exact this ▸ Le.refl _
  have f1 := far_run hA h1 h2 l (VS.nil.mark x y, []) (fun s hs => ⟨hl s hs, hn s hs, fun q => told_mem.2 ⟨hs, q⟩⟩) f0 (fun V hV => by simp at hV)
  obtain ⟨q0, q1, q2, q3, e, k⟩ := far_end f1 (mrun (VS.nil.mark x y, []) l).1.2
  refine ⟨q0, q1, q2, q3, ?_, k⟩
  show (mstep m00 _).2 :: (mrun (mstep m00 _).1 (l ++ _)).2 = ((mstep m00 _).2 :: (mrun (mstep m00 _).1 l).2) ++ _
  rw [hm, mrun_app, List.cons_append]
  congr 1
  exact congrArg (fun z => (mrun (VS.nil.mark x y, []) l).2 ++ z) e
end Go.Proofs.Ytapnmgkpljlgmaa
