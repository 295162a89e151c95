/- The laws, in the words of lists of triples and of answers. impl.kind, impl.ops, impl.Run; laws.run. laws.run: what the parts of a script return, one behind the other. The reference's questions about all values. Words for the laws' walks: literal slices, parts. -/
import Derived.Test.YtapnmgkpljlgmaaG23
import Derived.Test.YtapnmgkpljlgmaaG22
import Derived.Deep.RegionHeldLaw
import Derived.Deep.AppendLies
import Derived.Deep.DrawnRows
import Derived.Test.YtapnmgkpljlgmaaG16
set_option linter.unusedVariables false
set_option linter.unusedSimpArgs false
namespace Go.Proofs.Ytapnmgkpljlgmaa

theorem get_mid {α : Type} (a b : List α) (i : Nat) : (a ++ b)[a.length + i]? = b[i]? := by
  rw [List.getElem?_append_right (by omega)]; congr 1; omega
theorem stz_op {z : Z3} {n : Nat} (h : z.1 = n) : (stz z).op = n := by unfold stz; simp only; omega

/-! ## one fact between questions -/
def Ans1 (V : VS) (z : Z3) : VS := (V.ans (stz z).op (stz z).x (stz z).y).1
theorem Sz_set' (a : List Z3) {z : Z3} (h : (stz z).op ≤ 3) : Sz (a ++ [z]) = Ans1 (Sz a) z := Sz_set a h
theorem told_z {l : List Z3} {z a : Z3} (hz : (stz z).op ≤ 3) (ha : stz a = ⟨(stz z).op + 4, (stz z).x, (stz z).y⟩) :
    ∃ b1 b2, outz (l ++ [z, a]) = outz l ++ [b1, b2] ∧ (b1 = true → b2 = true) := by
  refine ⟨qz (Sz l) z, qz (Ans1 (Sz l) z) a, ?_, fun h => ?_⟩
  · have e : l ++ [z, a] = (l ++ [z]) ++ [a] := by simp
    have hA : ∀ s ∈ sts [a], Ask s := fun s hs => by
      have : s = stz a := by simpa [sts] using hs
      subst this; rw [ha]; unfold Ask; simp only; omega
    have : outz ((l ++ [z]) ++ [a]) = outz (l ++ [z]) ++ [qz (Sz (l ++ [z])) a] := by
      unfold outz; rw [sts_app _ [a], outs_asks _ _ hA]; rfl
    rw [e, this, outz_set l hz, Sz_set' l hz]; simp
  · have := told_law (V := Sz l) (Sz_ok l).toVO hz h
    unfold qz; rw [ha]; exact this
theorem qzq {v : Int} {l q p : List Z3} {z : Z3} (hz : (stz z).op ≤ 3) (hq : AskZ v q) (hp : AskZ v p) :
    outz (l ++ (q ++ ([z] ++ p))) = outz l ++ (q.map (qz (Sz l)) ++ ([qz (Sz l) z] ++ p.map (qz (Ans1 (Sz l) z)))) := by
  have e : l ++ (q ++ ([z] ++ p)) = ((l ++ q) ++ [z]) ++ p := by simp
  rw [e, outz_ask _ hp, outz_set _ hz, outz_ask _ hq, Sz_set' _ hz, Sz_ask _ hq]; simp
theorem refused_z {v : Int} {l q : List Z3} {z : Z3} (hz : (stz z).op ≤ 3) (hq : AskZ v q) :
    ∃ p b r, outz (l ++ (q ++ ([z] ++ q))) = outz l ++ (p ++ ([b] ++ r)) ∧ p.length = q.length ∧ r.length = q.length ∧ (b = false → p = r) := by
  refine ⟨_, _, _, qzq hz hq hq, by simp, by simp, fun h => ?_⟩
  have := refused_law (V := Sz l) hz h
  unfold Ans1; rw [this]
theorem grows_z {v : Int} {l q : List Z3} {z : Z3} (hz : (stz z).op ≤ 3) (hq : AskZ v q) (h6 : ∀ z ∈ q, z.1 ≤ 6) :
    ∃ p b r, outz (l ++ (q ++ ([z] ++ q))) = outz l ++ (p ++ ([b] ++ r)) ∧ p.length = q.length ∧ r.length = q.length ∧ ∀ i : Nat, p[i]? = some true → r[i]? = some true := by
  refine ⟨_, _, _, qzq hz hq hq, by simp, by simp, fun i h => ?_⟩
  rw [List.getElem?_map] at h ⊢
  cases e : q[i]? with
  | none => rw [e] at h; simp at h
  | some t =>
    rw [e] at h
    have hm := List.mem_of_getElem? e
    have h1 := (hq t hm).2.1
    have h2 := h6 t hm
    simp only [Option.map_some, Option.some.injEq] at h ⊢
    exact grows_law (stz z) (stz t) (by unfold stz; simp only; omega) h
theorem apart_z {v : Int} {l q : List Z3} {z : Z3} (hz : (stz z).op = 0 ∨ (stz z).op = 3) (hq : AskZ v q) (h7 : ∀ z ∈ q, z.1 = 7) :
    ∃ p b r, outz (l ++ (q ++ ([z] ++ q))) = outz l ++ (p ++ ([b] ++ r)) ∧ p.length = q.length ∧ r.length = q.length ∧ ∀ i : Nat, p[i]? = some true → r[i]? = some true := by
  refine ⟨_, _, _, qzq (by omega) hq hq, by simp, by simp, fun i h => ?_⟩
  rw [List.getElem?_map] at h ⊢
  cases e : q[i]? with
  | none => rw [e] at h; simp at h
  | some t =>
    rw [e] at h
    have hm := List.mem_of_getElem? e
    have h1 := h7 t hm
    have e7 : stz t = ⟨7, (stz t).x, (stz t).y⟩ := stp_eta (stz t) (stz_op (n := 7) h1)
    simp only [Option.map_some, Option.some.injEq] at h ⊢
    unfold qz at h ⊢
    rw [e7] at h ⊢
    exact apart_law (stz z) hz h
theorem twice_z {v : Int} {l q : List Z3} {z : Z3} (hz : (stz z).op ≤ 3) (hxy : (stz z).x ≠ (stz z).y) (hq : AskZ v q) :
    ∃ p b, outz (l ++ ([z] ++ (q ++ ([z] ++ q)))) = outz l ++ ([b] ++ (p ++ ([b] ++ p))) ∧ p.length = q.length := by
  have t := twice_law (Sz_ok l) hz hxy
  refine ⟨q.map (qz (Ans1 (Sz l) z)), qz (Sz l) z, ?_, by simp⟩
  have e : l ++ ([z] ++ (q ++ ([z] ++ q))) = (l ++ [z]) ++ (q ++ ([z] ++ q)) := by simp
  rw [e, qzq hz hq hq, outz_set _ hz, Sz_set' _ hz]
  have e1 : qz (Ans1 (Sz l) z) z = qz (Sz l) z := congrArg Prod.snd t
  have e2 : Ans1 (Ans1 (Sz l) z) z = Ans1 (Sz l) z := congrArg Prod.fst t
  rw [e1, e2]; simp

/-! ## Undo -/
theorem outz_app (a b : List Z3) : outz (a ++ b) = outz a ++ (mrun (mrun m00 (sts a)).1 (sts b)).2 := by
  unfold outz outs; rw [sts_app, mrun_app]
theorem back_z {a b back : List Z3} {c : Z3} (hc : (stz c).op = 8) (hb : Deep 0 (sts b)) (hl : back.length = dpt 0 (sts b) + 1) (h9 : ∀ z ∈ back, (stz z).op = 9) : (mrun m00 (sts (a ++ (c :: (b ++ back))))).1 = (mrun m00 (sts a)).1 := by
  rw [sts_app, mrun_app]
  have e : sts (c :: (b ++ back)) = stz c :: (sts b ++ sts back) := by show stz c :: sts (b ++ back) = _; rw [sts_app]
  simp only
  rw [e]
  exact undo_law _ hb (by rw [sts_len]; exact hl) (fun s hs => by
    obtain ⟨z, hz, rfl⟩ := List.mem_map.1 hs
    exact h9 z hz) _ hc
theorem undo_z {a b back c : List Z3} {m : Z3} (hm : (stz m).op = 8) (hb : Deep 0 (sts b)) (hl : back.length = dpt 0 (sts b) + 1) (h9 : ∀ z ∈ back, (stz z).op = 9) :
    ∃ r t, outz (a ++ ([m] ++ (b ++ (back ++ c)))) = outz a ++ (r ++ t) ∧ outz (a ++ c) = outz a ++ t ∧ t.length = c.length := by
  have e : a ++ ([m] ++ (b ++ (back ++ c))) = (a ++ (m :: (b ++ back))) ++ c := by simp
  refine ⟨(mrun (mrun m00 (sts a)).1 (sts (m :: (b ++ back)))).2, (mrun (mrun m00 (sts a)).1 (sts c)).2, ?_, outz_app a c, by rw [mrun_len, sts_len]⟩
  rw [e, outz_app, back_z hm hb hl h9, outz_app]; simp
theorem dpt_flat : ∀ (d : Nat) (l : List Stp), (∀ s ∈ l, s.op ≤ 7) → dpt d l = d
  | _, [], _ => rfl
  | d, s :: l, h => by
    unfold dpt
    have := h s (by simp)
    rw [if_neg (by omega), if_neg (by omega)]
    exact dpt_flat d l fun t ht => h t (by simp [ht])
theorem undone_z {v : Int} {a b q : List Z3} {m u : Z3} (hm : (stz m).op = 8) (hu : (stz u).op = 9) (hb : ∀ z ∈ b, (stz z).op ≤ 3) (hq : AskZ v q) :
    ∃ p r, outz (a ++ (q ++ ([m] ++ (b ++ ([u] ++ q))))) = outz a ++ (p ++ (r ++ p)) ∧ p.length = q.length := by
  have hb' : ∀ s ∈ sts b, s.op ≤ 7 := fun s hs => by
    obtain ⟨z, hz, rfl⟩ := List.mem_map.1 hs
    have := hb z hz; omega
  have e : a ++ (q ++ ([m] ++ (b ++ ([u] ++ q)))) = ((a ++ q) ++ (m :: (b ++ [u]))) ++ q := by simp
  have s0 : Sz ((a ++ q) ++ (m :: (b ++ [u]))) = Sz a := by
    have := back_z (a := a ++ q) (back := [u]) hm (Deep_flat 0 _ hb') (by rw [dpt_flat 0 _ hb']; rfl) (fun z hz => by rw [List.mem_singleton.1 hz]; exact hu)
    show (mrun m00 _).1.1 = _
    rw [this]
    exact Sz_ask a hq
  refine ⟨q.map (qz (Sz a)), (mrun (mrun m00 (sts (a ++ q))).1 (sts (m :: (b ++ [u])))).2, ?_, by simp⟩
  rw [e, outz_ask _ hq, s0, outz_app, outz_ask _ hq]; simp

/-! ## questions -/
theorem both_z {v : Int} {l : List Z3} {x y : Int} (hq : AskZ v [(6, x, y), (6, y, x), (7, x, y), (7, y, x)]) : ∃ a b, outz (l ++ [(6, x, y), (6, y, x), (7, x, y), (7, y, x)]) = outz l ++ [a, a, b, b] := by
  refine ⟨qz (Sz l) (6, x, y), qz (Sz l) (7, x, y), ?_⟩
  rw [outz_ask _ hq]
  obtain ⟨e1, e2⟩ := both_law (Sz_ok l) x.toNat y.toNat
  have e1 : qz (Sz l) (6, x, y) = qz (Sz l) (6, y, x) := e1
  have e2 : qz (Sz l) (7, x, y) = qz (Sz l) (7, y, x) := e2
  simp only [List.map_cons, List.map_nil]
  rw [← e1, ← e2]
theorem one_z {v : Int} {l : List Z3} {x y : Int} (hq : AskZ v [(4, x, y), (5, x, y), (6, x, y), (7, x, y), (5, y, x)]) :
    ∃ q0 q1 q2 q3 q4, outz (l ++ [(4, x, y), (5, x, y), (6, x, y), (7, x, y), (5, y, x)]) = outz l ++ [q0, q1, q2, q3, q4] ∧ (q0 = true → q1 = true ∧ q2 = false ∧ q3 = true ∧ q4 = false) ∧ (q2 = true → q1 = true ∧ q4 = true) := by
  refine ⟨(Sz l).lt x.toNat y.toNat, (Sz l).le x.toNat y.toNat, (Sz l).eq x.toNat y.toNat, qz (Sz l) (7, x, y), (Sz l).le y.toNat x.toNat, outz_ask _ hq, fun h => ?_, fun h => VS.eq_iff.1 h⟩
  obtain ⟨h1, h2, h3⟩ := one_lt (Sz_ok l) h
  refine ⟨h1, h2, ?_, h3⟩
  show ((Sz l).ne x.toNat y.toNat || (Sz l).lt x.toNat y.toNat || (Sz l).lt y.toNat x.toNat) = true
  rw [h, Bool.or_true, Bool.true_or]
theorem three_z {v : Int} {l : List Z3} {x y z : Int} (hq : AskZ v [(4, x, y), (5, x, y), (4, y, z), (5, y, z), (4, x, z), (5, x, z)]) :
    ∃ q0 q1 q2 q3 q4 q5, outz (l ++ [(4, x, y), (5, x, y), (4, y, z), (5, y, z), (4, x, z), (5, x, z)]) = outz l ++ [q0, q1, q2, q3, q4, q5] ∧ (q0 = true → q3 = true → q4 = true) ∧ (q1 = true → q2 = true → q4 = true) ∧ (q1 = true → q3 = true → q5 = true) := by
  have v := Sz_ok l
  exact ⟨(Sz l).lt x.toNat y.toNat, (Sz l).le x.toNat y.toNat, (Sz l).lt y.toNat z.toNat, (Sz l).le y.toNat z.toNat, (Sz l).lt x.toNat z.toNat, (Sz l).le x.toNat z.toNat, outz_ask _ hq, v.rl, v.lr, v.tr⟩
theorem merged_z {v : Int} {l : List Z3} {x y z : Int} (hq : AskZ v [(6, x, y), (4, x, z), (4, y, z), (4, z, x), (4, z, y), (5, x, z), (5, y, z), (6, x, z), (6, y, z), (7, x, z), (7, y, z)]) :
    ∃ q0 q1 q2 q3 q4 q5 q6 q7 q8 q9 q10, outz (l ++ [(6, x, y), (4, x, z), (4, y, z), (4, z, x), (4, z, y), (5, x, z), (5, y, z), (6, x, z), (6, y, z), (7, x, z), (7, y, z)]) = outz l ++ [q0, q1, q2, q3, q4, q5, q6, q7, q8, q9, q10] ∧ (q0 = true → q1 = q2 ∧ q3 = q4 ∧ q5 = q6 ∧ q7 = q8 ∧ q9 = q10) := by
  have v := Sz_ok l
  exact ⟨(Sz l).eq x.toNat y.toNat, (Sz l).lt x.toNat z.toNat, (Sz l).lt y.toNat z.toNat, (Sz l).lt z.toNat x.toNat, (Sz l).lt z.toNat y.toNat, (Sz l).le x.toNat z.toNat, (Sz l).le y.toNat z.toNat, (Sz l).eq x.toNat z.toNat, (Sz l).eq y.toNat z.toNat, qz (Sz l) (7, x, z), qz (Sz l) (7, y, z), outz_ask _ hq, fun h => merged_law v h z.toNat⟩

/-! ## scripts cut, without questions, mirrored, turned -/
theorem outz_take (l : List Z3) (n : Nat) : outz (l.take n) = (outz l).take n := by
  have := outz_app (l.take n) (l.drop n)
  rw [List.take_append_drop] at this
  rw [this]
  by_cases h : n ≤ l.length
  · rw [List.take_left' (by rw [outz_len, List.length_take]; omega)]
  · rw [List.take_of_length_le (show l.length ≤ n by omega), List.drop_of_length_le (show l.length ≤ n by omega)]
    show outz l = (outz l ++ []).take n
    rw [List.append_nil, List.take_of_length_le (by rw [outz_len]; omega)]
def isAsk (z : Z3) : Bool := decide (4 ≤ z.1) && decide (z.1 ≤ 7)
def wout (l : List Z3) : List Z3 := l.filter fun z => !isAsk z
def wat : List Z3 → Nat → List Nat
  | [], _ => []
  | z :: l, k => if isAsk z = true then wat l (k + 1) else k :: wat l (k + 1)
theorem isAsk_iff {z : Z3} : isAsk z = true ↔ 4 ≤ z.1 ∧ z.1 ≤ 7 := by simp [isAsk]
theorem isAsk_op {z : Z3} (h : isAsk z = true) : Ask (stz z) := by
  have := isAsk_iff.1 h
  unfold Ask stz; simp only; omega
theorem wat_snoc : ∀ (l : List Z3) (z : Z3) (k : Nat), wat (l ++ [z]) k = wat l k ++ if isAsk z = true then [] else [k + l.length]
  | [], z, k => by
    show wat [z] k = _
    unfold wat
    split <;> rfl
  | a :: l, z, k => by
    show wat (a :: (l ++ [z])) k = _
    rw [wat, wat, wat_snoc l z (k + 1)]
    have e : k + 1 + l.length = k + (a :: l).length := by simp; omega
    rw [e]
    split <;> rfl
theorem wout_snoc (l : List Z3) (z : Z3) : wout (l ++ [z]) = wout l ++ if isAsk z = true then [] else [z] := by
  unfold wout
  rw [List.filter_append]
  congr 1
  cases h : isAsk z <;> simp [h]
theorem wat_get {l : List Z3} : ∀ n, l.length = n → (mrun m00 (sts (wout l))).1 = (mrun m00 (sts l)).1 ∧ (wat l 0).length = (wout l).length ∧ ∀ i k : Nat, (wat l 0)[i]? = some k → k < l.length ∧ (outz (wout l))[i]? = (outz l)[k]? := by
  intro n
  induction n generalizing l with
  | zero =>
    intro h
    have : l = [] := List.eq_nil_of_length_eq_zero h
    subst this
    exact ⟨rfl, rfl, fun i k h => by simp [wat] at h⟩
  | succ n ih =>
    intro h
    rcases List.eq_nil_or_concat l with rfl | ⟨l', z, rfl⟩
    · simp at h
    · rw [List.concat_eq_append] at *
      have hl : l'.length = n := by simpa using h
      obtain ⟨i1, i2, i3⟩ := ih hl
      rw [wat_snoc, wout_snoc]
      cases hz : isAsk z
      · rw [if_neg (by decide), if_neg (by decide), Nat.zero_add]
        have st : ∀ a : List Z3, mrun m00 (sts (a ++ [z])) = ((mstep (mrun m00 (sts a)).1 (stz z)).1, (mrun m00 (sts a)).2 ++ [(mstep (mrun m00 (sts a)).1 (stz z)).2]) := fun a => by
          rw [sts_app]; exact mrun_snoc _ _ _
        have oz : ∀ a : List Z3, outz (a ++ [z]) = outz a ++ [(mstep (mrun m00 (sts a)).1 (stz z)).2] := fun a => by
          show (mrun m00 (sts (a ++ [z]))).2 = _; rw [st]; rfl
        refine ⟨by rw [st, st, i1], by simp [i2], fun i k hk => ?_⟩
        rw [oz, oz, i1]
        by_cases q : i < (wat l' 0).length
        · rw [List.getElem?_append_left q] at hk
          obtain ⟨j1, j2⟩ := i3 i k hk
          refine ⟨by simp; omega, ?_⟩
          rw [List.getElem?_append_left (by rw [outz_len]; omega), List.getElem?_append_left (by rw [outz_len]; omega)]
          exact j2
        · rw [List.getElem?_append_right (by omega)] at hk
          have q2 : i - (wat l' 0).length = 0 := by
            cases e : i - (wat l' 0).length with
            | zero => rfl
            | succ j => rw [e] at hk; simp at hk
          rw [q2] at hk
          simp only [List.getElem?_cons_zero, Option.some.injEq] at hk
          subst hk
          refine ⟨by simp, ?_⟩
          rw [List.getElem?_append_right (by rw [outz_len]; omega), List.getElem?_append_right (by rw [outz_len]; omega), outz_len, outz_len, Nat.sub_self, show i - (wout l').length = 0 by omega]
      · rw [if_pos rfl, if_pos rfl, List.append_nil, List.append_nil]
        have ha := isAsk_op hz
        have hA : ∀ s ∈ sts [z], Ask s := fun s hs => by
          have : s = stz z := by simpa [sts] using hs
          exact this ▸ ha
        refine ⟨?_, i2, fun i k hk => ?_⟩
        · rw [i1, sts_app, mrun_app, mrun_ask _ hA]
        · obtain ⟨j1, j2⟩ := i3 i k hk
          refine ⟨by simp; omega, ?_⟩
          rw [j2]
          have : outz (l' ++ [z]) = outz l' ++ [qz (Sz l') z] := by
            unfold outz; rw [sts_app, outs_asks _ _ hA]; rfl
          rw [this, List.getElem?_append_left (by rw [outz_len]; exact j1)]
def mirZ (z : Z3) : Z3 := (z.1, z.2.2, z.2.1)
theorem mir_z {l : List Z3} (h : ∀ z ∈ l, z.1 ≠ 3) (h0 : ∀ z ∈ l, 0 ≤ z.1) : outz (l.map mirZ) = outz l := by
  unfold outz
  have e : sts (l.map mirZ) = (sts l).map Stp.mir := by unfold sts; rw [List.map_map, List.map_map]; rfl
  rw [e]
  refine outs_mir fun s hs => ?_
  obtain ⟨z, hz, rfl⟩ := List.mem_map.1 hs
  have := h z hz; have := h0 z hz
  unfold stz; simp only; omega
def rotZ (v t : Int) (z : Z3) : Z3 := if z.1 = 8 ∨ z.1 = 9 then z else (z.1, (z.2.1 + t) % v, (z.2.2 + t) % v)
theorem rot_int {v t a : Int} (ha : 0 ≤ a) (hv : a < v) (ht : 0 ≤ t) (htv : t < v) : ((a + t) % v).toNat = rot v.toNat t.toNat a.toNat := by
  unfold rot
  by_cases h : a + t < v
  · rw [Int.emod_eq_of_lt (by omega) h, if_pos (by omega)]; omega
  · have : (a + t) % v = a + t - v := by
      rw [← Int.sub_emod_right, Int.emod_eq_of_lt (by omega) (by omega)]
    rw [this, if_neg (by omega)]; omega
theorem rot_z {v t : Int} {l : List Z3} (h : GoodZ v l) (ht : 0 ≤ t) (htv : t < v) : outz (l.map (rotZ v t)) = outz l := by
  unfold outz
  have e : sts (l.map (rotZ v t)) = (sts l).map (Stp.rot v.toNat t.toNat) := by
    unfold sts
    rw [List.map_map, List.map_map]
    refine List.map_congr_left fun z hz => ?_
    have w := h.wf z hz
    show stz (rotZ v t z) = Stp.rot v.toNat t.toNat (stz z)
    unfold rotZ Stp.rot
    by_cases q : z.1 = 8 ∨ z.1 = 9
    · rw [if_pos q, if_pos (by unfold stz; simp only; omega)]
    · rw [if_neg q, if_neg (by have := w.lo; unfold stz; simp only; omega)]
      have := w.ok (by omega) (by omega)
      unfold stz
      simp only
      rw [rot_int (by omega) (by omega) ht htv, rot_int (by omega) (by omega) ht htv]
  rw [e]
  exact outs_rot h.good.wf
end Go.Proofs.Ytapnmgkpljlgmaa
namespace Go.Proofs.Ytapnmgkpljlgmaa
open Go.RowKit
attribute [local go_sem ↓] Go.wp_at_zero Go.wp_at_succ

def kd (o : Int) : Int := if o = 8 ∨ o = 9 then o - 4 else if 4 ≤ o ∧ o ≤ 7 then o + 2 else o
set_option maxHeartbeats 1000000 in
theorem kind_c (o : Int) (w : World) (h0 : 0 ≤ o) (h9 : o ≤ 9) : Calls Try.prog 102 #[.int .i64 o] w fun e w' => e = .returned (.int .i64 (kd o)) ∧ w = w' := by
  have hc : o = 0 ∨ o = 1 ∨ o = 2 ∨ o = 3 ∨ o = 4 ∨ o = 5 ∨ o = 6 ∨ o = 7 ∨ o = 8 ∨ o = 9 := by omega
  clear h0 h9
  rcases hc with rfl | rfl | rfl | rfl | rfl | rfl | rfl | rfl | rfl | rfl
  all_goals
    go_enter Try.func102, Try.ntmps102
    go_wp2
    go_ret
    exact ⟨rfl, rfl⟩
theorem info_op : (Try.prog.info? 101).map (fun i => (i.zero, i.size, i.bytes)) = some (some (.agg #[.int .i64 0, .int .i64 0, .int .i64 0]), 3, 24) := by kernel_rfl
theorem cell_grown {wa wb w1 : World} {B j : Nat} {x : Value} {row : Option Nat} (f : Fr wa wb Nix) (g : wb.grownBy w1 row) (hr : row ≠ some B) (h : wa.cell? ⟨B, j, none⟩ = some x) : w1.cell? ⟨B, j, none⟩ = some x :=
  (((f.mono fun _ e => e.elim).trans (Fr.grown (F := fun k => row = some k) g fun k hk => hk) fun _ h => .inl h).cell (a := ⟨B, j, none⟩) (block_lt_of_cell h) hr).trans h
theorem cell_nix {wa wb : World} {B j : Nat} {x : Value} (f : Fr wa wb Nix) (h : wa.cell? ⟨B, j, none⟩ = some x) : wb.cell? ⟨B, j, none⟩ = some x :=
  (f.cell (a := ⟨B, j, none⟩) (block_lt_of_cell h) fun e => e).trans h
theorem own_ne {w : World} {T : TypeId} {size : Nat} {v : Value} {n : Nat} {xs : List Value} (h : w.ownsRow 0 T size v n xs) : v.ownBlock ≠ some w.heap.size := by
  intro e
  rcases h.2 with ⟨e1, _⟩ | ⟨g', c, cur, e1, _, e2, _⟩
  · rw [e1] at e; cases e
  · rw [e1] at e
    simp only [Value.ownBlock, Option.some.injEq] at e
    have := heap_lt e2; omega
def opsLoop (w : World) (l : List Z3) (n m : Nat) (v u : Value) (wr : World) : Prop :=
  ∃ k : Nat, m + k = n ∧ u = .int .i64 (k : Nat) ∧ Fsh w wr 101 3 v k (z3s ((l.take k).map kz))
set_option maxRecDepth 10000 in
set_option maxHeartbeats 2000000 in
theorem ops_c {A : Option Addr} {n c : Nat} {l : List Z3} {w : World} (h : Rd w 3 A n (z3s l)) (ok : RunOK l) :
    Calls Try.prog 84 #[.slice A n c] w fun e w' => ∃ v, e = .returned v ∧ Fsh w w' 101 3 v n (z3s (l.map kz)) := by
  have hlen : l.length = n := by have := h.1; rw [z3s_len] at this; omega
  have H := Lib.hid (And.intro h (And.intro ok hlen))
  have hm : (n : Int) ≤ 4000 := by have := ok.len; omega
  obtain ⟨i0, hi, hz0, hz1, hz2⟩ := info_parts (P := Try.prog) info_op
  have HI := Lib.hid (And.intro hi (And.intro hz0 (And.intro hz1 hz2)))
  clear h ok hlen hi hz0 hz1 hz2
  go_enter Try.func84, Try.ntmps84
  go_wp2_with fail
  go_loopg [3, 9] n (fun m v u wr => opsLoop w l n m v u wr)
  case atStart => exact ⟨0, rfl, rfl, Fsh.empty w 101 3⟩
  case round =>
    obtain ⟨k, hmk, rfl, hF⟩ := hrel
    have HF := Lib.hid hF
    have HMK := Lib.hid hmk
    clear hF hmk
    by_cases hlt : k < n
    · obtain ⟨ad, po, px, py, rfl, hz, hc⟩ := rd3 (H.out.1.nix HF.out.fr) hlt
      have HW := Lib.hid (H.out.2.1.wf _ (List.mem_of_getElem? hz))
      have HZ := Lib.hid hz
      have HC := Lib.hid hc
      have HL := Lib.hid (lim24 (n := k) (by omega))
      clear hz hc
      go_upto_region 5 with (with_reducible refine wpList_ld (o := ⟨some 12, _, _, _, _, _⟩) rfl 47 (.tmp 11) rfl _ rfl #[.int .i64 po, .int .i64 px, .int .i64 py] _ HC.out Try.underlying47 rfl (by kernel_rfl) ?_)
      have hB := box_kept (w := wr) (cs := [.int .i64 po, .int .i64 px, .int .i64 py]) (T := 47) rfl (Fr.refl _ Nix) (fun e => e)
      have b0 := hB 0 _ rfl
      have b1 := hB 1 _ rfl
      have b2 := hB 2 _ rfl
      rw [add0] at b0 b1 b2
      have fA := Fr.al wr (.cells #[.int .i64 po, .int .i64 px, .int .i64 py] 47)
      have HA := Lib.hid (And.intro (HF.out.nix fA) fA)
      clear hB fA
      obtain ⟨wa, hwa⟩ : ∃ wa, wr.alloc (.cells #[.int .i64 po, .int .i64 px, .int .i64 py] 47) = wa := ⟨_, rfl⟩
      rw [hwa] at HA ⊢
      have b0 : wa.cell? ⟨wr.heap.size, 0, none⟩ = some (.int .i64 po) := hwa ▸ b0
      have b1 : wa.cell? ⟨wr.heap.size, 1, none⟩ = some (.int .i64 px) := hwa ▸ b1
      have b2 : wa.cell? ⟨wr.heap.size, 2, none⟩ = some (.int .i64 py) := hwa ▸ b2
      have HB := Lib.hid (And.intro b0 (And.intro b1 b2))
      have hownA := HA.out.1.own
      have HNE := Lib.hid (own_ne HF.out.own)
      have HS := Lib.hid (show 0 ≤ po ∧ po ≤ 9 from ⟨HW.out.lo, HW.out.hi⟩)
      clear hwa b0 b1 b2
      go_region_held_law (fun w' => w'.cell? ⟨wr.heap.size, 0, none⟩ = some (.int .i64 po) ∧ w'.cell? ⟨wr.heap.size, 1, none⟩ = some (.int .i64 px) ∧ w'.cell? ⟨wr.heap.size, 2, none⟩ = some (.int .i64 py)) (first | exact HB.out | exact ⟨cell_nix ((Fr.al wa _).t (Fr.drew _ _)) HB.out.1, cell_nix ((Fr.al wa _).t (Fr.drew _ _)) HB.out.2.1, cell_nix ((Fr.al wa _).t (Fr.drew _ _)) HB.out.2.2⟩ | exact ⟨cell_grown ((Fr.al wa _).t (Fr.drew _ _)) hgrow1 HNE.out HB.out.1, cell_grown ((Fr.al wa _).t (Fr.drew _ _)) hgrow1 HNE.out HB.out.2.1, cell_grown ((Fr.al wa _).t (Fr.drew _ _)) hgrow1 HNE.out HB.out.2.2⟩ | go_keep)
        ((first
          | (go_at_call 102; refine (kind_c po _ HS.out.1 HS.out.2).mono ?_; rintro e w9 ⟨rfl, rfl⟩)
          | (refine step_append_lies _ rfl (.tmp 13) (.tmp 24) 87 rfl 0 101 i0 _ 3 24 Try.underlying87 HI.out.1 HI.out.2.1 HI.out.2.2.1 HI.out.2.2.2 rfl (by decide) _ _ _ (by rfl) (hownA.drew.alloc _) ⟨wa.heap.size, 0, none⟩ 1 1 (z3c (kz (po, px, py))) (by rfl) rfl (cells_at _ _ (by rfl) _ _) (z3_one _) (by decide) (by unfold maxLen; have := HL.out; omega) HL.out.1 (Nat.zero_le _) _ rfl ?_; intro g cap w1 hown1 hgrow1 hat1 hlt1)))
      have hF1 := Lib.hid (HA.out.1.app ((Fr.drew _ _).t (Fr.al _ _)) hown1 hgrow1 (hat1.imp id fun e => (by rw [e]; exact Nat.le_refl _)))
      clear hown1 hgrow1 hat1 hlt1 hownA
      go_wp2
      go_roundg (n - (k + 1))
      case measure => have := HMK.out; omega
      case rel =>
        refine ⟨k + 1, by have := HMK.out; omega, by rw [Int.natCast_add]; rfl, ?_⟩
        have e : z3s ((l.take (k + 1)).map kz) = z3s ((l.take k).map kz) ++ z3c (kz (po, px, py)) := by rw [take_snoc HZ.out]; simp [z3s]
        rw [e]; exact hF1.out
    · have hk : k = n := by have := HMK.out; omega
      subst hk
      go_wp2
      go_ret
      refine ⟨_, rfl, ?_⟩
      have := HF.out
      rwa [List.take_of_length_le (by rw [H.out.2.2]; exact Nat.le_refl _)] at this
set_option maxHeartbeats 1000000 in
theorem iRun_c {A : Option Addr} {n c : Nat} {l : List Z3} {w : World} (v : Int) (h : Rd w 3 A n (z3s l)) (ok : RunOK l) :
    Calls Try.prog 58 #[.int .i64 v, .slice A n c] w fun e w' => ∃ v, e = .returned v ∧ Fr w w' Nix ∧ (∀ g, v.ownBlock = some g → w.heap.size ≤ g) ∧ w'.ownsRow 0 4 1 v n (bls (outz l)) := by
  have H := Lib.hid (And.intro h ok)
  clear h ok
  go_enter Try.func58, Try.ntmps58
  go_wp2_with fail
  refine (ops_c H.out.1 H.out.2).mono ?_
  rintro e w1 ⟨v1, rfl, hF⟩
  obtain ⟨g1, c1, rfl⟩ := hF.shp
  have HF := Lib.hid hF
  clear hF
  go_wp2_with fail
  refine (pRun_c HF.out.rd H.out.2).mono ?_
  rintro e w2 ⟨v2, rfl, hF2, hg, hown⟩
  have H2 := Lib.hid (And.intro hF2 (And.intro hg hown))
  clear hF2 hg hown
  go_wp2
  go_ret
  exact ⟨_, rfl, HF.out.fr.t H2.out.1, fun g k => Nat.le_trans HF.out.fr.size (H2.out.2.1 g k), H2.out.2.2⟩
end Go.Proofs.Ytapnmgkpljlgmaa
namespace Go.Proofs.Ytapnmgkpljlgmaa
open Go.RowKit

/-- The value is a slice of the steps l. -/
def Prt (w : World) (v : Value) (l : List Z3) : Prop := ∃ ad c, v = .slice (some ad) l.length c ∧ Rd w 3 (some ad) l.length (z3s l)
theorem Prt.nix {w w' : World} {v : Value} {l : List Z3} (h : Prt w v l) (f : Fr w w' Nix) : Prt w' v l := by
  obtain ⟨ad, c, h1, h2⟩ := h; exact ⟨ad, c, h1, h2.nix f⟩
/-- The slice at A holds the parts ls. -/
structure Parts (w : World) (A : Option Addr) (n : Nat) (ls : List (List Z3)) : Prop where
  len : ls.length = n
  at' : ∀ k l, ls[k]? = some l → ∃ ad v, A = some ad ∧ w.cell? (ad.add k) = some v ∧ Prt w v l
theorem Parts.nix {w w' : World} {A : Option Addr} {n : Nat} {ls : List (List Z3)} (h : Parts w A n ls) (f : Fr w w' Nix) : Parts w' A n ls :=
  ⟨h.len, fun k l hk => by
    obtain ⟨ad, v, h1, h2, h3⟩ := h.at' k l hk
    exact ⟨ad, v, h1, (f.cell (block_lt_of_cell h2) fun e => e).trans h2, h3.nix f⟩⟩
theorem flat_snoc {α : Type} {ls : List (List α)} {k : Nat} {l : List α} (h : ls[k]? = some l) : (ls.take (k + 1)).flatten = (ls.take k).flatten ++ l := by
  rw [take_snoc h, List.flatten_append]; simp
theorem flat_part {α : Type} {ls : List (List α)} {k : Nat} {l : List α} (h : ls[k]? = some l) : (ls.take k).flatten.length + l.length ≤ ls.flatten.length := by
  have e : ls = ls.take (k + 1) ++ ls.drop (k + 1) := (List.take_append_drop _ _).symm
  have := congrArg (fun a => a.flatten.length) e
  simp only [List.flatten_append, List.length_append] at this
  rw [flat_snoc h, List.length_append] at this
  omega
theorem rd_own {w : World} {T : TypeId} {size n : Nat} {v : Value} {xs : List Value} (h : w.ownsRow 0 T size v n xs) : ∃ A c, v = .slice A n c ∧ n ≤ c ∧ c ≤ maxLen ∧ Rd w size A n xs ∧ (0 < n → ∃ g, A = some ⟨g, 0, none⟩) := by
  rcases h.2 with ⟨e, hx⟩ | ⟨g, cap, cur, e, _, hg, h1, h2, _⟩
  · subst hx
    exact ⟨none, 0, e, Nat.le_refl _, Nat.zero_le _, ⟨h.1, fun hn => absurd hn (by omega)⟩, fun hn => absurd hn (by omega)⟩
  · subst e
    refine ⟨_, _, rfl, h1, h2, ⟨h.1, fun hn => ⟨_, rfl, heap_lt hg, fun k j u hj hu => ?_⟩⟩, fun _ => ⟨_, rfl⟩⟩
    rw [add_add]
    exact h.cells (g := g) rfl _ _ hu
/-- What run answers. -/
def RunPost (w : World) (ls : List (List Z3)) (e : Ending) (w' : World) : Prop :=
  ∃ A c, e = .returned (.tuple #[.slice A ls.flatten.length c, .bool true]) ∧ Rd w' 1 A ls.flatten.length (bls (outz ls.flatten)) ∧ Fr w w' Nix ∧ ls.flatten.length ≤ c ∧ c ≤ maxLen ∧ (0 < ls.flatten.length → ∃ g, A = some ⟨g, 0, none⟩)
def runLoop (w : World) (ls : List (List Z3)) (n m : Nat) (v u : Value) (wr : World) : Prop :=
  ∃ k : Nat, m + k = n ∧ u = .int .i64 (k : Nat) ∧ Fsh w wr 40 3 v (ls.take k).flatten.length (z3s (ls.take k).flatten)
set_option maxRecDepth 10000 in
set_option maxHeartbeats 2000000 in
theorem run_c {A : Option Addr} {n c : Nat} {ls : List (List Z3)} {w : World} (v : Int) (h : Parts w A n ls) (hn : n ≤ 10) (ok : RunOK ls.flatten) :
    Calls Try.prog 43 #[.int .i64 v, .slice A n c] w (RunPost w ls) := by
  have H := Lib.hid (And.intro h (And.intro ok hn))
  have hm : (n : Int) ≤ 10 := by omega
  clear h ok hn
  go_enter Try.func43, Try.ntmps43
  go_wp2_with fail
  go_loopg [6, 13] n (fun m v u wr => runLoop w ls n m v u wr)
  case atStart => exact ⟨0, rfl, rfl, Fsh.empty w 40 3⟩
  case round =>
    obtain ⟨k, hmk, rfl, hF⟩ := hrel
    obtain ⟨g0, c0, rfl⟩ := hF.shp
    have HF := Lib.hid hF
    have HMK := Lib.hid hmk
    clear hF hmk
    by_cases hlt : k < n
    · obtain ⟨l, hl⟩ : ∃ l, ls[k]? = some l := ⟨_, List.getElem?_eq_getElem (by have := H.out.1.len; omega)⟩
      obtain ⟨ad, v1, rfl, hc, ⟨bd, d, rfl, hr⟩⟩ := (H.out.1.nix HF.out.fr).at' k l hl
      have HR := Lib.hid hr
      have HLs := Lib.hid hl
      have HN := Lib.hid (show ((ls.take k).flatten.length + l.length) * 24 ≤ 140737488355328 ∧ (ls.take k).flatten.length + l.length ≤ 1000000000000 by
        have := flat_part hl; have := H.out.2.1.len; omega)
      obtain ⟨N, hN⟩ : ∃ N, (ls.take k).flatten.length = N := ⟨_, rfl⟩
      have HNN := Lib.hid hN
      rw [hN] at HN HF ⊢
      clear hr hl hN
      have hown := HF.out.own
      go_wp2_with (first
        | (at_builtin; refine wpList_appn rfl (.tmp 17) (.tmp 18) 24 rfl 40 _ 3 24 Try.underlying24 info_step rfl (by decide) _ _ N (z3s (ls.take k).flatten) rfl hown _ _ _ (z3s l) rfl HR.out (z3s_one l) HN.out.1 HN.out.2 ?_)
        | fail)
      intro g cap w1 hown1 hgrow1 hnew1
      have hF1 := Lib.hid (HF.out.appn (Fr.refl _ _) hown1 hgrow1 hnew1)
      clear hown1 hgrow1 hnew1 hown hc
      go_wp2
      go_roundg (n - (k + 1))
      case measure => have := HMK.out; omega
      case rel =>
        refine ⟨k + 1, by have := HMK.out; omega, by rw [Int.natCast_add]; rfl, ?_⟩
        rw [flat_snoc HLs.out, List.length_append, HNN.out, z3s_app]
        exact hF1.out
    · have hk : k = n := by have := HMK.out; omega
      subst hk
      have e : ls.take k = ls := List.take_of_length_le (by rw [H.out.1.len]; exact Nat.le_refl _)
      rw [e] at HF ⊢
      have HNb := Lib.hid H.out.2.1.len
      obtain ⟨N, hN⟩ : ∃ N, ls.flatten.length = N := ⟨_, rfl⟩
      have HNN := Lib.hid hN
      rw [hN] at HF ⊢
      clear e hN
      have hNi : (N : Int) ≤ 4000 := by have := HNb.out; have := HNN.out; omega
      go_wp2_with fail
      refine (plain_c HF.out.rd (by omega)).mono ?_
      rintro e w1 ⟨v1, rfl, hF1⟩
      obtain ⟨g1, c1, rfl⟩ := hF1.shp
      have HF1 := Lib.hid hF1
      clear hF1
      go_wp2_with fail
      refine (iRun_c v HF1.out.rd H.out.2.1).mono ?_
      rintro e w2 ⟨v2, rfl, hF2, _, hown⟩
      obtain ⟨A2, c2, rfl, k1, k2, k3, k4⟩ := rd_own hown
      have H2 := Lib.hid (And.intro ((HF.out.fr.t HF1.out.fr).t hF2) (And.intro k1 (And.intro k2 (And.intro k3 k4))))
      clear hF2 hown k1 k2 k3 k4
      go_wp2
      go_ret2
      refine ⟨A2, c2, (by rw [HNN.out]; rfl), ?_, H2.out.1, ?_, H2.out.2.2.1, ?_⟩
      · rw [HNN.out]; exact H2.out.2.2.2.1
      · rw [HNN.out]; exact H2.out.2.1
      · rw [HNN.out]; exact H2.out.2.2.2.2
end Go.Proofs.Ytapnmgkpljlgmaa
namespace Go.Proofs.Ytapnmgkpljlgmaa
open Go.RowKit

theorem z3s_snoc (l : List Z3) (z : Z3) : z3s (l ++ [z]) = z3s l ++ z3c z := by rw [z3s_app]; simp [z3s]
def Fl (w wr : World) (v : Value) (l : List Z3) : Prop := Fsh w wr 40 3 v l.length (z3s l)
def qoLoop (w : World) (f V n m : Nat) (v u : Value) (wr : World) : Prop :=
  ∃ k : Nat, m + k = n ∧ u = .int .i64 ((f + k : Nat) : Int) ∧ Fl w wr v (qO f V k)
def qxLoop (w : World) (f V k m : Nat) (v u : Value) (wr : World) : Prop :=
  ∃ j : Nat, m + j = V ∧ u = .int .i64 (j : Nat) ∧ Fl w wr v (qO f V k ++ qX (f + k) V j)
def qyLoop (w : World) (f V k j m : Nat) (v u : Value) (wr : World) : Prop :=
  ∃ i : Nat, m + i = V ∧ u = .int .i64 (i : Nat) ∧ Fl w wr v (qO f V k ++ (qX (f + k) V j ++ qY (f + k) j i))
set_option maxRecDepth 10000 in
set_option maxHeartbeats 4000000 in
theorem quests_c {f t V : Nat} {w : World} (hV : V ≤ 12) (hf : 4 ≤ f) (ht : t ≤ 7) (hft : f ≤ t) :
    Calls Try.prog 50 #[.int .i64 (V : Nat), .int .i64 (f : Nat), .int .i64 (t : Nat)] w fun e w' => ∃ v, e = .returned v ∧ Fl w w' v (quests V f t) := by
  have hVi : (V : Int) ≤ 12 := by omega
  have hti : (t : Int) ≤ 7 := by omega
  obtain ⟨n, hn⟩ : ∃ n, t + 1 - f = n := ⟨_, rfl⟩
  have H := Lib.hid (And.intro hV (And.intro hf (And.intro ht (And.intro hn hft))))
  clear hV hf ht hn hft
  go_enter Try.func50, Try.ntmps50
  go_wp2_with fail
  go_loopg [7, 8] n (fun m v u wr => qoLoop w f V n m v u wr)
  case atStart => exact ⟨0, rfl, rfl, Fsh.empty w 40 3⟩
  case round =>
    obtain ⟨k, hmk, rfl, hF⟩ := hrel
    have HF := Lib.hid hF
    have HMK := Lib.hid hmk
    clear hF hmk
    by_cases hlt : k < n
    · have hle : decide (f + k ≤ t) = true := by have := H.out; rw [decide_eq_true_eq]; omega
      have hfi : ((f + k : Nat) : Int) ≤ 7 := by have := H.out; omega
      have HK := Lib.hid (show f + k ≤ 7 ∧ k + 1 ≤ 4 by have := H.out; omega)
      obtain ⟨o, ho⟩ : ∃ o, f + k = o := ⟨_, rfl⟩
      have HO := Lib.hid ho
      rw [ho] at hle hfi ⊢
      clear ho
      go_wp2_with fail
      clear hle
      go_loopg [7, 19] V (fun m v u wr => qxLoop w f V k m v u wr)
      case atStart => exact ⟨0, rfl, rfl, by show Fl _ _ _ (qO f V k ++ []); rw [List.append_nil]; exact HF.out⟩
      case round =>
        obtain ⟨j, hmj, rfl, hF2⟩ := hrel
        have HF2 := Lib.hid hF2
        have HMJ := Lib.hid hmj
        clear hF2 hmj
        by_cases hlt2 : j < V
        · have hji : (j : Int) < (V : Int) := by omega
          go_wp2_with fail
          go_loopg [7, 23] V (fun m v u wr => qyLoop w f V k j m v u wr)
          case atStart => exact ⟨0, rfl, rfl, by show Fl _ _ _ (qO f V k ++ (qX (f + k) V j ++ [])); rw [List.append_nil]; exact HF2.out⟩
          case round =>
            obtain ⟨i, hmi, rfl, hF3⟩ := hrel
            have HF3 := Lib.hid hF3
            have HMI := Lib.hid hmi
            clear hF3 hmi
            by_cases hlt3 : i < V
            · have hii : (i : Int) < (V : Int) := by omega
              by_cases hji2 : j = i
              · subst hji2
                have hb : ((j : Int) == (j : Int)) = true := beq_self_eq_true _
                go_wp2
                go_roundg (V - (j + 1))
                case measure => have := HMI.out; omega
                case rel =>
                  refine ⟨j + 1, by have := HMI.out; omega, by rw [Int.natCast_add]; rfl, ?_⟩
                  have e : qY (f + k) j (j + 1) = qY (f + k) j j := by rw [qY, if_pos rfl]
                  rw [e]; exact HF3.out
              · have hb : ((j : Int) == (i : Int)) = false := by rw [beq_eq_false_iff_ne]; omega
                obtain ⟨L, hL⟩ : ∃ L, qO f V k ++ (qX (f + k) V j ++ qY (f + k) j i) = L := ⟨_, rfl⟩
                have HLL := Lib.hid hL
                rw [hL] at HF3
                have HF4 := Lib.hid (show Fsh w _ 40 3 _ L.length (z3s L) from HF3.out)
                have hlen : L.length ≤ 100000 := by
                  rw [← hL, List.length_append, List.length_append]
                  have h1 := qO_len f V k
                  have h2 := qX_len (f + k) V j
                  have h3 := qY_len (f + k) j i
                  have h4 := Nat.mul_le_mul (show k ≤ 4 by have := HK.out; omega) (sq_le H.out.1)
                  have h5 := Nat.mul_le_mul (show j ≤ 12 by omega) H.out.1
                  omega
                have HN := Lib.hid (lim24 (n := L.length) (by omega))
                obtain ⟨N, hN⟩ : ∃ N, L.length = N := ⟨_, rfl⟩
                have HNN := Lib.hid hN
                rw [hN] at HF4 HN
                clear hL hlen hN
                have hown := HF4.out.own
                have HJI := Lib.hid hji2
                clear hji2
                go_wp2_with (at_builtin; refine wpList_app _ rfl (.tmp 29) (.tmp 34) 24 rfl 40 _ 3 24 Try.underlying24 info_step rfl (by decide) _ _ _ rfl (hown.alloc _) ⟨_, 0, none⟩ 1 1 (z3c (o, j, i)) rfl rfl (by decide) (cells_at _ _ rfl _ _) (z3_one _) HN.out.1 HN.out.2 ?_)
                intro g cap w1 hown1 hgrow1 hnew1
                have hF1 := Lib.hid (HF4.out.app (Fr.al _ _) hown1 hgrow1 (by simpa using hnew1))
                clear hown1 hgrow1 hnew1 hown
                go_wp2
                go_roundg (V - (i + 1))
                case measure => have := HMI.out; omega
                case rel =>
                  refine ⟨i + 1, by have := HMI.out; omega, by rw [Int.natCast_add]; rfl, ?_⟩
                  have e : qO f V k ++ (qX (f + k) V j ++ qY (f + k) j (i + 1)) = L ++ [((o : Int), (j : Int), (i : Int))] := by
                    rw [qY, if_neg HJI.out, ← HLL.out, HO.out]; simp
                  unfold Fl
                  rw [e, List.length_append, z3s_snoc, HNN.out]
                  exact hF1.out
            · have hi : i = V := by have := HMI.out; omega
              subst hi
              go_wp2
              go_roundg (i - (j + 1))
              case measure => have := HMJ.out; omega
              case rel =>
                refine ⟨j + 1, by have := HMJ.out; omega, by rw [Int.natCast_add]; rfl, ?_⟩
                rw [qX]; exact HF3.out
        · have hj : j = V := by have := HMJ.out; omega
          subst hj
          go_wp2
          go_roundg (n - (k + 1))
          case measure => have := HMK.out; omega
          case rel =>
            refine ⟨k + 1, by have := HMK.out; omega, by rw [← HO.out]; rfl, ?_⟩
            rw [qO]; exact HF2.out
    · have hk : k = n := by have := HMK.out; omega
      subst hk
      have hle : decide (f + k ≤ t) = false := by have := H.out; rw [decide_eq_false_iff_not]; omega
      obtain ⟨o, ho⟩ : ∃ o, f + k = o := ⟨_, rfl⟩
      rw [ho] at hle ⊢
      clear ho
      go_wp2
      go_ret
      refine ⟨_, rfl, ?_⟩
      unfold quests
      rw [H.out.2.2.2.1]; exact HF.out
theorem all_c {V : Nat} {w : World} (hV : V ≤ 12) :
    Calls Try.prog 42 #[.int .i64 (V : Nat)] w fun e w' => ∃ v, e = .returned v ∧ Fl w w' v (quests V 4 7) := by
  have H := Lib.hid hV
  clear hV
  go_enter Try.func42, Try.ntmps42
  go_wp2_with fail
  refine (quests_c (f := 4) (t := 7) H.out (by omega) (by omega) (by omega)).mono ?_
  rintro e w1 ⟨v, rfl, hF⟩
  have HF := Lib.hid hF
  clear hF
  go_wp2
  go_ret
  exact ⟨_, rfl, HF.out⟩
end Go.Proofs.Ytapnmgkpljlgmaa
namespace Go.Proofs.Ytapnmgkpljlgmaa
open Go.RowKit

/-- A literal slice of steps. -/
theorem rd_lit {w : World} {g : Nat} {T : TypeId} (hg : w.heap.size = g) (l : List Z3) (cs : List Value) (hc : cs = z3s l) (n : Nat) (hn : l.length = n) : Rd (w.alloc (.cells cs.toArray T)) 3 (some ⟨g, 0, none⟩) n (z3s l) := by
  subst hg hc hn
  refine ⟨z3s_len l, fun _ => ⟨_, rfl, by simp, fun k j u hj hu => ?_⟩⟩
  rw [add_add]
  exact cells_new w _ T _ _ hu
theorem prt_of {w : World} {g n c : Nat} {l : List Z3} (h : Rd w 3 (some ⟨g, 0, none⟩) n (z3s l)) : Prt w (.slice (some ⟨g, 0, none⟩) n c) l := by
  have hl : l.length = n := by have := h.1; rw [z3s_len] at this; omega
  subst hl
  exact ⟨_, _, rfl, h⟩
theorem prt_at {w : World} {ad : Addr} {n c : Nat} {l : List Z3} (h : Rd w 3 (some ad) n (z3s l)) : Prt w (.slice (some ad) n c) l := by
  have hl : l.length = n := by have := h.1; rw [z3s_len] at this; omega
  subst hl
  exact ⟨_, _, rfl, h⟩
inductive PrtL (w : World) : List Value → List (List Z3) → Prop
  | nil : PrtL w [] []
  | cons {v : Value} {l : List Z3} {vs : List Value} {ls : List (List Z3)} : Prt w v l → PrtL w vs ls → PrtL w (v :: vs) (l :: ls)
theorem PrtL.len {w : World} {vs : List Value} {ls : List (List Z3)} (h : PrtL w vs ls) : vs.length = ls.length := by
  induction h with
  | nil => rfl
  | cons _ _ ih => simp [ih]
theorem PrtL.at' {w : World} {vs : List Value} {ls : List (List Z3)} (h : PrtL w vs ls) : ∀ (k : Nat) (l : List Z3), ls[k]? = some l → ∃ v, vs[k]? = some v ∧ Prt w v l := by
  induction h with
  | nil => intro k l h; simp at h
  | cons a _ ih =>
    intro k l h
    cases k with
    | zero =>
      simp only [List.getElem?_cons_zero, Option.some.injEq] at h
      subst h
      exact ⟨_, rfl, a⟩
    | succ k => exact ih k l h
theorem PrtL.nix {w w' : World} {vs : List Value} {ls : List (List Z3)} (h : PrtL w vs ls) (f : Fr w w' Nix) : PrtL w' vs ls := by
  induction h with
  | nil => exact .nil
  | cons a _ ih => exact .cons (a.nix f) ih
/-- A literal slice of slices. -/
theorem parts_lit {w : World} {g : Nat} {T : TypeId} (hg : w.heap.size = g) (vs : List Value) (ls : List (List Z3)) (h : PrtL w vs ls) (n : Nat) (hn : ls.length = n) : Parts (w.alloc (.cells vs.toArray T)) (some ⟨g, 0, none⟩) n ls := by
  subst hg hn
  refine ⟨rfl, fun k l hk => ?_⟩
  obtain ⟨v, h1, h2⟩ := h.at' k l hk
  exact ⟨_, v, rfl, cells_new w _ T _ _ h1, h2.nix (Fr.al _ _)⟩
/-- An answer behind those of a script. -/
theorem ans_at {w : World} {g n m k : Nat} {o a t : List Bool} {b : Bool} (h : Rd w 1 (some ⟨g, 0, none⟩) n (bls o)) (ho : o = a ++ t) (ha : a.length = m) (hb : t[k]? = some b) : w.cell? ⟨g, m + k, none⟩ = some (.bool b) := by
  subst ho ha
  rw [← add0]
  exact rdbool h (by rw [get_mid]; exact hb)
theorem rd_pos {w : World} {A : Option Addr} {size n : Nat} {xs : List Value} (h : Rd w size A n xs) (hn : 0 < n) : ∃ ad, A = some ad := by
  obtain ⟨ad, e, _⟩ := h.2 hn; exact ⟨ad, e⟩
theorem goodB_ask {v : Int} {q : List Z3} (h : goodB v q = true) (ha : ∀ z ∈ q, 4 ≤ z.1 ∧ z.1 ≤ 7) : AskZ v q := fun z hz => ⟨(goodB_z h).wf z hz, ha z hz⟩
end Go.Proofs.Ytapnmgkpljlgmaa
