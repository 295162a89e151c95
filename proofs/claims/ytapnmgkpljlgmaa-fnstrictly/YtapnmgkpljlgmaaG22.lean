/- Slices of which a part is taken; a whole slice appended to another; slices of bools. What a good script is; the post of a law. Small functions of the laws and of the reference: With, Sets, Asks, Plain, Only, same, tail. -/
import Derived.Test.YtapnmgkpljlgmaaG18
import Derived.BigQuiet
import Derived.Deep.QuietTactic
set_option linter.unusedVariables false
set_option linter.unusedSimpArgs false
namespace Go.Proofs.Ytapnmgkpljlgmaa
open Go.RowKit

theorem add0 (g j : Nat) : (⟨g, 0, none⟩ : Addr).add j = ⟨g, j, none⟩ := by unfold Addr.add; split <;> simp_all
theorem Rd.cells {w : World} {size n : Nat} {ad : Addr} {xs : List Value} (h : Rd w size (some ad) n xs) (hs : 0 < size) {i : Nat} {u : Value} (hu : xs[i]? = some u) : w.cell? (ad.add i) = some u := by
  have hi : i < n * size := by rw [← h.1]; exact (List.getElem?_eq_some_iff.1 hu).1
  have hn : 0 < n := by
    rcases Nat.eq_zero_or_pos n with e | e
    · subst e; simp at hi
    · exact e
  obtain ⟨ad', e, _, hc⟩ := h.2 hn
  cases e
  have e2 : i / size * size + i % size = i := by rw [Nat.mul_comm]; exact Nat.div_add_mod i size
  have := hc (i / size) (i % size) u (Nat.mod_lt _ hs) (by rw [e2]; exact hu)
  rwa [add_add, e2] at this
theorem Rd.zero {w : World} {size : Nat} {A : Option Addr} : Rd w size A 0 [] := ⟨by simp, fun h => absurd h (by omega)⟩
theorem addr_if (c : Bool) (ad : Addr) (k : Nat) (hc : c = true → False) : (if c then ad else ad.add k) = ad.add k := by cases c <;> simp_all
/-- A part of a slice. -/
theorem Rd.sub {w : World} {size n : Nat} {ad : Addr} {xs : List Value} (h : Rd w size (some ad) n xs) {l m : Nat} (hm : l + m ≤ n) : Rd w size (some (ad.add (l * size))) m ((xs.drop (l * size)).take (m * size)) := by
  have hx := h.1
  have hle : (l + m) * size ≤ n * size := Nat.mul_le_mul_right _ hm
  rw [Nat.add_mul] at hle
  refine ⟨by rw [List.length_take, List.length_drop]; omega, fun hm0 => ?_⟩
  obtain ⟨ad', e, hb, hc⟩ := h.2 (by omega)
  cases e
  refine ⟨_, rfl, by rw [add_block]; exact hb, fun k j u hj hu => ?_⟩
  rw [add_add (ad.add (l * size)), add_add, ← Nat.add_assoc, ← Nat.add_mul, ← add_add]
  refine hc (l + k) j u hj ?_
  rw [List.getElem?_take] at hu
  split at hu
  · rw [List.getElem?_drop] at hu
    rw [← hu]; congr 1; rw [Nat.add_mul]; omega
  · cases hu
theorem Rd.sub' {w : World} {size n : Nat} {ad : Addr} {xs : List Value} (h : Rd w size (some ad) n xs) {cap l m : Nat} (hm : l + m ≤ n) (hc : n ≤ cap) {A : Option Addr} (hA : l < cap → A = some (ad.add (l * size))) : Rd w size A m ((xs.drop (l * size)).take (m * size)) := by
  by_cases q : m = 0
  · subst q
    rw [Nat.zero_mul, List.take_zero]; exact Rd.zero
  · rw [hA (by omega)]; exact h.sub hm

section
variable {P : Program} (w : World)
theorem run_appn (t ty e : TypeId) (i : TypeInfo) (z : Value) (size bytes : Nat) (ht : P.underlying t = some (.slice e)) (hi : P.info? e = some i) (hz : i.zero = some z)
    (hsize : i.size = size) (hby : i.bytes = bytes) (hzs : z.cells.size = size) (hsz : 0 < size)
    (g0 cap0 n : Nat) (xs : List Value) (hown : w.ownsRow 0 e size (.slice (some ⟨g0, 0, none⟩) n cap0) n xs)
    (a : Addr) (m c : Nat) (news : List Value) (hl : news.length = m * size) (hnews : ∀ j u, news[j]? = some u → w.cell? (a.add j) = some u) (h1 : ∀ u ∈ news, u.oneCell' = true)
    (hbytes : (n + m) * bytes ≤ 140737488355328) (h63 : n + m ≤ 1000000000000) :
    ∃ v' w', (Builtin.append_ #[t, t] ty #[.slice (some ⟨g0, 0, none⟩) n cap0, .slice (some a) m c]).run P w = .ok v' w' ∧ w'.ownsRow 0 e size v' (n + m) (xs ++ news) ∧ w.grownBy w' (some g0) ∧
      ∃ g cap, v' = .slice (some ⟨g, 0, none⟩) (n + m) cap ∧ (g0 = g ∨ w.heap.size ≤ g) := by
  by_cases hm : 0 < m
  · obtain ⟨v', w', hr, h2, h3, h4, g, cap, rfl⟩ := run_app (P := P) w t ty e i z size bytes ht hi hz hsize hby hzs hsz _ n xs hown a m c news hl hnews h1 hm hbytes h63
    refine ⟨_, w', hr, h2, h3, g, cap, rfl, ?_⟩
    rcases h4 g rfl with h | h
    · simp only [Value.ownBlock, Option.some.injEq] at h; exact .inl h
    · exact .inr h.1
  · have hm0 : m = 0 := by omega
    subst hm0
    have hx : news = [] := List.eq_nil_of_length_eq_zero (by simpa using hl)
    subst hx
    subst hsize hby
    rcases hown.2 with ⟨h, _⟩ | ⟨g, cap, cur, h, hbg, hg, hnc, hcm, hcs, htake⟩
    · simp at h
    · simp only [Value.slice.injEq, Option.some.injEq, Addr.mk.injEq, and_true, true_and] at h
      obtain ⟨rfl, rfl⟩ := h
      have hr' := run_append_room (P := P) w t ty e i ht hi g0 n cap0 cur hg a 0 c [] (by simp) (by simp) (by simp) (by omega) (by
        have := Nat.mul_le_mul_right i.size hnc
        rw [hcs]; simpa using this)
      obtain ⟨v', w', hr, h2, h3, _⟩ := run_append_own (P := P) w 0 t ty e i z i.size i.bytes ht hi hz rfl rfl hzs hsz _ n xs hown a 0 c [] hl hnews h1 (by unfold maxLen; omega) hbytes (Nat.zero_le _)
      have hv := hr
      rw [hr'] at hv
      simp only [Result.ok.injEq] at hv
      obtain ⟨rfl, _⟩ := hv
      exact ⟨_, w', hr, h2, h3, g0, cap0, rfl, .inl rfl⟩
/-- The arm for 'append(x, y...)'. -/
theorem wpList_appn {ops : Array Oper} {rest : List Oper} {o : Oper} {a : Act} {w : World} {Q : Exit → Act → World → Prop} (hgd : o.guard = none) (s x : Operand) (t : TypeId)
    (ho : o.op = .call { callee := .builtin .append, args := #[s, x], argTypes := #[t, t] })
    (e : TypeId) (z : Value) (size bytes : Nat) (ht : P.underlying t = some (.slice e)) (hi : (P.info? e).map (fun i => (i.zero, i.size, i.bytes)) = some (some z, size, bytes))
    (hzs : z.cells.size = size) (hsz : 0 < size)
    (g0 cap0 n : Nat) (xs : List Value) (hs : a.eval s = .slice (some ⟨g0, 0, none⟩) n cap0) (hown : w.ownsRow 0 e size (.slice (some ⟨g0, 0, none⟩) n cap0) n xs)
    (ad : Addr) (m c : Nat) (news : List Value) (hx : a.eval x = .slice (some ad) m c) (hrd : Rd w size (some ad) m news) (h1 : ∀ u ∈ news, u.oneCell' = true)
    (hbytes : (n + m) * bytes ≤ 140737488355328) (h63 : n + m ≤ 1000000000000)
    (h : ∀ g cap w', w'.ownsRow 0 e size (.slice (some ⟨g, 0, none⟩) (n + m) cap) (n + m) (xs ++ news) → w.grownBy w' (some g0) → (g0 = g ∨ w.heap.size ≤ g) → wpList P ops Q rest (a.put o.dst (.slice (some ⟨g, 0, none⟩) (n + m) cap)) w') :
    wpList P ops Q (o :: rest) a w := by
  obtain ⟨i, hi, hz, hsize, hby⟩ := info_parts hi
  obtain ⟨v', w', hr, h2, h3, g, cap, rfl, h4⟩ := run_appn (P := P) w t o.type e i z size bytes ht hi hz hsize hby hzs hsz g0 cap0 n xs hown ad m c news hrd.1 (fun j u hu => hrd.cells hsz hu) h1 hbytes h63
  refine wpList_plain hgd fun K hK => ?_
  unfold Oper.wp execOp
  simp only [ho, resolve, invoke, builtin, Sem.run_bind, Sem.run_pure, Result.andThen_ok, List.map_toArray, List.map_cons, List.map_nil, hs, hx, hr]
  exact hK _ _ (h g cap w' h2 h3 h4)
end
theorem Fsh.appn {w wr wa w1 : World} {T : TypeId} {size : Nat} {n m g g0 cap0 cap : Nat} {xs news : List Value} (h : Fsh w wr T size (.slice (some ⟨g0, 0, none⟩) n cap0) n xs) (ha : Fr wr wa Nix)
    (hown : w1.ownsRow 0 T size (.slice (some ⟨g, 0, none⟩) (n + m) cap) (n + m) (xs ++ news)) (hg : wa.grownBy w1 (some g0)) (hn : g0 = g ∨ wa.heap.size ≤ g) :
    Fsh w w1 T size (.slice (some ⟨g, 0, none⟩) (n + m) cap) (n + m) (xs ++ news) :=
  h.app ha hown hg (by rcases hn with rfl | hn; exact .inl rfl; exact .inr hn)
theorem Fsh.cap {w wr : World} {T : TypeId} {size g n c : Nat} {xs : List Value} (h : Fsh w wr T size (.slice (some ⟨g, 0, none⟩) n c) n xs) : n ≤ c ∧ c ≤ maxLen := by
  rcases h.own.2 with ⟨e, _⟩ | ⟨g', cap, cur, e, _, _, h1, h2, _⟩
  · simp at e
  · simp only [Value.slice.injEq] at e
    obtain ⟨_, _, rfl⟩ := e
    exact ⟨h1, h2⟩

/-! ## slices of bools -/
theorem bls_len (l : List Bool) : (bls l).length = l.length := List.length_map ..
theorem bls_app (a b : List Bool) : bls (a ++ b) = bls a ++ bls b := List.map_append
theorem bls_get {l : List Bool} {k : Nat} {b : Bool} (h : l[k]? = some b) : (bls l)[k]? = some (.bool b) := by unfold bls; rw [List.getElem?_map, h]; rfl
theorem rdbool {w : World} {ad : Addr} {n : Nat} {l : List Bool} (h : Rd w 1 (some ad) n (bls l)) {k : Nat} {b : Bool} (hk : l[k]? = some b) : w.cell? (ad.add k) = some (.bool b) := h.cells (by omega) (bls_get hk)
theorem rdlen {w : World} {A : Option Addr} {n : Nat} {l : List Bool} (h : Rd w 1 A n (bls l)) : l.length = n := by have := h.1; rw [bls_len] at this; omega
theorem rdat {w : World} {A : Option Addr} {n : Nat} {l : List Bool} (h : Rd w 1 A n (bls l)) {k : Nat} (hk : k < n) : ∃ ad b, A = some ad ∧ l[k]? = some b ∧ w.cell? (ad.add k) = some (.bool b) := by
  obtain ⟨ad, rfl, _, _⟩ := h.2 (by omega)
  have hl := rdlen h
  have e : l[k]? = some (l[k]'(by omega)) := List.getElem?_eq_getElem _
  exact ⟨ad, _, rfl, e, rdbool h e⟩
theorem bls_sub (l : List Bool) (a m : Nat) : ((bls l).drop (a * 1)).take (m * 1) = bls ((l.drop a).take m) := by
  unfold bls; rw [Nat.mul_one, Nat.mul_one, List.map_take, List.map_drop]
theorem z3s_sub (l : List Z3) (m : Nat) : (z3s l).take (m * 3) = z3s (l.take m) := flat_take (k := 3) (fun _ => rfl) l m
theorem z3s_app (a b : List Z3) : z3s (a ++ b) = z3s a ++ z3s b := List.flatMap_append
end Go.Proofs.Ytapnmgkpljlgmaa
namespace Go.Proofs.Ytapnmgkpljlgmaa
open Go.RowKit

theorem goodF_mem {v : Int} : ∀ (l : List Z3) (d : Int), goodF v d l = true → ∀ z ∈ l, 0 ≤ z.1 ∧ z.1 ≤ 9 ∧ (z.1 ≠ 8 → z.1 ≠ 9 → 0 ≤ z.2.1 ∧ 0 ≤ z.2.2 ∧ z.2.1 < v ∧ z.2.2 < v ∧ z.2.1 ≠ z.2.2)
  | [], _, _, z, hz => by simp at hz
  | y :: l, d, h, z, hz => by
    unfold goodF at h
    split at h
    · cases h
    · rename_i h1
      split at h
      · cases h
      · rename_i h2
        split at h
        · cases h
        · rcases List.mem_cons.1 hz with rfl | hz
          · refine ⟨by omega, by omega, fun k1 k2 => ?_⟩
            have : bad v z ≠ true := fun q => h2 ⟨k1, k2, q⟩
            have e : bad v z = true ↔ z.2.1 < 0 ∨ z.2.2 < 0 ∨ v ≤ z.2.1 ∨ v ≤ z.2.2 ∨ z.2.1 = z.2.2 := by simp [bad, or_assoc]
            rw [Ne, e] at this
            omega
          · exact goodF_mem l _ h z hz
theorem goodB_iff {v : Int} {l : List Z3} (h : goodB v l = true) : 0 ≤ v ∧ v ≤ 12 ∧ l.length ≤ 64 ∧ goodF v 0 l = true := by
  unfold goodB at h
  split at h
  · cases h
  · exact ⟨by omega, by omega, by omega, h⟩
def tnat (l : List (Int × Int)) : List (Nat × Nat) := l.map fun p => (p.1.toNat, p.2.toNat)
/-- A good row of facts with a question behind, in natural numbers. -/
theorem good_facts {v op ask x y : Int} {l : List (Int × Int)} (h : goodB v (l.map (fun p => (op, p.1, p.2)) ++ [(ask, x, y)]) = true) (h8 : op ≠ 8 ∧ op ≠ 9) (ha : ask ≠ 8 ∧ ask ≠ 9) :
    l.length ≤ 63 ∧ l = nn (tnat l) ∧ (∀ p ∈ tnat l, p.1 < 12 ∧ p.2 < 12 ∧ p.1 ≠ p.2) ∧ ∃ X Y : Nat, x = X ∧ y = Y ∧ X < 12 ∧ Y < 12 ∧ X ≠ Y := by
  obtain ⟨h1, h2, h3, h4⟩ := goodB_iff h
  have hm := goodF_mem _ _ h4
  have key : ∀ p ∈ l, 0 ≤ p.1 ∧ 0 ≤ p.2 ∧ p.1 < v ∧ p.2 < v ∧ p.1 ≠ p.2 := fun p hp => (hm (op, p.1, p.2) (List.mem_append_left _ (List.mem_map.2 ⟨p, hp, rfl⟩))).2.2 h8.1 h8.2
  have last := (hm (ask, x, y) (by simp)).2.2 ha.1 ha.2
  simp only at last
  refine ⟨by simp at h3; omega, ?_, fun p hp => ?_, x.toNat, y.toNat, by omega, by omega, by omega, by omega, by omega⟩
  · unfold nn tnat
    rw [List.map_map]
    have : l.map id = l.map ((fun p : Nat × Nat => ((p.1 : Int), (p.2 : Int))) ∘ fun p : Int × Int => (p.1.toNat, p.2.toNat)) := by
      refine List.map_congr_left fun p hp => ?_
      have := key p hp
      show p = ((p.1.toNat : Int), (p.2.toNat : Int))
      rw [Int.toNat_of_nonneg this.1, Int.toNat_of_nonneg this.2.1]
    rwa [List.map_id] at this
  · obtain ⟨q, hq, rfl⟩ := List.mem_map.1 hp
    have := key q hq
    simp only
    omega

def Done (w : World) (e : Ending) (w' : World) : Prop := e = .returned (.bool true) ∧ Fr w w' Nix
end Go.Proofs.Ytapnmgkpljlgmaa
namespace Go.Proofs.Ytapnmgkpljlgmaa
open Go.RowKit

theorem own_empty {w : World} {T : TypeId} {size g : Nat} (hg : w.heap.size = g) : (w.alloc (.cells #[] T)).ownsRow 0 T size (.slice (some ⟨g, 0, none⟩) 0 0) 0 [] := by
  subst hg; exact (Fsh.empty w T size).own
theorem box_kept {w wb : World} {F : Nat → Prop} {cs : List Value} {T : TypeId} {g : Nat} (hg : w.heap.size = g) (f : Fr (w.alloc (.cells cs.toArray T)) wb F) (hF : ¬ F g) : ∀ j v, cs[j]? = some v → wb.cell? ((⟨g, 0, none⟩ : Addr).add j) = some v := by
  intro j v h
  subst hg
  exact (f.cell (a := (⟨w.heap.size, 0, none⟩ : Addr).add j) (by rw [add_block]; simp) (by rw [add_block]; exact hF)).trans (cells_new _ _ _ j v h)
theorem z3s_one (l : List Z3) : ∀ u ∈ z3s l, u.oneCell' = true := by
  intro u hu
  obtain ⟨z, _, hu⟩ := List.mem_flatMap.1 hu
  exact z3_one z u hu
theorem bls_one (l : List Bool) : ∀ u ∈ bls l, u.oneCell' = true := by
  intro u hu
  obtain ⟨b, _, rfl⟩ := List.mem_map.1 hu
  rfl
section
variable {P : Program}
/-- The arm for 'append(x, y...)' where x is still empty. -/
theorem wpList_appz {ops : Array Oper} {rest : List Oper} {o : Oper} {a : Act} {w : World} {Q : Exit → Act → World → Prop} (hgd : o.guard = none) (s x : Operand) (t : TypeId)
    (ho : o.op = .call { callee := .builtin .append, args := #[s, x], argTypes := #[t, t] })
    (e : TypeId) (z : Value) (size bytes : Nat) (ht : P.underlying t = some (.slice e)) (hi : (P.info? e).map (fun i => (i.zero, i.size, i.bytes)) = some (some z, size, bytes))
    (hzs : z.cells.size = size) (hsz : 0 < size)
    (g0 cap0 : Nat) (hs : a.eval s = .slice (some ⟨g0, 0, none⟩) 0 cap0) (hown : w.ownsRow 0 e size (.slice (some ⟨g0, 0, none⟩) 0 cap0) 0 [])
    (ad : Addr) (m c : Nat) (news : List Value) (hx : a.eval x = .slice (some ad) m c) (hrd : Rd w size (some ad) m news) (h1 : ∀ u ∈ news, u.oneCell' = true)
    (hbytes : m * bytes ≤ 140737488355328) (h63 : m ≤ 1000000000000)
    (h : ∀ g cap w', w'.ownsRow 0 e size (.slice (some ⟨g, 0, none⟩) m cap) m news → w.grownBy w' (some g0) → (g0 = g ∨ w.heap.size ≤ g) → wpList P ops Q rest (a.put o.dst (.slice (some ⟨g, 0, none⟩) m cap)) w') :
    wpList P ops Q (o :: rest) a w :=
  wpList_appn hgd s x t ho e z size bytes ht hi hzs hsz g0 cap0 0 [] hs hown ad m c news hx hrd h1 (by rw [Nat.zero_add]; exact hbytes) (by rw [Nat.zero_add]; exact h63)
    fun g cap w' k1 k2 k3 => by rw [Nat.zero_add] at k1 ⊢; exact h g cap w' k1 k2 k3
end
theorem Fsh.fresh {w wa w1 : World} {T : TypeId} {size m g g0 cap : Nat} {news : List Value} (hw : Fr w wa Nix) (hg0 : w.heap.size ≤ g0)
    (hown : w1.ownsRow 0 T size (.slice (some ⟨g, 0, none⟩) m cap) m news) (hg : wa.grownBy w1 (some g0)) (hn : g0 = g ∨ wa.heap.size ≤ g) : Fsh w w1 T size (.slice (some ⟨g, 0, none⟩) m cap) m news := by
  refine ⟨hown, fun k hk => ?_, hw.trans (Fr.grown (F := fun k => some g0 = some k) hg fun k hk => hk) fun i hi => .inr (by cases hi; exact hg0), _, _, rfl⟩
  simp only [Value.ownBlock, Option.some.injEq] at hk
  subst hk
  rcases hn with rfl | hn
  · exact hg0
  · have := hw.size; omega
set_option maxRecDepth 10000 in
set_option maxHeartbeats 2000000 in
theorem with_c {ad : Addr} {n c : Nat} {l : List Z3} {o x y : Int} {w : World} (h : Rd w 3 (some ad) n (z3s l)) (hn : n < 2147483648) :
    Calls Try.prog 49 #[.slice (some ad) n c, .agg #[.int .i64 o, .int .i64 x, .int .i64 y]] w fun e w' => ∃ v, e = .returned v ∧ Fsh w w' 40 3 v (n + 1) (z3s (l ++ [(o, x, y)])) := by
  have H := Lib.hid h
  have HN := Lib.hid (And.intro (show n * 24 ≤ 140737488355328 ∧ n ≤ 1000000000000 by omega) (lim24 (n := n) (by omega)))
  clear h hn
  go_enter Try.func49, Try.ntmps49
  go_wp2_with (first
    | (at_builtin; refine wpList_appz rfl (.tmp 7) (.tmp 8) 24 rfl 40 _ 3 24 Try.underlying24 info_step rfl (by decide) _ _ rfl (own_empty (size_alloc _ _)) _ _ _ (z3s l) rfl (H.out.nix ((Fr.al _ _).a _)) (z3s_one l) HN.out.1.1 HN.out.1.2 ?_)
    | fail)
  intro g cap w1 hown1 hgrow1 hnew1
  have f1 : Fr (w.alloc (.cells #[.int .i64 o, .int .i64 x, .int .i64 y] 40)) w1 (fun k => k = w.heap.size + 1) := ((Fr.al _ (.cells #[] 40)).mono fun _ e => e.elim).trans (Fr.grown (F := fun k => k = w.heap.size + 1) hgrow1 fun k hk => by cases hk; rfl) fun _ h => .inl h
  have HC := Lib.hid (box_kept (cs := [.int .i64 o, .int .i64 x, .int .i64 y]) rfl f1 (by omega))
  have F1 := Lib.hid (Fsh.fresh ((Fr.al w (.cells #[.int .i64 o, .int .i64 x, .int .i64 y] 40)).a (.cells #[] 40)) (by omega) hown1 hgrow1 (by simpa using hnew1))
  clear hown1 hgrow1 hnew1 f1
  have hown := F1.out.own
  go_wp2_with (first
    | (with_reducible refine wpList_ld (o := ⟨some 11, _, _, _, _, _⟩) rfl 40 (.tmp 3) rfl _ rfl #[.int .i64 o, .int .i64 x, .int .i64 y] _ HC.out Try.underlying40 rfl (by kernel_rfl) ?_)
    | (at_builtin; refine wpList_app _ rfl (.tmp 10) (.tmp 12) 24 rfl 40 _ 3 24 Try.underlying24 info_step rfl (by decide) _ _ _ rfl (hown.alloc _) ⟨w1.heap.size, 0, none⟩ 1 1 (z3c (o, x, y)) rfl rfl (by decide) (cells_at _ _ rfl _ _) (z3_one _) HN.out.2.1 HN.out.2.2 ?_)
    | fail)
  intro g2 cap2 w2 hown1 hgrow1 hnew1
  have hF1 := Lib.hid (F1.out.app (Fr.al _ _) hown1 hgrow1 (by simpa using hnew1))
  clear hown1 hgrow1 hnew1 hown
  go_wp2
  go_ret
  refine ⟨_, rfl, ?_⟩
  have := hF1.out
  rw [z3s_app]
  exact this

/-! ## tests of a step, of a list -/
def factB (z : Z3) : Bool := decide (0 ≤ z.1) && decide (z.1 ≤ 3)
def askB (z : Z3) : Bool := decide (4 ≤ z.1) && decide (z.1 ≤ 7)
def Bpost (w : World) (b : Bool) (e : Ending) (w' : World) : Prop := e = .returned (.bool b) ∧ Fr w w' Nix
theorem set_of {o x y : Int} {b : Bool} (h : (decide (0 ≤ o) && decide (o ≤ 3)) = b) : factB (o, x, y) = b := h
set_option maxHeartbeats 1000000 in
theorem sets_c (o x y : Int) (w : World) : Calls Try.prog 54 #[.agg #[.int .i64 o, .int .i64 x, .int .i64 y]] w (Bpost w (factB (o, x, y))) := by
  by_cases h0 : 0 ≤ o
  · by_cases h3 : o ≤ 3
    · rw [show factB (o, x, y) = true by simp [factB, h0, h3]]
      go_enter Try.func54, Try.ntmps54
      go_wp2
      go_ret
      exact ⟨rfl, Fr.al _ _⟩
    · rw [show factB (o, x, y) = false by simp [factB, h3]]
      have h3' : decide (o ≤ 3) = false := decide_eq_false h3
      go_enter Try.func54, Try.ntmps54
      go_wp2
      go_ret
      exact ⟨rfl, Fr.al _ _⟩
  · rw [show factB (o, x, y) = false by simp [factB, h0]]
    have h0' : decide (0 ≤ o) = false := decide_eq_false h0
    go_enter Try.func54, Try.ntmps54
    go_wp2
    go_ret
    exact ⟨rfl, Fr.al _ _⟩
set_option maxHeartbeats 1000000 in
theorem asks_c (o x y : Int) (w : World) : Calls Try.prog 59 #[.agg #[.int .i64 o, .int .i64 x, .int .i64 y]] w (Bpost w (askB (o, x, y))) := by
  by_cases h0 : 4 ≤ o
  · by_cases h3 : o ≤ 7
    · rw [show askB (o, x, y) = true by simp [askB, h0, h3]]
      go_enter Try.func59, Try.ntmps59
      go_wp2
      go_ret
      exact ⟨rfl, Fr.al _ _⟩
    · rw [show askB (o, x, y) = false by simp [askB, h3]]
      have h3' : decide (o ≤ 7) = false := decide_eq_false h3
      go_enter Try.func59, Try.ntmps59
      go_wp2
      go_ret
      exact ⟨rfl, Fr.al _ _⟩
  · rw [show askB (o, x, y) = false by simp [askB, h0]]
    have h0' : decide (4 ≤ o) = false := decide_eq_false h0
    go_enter Try.func59, Try.ntmps59
    go_wp2
    go_ret
    exact ⟨rfl, Fr.al _ _⟩
theorem all_take {α : Type} {p : α → Bool} {l : List α} {k : Nat} {z : α} (h : l[k]? = some z) : (l.take (k + 1)).all p = ((l.take k).all p && p z) := by
  rw [take_snoc h, List.all_append]; simp
theorem all_no {α : Type} {p : α → Bool} {l : List α} {k : Nat} {z : α} (h : l[k]? = some z) (hp : p z = false) : l.all p = false := by
  rw [List.all_eq_false]; exact ⟨z, List.mem_of_getElem? h, by rw [hp]; decide⟩
def allLoop (w : World) (p : Z3 → Bool) (l : List Z3) (n m : Nat) (u : Value) (wr : World) : Prop :=
  ∃ k : Nat, m + k = n ∧ u = .int .i64 (k : Nat) ∧ (l.take k).all p = true ∧ Fr w wr Nix
def noN (z : Z3) : Bool := !(z.1 == 3)
set_option maxRecDepth 10000 in
set_option maxHeartbeats 1000000 in
theorem plainS_c {A : Option Addr} {n c : Nat} {l : List Z3} {w : World} (h : Rd w 3 A n (z3s l)) (hn : n < 2147483648) :
    Calls Try.prog 46 #[.slice A n c] w (Bpost w (l.all noN)) := by
  have H := Lib.hid h
  have hlen : l.length = n := by have := h.1; rw [z3s_len] at this; omega
  have HLN := Lib.hid hlen
  obtain ⟨b, hb⟩ : ∃ b, l.all noN = b := ⟨_, rfl⟩
  have HB := Lib.hid hb
  rw [hb]
  have hm : (n : Int) ≤ 9223372036854775807 := by omega
  clear h hn hb hlen
  go_enter Try.func46, Try.ntmps46
  go_wp2_with fail
  go_loopg [7] n (fun m u wr => allLoop w noN l n m u wr)
  case atStart => exact ⟨0, rfl, rfl, rfl, Fr.refl _ _⟩
  case round =>
    obtain ⟨k, hmk, rfl, ha, hF⟩ := hrel
    have HF := Lib.hid (And.intro ha hF)
    have HMK := Lib.hid hmk
    clear hF hmk ha
    by_cases hlt : k < n
    · obtain ⟨ad, po, px, py, rfl, hz, hc⟩ := rd3 (H.out.nix HF.out.2) hlt
      have HZ := Lib.hid hz
      have HC := Lib.hid hc
      clear hz hc
      by_cases h3 : po = 3
      · subst h3
        obtain rfl : b = false := by rw [← HB.out, all_no HZ.out rfl]
        go_wp2_with (with_reducible refine wpList_ld (o := ⟨some 10, _, _, _, _, _⟩) rfl 40 (.tmp 9) rfl _ rfl #[.int .i64 3, .int .i64 px, .int .i64 py] _ HC.out Try.underlying40 rfl (by kernel_rfl) ?_)
        go_ret
        exact ⟨rfl, HF.out.2.a _⟩
      · have h3' : (po == 3) = false := beq_eq_false_iff_ne.2 h3
        go_wp2_with (with_reducible refine wpList_ld (o := ⟨some 10, _, _, _, _, _⟩) rfl 40 (.tmp 9) rfl _ rfl #[.int .i64 po, .int .i64 px, .int .i64 py] _ HC.out Try.underlying40 rfl (by kernel_rfl) ?_)
        go_roundg (n - (k + 1))
        case measure => have := HMK.out; omega
        case rel => exact ⟨k + 1, by have := HMK.out; omega, by rw [Int.natCast_add]; rfl, by rw [all_take HZ.out, HF.out.1]; simp [noN, h3], HF.out.2.a _⟩
    · have hk : k = n := by have := HMK.out; omega
      subst hk
      obtain rfl : b = true := by
        have := HF.out.1
        rw [List.take_of_length_le (by rw [HLN.out]; exact Nat.le_refl _), HB.out] at this
        exact this
      go_wp2
      go_ret
      exact ⟨rfl, HF.out.2⟩
set_option maxRecDepth 10000 in
set_option maxHeartbeats 1000000 in
theorem only_c {A : Option Addr} {n c : Nat} {l : List Z3} {w : World} (h : Rd w 3 A n (z3s l)) (hn : n < 2147483648) :
    Calls Try.prog 41 #[.slice A n c] w (Bpost w (l.all factB)) := by
  have H := Lib.hid h
  have hlen : l.length = n := by have := h.1; rw [z3s_len] at this; omega
  have HLN := Lib.hid hlen
  obtain ⟨b, hb⟩ : ∃ b, l.all factB = b := ⟨_, rfl⟩
  have HB := Lib.hid hb
  rw [hb]
  have hm : (n : Int) ≤ 9223372036854775807 := by omega
  clear h hn hb hlen
  go_enter Try.func41, Try.ntmps41
  go_wp2_with fail
  go_loopg [7] n (fun m u wr => allLoop w factB l n m u wr)
  case atStart => exact ⟨0, rfl, rfl, rfl, Fr.refl _ _⟩
  case round =>
    obtain ⟨k, hmk, rfl, ha, hF⟩ := hrel
    have HF := Lib.hid (And.intro ha hF)
    have HMK := Lib.hid hmk
    clear hF hmk ha
    by_cases hlt : k < n
    · obtain ⟨ad, po, px, py, rfl, hz, hc⟩ := rd3 (H.out.nix HF.out.2) hlt
      have HZ := Lib.hid hz
      have HC := Lib.hid hc
      clear hz hc
      have HD := Lib.hid (box_kept (w := wr) (cs := [.int .i64 po, .int .i64 px, .int .i64 py]) (T := 40) rfl (Fr.refl _ Nix) (fun e => e))
      go_wp2_with (first
        | (with_reducible refine wpList_ld (o := ⟨some 10, _, _, _, _, _⟩) rfl 40 (.tmp 9) rfl _ rfl #[.int .i64 po, .int .i64 px, .int .i64 py] _ HC.out Try.underlying40 rfl (by kernel_rfl) ?_)
        | (with_reducible refine wpList_ld (o := ⟨some 11, _, _, _, _, _⟩) rfl 40 (.tmp 4) rfl _ rfl #[.int .i64 po, .int .i64 px, .int .i64 py] _ HD.out Try.underlying40 rfl (by kernel_rfl) ?_)
        | fail)
      refine (sets_c po px py _).mono ?_
      rintro e w2 ⟨rfl, hF2⟩
      have HF2 := Lib.hid ((HF.out.2.a _).t hF2)
      clear hF2
      obtain ⟨s, hs⟩ : ∃ s, factB (po, px, py) = s := ⟨_, rfl⟩
      have HS := Lib.hid hs
      rw [hs]
      clear hs
      cases s
      · obtain rfl : b = false := by rw [← HB.out, all_no HZ.out HS.out]
        go_wp2
        go_ret
        exact ⟨rfl, HF2.out⟩
      · go_wp2
        go_roundg (n - (k + 1))
        case measure => have := HMK.out; omega
        case rel => exact ⟨k + 1, by have := HMK.out; omega, by rw [Int.natCast_add]; rfl, by rw [all_take HZ.out, HF.out.1, HS.out]; rfl, HF2.out⟩
    · have hk : k = n := by have := HMK.out; omega
      subst hk
      obtain rfl : b = true := by
        have := HF.out.1
        rw [List.take_of_length_le (by rw [HLN.out]; exact Nat.le_refl _), HB.out] at this
        exact this
      go_wp2
      go_ret
      exact ⟨rfl, HF.out.2⟩

/-! ## lists of answers -/
def TailPost (w : World) (g : Nat) (l : List Bool) (n m : Nat) (e : Ending) (w' : World) : Prop := ∃ A' c', e = .returned (.slice A' m c') ∧ Rd w' 1 A' m (bls (l.drop (n - m))) ∧ Fr w w' Nix ∧ (0 < m → A' = some ⟨g, n - m, none⟩)
theorem sub_tail {w : World} {g n m : Nat} {l : List Bool} (h : Rd w 1 (some ⟨g, 0, none⟩) n (bls l)) (hm : m ≤ n) : Rd w 1 (some ⟨g, n - m, none⟩) m (bls (l.drop (n - m))) := by
  have := h.sub (l := n - m) (m := m) (by omega)
  rw [bls_sub, Nat.mul_one, add0] at this
  rwa [List.take_of_length_le (by rw [List.length_drop, rdlen h]; omega)] at this
theorem sub_none {w : World} {A : Option Addr} {n m : Nat} {l : List Bool} (h : l.length = n) (hm : m = 0) : Rd w 1 A m (bls (l.drop (n - m))) := by
  subst hm
  rw [Nat.sub_zero, List.drop_of_length_le (by omega)]; exact Rd.zero
set_option maxRecDepth 10000 in
set_option maxHeartbeats 1000000 in
theorem tail_c {g n c m : Nat} {l : List Bool} {w : World} (h : Rd w 1 (some ⟨g, 0, none⟩) n (bls l)) (hm : m ≤ n) (hc : n ≤ c) (hmax : c ≤ maxLen) :
    Calls Try.prog 44 #[.slice (some ⟨g, 0, none⟩) n c, .int .i64 (m : Nat)] w (TailPost w g l n m) := by
  have H := Lib.hid h
  unfold maxLen at hmax
  have hmi : (m : Int) ≤ (n : Int) := by omega
  have hci : (n : Int) ≤ 9223372036854775807 := by omega
  have HM := Lib.hid (And.intro hm hc)
  have he : n - (n - m) = m := by omega
  clear h
  go_enter Try.func44, Try.ntmps44
  go_wp2
  all_goals go_ret
  all_goals first
    | exact ⟨_, _, rfl, sub_tail H.out HM.out.1, Fr.refl _ _, fun _ => rfl⟩
    | exact ⟨_, _, rfl, sub_none (rdlen H.out) (by have := HM.out; omega), Fr.refl _ _, fun q => absurd q (by have := HM.out; omega)⟩
set_option maxRecDepth 10000 in
set_option maxHeartbeats 1000000 in
theorem tail0_c {A : Option Addr} {c : Nat} {w : World} (hmax : c ≤ maxLen) :
    Calls Try.prog 44 #[.slice A 0 c, .int .i64 0] w fun e w' => ∃ A' c', e = .returned (.slice A' 0 c') ∧ Fr w w' Nix := by
  unfold maxLen at hmax
  go_enter Try.func44, Try.ntmps44
  go_wp2
  all_goals go_ret
  all_goals exact ⟨_, _, rfl, Fr.refl _ _⟩
def sameLoop (w : World) (a b : List Bool) (n m : Nat) (u : Value) (wr : World) : Prop :=
  ∃ k : Nat, m + k = n ∧ u = .int .i64 (k : Nat) ∧ a.take k = b.take k ∧ Fr w wr Nix
theorem take_eq {a b : List Bool} {k : Nat} {x : Bool} (h : a.take k = b.take k) (hx : a[k]? = some x) (hy : b[k]? = some x) : a.take (k + 1) = b.take (k + 1) := by
  rw [take_snoc hx, take_snoc hy, h]
theorem take_ne {a b : List Bool} {k : Nat} {x y : Bool} (hx : a[k]? = some x) (hy : b[k]? = some y) (hxy : x ≠ y) : decide (a = b) = false := by
  refine decide_eq_false fun e => ?_
  subst e
  rw [hx] at hy
  exact hxy (Option.some.inj hy)
set_option maxRecDepth 10000 in
set_option maxHeartbeats 4000000 in
theorem same_c {A B : Option Addr} {n c m d : Nat} {a b : List Bool} {w : World} (h : Rd w 1 A n (bls a)) (k : Rd w 1 B m (bls b)) (hn : n ≤ 1000000) (hm : m ≤ 1000000) :
    Calls Try.prog 37 #[.slice A n c, .slice B m d] w (Bpost w (decide (a = b))) := by
  have la := rdlen h
  have lb := rdlen k
  obtain ⟨s, hs⟩ : ∃ s, decide (a = b) = s := ⟨_, rfl⟩
  have HS := Lib.hid hs
  rw [hs]
  have H := Lib.hid (And.intro h k)
  have HL := Lib.hid (And.intro la lb)
  clear h k hs la lb
  by_cases hnm : n = m
  · subst hnm
    have hni : (n : Int) ≤ 1000000 := by omega
    go_enter Try.func37, Try.ntmps37
    go_wp2_with fail
    go_loopg [13] n (fun m u wr => sameLoop w a b n m u wr)
    case atStart => exact ⟨0, rfl, rfl, rfl, Fr.refl _ _⟩
    case round =>
      obtain ⟨k, hmk, rfl, ha, hF⟩ := hrel
      have HF := Lib.hid (And.intro ha hF)
      have HMK := Lib.hid hmk
      clear hF hmk ha
      by_cases hlt : k < n
      · obtain ⟨ad, x, rfl, hx, hcx⟩ := rdat (H.out.1.nix HF.out.2) hlt
        obtain ⟨bd, y, rfl, hy, hcy⟩ := rdat (H.out.2.nix HF.out.2) hlt
        have HX := Lib.hid (And.intro hx hy)
        clear hx hy
        have hki : (k : Int) < (n : Int) := by omega
        by_cases hxy : x = y
        · subst hxy
          cases x
          all_goals
            go_upto_region 6 with fail
            go_quiet (fail)
            go_wp2
            go_roundg (n - (k + 1))
            case measure => have := HMK.out; omega
            case rel => exact ⟨k + 1, by have := HMK.out; omega, by rw [Int.natCast_add]; rfl, take_eq HF.out.1 HX.out.1 HX.out.2, HF.out.2.t (Fr.drewN _ _ _)⟩
        · obtain rfl : s = false := by rw [← HS.out]; exact take_ne HX.out.1 HX.out.2 hxy
          have HXY := Lib.hid hxy
          clear hxy
          cases x <;> cases y
          all_goals first
            | exact absurd rfl HXY.out
            | (go_upto_region 6 with fail
               go_quiet (fail)
               go_wp2
               go_ret
               exact ⟨rfl, HF.out.2.t (Fr.drewN _ _ _)⟩)
      · have hk : k = n := by have := HMK.out; omega
        subst hk
        obtain rfl : s = true := by
          rw [← HS.out]
          have := HF.out.1
          rw [List.take_of_length_le (by rw [HL.out.1]; exact Nat.le_refl _), List.take_of_length_le (by rw [HL.out.2]; exact Nat.le_refl _)] at this
          exact decide_eq_true this
        go_wp2
        go_ret
        exact ⟨rfl, HF.out.2⟩
  · obtain rfl : s = false := by
      rw [← HS.out]
      refine decide_eq_false fun e => ?_
      subst e
      exact hnm (HL.out.1.symm.trans HL.out.2)
    have hb : ((n : Int) == (m : Int)) = false := by rw [beq_eq_false_iff_ne]; omega
    go_enter Try.func37, Try.ntmps37
    go_wp2
    go_ret
    exact ⟨rfl, Fr.refl _ _⟩
end Go.Proofs.Ytapnmgkpljlgmaa
