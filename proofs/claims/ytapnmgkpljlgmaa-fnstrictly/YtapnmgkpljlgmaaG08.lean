/- 'for k, v := range m' over a map from IDs to nodes, with a round that stores at a key that is there. aliasnodes: the second loop's invariant. -/
import Derived.Test.YtapnmgkpljlgmaaG01
import Derived.Maps.RangeRun
import Derived.Test.YtapnmgkpljlgmaaG06
set_option linter.unusedVariables false
set_option linter.unusedSimpArgs false
namespace Go.Proofs.Ytapnmgkpljlgmaa
open Go.RowKit
open Go.ChangeMaps (setBlock)

/-- The range under way: block b reads as f, block r is the iterator; 'done': the IDs that have come, newest first; cnt: how many are still to come. -/
def Rng (w : World) (b r : Nat) (f : Nat → Nat) (done : List Nat) (cnt : Nat) : Prop :=
  ∃ es clock seen, w.heap[b]? = some (.map es clock) ∧ Ents .i32 es.toList clock ∧
    (∀ e ∈ es.toList, ∃ id : Nat, e.key = .int .i32 (id : Nat) ∧ e.val = .int .u32 (f id : Nat) ∧ f id ≠ 0) ∧
    (∀ id : Nat, f id ≠ 0 → ∃ e ∈ es.toList, e.key = .int .i32 (id : Nat)) ∧
    w.heap[r]? = some (.mapIter (some b) clock seen clock) ∧ (leftOf es seen).size = cnt ∧
    (∀ e ∈ es.toList, ∀ id : Nat, e.key = .int .i32 (id : Nat) → (seen.contains e.born = true ↔ id ∈ done)) ∧ done.Nodup ∧ ∀ id ∈ done, f id ≠ 0

theorem pw_inj {α β : Type} (g : α → β) {x y : α} : ∀ l : List α, l.Pairwise (fun a b => g a ≠ g b) → x ∈ l → y ∈ l → g x = g y → x = y
  | [], _, h, _, _ => absurd h (by simp)
  | a :: l, hp, hx, hy, e => by
    obtain ⟨h1, h2⟩ := List.pairwise_cons.1 hp
    rcases List.mem_cons.1 hx with ha | ha <;> rcases List.mem_cons.1 hy with hb | hb
    · rw [ha, hb]
    · subst ha; exact absurd e (h1 _ hb)
    · subst hb; exact absurd e.symm (h1 _ ha)
    · exact pw_inj g l h2 ha hb e
theorem Ents.key_inj {q : IntKind} {es : List MapEntry} {clock : Nat} (h : Ents q es clock) {x y : MapEntry} (hx : x ∈ es) (hy : y ∈ es) (hk : x.key = y.key) : x = y :=
  pw_inj (fun e : MapEntry => e.key) es h.kn hx hy hk
theorem Rng.vmap {w : World} {b r : Nat} {f : Nat → Nat} {done : List Nat} {cnt : Nat} (h : Rng w b r f done cnt) : VMap w b f := by
  obtain ⟨es, clock, seen, h1, h2, h3, h4, _⟩ := h
  exact ⟨es, clock, h1, h2, h3, h4⟩
theorem Rng.nodup {w : World} {b r : Nat} {f : Nat → Nat} {done : List Nat} {cnt : Nat} (h : Rng w b r f done cnt) : done.Nodup ∧ ∀ id ∈ done, f id ≠ 0 := by
  obtain ⟨es, clock, seen, h1, h2, h3, h4, h5, h6, h7, h8⟩ := h
  exact h8
theorem Rng.kept {w w' : World} {b r : Nat} {f : Nat → Nat} {done : List Nat} {cnt : Nat} (h : Rng w b r f done cnt) (hb : w'.heap[b]? = w.heap[b]?) (hr : w'.heap[r]? = w.heap[r]?) : Rng w' b r f done cnt := by
  obtain ⟨es, clock, seen, h1, h2, h3, h4, h5, h6⟩ := h
  exact ⟨es, clock, seen, hb.trans h1, h2, h3, h4, hr.trans h5, h6⟩
theorem Rng.rlt {w : World} {b r : Nat} {f : Nat → Nat} {done : List Nat} {cnt : Nat} (h : Rng w b r f done cnt) : b < w.heap.size ∧ r < w.heap.size ∧ b ≠ r := by
  obtain ⟨es, clock, seen, h1, h2, h3, h4, h5, h6⟩ := h
  refine ⟨heap_lt h1, heap_lt h5, ?_⟩
  rintro rfl
  rw [h1] at h5; simp at h5

theorem VMap.range {w : World} {b : Nat} {f : Nat → Nat} (h : VMap w b f) :
    ∃ o, (Instr.range 103 (.map (some b))).run Try.prog w = .ok (.pointer (some ⟨w.heap.size, 0, none⟩)) (w.alloc o) ∧ ∃ cnt, Rng (w.alloc o) b w.heap.size f [] cnt := by
  obtain ⟨es, clock, h1, h2, h3, h4⟩ := h
  refine ⟨_, run_range_map (P := Try.prog) w _ _ _ b es clock Try.underlying103 h1, (leftOf es #[]).size, es, clock, #[], ?_, h2, h3, h4, heap_alloc_new _ _, rfl, ?_, by simp, by simp⟩
  · rw [heap_alloc_old _ _ (heap_lt h1)]; exact h1
  · intro e he id hk; simp

theorem Rng.next {w : World} {b r : Nat} {f : Nat → Nat} {done : List Nat} {cnt : Nat} (h : Rng w b r f done cnt) :
    ((∀ id, f id ≠ 0 → id ∈ done) ∧ ∀ ty, (Instr.next (.pointer (some ⟨r, 0, none⟩)) false ty).run Try.prog w = .ok (.tuple #[.bool false]) w) ∨
    ∃ (id : Nat) (w' : World) (cnt' : Nat), id ∉ done ∧ f id ≠ 0 ∧ cnt' < cnt ∧ Fr w w' (fun k => k = r) ∧ Rng w' b r f (id :: done) cnt' ∧
      (∀ ty, (Instr.next (.pointer (some ⟨r, 0, none⟩)) false ty).run Try.prog w = .ok (.tuple #[.bool true, .int .i32 (id : Nat), .int .u32 (f id : Nat)]) w') ∧
      (Instr.entry (.pointer (some ⟨r, 0, none⟩))).run Try.prog w' = .ok (.tuple #[.int .i32 (id : Nat), .int .u32 (f id : Nat)]) w' := by
  have hlt := h.rlt
  obtain ⟨es, clock, seen, h1, h2, h3, h4, h5, h6, h7, h8, h9⟩ := h
  have hn := fun ty => run_next_at (P := Try.prog) w ty r b clock clock seen es clock h5 h1 h2.lt (Nat.le_refl _)
  have hbn : (es.toList.map (·.born)).Nodup := List.pairwise_map.2 h2.st
  by_cases hs : (leftOf es seen).size = 0
  · refine .inl ⟨fun id hid => ?_, fun ty => ?_⟩
    · obtain ⟨e, he, hk⟩ := h4 id hid
      exact (h7 e he id hk).1 (all_seen es seen hs e he)
    · rcases hn ty with ⟨_, h⟩ | ⟨e, he, _⟩
      · exact h
      · have : (leftOf es seen).toList = [] := by rw [← List.length_eq_zero_iff]; simpa using hs
        rw [this] at he; cases he
  · rcases hn 0 with ⟨h, _⟩ | ⟨e, he, w1, hw1, hrun⟩
    · exact absurd h hs
    · obtain ⟨hes, hse⟩ := mem_left he
      obtain ⟨id, k1, k2, k3⟩ := h3 e hes
      have hF : Fr w (setBlock w1 r (.mapIter (some b) clock (seen.push e.born) clock)) (fun k => k = r) := by
        rcases hw1 with rfl | rfl
        · exact putObj_fr _ _ _
        · exact (Fr.drewN w 1 _).trans (putObj_fr (w.drewN 1) r _) fun _ h => .inl h
      have hr1 : r < w1.heap.size := by rcases hw1 with rfl | rfl <;> exact hlt.2.1
      have hb' : (setBlock w1 r (.mapIter (some b) clock (seen.push e.born) clock)).heap[b]? = some (.map es clock) := (hF.block b hlt.1 hlt.2.2).trans h1
      have hr' : (setBlock w1 r (.mapIter (some b) clock (seen.push e.born) clock)).heap[r]? = some (.mapIter (some b) clock (seen.push e.born) clock) := putObj_at (w := w1) _ hr1
      refine .inr ⟨id, _, _, fun hd => ?_, k3, ?_, hF, ⟨es, clock, seen.push e.born, hb', h2, h3, h4, hr', rfl, ?_, ?_, ?_⟩, fun ty => ?_, ?_⟩
      · rw [(h7 e hes id k1).2 hd] at hse; cases hse
      · rw [← h6]; exact left_shrinks es seen e he
      · intro x hx j hj
        rw [contains_push]
        by_cases hxe : x = e
        · subst hxe
          rw [k1] at hj; simp at hj; have hj : j = id := by omega
          subst hj; simp
        · have hb : (x.born == e.born) = false := by
            rw [beq_eq_false_iff_ne]
            exact fun hb => hxe (born_inj hbn hx hes hb)
          rw [hb, Bool.or_false, h7 x hx j hj]
          constructor
          · exact List.mem_cons_of_mem _
          · intro hm
            rcases List.mem_cons.1 hm with rfl | hm
            · exact absurd (Ents.key_inj h2 hx hes (hj.trans k1.symm)) hxe
            · exact hm
      · refine List.nodup_cons.2 ⟨fun hd => ?_, h8⟩
        rw [(h7 e hes id k1).2 hd] at hse; cases hse
      · intro j hj
        rcases List.mem_cons.1 hj with rfl | hj
        · exact k3
        · exact h9 j hj
      · rw [k1, k2] at hrun; exact hrun
      · have := run_entry_at (P := Try.prog) (setBlock w1 r (.mapIter (some b) clock (seen.push e.born) clock)) r b clock seen es clock e hr' hb' hes hbn
        rw [k1, k2] at this; exact this

/-- A store at a key that is there. -/
theorem Rng.put {w : World} {b r : Nat} {f : Nat → Nat} {done : List Nat} {cnt : Nat} (h : Rng w b r f done cnt) (id v : Nat) (hid : f id ≠ 0) (hv : v ≠ 0) :
    ∃ o, (Instr.mapUpdate 103 (.map (some b)) (.int .i32 (id : Nat)) (.int .u32 (v : Nat))).run Try.prog w = .ok () (putObj w b o) ∧ Rng (putObj w b o) b r (upd f id v) done cnt := by
  have hlt := h.rlt
  obtain ⟨es, clock, seen, h1, h2, h3, h4, h5, h6, h7, h8, h9⟩ := h
  obtain ⟨e0, he0, hk0⟩ := h4 id hid
  rcases h2.split (id : Nat) with hno | ⟨l, e, rr, hs, hek, hl, hrr⟩
  · obtain ⟨x, x1, x2⟩ := hno e0 he0
    rw [hk0] at x1; simp at x1; exact absurd x1.symm x2
  · refine ⟨_, run_update_some (P := Try.prog) (w := w) Try.underlying103 Try.underlying111 h1 hs hek hl _, ?_⟩
    have hr' : (putObj w b (.map (l ++ { e with val := .int .u32 (v : Nat) } :: rr).toArray clock)).heap[r]? = w.heap[r]? := (putObj_fr w b _).block r hlt.2.1 (fun h => hlt.2.2 h.symm)
    have hmem : ∀ x ∈ l ++ { e with val := .int .u32 (v : Nat) } :: rr, ∃ y ∈ es.toList, y.key = x.key ∧ y.born = x.born := by
      intro x hx
      rw [hs]
      simp only [List.mem_append, List.mem_cons] at hx ⊢
      rcases hx with hx | rfl | hx
      · exact ⟨x, .inl hx, rfl, rfl⟩
      · exact ⟨e, .inr (.inl rfl), rfl, rfl⟩
      · exact ⟨x, .inr (.inr hx), rfl, rfl⟩
    refine ⟨_, _, seen, putObj_at _ hlt.1, ?_, ?_, ?_, hr'.trans h5, ?_, ?_, h8, ?_⟩
    · rw [hs] at h2; exact h2.set _
    · intro x hx
      simp only [List.mem_append, List.mem_cons] at hx
      have other : ∀ x, (∃ y : Int, x.key = .int .i32 y ∧ y ≠ (id : Nat)) → x ∈ es.toList → ∃ i : Nat, x.key = .int .i32 (i : Nat) ∧ x.val = .int .u32 (upd f id v i : Nat) ∧ upd f id v i ≠ 0 := by
        rintro x ⟨y, y1, y2⟩ hx
        obtain ⟨i, k1, k2, k3⟩ := h3 x hx
        have hne : i ≠ id := by rintro rfl; rw [k1] at y1; simp at y1; exact y2 y1.symm
        exact ⟨i, k1, by simpa [upd, hne] using k2, by simpa [upd, hne] using k3⟩
      rcases hx with hx | rfl | hx
      · exact other x (hl x hx) (by rw [hs]; simp [hx])
      · exact ⟨id, hek, by simp [upd], by simpa [upd] using hv⟩
      · exact other x (hrr x hx) (by rw [hs]; simp [hx])
    · intro i hi
      by_cases hii : i = id
      · exact ⟨{ e with val := .int .u32 (v : Nat) }, by simp, by rw [hii]; exact hek⟩
      · obtain ⟨x, hx, hk⟩ := h4 i (by simpa [upd, hii] using hi)
        rw [hs] at hx
        simp only [List.mem_append, List.mem_cons] at hx
        rcases hx with hx | rfl | hx
        · exact ⟨x, by simp [hx], hk⟩
        · rw [hk] at hek; simp at hek; exact absurd (show i = id by omega) hii
        · exact ⟨x, by simp [hx], hk⟩
    · rw [← h6]
      have : es = (l ++ e :: rr).toArray := by rw [← hs]
      rw [this]
      simp [leftOf, List.filter_append, List.filter_cons]
      split <;> rfl
    · intro x hx j hj
      obtain ⟨y, hy, y1, y2⟩ := hmem x hx
      rw [← y2]
      exact h7 y hy j (y1.trans hj)
    · intro j hj
      by_cases hjj : j = id
      · simpa [upd, hjj] using hv
      · simpa [upd, hjj] using h9 j hj

theorem Rep.undo_app_v {w wa w1 : World} {p : Nat} {S : PS} {L : Lay} (h : Rep w p S L) (ha : Fr w wa Nix) {g cap : Nat} {u : Un}
    (hown : w1.ownsRow 0 133 4 (.slice (some ⟨g, 0, none⟩) (S.lg.length + 1) cap) (S.lg.length + 1) (unCells S.lg.reverse ++ unCell u))
    (hg : wa.grownBy w1 L.uv.ownBlock) (hn : L.uv.ownBlock = some g ∨ wa.heap.size ≤ g) :
    w1.cell? ⟨p, 6, none⟩ = some L.uv ∧ w1.frozen? ⟨p, 6, none⟩ = false ∧
    ∃ L', Rep (w1.setCell ⟨p, 6, none⟩ (.slice (some ⟨g, 0, none⟩) (S.lg.length + 1) cap)) p (S.push u) L' ∧ Ext w (w1.setCell ⟨p, 6, none⟩ (.slice (some ⟨g, 0, none⟩) (S.lg.length + 1) cap)) L L' ∧ L'.vb = L.vb ∧
      (w1.setCell ⟨p, 6, none⟩ (.slice (some ⟨g, 0, none⟩) (S.lg.length + 1) cap)).heap[L.vb]? = w.heap[L.vb]? := by
  obtain ⟨h1, h2, L', h3, h4, _⟩ := h.undo_app ha hown hg hn
  refine ⟨h1, h2, L', h3, h4, ?_, ?_⟩
  · have f1 : Fr w w1 (fun k => L.uv.ownBlock = some k) := (ha.mono fun _ e => e.elim).trans (Fr.grown (F := fun k => L.uv.ownBlock = some k) hg fun k hk => hk) fun i hi => .inl hi
    obtain ⟨_, _, _, _, _, hp1⟩ := h.but f1 [133] fun k hk _ => by obtain ⟨cur, hc⟩ := own_type h.hu hk; exact ⟨cur, _, _, hc, by simp⟩
    have hp1 := (hp1 (by decide)).trans h.hp
    have := h3.hp
    rw [set_block _ hp1] at this
    simp at this
    exact this.2.1.symm
  · have f1 : Fr w w1 (fun k => L.uv.ownBlock = some k) := (ha.mono fun _ e => e.elim).trans (Fr.grown (F := fun k => L.uv.ownBlock = some k) hg fun k hk => hk) fun i hi => .inl hi
    have f2 : Fr w (w1.setCell ⟨p, 6, none⟩ (.slice (some ⟨g, 0, none⟩) (S.lg.length + 1) cap)) (fun k => L.uv.ownBlock = some k ∨ k = p) :=
      (f1.mono fun _ => .inl).trans (Fr.setCell (F := fun k => k = p) _ _ _ rfl) fun i hi => .inl (.inr hi)
    obtain ⟨es, cl, hb, _⟩ := h.hv
    refine f2.block _ (heap_lt hb) ?_
    rintro (hk | hk)
    · obtain ⟨cur, hc⟩ := own_type h.hu hk
      rw [hb] at hc; simp at hc
    · rw [hk, h.hp] at hb; simp at hb

set_option maxHeartbeats 400000 in
theorem upushalias_v {w : World} {p : Nat} {S : PS} {L : Lay} (h : Rep w p S L) (id i : Nat) (hl : S.lg.length < Lim) :
    Calls Try.prog 133 #[.pointer (some ⟨p, 0, none⟩), .int .i32 (id : Nat), .int .u32 (i : Nat)] w fun r w' => r = .returned (.tuple #[]) ∧ ∃ L', Rep w' p (S.push ⟨6, i, id, 0⟩) L' ∧ Ext w w' L L' ∧ L'.vb = L.vb ∧ w'.heap[L.vb]? = w.heap[L.vb]? := by
  have hc : w.cell? ⟨p, 6, none⟩ = some L.uv := by rw [cell_block h.hp]; rfl
  have hu := h.hu
  have H := Lib.hid h
  have HL := Lib.hid hl
  clear h hl
  go_enter Try.func133, Try.ntmps133
  go_wp2_with (at_builtin; refine wpList_app _ rfl _ _ 107 rfl 133 _ 4 16 Try.underlying107 info_un rfl (by decide) _ _ _ rfl (hu.alloc _) ⟨w.heap.size, 0, none⟩ 1 1 (unCell ⟨6, i, id, 0⟩) rfl rfl (by decide) (cells_new _ _ _) (un_one _) (lim16 HL.out) (lim1 HL.out) ?_)
  intro g cap w1 hown hgrow hnew
  obtain ⟨hc1, hf1, hR⟩ := H.out.undo_app_v (Fr.alloc _ _ _) hown hgrow (by simpa using hnew)
  have HR := Lib.hid hR
  clear hown hgrow hnew hR hc hu
  go_wp2
  go_end0
  exact ⟨rfl, HR.out⟩
end Go.Proofs.Ytapnmgkpljlgmaa
namespace Go.Proofs.Ytapnmgkpljlgmaa
open Go.RowKit

def PS.alF (S : PS) (i1 : Nat) (T : Nat → Bool) (done : List Nat) : Nat → Nat := fun id => if id ∈ done ∧ T (S.vl id) = true then i1 else S.vl id
def PS.alLog (S : PS) (T : Nat → Bool) (done : List Nat) : List Un := (done.filter fun id => T (S.vl id)).map fun id => ⟨6, S.vl id, id, 0⟩
/-- The state behind the second loop; 'done': the IDs in the order in which they came, newest first. -/
def PS.alE (S : PS) (i1 : Nat) (T : Nat → Bool) (done : List Nat) : PS := { S with vl := S.alF i1 T done, lg := S.alLog T done ++ S.lg }

theorem PS.alE_nil (S : PS) (i1 : Nat) (T : Nat → Bool) : S.alE i1 T [] = S := by
  unfold PS.alE PS.alF PS.alLog; simp
theorem PS.alF_new {S : PS} {i1 : Nat} {T : Nat → Bool} {done : List Nat} {id : Nat} (h : id ∉ done) : S.alF i1 T done id = S.vl id := if_neg fun e => h e.1
theorem PS.alF_no {S : PS} {i1 : Nat} {T : Nat → Bool} {done : List Nat} {id : Nat} (ht : T (S.vl id) = false) : S.alF i1 T (id :: done) = S.alF i1 T done := by
  funext j
  unfold PS.alF
  by_cases e : j = id
  · subst e; rw [if_neg (by rw [ht]; simp), if_neg (by rw [ht]; simp)]
  · simp [e]
theorem PS.alF_yes {S : PS} {i1 : Nat} {T : Nat → Bool} {done : List Nat} {id : Nat} (ht : T (S.vl id) = true) : S.alF i1 T (id :: done) = upd (S.alF i1 T done) id i1 := by
  funext j
  unfold PS.alF upd
  by_cases e : j = id
  · subst e; rw [if_pos rfl, if_pos ⟨by simp, ht⟩]
  · simp [e]
theorem PS.alE_no {S : PS} {i1 : Nat} {T : Nat → Bool} {done : List Nat} {id : Nat} (ht : T (S.vl id) = false) : S.alE i1 T (id :: done) = S.alE i1 T done := by
  unfold PS.alE PS.alLog; rw [PS.alF_no ht, List.filter_cons_of_neg (by rw [ht]; simp)]
theorem PS.alE_yes {S : PS} {i1 : Nat} {T : Nat → Bool} {done : List Nat} {id : Nat} (ht : T (S.vl id) = true) :
    S.alE i1 T (id :: done) = ({ (S.alE i1 T done) with vl := upd (S.alF i1 T done) id i1 } : PS).push ⟨6, S.vl id, id, 0⟩ := by
  unfold PS.alE PS.alLog PS.push; rw [PS.alF_yes ht, List.filter_cons_of_pos (by simpa using ht)]; rfl
theorem PS.alE_lg (S : PS) (i1 : Nat) (T : Nat → Bool) (done : List Nat) : (S.alE i1 T done).lg.length ≤ done.length + S.lg.length := by
  simp only [PS.alE, PS.alLog, List.length_append, List.length_map]
  have := List.length_filter_le (fun id => T (S.vl id)) done
  omega
theorem nodup_bound : ∀ (n : Nat) (l : List Nat), l.Nodup → (∀ x ∈ l, x < n) → l.length ≤ n
  | 0, l, _, h => by
    cases l with
    | nil => simp
    | cons a l => exact absurd (h a (by simp)) (by omega)
  | n + 1, l, hn, h => by
    have h1 := nodup_bound n (l.filter (· ≠ n)) (hn.filter _) (fun x hx => by
      have := List.mem_filter.1 hx
      have h2 := h x this.1
      have h3 : x ≠ n := by simpa using this.2
      omega)
    have h2 : l.length ≤ (l.filter (· ≠ n)).length + 1 := by
      clear h1 h
      induction l with
      | nil => simp
      | cons a l ih =>
        obtain ⟨h3, h4⟩ := List.nodup_cons.1 hn
        by_cases e : a = n
        · subst e
          have : l.filter (· ≠ a) = l := List.filter_eq_self.2 fun x hx => by
            have : x ≠ a := by rintro rfl; exact h3 hx
            simpa using this
          rw [List.filter_cons_of_neg (by simp), this]; simp
        · rw [List.filter_cons_of_pos (by simpa using e)]
          have := ih h4
          simp only [List.length_cons]; omega
    omega

structure BInv (A : AFix) (S : PS) (r : Nat) (wr : World) (Lk : Lay) (done : List Nat) (cnt : Nat) : Prop where
  rng : Rng wr Lk.vb r (S.alF A.i1 A.T done) done cnt
  rep : Rep wr A.p (S.alE A.i1 A.T done) Lk
  ext : Ext A.w wr A.L Lk
  bits : Bits wr A.gT ((A.S.nodes.length + 63) / 64) A.cT A.T
  out : ¬ Lk.own A.gT
  rn : A.w.heap.size ≤ r
  ro : ¬ Lk.own r
  rt : A.gT ≠ r
  dv : ∀ j ∈ done, S.vl j ≠ 0
/-- What holds in the midst of the round. -/
structure BMid (A : AFix) (S : PS) (r : Nat) (w' : World) (Lk : Lay) (done : List Nat) (id cnt : Nat) : Prop where
  rng : Rng w' Lk.vb r (S.alF A.i1 A.T done) (id :: done) cnt
  rep : Rep w' A.p (S.alE A.i1 A.T done) Lk
  ext : Ext A.w w' A.L Lk
  bits : Bits w' A.gT ((A.S.nodes.length + 63) / 64) A.cT A.T
  out : ¬ Lk.own A.gT
  rn : A.w.heap.size ≤ r
  ro : ¬ Lk.own r
  rt : A.gT ≠ r
  dv : ∀ j ∈ id :: done, S.vl j ≠ 0

theorem AInv.range {A : AFix} {m na nb : Nat} {S : PS} {wr : World} {Lk : Lay} (h : AInv A m na nb S wr Lk) :
    ∃ o, (Instr.range 103 (.map (some Lk.vb))).run Try.prog wr = .ok (.pointer (some ⟨wr.heap.size, 0, none⟩)) (wr.alloc o) ∧ ∃ cnt, BInv A S wr.heap.size (wr.alloc o) Lk [] cnt := by
  obtain ⟨o, h1, cnt, h2⟩ := h.rep.hv.range
  have e : S.alF A.i1 A.T [] = S.vl := by funext j; simp [PS.alF]
  have hi := h.nix (Fr.alloc wr o _)
  refine ⟨o, h1, cnt, by rw [e]; exact h2, by rw [PS.alE_nil]; exact hi.rep, hi.ext, hi.bits, hi.out, h.ext.fr.size, fun ho => ?_, ?_, by simp⟩
  · exact Nat.lt_irrefl _ (h.rep.lt _ ho)
  · have := h.bits.lt; omega

theorem BInv.test {A : AFix} {S : PS} {r : Nat} {wr : World} {Lk : Lay} {done : List Nat} {cnt : Nat} (h : BInv A S r wr Lk done cnt) {k x : Nat} (hk : (A.S.nodes.length + 63) / 64 = k) (hx : x < A.S.nodes.length) (hl : A.S.nodes.length < 2147483648) :
    Calls Try.prog 127 #[.slice (some ⟨A.gT, 0, none⟩) k A.cT, .int .u32 (x : Nat)] wr fun r w' => r = .returned (.bool (A.T x)) ∧ wr = w' := by
  subst hk
  exact Test_c h.bits x (by omega) (by omega)

theorem BInv.next {A : AFix} {S : PS} {r : Nat} {wr : World} {Lk : Lay} {done : List Nat} {cnt : Nat} (h : BInv A S r wr Lk done cnt) :
    ((∀ id, id ∈ done ↔ S.vl id ≠ 0) ∧ ∀ ty, (Instr.next (.pointer (some ⟨r, 0, none⟩)) false ty).run Try.prog wr = .ok (.tuple #[.bool false]) wr) ∨
    ∃ (id : Nat) (w' : World) (cnt' : Nat), S.vl id ≠ 0 ∧ cnt' < cnt ∧ BMid A S r w' Lk done id cnt' ∧
      (∀ ty, (Instr.next (.pointer (some ⟨r, 0, none⟩)) false ty).run Try.prog wr = .ok (.tuple #[.bool true, .int .i32 (id : Nat), .int .u32 (S.vl id : Nat)]) w') ∧
      (Instr.entry (.pointer (some ⟨r, 0, none⟩))).run Try.prog w' = .ok (.tuple #[.int .i32 (id : Nat), .int .u32 (S.vl id : Nat)]) w' := by
  rcases h.rng.next with h1 | ⟨id, w', cnt', h1, h2, h3, h4, h5, h6, h7⟩
  · refine .inl ⟨fun id => ⟨h.dv id, fun hv => ?_⟩, h1.2⟩
    by_cases hd : id ∈ done
    · exact hd
    · exact h1.1 id (by rw [PS.alF_new hd]; exact hv)
  · rw [PS.alF_new h1] at h2 h6 h7
    exact .inr ⟨id, w', cnt', h2, h3, ⟨h5, h.rep.kept h4 (fun g hg e => h.ro (e ▸ hg)), ⟨h.ext.fr.trans h4 (fun i hi => .inr (hi ▸ h.rn)), h.ext.own⟩, h.bits.kept (h4.block _ h.bits.lt h.rt), h.out, h.rn, h.ro, h.rt, fun j hj => by
      rcases List.mem_cons.1 hj with rfl | hj
      · exact h2
      · exact h.dv j hj⟩, h6, h7⟩

theorem BMid.no {A : AFix} {S : PS} {r : Nat} {w' : World} {Lk : Lay} {done : List Nat} {id cnt : Nat} (h : BMid A S r w' Lk done id cnt) (ht : A.T (S.vl id) = false) : BInv A S r w' Lk (id :: done) cnt :=
  ⟨by rw [PS.alF_no ht]; exact h.rng, by rw [PS.alE_no ht]; exact h.rep, h.ext, h.bits, h.out, h.rn, h.ro, h.rt, h.dv⟩
theorem BMid.test {A : AFix} {S : PS} {r : Nat} {w' : World} {Lk : Lay} {done : List Nat} {id cnt : Nat} (h : BMid A S r w' Lk done id cnt) {k x : Nat} (hk : (A.S.nodes.length + 63) / 64 = k) (hx : x < A.S.nodes.length) (hl : A.S.nodes.length < 2147483648) :
    Calls Try.prog 127 #[.slice (some ⟨A.gT, 0, none⟩) k A.cT, .int .u32 (x : Nat)] w' fun r w2 => r = .returned (.bool (A.T x)) ∧ w' = w2 := by
  subst hk
  exact Test_c h.bits x (by omega) (by omega)

structure BPut (A : AFix) (S : PS) (r : Nat) (w' : World) (Lk : Lay) (done : List Nat) (id cnt : Nat) : Prop where
  rng : Rng w' Lk.vb r (upd (S.alF A.i1 A.T done) id A.i1) (id :: done) cnt
  rep : Rep w' A.p { (S.alE A.i1 A.T done) with vl := upd (S.alF A.i1 A.T done) id A.i1 } Lk
  ext : Ext A.w w' A.L Lk
  bits : Bits w' A.gT ((A.S.nodes.length + 63) / 64) A.cT A.T
  out : ¬ Lk.own A.gT
  rn : A.w.heap.size ≤ r
  ro : ¬ Lk.own r
  rt : A.gT ≠ r
  dv : ∀ j ∈ id :: done, S.vl j ≠ 0
theorem BMid.put {A : AFix} {S : PS} {r : Nat} {w' : World} {Lk : Lay} {done : List Nat} {id cnt : Nat} (h : BMid A S r w' Lk done id cnt) (hi : A.i1 ≠ 0) :
    ∃ w2, (Instr.mapUpdate 103 (.map (some Lk.vb)) (.int .i32 (id : Nat)) (.int .u32 (A.i1 : Nat))).run Try.prog w' = .ok () w2 ∧ BPut A S r w2 Lk done id cnt := by
  obtain ⟨o, h1, h2⟩ := h.rng.put id A.i1 (h.rng.nodup.2 id (by simp)) hi
  obtain ⟨h3, h4⟩ := h.rep.val_put h2.vmap
  refine ⟨_, h1, h2, h3, h.ext.trans h4, h.bits.kept ((putObj_fr w' Lk.vb o).block _ h.bits.lt ?_), h.out, h.rn, h.ro, h.rt, h.dv⟩
  intro e; exact h.out (e ▸ h.rep.ov)
theorem BPut.push {A : AFix} {S : PS} {r : Nat} {w' : World} {Lk : Lay} {done : List Nat} {id cnt : Nat} (h : BPut A S r w' Lk done id cnt) (ht : A.T (S.vl id) = true) (hl : S.lg.length + done.length < Lim) :
    Calls Try.prog 133 #[.pointer (some ⟨A.p, 0, none⟩), .int .i32 (id : Nat), .int .u32 (S.vl id : Nat)] w' fun e w2 => e = .returned (.tuple #[]) ∧ ∃ L', BInv A S r w2 L' (id :: done) cnt := by
  refine (upushalias_v h.rep id (S.vl id) (by have := PS.alE_lg S A.i1 A.T done; show (S.alE A.i1 A.T done).lg.length < Lim; omega)).mono ?_
  rintro e w2 ⟨rfl, L', h1, h2, h3, h4⟩
  have hlt := h.rng.rlt
  have hb := h.bits.lt
  refine ⟨rfl, L', ?_, by rw [PS.alE_yes ht]; exact h1, h.ext.trans h2, h.bits.kept (h2.fr.block _ h.bits.lt h.out), ?_, h.rn, ?_, h.rt, h.dv⟩
  · rw [PS.alF_yes ht, h3]
    exact h.rng.kept h4 (h2.fr.block _ hlt.2.1 h.ro)
  · intro ho
    rcases h2.own _ ho with h5 | h5
    · exact h.out h5
    · omega
  · intro ho
    rcases h2.own _ ho with h5 | h5
    · exact h.ro h5
    · omega
theorem BInv.len {A : AFix} {S : PS} {r : Nat} {wr : World} {Lk : Lay} {done : List Nat} {cnt : Nat} (h : BInv A S r wr Lk done cnt) (hid : ∀ id, S.vl id ≠ 0 → id < 1000) : done.length ≤ 1000 := by
  exact nodup_bound 1000 done h.rng.nodup.1 fun x hx => hid x (h.dv x hx)
end Go.Proofs.Ytapnmgkpljlgmaa
