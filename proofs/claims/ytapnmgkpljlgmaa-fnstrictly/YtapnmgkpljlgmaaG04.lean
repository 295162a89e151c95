/- slices.Delete of one root; removeroot. What becomes of the old row of nodes when a new one is made: setchl, setchr, upush, newnode once more, with that said. addchild, mergeroot. -/
import Derived.Test.YtapnmgkpljlgmaaG03
import Derived.Deep.RegionLaw
set_option linter.unusedVariables false
set_option linter.unusedSimpArgs false
namespace Go.Proofs.Ytapnmgkpljlgmaa
open Go.RowKit

/-- What an in-place delete of place i leaves in the row. -/
theorem delete_run {w : World} {g n cap i : Nat} {l : List Nat} (h : w.ownsRow 0 108 1 (.slice (some ⟨g, 0, none⟩) n cap) n (u32Cells l)) (hl : l.length = n) (hi : i < n) (a : Addr) (ha : i + 1 ≠ cap → a = ⟨g, i + 1, none⟩) (ty : TypeId) :
    ∃ W1, (Builtin.append_ #[105, 105] ty #[.slice (some ⟨g, 0, none⟩) i cap, .slice (some a) (n - (i + 1)) (cap - (i + 1))]).run Try.prog w.drew = .ok (.slice (some ⟨g, 0, none⟩) (n - 1) cap) W1 ∧
      (∀ ty, ∃ W2, (Builtin.clear_ #[105] ty #[.slice (some ⟨g, n - 1, none⟩) (n - (n - 1)) (cap - (n - 1))]).run Try.prog W1 = .ok (.tuple #[]) W2 ∧
        W2.ownsRow 0 108 1 (.slice (some ⟨g, 0, none⟩) (n - 1) cap) (n - 1) (u32Cells (l.eraseIdx i)) ∧ Fr w W2 (· = g)) := by
  obtain ⟨hx, h2⟩ := h
  rcases h2 with ⟨h0, _⟩ | ⟨g', cap', cur, h0, b1, b2, b3, b4, b5, b6⟩
  · simp at h0
  simp only [Value.slice.injEq, Option.some.injEq, Addr.mk.injEq, and_true, true_and] at h0
  obtain ⟨rfl, rfl⟩ := h0
  obtain ⟨i0, hi0, hz0, hz1, hz2⟩ := info_parts (info_u32)
  have hcu : (u32Cells l).length = n := by rw [u32_len, hl, Nat.mul_one]
  have hcur : ∀ j, j < n → cur[j]? = (u32Cells l)[j]? := by
    intro j hj
    rw [← b6, List.getElem?_take, if_pos (by omega)]; simp
  obtain ⟨news, hnews⟩ : ∃ news, news = (u32Cells l).drop (i + 1) := ⟨_, rfl⟩
  have hnl : news.length = (n - (i + 1)) * i0.size := by rw [hnews, hz1]; simp [hcu]
  have hcell : ∀ j u, news[j]? = some u → w.drew.cell? (a.add j) = some u := by
    intro j u hu
    have hj : j < n - (i + 1) := by
      have := (List.getElem?_eq_some_iff.1 hu).1
      rw [hnl, hz1] at this; omega
    rw [ha (by omega)]
    have hadd : (⟨g, i + 1, none⟩ : Addr).add j = ⟨g, i + 1 + j, none⟩ := by unfold Addr.add; split <;> simp_all
    have hcw : w.drew.heap[g]? = some (.cells cur 108 (0, 0)) := b2
    rw [hadd, cell_block hcw, hcur _ (by omega), ← hu, hnews, List.getElem?_drop]
  have h1 : ∀ u ∈ news, u.oneCell' = true := by
    intro u hu
    rw [hnews] at hu
    have := List.mem_of_mem_drop hu
    rw [u32_cells_eq] at this
    simp at this
    obtain ⟨x, _, rfl⟩ := this
    rfl
  have hr := run_append_room (P := Try.prog) w.drew 105 ty 108 i0 Try.underlying105 hi0 g i cap cur b2 a (n - (i + 1)) (cap - (i + 1)) news hnl hcell h1 (by omega) (by rw [hnl, hz1]; omega)
  rw [hz1, Nat.mul_one, show i + (n - (i + 1)) = n - 1 by omega] at hr
  refine ⟨_, hr, fun ty => ?_⟩
  have hlen : news.length = n - (i + 1) := by rw [hnl, hz1, Nat.mul_one]
  obtain ⟨cur1, hcur1⟩ : ∃ c, c = (cur.toList.take i ++ news ++ cur.toList.drop (i + news.length)).toArray := ⟨_, rfl⟩
  have hb1 : (w.drew.setRow g cur1).heap[g]? = some (.cells cur1 108 (0, 0)) := setRow_heap w.drew g cur _ _ _ b2
  have hsz : cur1.size = cap := by rw [hcur1]; simp [hlen]; omega
  rw [← hcur1, show n - (n - 1) = 1 by omega]
  have hcl := Lib.run_clear_slice (P := Try.prog) (w.drew.setRow g cur1) 105 108 ty (.int .u32 0) Try.underlying105 (fun _ => by kernel_rfl) rfl rfl g (n - 1) 1 (cap - (n - 1)) (by omega)
    (by intro j hj; rw [cell_block hb1, Array.getElem?_eq_getElem (by omega)]; rfl) (fun j _ => frozen_block hb1)
  obtain ⟨cur', c1, c2, c3, _, c5⟩ := setCells_block g 108 (List.replicate 1 (.int .u32 0)) (n - 1) (w.drew.setRow g cur1) cur1 hb1 (by simp; omega)
  refine ⟨_, hcl, ⟨?_, .inr ⟨g, cap, cur', rfl, Nat.zero_le _, c1, by omega, b4, by omega, ?_⟩⟩, ?_⟩
  · rw [u32_len, List.length_eraseIdx_of_lt (by omega)]; omega
  · apply List.ext_getElem?
    intro j
    rw [List.getElem?_take]
    by_cases hj : j < n - 1
    · rw [if_pos (by omega), Array.getElem?_toList, c3 j hj, hcur1, u32_cells_eq, List.getElem?_map, List.getElem?_eraseIdx]
      simp only [List.getElem?_toArray]
      by_cases hji : j < i
      · rw [if_pos hji, List.getElem?_append_left (by simp; omega), List.getElem?_append_left (by simp; omega), List.getElem?_take, if_pos hji, Array.getElem?_toList, hcur j (by omega), u32_cells_eq, List.getElem?_map]
      · rw [if_neg hji, List.getElem?_append_left (by simp [hlen]; omega), List.getElem?_append_right (by simp; omega), hnews, List.getElem?_drop, u32_cells_eq, List.getElem?_map]
        have e : i + 1 + (j - (List.take i cur.toList).length) = j + 1 := by simp; omega
        rw [e]
    · have h1 := u32_len (l.eraseIdx i)
      have h2 := List.length_eraseIdx_of_lt (l := l) (i := i) (by omega)
      have h3 : (u32Cells (l.eraseIdx i))[j]? = none := List.getElem?_eq_none (by omega)
      have h4 : ¬ j < (n - 1) * 1 := by omega
      rw [if_neg h4, h3]
  · refine Fr.trans (F := fun k => k = g) (b := w.drew.setRow g cur1) ?_ c5 fun _ => .inl
    exact ⟨rfl, rfl, rfl, by simp, fun k _ hk => setRow_other w.drew g k _ hk⟩

theorem step_append_eq {P : Program} {ops : Array Oper} {o : Oper} {a : Act} {w : World} {K : Act → World → Prop} {Q : Exit → Act → World → Prop} {E : Prop}
    (hg : o.guard = none) (s x : Operand) (t : TypeId) (hop : o.op = Op.call { callee := Callee.builtin Builtin.append, args := #[s, x], argTypes := #[t, t] }) (sv xv v : Value) (W1 : World)
    (hs : a.eval s = sv) (hx : a.eval x = xv) (hrun : (Builtin.append_ #[t, t] o.type #[sv, xv]).run P w = .ok v W1) (hK : K (a.put o.dst v) W1) :
    if Region.wanted o (yielded ops a.tmps) = true then Oper.wp P o a w K Q else E := by
  have hw : Region.wanted o (yielded ops a.tmps) = true := by simp [Region.wanted, hg]
  rw [if_pos hw]
  unfold Oper.wp
  simp [execOp, hop, resolve, invoke, builtin, hs, hx, hrun, Result.andThen]
  exact hK

set_option maxRecDepth 5000 in
set_option maxHeartbeats 1000000 in
theorem Delete_c {w : World} {g n cap i : Nat} {l : List Nat} (h : w.ownsRow 0 108 1 (.slice (some ⟨g, 0, none⟩) n cap) n (u32Cells l)) (hl : l.length = n) (hi : i < n) (hcap : n ≤ cap) :
    Calls Try.prog 138 #[.slice (some ⟨g, 0, none⟩) n cap, .int .i64 (i : Nat), .int .i64 ((i : Int) + 1)] w fun e w' => e = .returned (.slice (some ⟨g, 0, none⟩) (n - 1) cap) ∧
      w'.ownsRow 0 108 1 (.slice (some ⟨g, 0, none⟩) (n - 1) cap) (n - 1) (u32Cells (l.eraseIdx i)) ∧ Fr w w' (· = g) := by
  have hb : ((i : Int) == (i : Int) + 1) = false := by rw [beq_eq_false_iff_ne]; omega
  have hic : i ≤ cap := by omega
  have hin : (i : Int) + 1 ≤ (n : Int) := by omega
  have hin0 : (0 : Int) ≤ (i : Int) + 1 := by omega
  by_cases hc : cap = i + 1
  · have hc' : (cap = i + 1) = True := by simp [hc]
    obtain ⟨W1, hrun, hrest⟩ := delete_run h hl hi ⟨g, 0, none⟩ (fun e => absurd hc.symm e) 105
    obtain ⟨W2, hrun2, hR⟩ := hrest 0
    have HR := Lib.hid hR
    have HC := Lib.hid hc
    clear hc
    have HX := Lib.hid hrun
    clear h hrest hR hrun
    go_enter Try.func138, Try.ntmps138
    go_wp2
    go_region_law (refine step_append_eq rfl (.tmp 22) (.tmp 25) 105 rfl _ _ _ W1 (by simp [Act.eval, Act.put]) (by simp [Act.eval, Act.put]) HX.out ?_)
    all_goals go_wp2
    all_goals go_ret
    all_goals exact ⟨rfl, HR.out⟩
  · have hc' : (cap = i + 1) = False := by simp [hc]
    obtain ⟨W1, hrun, hrest⟩ := delete_run h hl hi ⟨g, i + 1, none⟩ (fun _ => rfl) 105
    obtain ⟨W2, hrun2, hR⟩ := hrest 0
    have HR := Lib.hid hR
    have HC := Lib.hid hc
    clear hc
    have HX := Lib.hid hrun
    clear h hrest hR hrun
    go_enter Try.func138, Try.ntmps138
    go_wp2
    go_region_law (refine step_append_eq rfl (.tmp 22) (.tmp 25) 105 rfl _ _ _ W1 (by simp [Act.eval, Act.put]) (by simp [Act.eval, Act.put]) HX.out ?_)
    all_goals go_wp2
    all_goals go_ret
    all_goals exact ⟨rfl, HR.out⟩

theorem mem_erase_nodup {l : List Nat} (h : l.Nodup) {o : Nat} : ∀ {k : Nat}, l[k]? = some o → ∀ r, r ∈ l.eraseIdx k ↔ r ∈ l ∧ r ≠ o := by
  induction l with
  | nil => intro k hk; simp at hk
  | cons a l ih =>
    intro k hk r
    simp only [List.nodup_cons] at h
    cases k with
    | zero =>
      simp at hk; subst hk
      simp only [List.eraseIdx_cons_zero, List.mem_cons]
      constructor
      · intro h1; exact ⟨.inr h1, fun e => h.1 (e ▸ h1)⟩
      · rintro ⟨h1 | h1, h2⟩
        · exact absurd h1 h2
        · exact h1
    | succ k =>
      have hk' : l[k]? = some o := by simpa using hk
      have hao : a ≠ o := fun e => h.1 (e ▸ List.mem_of_getElem? hk')
      simp only [List.eraseIdx_cons_succ, List.mem_cons, ih h.2 hk']
      constructor
      · rintro (h1 | ⟨h1, h2⟩)
        · exact ⟨.inl h1, h1 ▸ hao⟩
        · exact ⟨.inr h1, h2⟩
      · rintro ⟨h1 | h1, h2⟩
        · exact .inl h1
        · exact .inr ⟨h1, h2⟩

/-- A root has been deleted out of the row, and the row stored back. -/
theorem Rep.roots_del {w w1 : World} {p : Nat} {S : PS} {L : Lay} (h : Rep w p S L) {g cap k o n : Nat} (hv : L.rv = .slice (some ⟨g, 0, none⟩) n cap) (hn : L.rl.length = n) (hk : k < n) (ho : L.rl.getD k 0 = o)
    (hown : w1.ownsRow 0 108 1 (.slice (some ⟨g, 0, none⟩) (n - 1) cap) (n - 1) (u32Cells (L.rl.eraseIdx k))) (hf : Fr w w1 (· = g)) :
    w1.cell? ⟨p, 4, none⟩ = some L.rv ∧ w1.frozen? ⟨p, 4, none⟩ = false ∧
    ∃ L', Rep (w1.setCell ⟨p, 4, none⟩ (.slice (some ⟨g, 0, none⟩) (n - 1) cap)) p { S with rt := upd S.rt o false } L' ∧ Ext w (w1.setCell ⟨p, 4, none⟩ (.slice (some ⟨g, 0, none⟩) (n - 1) cap)) L L' := by
  have hgo : L.own g := h.orr g (by rw [hv]; rfl)
  obtain ⟨cur0, hg⟩ := own_type h.hr (k := g) (by rw [hv]; rfl)
  obtain ⟨_, _, _, _, _, hp1⟩ := h.but hf [108] (by rintro j rfl _; exact ⟨_, _, _, hg, by simp⟩)
  have hp1 := (hp1 (by decide)).trans h.hp
  have f2 : Fr w (w1.setCell ⟨p, 4, none⟩ (.slice (some ⟨g, 0, none⟩) (n - 1) cap)) (fun k => k = g ∨ k = p) :=
    (hf.mono fun _ => .inl).trans (Fr.setCell (F := fun k => k = p) _ _ _ rfl) fun i hi => .inl (.inr hi)
  obtain ⟨b1, _, b3, b4, b5, _⟩ := h.but f2 [108, 110] fun k hk _ => by
    rcases hk with rfl | rfl
    · exact ⟨_, _, _, hg, by simp⟩
    · exact ⟨_, _, _, h.hp, by simp⟩
  have hgp : g ≠ p := by
    rintro rfl
    obtain ⟨cur, hc⟩ := own_type hown (k := g) rfl
    rw [hp1] at hc; simp at hc
  have hok : L.rl[k]? = some o := by rw [← ho, List.getD_eq_getElem?_getD, List.getElem?_eq_getElem (by omega)]; rfl
  have hel : (L.rl.eraseIdx k).length = n - 1 := by rw [List.length_eraseIdx_of_lt (by omega)]; omega
  refine ⟨by rw [cell_block hp1]; rfl, frozen_block hp1, ⟨L.vb, L.qb, L.nv, .slice (some ⟨g, 0, none⟩) (n - 1) cap, L.uv, L.rl.eraseIdx k, L.own⟩, ⟨?_, b1 (by decide), ?_, b3 (by decide), b4, b5 (by decide), ?_, ?_, h.vq, h.op, h.ov, h.oq, h.on, ?_, h.ou, fun k hk => Nat.lt_of_lt_of_le (h.lt k hk) f2.size⟩, f2.mono ?_, fun _ => .inl⟩
  · rw [set_block _ hp1]; simp
  · have := (Fr.setCell (F := fun k => k = p) w1 ⟨p, 4, none⟩ (.slice (some ⟨g, 0, none⟩) (n - 1) cap) rfl).row hown (by intro k hk; simp [Value.ownBlock] at hk; omega)
    show Go.World.ownsRow _ 0 _ 1 _ (L.rl.eraseIdx k).length _
    rw [hel]; exact this
  · exact h.rn.sublist (List.eraseIdx_sublist _ _)
  · intro r
    show r ∈ L.rl.eraseIdx k ↔ _
    rw [mem_erase_nodup h.rn hok]
    simp only [upd]
    by_cases hro : r = o
    · simp [hro]
    · simp [hro, h.rm r]
  · intro k hk; simp [Value.ownBlock] at hk; subst hk; exact hgo
  · rintro k (rfl | rfl)
    · exact hgo
    · exact h.op

set_option maxHeartbeats 400000 in
theorem removeroot_c {w : World} {p : Nat} {S : PS} {L : Lay} (h : Rep w p S L) (o : Nat) (ho : S.rt o = true) :
    Calls Try.prog 122 #[.pointer (some ⟨p, 0, none⟩), .int .u32 (o : Nat)] w (Post p w L (.tuple #[]) { S with rt := upd S.rt o false }) := by
  have hc : w.cell? ⟨p, 4, none⟩ = some L.rv := by rw [cell_block h.hp]; rfl
  have hmo := (h.rm o).2 ho
  obtain ⟨g, cap, hv, hm, hcap, hcells⟩ := h.roots_at (List.length_pos_of_mem hmo)
  have hrow := h.hr
  rw [hv] at hc hrow
  have HC := Lib.hid hcells
  obtain ⟨n, hnl⟩ : ∃ n, L.rl.length = n := ⟨_, rfl⟩
  rw [hnl] at hc hm hrow hv hcap
  have H := Lib.hid (And.intro h (And.intro hmo (And.intro hv hrow)))
  have HCAP := Lib.hid hcap
  have HN := Lib.hid hnl
  clear h hv hcells hcap hmo ho hrow hnl
  go_enter Try.func122, Try.ntmps122
  go_wp2
  go_loopg [10] n (fun m i wr => wr = w ∧ ∃ k : Nat, m + k = n ∧ i = .int .i64 k ∧ ∀ j, j < k → L.rl.getD j 0 ≠ o)
  case atStart => exact ⟨rfl, 0, rfl, rfl, by simp⟩
  case round =>
    obtain ⟨rfl, k, hk, rfl, hne⟩ := hrel
    have HK := Lib.hid (And.intro hk hne)
    by_cases hlt : k < n
    · have hcell := (HC.out k (by rw [HN.out]; exact hlt)).1
      obtain ⟨x, hx⟩ : ∃ x, L.rl.getD k 0 = x := ⟨_, rfl⟩
      rw [hx] at hcell
      have HX := Lib.hid hx
      clear hk hne hx
      by_cases hxr : x = o
      · have hb : ((x : Int) == (o : Int)) = true := by simp [hxr]
        have HXR := Lib.hid hxr
        clear hxr
        have HDL := Lib.hid (Delete_c H.out.2.2.2 HN.out hlt HCAP.out)
        go_wp2_with (go_at_call 138; refine HDL.out.mono ?_; rintro e w1 ⟨rfl, hown, hf⟩; obtain ⟨hc1, hf1, hR⟩ := H.out.1.roots_del H.out.2.2.1 HN.out hlt (HX.out.trans HXR.out) hown hf; have HR := Lib.hid hR; clear hown hf hR)
        refine bodyPost_ret (results_none rfl _ _ _) rfl ?_
        exact ⟨rfl, HR.out⟩
      · have hb : ((x : Int) == (o : Int)) = false := by simp; omega
        have HXR := Lib.hid hxr
        clear hxr
        go_wp2
        go_roundg (n - (k + 1))
        case measure => have := HK.out.1; omega
        case rel =>
          refine ⟨rfl, k + 1, by omega, by go_num, fun j hj => ?_⟩
          by_cases hjk : j = k
          · subst hjk; rw [HX.out]; exact HXR.out
          · exact HK.out.2 j (by omega)
    · exfalso
      obtain ⟨j, hj, hje⟩ := List.getElem_of_mem H.out.2.1
      exact hne j (by rw [HN.out] at hj; omega) (by rw [List.getD_eq_getElem?_getD, List.getElem?_eq_getElem hj, hje]; rfl)
end Go.Proofs.Ytapnmgkpljlgmaa
namespace Go.Proofs.Ytapnmgkpljlgmaa
open Go.RowKit

/-- A block of nodes that holds none of the poset's parts need not be owned. -/
theorem Rep.drop_block {w : World} {p : Nat} {S : PS} {L : Lay} (h : Rep w p S L) {g : Nat} {cur : Array Value} {fz : Nat × Nat} (hg : w.heap[g]? = some (.cells cur 146 fz)) (hn : L.nv.ownBlock ≠ some g) :
    Rep w p S { L with own := fun k => L.own k ∧ k ≠ g } where
  hp := h.hp
  hn := h.hn
  hr := h.hr
  hu := h.hu
  hv := h.hv
  hq := by
    obtain ⟨es, clock, h1, h2, h3, r⟩ := h.hq
    refine ⟨es, clock, h1, h2, fun e he => ?_, r⟩
    obtain ⟨i, k, c, e1, e2, e3, e4⟩ := h3 e he
    refine ⟨i, k, c, e1, e2, ⟨e3, ?_⟩, e4⟩
    rintro rfl
    obtain ⟨cur', b1, _⟩ := e4
    rw [hg] at b1; simp at b1
  rn := h.rn
  rm := h.rm
  vq := h.vq
  op := ⟨h.op, by rintro rfl; have := h.hp; rw [hg] at this; simp at this⟩
  ov := ⟨h.ov, by intro e; obtain ⟨es, cl, e1, _⟩ := h.hv; rw [e, hg] at e1; simp at e1⟩
  oq := ⟨h.oq, by intro e; obtain ⟨es, cl, e1, _⟩ := h.hq; rw [e, hg] at e1; simp at e1⟩
  on := fun k hk => ⟨h.on k hk, by rintro rfl; exact hn hk⟩
  orr := fun k hk => ⟨h.orr k hk, by rintro rfl; obtain ⟨c, hc⟩ := own_type h.hr hk; rw [hg] at hc; simp at hc⟩
  ou := fun k hk => ⟨h.ou k hk, by rintro rfl; obtain ⟨c, hc⟩ := own_type h.hu hk; rw [hg] at hc; simp at hc⟩
  lt := fun k hk => h.lt k hk.1

/-- The row of nodes lies where it lay, or the old row is given up as it was. -/
def NBH (w w' : World) (L L' : Lay) : Prop := L'.nv.ownBlock = L.nv.ownBlock ∨ ∀ k, L.nv.ownBlock = some k → ¬ L'.own k ∧ w'.heap[k]? = w.heap[k]?
theorem NBH.then {a b c : World} {L M N : Lay} (h : NBH a b L M) (hn : N.nv.ownBlock = M.nv.ownBlock) (e : Ext b c M N) (hk : ∀ k, L.nv.ownBlock = some k → k < b.heap.size) : NBH a c L N := by
  rcases h with h | h
  · exact .inl (hn.trans h)
  · refine .inr fun k hk' => ?_
    obtain ⟨h1, h2⟩ := h k hk'
    refine ⟨fun ho => ?_, (e.fr.block k (hk k hk') h1).trans h2⟩
    rcases e.own k ho with h3 | h3
    · exact h1 h3
    · have := hk k hk'; omega
theorem Rep.nv_lt {w : World} {p : Nat} {S : PS} {L : Lay} (h : Rep w p S L) : ∀ k, L.nv.ownBlock = some k → k < w.heap.size := fun k hk => h.lt k (h.on k hk)

theorem Rep.nodes_app2 {w wa w1 : World} {p : Nat} {S : PS} {L : Lay} (h : Rep w p S L) (ha : Fr w wa Nix) {g cap : Nat} {u : Nat × Nat}
    (hown : w1.ownsRow 0 146 2 (.slice (some ⟨g, 0, none⟩) (S.nodes.length + 1) cap) (S.nodes.length + 1) (nodeCells S.nodes ++ nodeCell u))
    (hg : wa.grownBy w1 L.nv.ownBlock) (hn : L.nv.ownBlock = some g ∨ (wa.heap.size ≤ g ∧ ∀ k, L.nv.ownBlock = some k → w1.heap[k]? = wa.heap[k]?)) :
    w1.cell? ⟨p, 3, none⟩ = some L.nv ∧ w1.frozen? ⟨p, 3, none⟩ = false ∧
    ∃ L', Rep (w1.setCell ⟨p, 3, none⟩ (.slice (some ⟨g, 0, none⟩) (S.nodes.length + 1) cap)) p { S with nodes := S.nodes ++ [u] } L' ∧ Ext w (w1.setCell ⟨p, 3, none⟩ (.slice (some ⟨g, 0, none⟩) (S.nodes.length + 1) cap)) L L' ∧
      NBH w (w1.setCell ⟨p, 3, none⟩ (.slice (some ⟨g, 0, none⟩) (S.nodes.length + 1) cap)) L L' := by
  obtain ⟨c1, c2, L1, hR, hE⟩ := h.nodes_app ha hown hg (hn.imp id And.left)
  refine ⟨c1, c2, ?_⟩
  have hnv : L1.nv = .slice (some ⟨g, 0, none⟩) (S.nodes.length + 1) cap := by
    have hx := hR.hp
    have f1 : Fr w w1 (fun k => L.nv.ownBlock = some k) := (ha.mono fun _ e => e.elim).trans (Fr.grown (F := fun k => L.nv.ownBlock = some k) hg fun k hk => hk) fun i hi => .inl hi
    obtain ⟨_, _, _, _, _, hp1⟩ := h.but f1 [146] fun k hk _ => by obtain ⟨cur, hc⟩ := own_type h.hn hk; exact ⟨cur, _, _, hc, by simp⟩
    rw [set_block _ ((hp1 (by decide)).trans h.hp)] at hx
    simp at hx
    exact hx.2.1.symm
  rcases hn with hn | ⟨hn, hold⟩
  · exact ⟨L1, hR, hE, .inl (by rw [hnv]; exact hn.symm)⟩
  · cases ho : L.nv.ownBlock with
    | none => exact ⟨L1, hR, hE, .inr fun k hk => by rw [ho] at hk; cases hk⟩
    | some k =>
      have hk := h.lt k (h.on k ho)
      obtain ⟨cur, hcur⟩ := own_type h.hn ho
      have hpk : k ≠ p := by rintro rfl; rw [h.hp] at hcur; simp at hcur
      have hk1 : (w1.setCell ⟨p, 3, none⟩ (.slice (some ⟨g, 0, none⟩) (S.nodes.length + 1) cap)).heap[k]? = w.heap[k]? := by
        rw [Below.heap_setCell _ _ _ _ hpk, hold k ho]
        exact ha.block k hk fun e => e
      have hR2 := hR.drop_block (g := k) (hk1.trans hcur) (by rw [hnv]; simp [Value.ownBlock]; have := ha.size; omega)
      refine ⟨_, hR2, ⟨hE.fr, fun j hj => hE.own j hj.1⟩, .inr fun j hj => ?_⟩
      rw [ho] at hj
      simp only [Option.some.injEq] at hj
      subst hj
      exact ⟨fun hx => hx.2 rfl, hk1⟩

/-- The post of a method that may make a new row of nodes. -/
def PostN (p : Nat) (w : World) (L : Lay) (v : Value) (S' : PS) (e : Ending) (w' : World) : Prop :=
  e = .returned v ∧ ∃ L', Rep w' p S' L' ∧ Ext w w' L L' ∧ NBH w w' L L'

set_option maxHeartbeats 400000 in
theorem newnodeX_n {w : World} {p : Nat} {S : PS} {L : Lay} (h : Rep w p S L) (hl : S.lg.length < Lim) (hn : S.nodes.length < Lim) (hs : S.last < 2147483647) :
    Calls Try.prog 108 #[.pointer (some ⟨p, 0, none⟩), .pointer none] w (PostN p w L (.int .u32 ((S.last : Int) + 1)) S.newX) := by
  have hc : w.cell? ⟨p, 0, none⟩ = some (.int .u32 (S.last : Nat)) := by rw [cell_block h.hp]; rfl
  have hc3 : w.cell? ⟨p, 3, none⟩ = some L.nv := by rw [cell_block h.hp]; rfl
  have hf0 : w.frozen? ⟨p, 0, none⟩ = false := frozen_block h.hp
  have h1 := h.store_last (S.last + 1)
  have hnr := h1.1.hn
  have H1 := Lib.hid h1
  have HL := Lib.hid hl
  have HN := Lib.hid hn
  clear h hl hn h1
  simp only [Int.natCast_add, Int.cast_ofNat_Int] at hnr H1
  go_enter Try.func108, Try.ntmps108
  go_wp2_with (at_builtin; refine wpList_app2 _ rfl _ _ 104 rfl 146 _ 2 8 Try.underlying104 info_node rfl (by decide) _ _ _ rfl (hnr.alloc _) ⟨w.heap.size, 0, none⟩ 1 1 (nodeCell (0, 0)) rfl rfl (by decide) (cells_at _ _ (size_setCell _ _ _) _ _) (node_one _) (lim8 HN.out) (lim1 HN.out) ?_)
  intro g cap w1 hown hgrow hnew
  obtain ⟨hc1, hf1, L2, hR2, hE2, hN2⟩ := H1.out.1.nodes_app2 (Fr.alloc _ _ _) hown hgrow (hnew.imp id fun h => ⟨by simpa using h.1, h.2⟩)
  have H2 := Lib.hid (And.intro hR2 (And.intro hE2 hN2))
  clear hown hgrow hnew hR2 hE2 hN2 hc hc3 hnr hf0
  go_wp2_with (go_at_call 132; refine (upushnew_k H2.out.1 0 (S.last + 1) HL.out).mono ?_; rintro e w' ⟨rfl, L3, hR3, hE3, hK3⟩)
  go_ret
  refine ⟨rfl, L3, hR3, (H1.out.2.trans H2.out.2.1).trans hE3, ?_⟩
  have hn := H2.out.2.2.then (congrArg Value.ownBlock hK3) hE3 (fun k hk => Nat.lt_of_lt_of_le (H1.out.1.nv_lt k hk) H2.out.2.1.fr.size)
  rcases hn with hn | hn
  · exact .inl hn
  · refine .inr fun k hk => ⟨(hn k hk).1, ((hn k hk).2).trans ?_⟩
    have hpk : k ≠ p := by
      rintro rfl
      obtain ⟨cur, hc⟩ := own_type H1.out.1.hn hk
      rw [H1.out.1.hp] at hc; simp at hc
    exact Below.heap_setCell _ _ _ _ hpk

end Go.Proofs.Ytapnmgkpljlgmaa
namespace Go.Proofs.Ytapnmgkpljlgmaa
open Go.RowKit

/-- addchild, as the code does it. -/
def PS.addchild (S : PS) (i1 i2 : Nat) (st : Bool) : PS :=
  if (S.nd i1).1 = 0 then (S.setl i1 (eg i2 st)).push ⟨2, i1, 0, 0⟩
  else if (S.nd i1).2 = 0 then (S.setr i1 (eg i2 st)).push ⟨3, i1, 0, 0⟩
  else if (i1 ^^^ i2) % 2 = 1 then
    (((S.newX.setl (S.last + 1) (S.nd i1).2).setr (S.last + 1) (eg i2 st)).setr i1 (eg (S.last + 1) false)).push ⟨3, i1, 0, (S.nd i1).2⟩
  else (((S.newX.setl (S.last + 1) (S.nd i1).1).setr (S.last + 1) (eg i2 st)).setl i1 (eg (S.last + 1) false)).push ⟨2, i1, 0, (S.nd i1).1⟩

theorem eq0_true {n : Nat} (h : n = 0) : ((n : Int) == 0) = true := by subst h; rfl
theorem eq0_false {n : Nat} (h : n ≠ 0) : ((n : Int) == 0) = false := by rw [beq_eq_false_iff_ne]; omega
theorem xor_bit (a b : Nat) (ha : a < 4294967296) (hb : b < 4294967296) : (bits .and .u32 (bits .xor .u32 (a : Int) (b : Int)) 1 != 0) = decide ((a ^^^ b) % 2 = 1) := by
  have h1 := u32_xor_nat a b ha hb
  have h2 : a ^^^ b < 4294967296 := Nat.xor_lt_two_pow (n := 32) ha hb
  have h3 := u32_and_nat (a ^^^ b) 1 h2 (by omega)
  simp only [Int.cast_ofNat_Int] at h3
  rw [h1, h3, Nat.and_one_is_mod]
  rcases Nat.mod_two_eq_zero_or_one (a ^^^ b) with h | h <;> simp [h]
theorem NBH.same (w w' : World) (L : Lay) : NBH w w' L L := .inl rfl
theorem NBH.of_nix {a b c : World} {L M : Lay} (h : NBH b c L M) (f : Fr a b Nix) (hk : ∀ k, L.nv.ownBlock = some k → k < a.heap.size) : NBH a c L M := by
  rcases h with h | h
  · exact .inl h
  · exact .inr fun k hk' => ⟨(h k hk').1, ((h k hk').2).trans (f.block k (hk k hk') fun e => e)⟩
theorem newX_len (S : PS) : S.newX.nodes.length = S.nodes.length + 1 := by simp [PS.newX]

set_option maxRecDepth 3000 in
set_option maxHeartbeats 300000 in
theorem addchild_n_l {w : World} {p : Nat} {S : PS} {L : Lay} (h : Rep w p S L) (i1 i2 : Nat) (st : Bool) (h1 : i1 < S.nodes.length) (h2 : i2 < 2147483648) (hl : S.lg.length + 1 < Lim) (hl0 : (S.nd i1).1 = 0) :
    Calls Try.prog 107 #[.pointer (some ⟨p, 0, none⟩), .int .u32 (i1 : Nat), .int .u32 (i2 : Nat), .bool st] w (PostN p w L (.tuple #[]) (S.addchild i1 i2 st)) := by
  have H0 := Lib.hid (And.intro h (And.intro (Ext.refl w L) (NBH.same w w L)))
  have HB := Lib.hid h2
  have HL := Lib.hid (show S.lg.length < Lim by omega)
  have HL1 := Lib.hid hl
  have H1' := Lib.hid h1
  have hch := children_c h i1 h1
  obtain ⟨l, r, hlr⟩ : ∃ l r, S.nd i1 = (l, r) := ⟨_, _, rfl⟩
  rw [hlr] at hch hl0
  have HLR := Lib.hid hlr
  have HCH := Lib.hid hch
  have hlb := eq0_true hl0
  have HL0 := Lib.hid hl0
  clear hl0 h hl h1 h2 hlr hch
  go_enter Try.func107, Try.ntmps107
  · go_wp2_with fail
    refine HCH.out.mono ?_
    rintro e w1 ⟨rfl, hF1⟩
    have H1 := Lib.hid (And.intro (H0.out.1.nix hF1) (And.intro (Ext.nix (L := L) hF1) (NBH.same w w1 L)))
    have F1 := Lib.hid hF1
    clear hF1
    go_wp2_with fail
    refine (newedge_c i2 st _ HB.out).mono ?_
    rintro e w' ⟨rfl, rfl⟩
    go_wp2_with fail
    refine (setchl_k H1.out.1 i1 (eg i2 st) H1'.out).mono ?_
    rintro e w2 ⟨rfl, L2, hR2, hE2, hK2⟩
    have H2 := Lib.hid (And.intro hR2 (And.intro (H1.out.2.1.trans hE2) (H1.out.2.2.then (congrArg Value.ownBlock hK2) hE2 (fun k hk => Nat.lt_of_lt_of_le (H0.out.1.nv_lt k hk) H1.out.2.1.fr.size))))
    clear hR2 hE2 hK2
    go_wp2_with fail
    refine (upush_k H2.out.1 2 i1 0 HL.out).mono ?_
    rintro e w3 ⟨rfl, L3, hR3, hE3, hK3⟩
    have H3 := Lib.hid (And.intro hR3 (And.intro (H2.out.2.1.trans hE3) (H2.out.2.2.then (congrArg Value.ownBlock hK3) hE3 (fun k hk => Nat.lt_of_lt_of_le (H0.out.1.nv_lt k hk) H2.out.2.1.fr.size))))
    clear hR3 hE3 hK3
    go_wp2
    go_end0
    refine ⟨rfl, L3, ?_, H3.out.2.1, H3.out.2.2⟩
    have := H3.out.1
    unfold PS.addchild
    rw [HLR.out]
    simp only [HL0.out, if_true]
    exact this

set_option maxRecDepth 3000 in
set_option maxHeartbeats 300000 in
theorem addchild_n_r {w : World} {p : Nat} {S : PS} {L : Lay} (h : Rep w p S L) (i1 i2 : Nat) (st : Bool) (h1 : i1 < S.nodes.length) (h2 : i2 < 2147483648) (hl : S.lg.length + 1 < Lim) (hl0 : (S.nd i1).1 ≠ 0) (hr0 : (S.nd i1).2 = 0) :
    Calls Try.prog 107 #[.pointer (some ⟨p, 0, none⟩), .int .u32 (i1 : Nat), .int .u32 (i2 : Nat), .bool st] w (PostN p w L (.tuple #[]) (S.addchild i1 i2 st)) := by
  have H0 := Lib.hid (And.intro h (And.intro (Ext.refl w L) (NBH.same w w L)))
  have HB := Lib.hid h2
  have HL := Lib.hid (show S.lg.length < Lim by omega)
  have HL1 := Lib.hid hl
  have H1' := Lib.hid h1
  have hch := children_c h i1 h1
  obtain ⟨l, r, hlr⟩ : ∃ l r, S.nd i1 = (l, r) := ⟨_, _, rfl⟩
  rw [hlr] at hch hl0 hr0
  have HLR := Lib.hid hlr
  have HCH := Lib.hid hch
  have hlb := eq0_false hl0
  have hrb := eq0_true hr0
  have HL0 := Lib.hid (And.intro hl0 hr0)
  clear hl0 hr0 h hl h1 h2 hlr hch
  go_enter Try.func107, Try.ntmps107
  · go_wp2_with fail
    refine HCH.out.mono ?_
    rintro e w1 ⟨rfl, hF1⟩
    have H1 := Lib.hid (And.intro (H0.out.1.nix hF1) (And.intro (Ext.nix (L := L) hF1) (NBH.same w w1 L)))
    have F1 := Lib.hid hF1
    clear hF1
    go_wp2_with fail
    refine (newedge_c i2 st _ HB.out).mono ?_
    rintro e w' ⟨rfl, rfl⟩
    go_wp2_with fail
    refine (setchr_k H1.out.1 i1 (eg i2 st) H1'.out).mono ?_
    rintro e w2 ⟨rfl, L2, hR2, hE2, hK2⟩
    have H2 := Lib.hid (And.intro hR2 (And.intro (H1.out.2.1.trans hE2) (H1.out.2.2.then (congrArg Value.ownBlock hK2) hE2 (fun k hk => Nat.lt_of_lt_of_le (H0.out.1.nv_lt k hk) H1.out.2.1.fr.size))))
    clear hR2 hE2 hK2
    go_wp2_with fail
    refine (upush_k H2.out.1 3 i1 0 HL.out).mono ?_
    rintro e w3 ⟨rfl, L3, hR3, hE3, hK3⟩
    have H3 := Lib.hid (And.intro hR3 (And.intro (H2.out.2.1.trans hE3) (H2.out.2.2.then (congrArg Value.ownBlock hK3) hE3 (fun k hk => Nat.lt_of_lt_of_le (H0.out.1.nv_lt k hk) H2.out.2.1.fr.size))))
    clear hR3 hE3 hK3
    go_wp2
    go_end0
    refine ⟨rfl, L3, ?_, H3.out.2.1, H3.out.2.2⟩
    have := H3.out.1
    unfold PS.addchild
    rw [HLR.out]
    simp only [HL0.out.1, HL0.out.2, if_true, if_false]
    exact this

set_option maxRecDepth 3000 in
set_option maxHeartbeats 300000 in
theorem addchild_n_x {w : World} {p : Nat} {S : PS} {L : Lay} (h : Rep w p S L) (i1 i2 : Nat) (st : Bool) (h1 : i1 < S.nodes.length) (h2 : i2 < 2147483648) (hl : S.lg.length + 1 < Lim) (wf : WF0 S) (hs : S.last < 2147483646) (hl0 : (S.nd i1).1 ≠ 0) (hr0 : (S.nd i1).2 ≠ 0) (hx : (i1 ^^^ i2) % 2 = 1) :
    Calls Try.prog 107 #[.pointer (some ⟨p, 0, none⟩), .int .u32 (i1 : Nat), .int .u32 (i2 : Nat), .bool st] w (PostN p w L (.tuple #[]) (S.addchild i1 i2 st)) := by
  have hxb := xor_bit i1 i2 (by have := wf.sz; omega) (by omega)
  rw [show decide ((i1 ^^^ i2) % 2 = 1) = true by simpa using hx] at hxb
  have H0 := Lib.hid (And.intro h (And.intro (Ext.refl w L) (NBH.same w w L)))
  have HB := Lib.hid h2
  have HL := Lib.hid (show S.lg.length < Lim by omega)
  have HL1 := Lib.hid hl
  have H1' := Lib.hid h1
  have hch := children_c h i1 h1
  obtain ⟨l, r, hlr⟩ : ∃ l r, S.nd i1 = (l, r) := ⟨_, _, rfl⟩
  rw [hlr] at hch hl0 hr0
  have HLR := Lib.hid hlr
  have HCH := Lib.hid hch
  have hlb := eq0_false hl0
  have hrb := eq0_false hr0
  have HL0 := Lib.hid (And.intro hl0 (And.intro hr0 hx))
  have HW := Lib.hid (And.intro wf.lim (And.intro hs wf.la))
  clear hl0 hr0 h hl h1 h2 hlr hch wf hx hs
  go_enter Try.func107, Try.ntmps107
  · go_wp2_with fail
    refine HCH.out.mono ?_
    rintro e w1 ⟨rfl, hF1⟩
    have H1 := Lib.hid (And.intro (H0.out.1.nix hF1) (And.intro (Ext.nix (L := L) hF1) (NBH.same w w1 L)))
    have F1 := Lib.hid hF1
    clear hF1
    go_wp2_with fail
    refine (newedge_c i2 st _ HB.out).mono ?_
    rintro e w' ⟨rfl, rfl⟩
    go_wp2_with fail
    refine (newnodeX_n H1.out.1 HL.out HW.out.1 (by have := HW.out.2.1; omega)).mono ?_
    rintro e w2 ⟨rfl, L2, hR2, hE2, hK2⟩
    have H2 := Lib.hid (And.intro hR2 (And.intro (H1.out.2.1.trans hE2) (hK2.of_nix F1.out H0.out.1.nv_lt)))
    clear hR2 hE2 hK2
    go_wp2_with fail
    refine (setchl_k H2.out.1 (S.last + 1) r (by have := HW.out.2.2; simp [PS.setl, PS.setr, PS.newX]; omega)).mono ?_
    rintro e w3 ⟨rfl, L3, hR3, hE3, hK3⟩
    have H3 := Lib.hid (And.intro hR3 (And.intro (H2.out.2.1.trans hE3) (H2.out.2.2.then (congrArg Value.ownBlock hK3) hE3 (fun k hk => Nat.lt_of_lt_of_le (H0.out.1.nv_lt k hk) H2.out.2.1.fr.size))))
    clear hR3 hE3 hK3
    go_wp2_with fail
    refine (setchr_k H3.out.1 (S.last + 1) (eg i2 st) (by have := HW.out.2.2; simp [PS.setl, PS.setr, PS.newX]; omega)).mono ?_
    rintro e w4 ⟨rfl, L4, hR4, hE4, hK4⟩
    have H4 := Lib.hid (And.intro hR4 (And.intro (H3.out.2.1.trans hE4) (H3.out.2.2.then (congrArg Value.ownBlock hK4) hE4 (fun k hk => Nat.lt_of_lt_of_le (H0.out.1.nv_lt k hk) H3.out.2.1.fr.size))))
    clear hR4 hE4 hK4
    go_wp2_with fail
    refine (newedge_c (S.last + 1) false _ (by have := HW.out.2.1; omega)).mono ?_
    rintro e w' ⟨rfl, rfl⟩
    go_wp2_with fail
    refine (setchr_k H4.out.1 i1 (eg (S.last + 1) false) (by have := H1'.out; simp [PS.setl, PS.setr, PS.newX]; omega)).mono ?_
    rintro e w5 ⟨rfl, L5, hR5, hE5, hK5⟩
    have H5 := Lib.hid (And.intro hR5 (And.intro (H4.out.2.1.trans hE5) (H4.out.2.2.then (congrArg Value.ownBlock hK5) hE5 (fun k hk => Nat.lt_of_lt_of_le (H0.out.1.nv_lt k hk) H4.out.2.1.fr.size))))
    clear hR5 hE5 hK5
    go_wp2_with fail
    refine (upush_k H5.out.1 3 i1 r (by have := HL1.out; simpa [PS.setl, PS.setr, PS.newX] using this)).mono ?_
    rintro e w6 ⟨rfl, L6, hR6, hE6, hK6⟩
    have H6 := Lib.hid (And.intro hR6 (And.intro (H5.out.2.1.trans hE6) (H5.out.2.2.then (congrArg Value.ownBlock hK6) hE6 (fun k hk => Nat.lt_of_lt_of_le (H0.out.1.nv_lt k hk) H5.out.2.1.fr.size))))
    clear hR6 hE6 hK6
    go_wp2
    go_end0
    refine ⟨rfl, L6, ?_, H6.out.2.1, H6.out.2.2⟩
    have := H6.out.1
    unfold PS.addchild
    rw [HLR.out]
    simp only [HL0.out.1, HL0.out.2.1, HL0.out.2.2, if_true, if_false]
    exact this

set_option maxRecDepth 3000 in
set_option maxHeartbeats 300000 in
theorem addchild_n_y {w : World} {p : Nat} {S : PS} {L : Lay} (h : Rep w p S L) (i1 i2 : Nat) (st : Bool) (h1 : i1 < S.nodes.length) (h2 : i2 < 2147483648) (hl : S.lg.length + 1 < Lim) (wf : WF0 S) (hs : S.last < 2147483646) (hl0 : (S.nd i1).1 ≠ 0) (hr0 : (S.nd i1).2 ≠ 0) (hx : ¬ (i1 ^^^ i2) % 2 = 1) :
    Calls Try.prog 107 #[.pointer (some ⟨p, 0, none⟩), .int .u32 (i1 : Nat), .int .u32 (i2 : Nat), .bool st] w (PostN p w L (.tuple #[]) (S.addchild i1 i2 st)) := by
  have hxb := xor_bit i1 i2 (by have := wf.sz; omega) (by omega)
  rw [show decide ((i1 ^^^ i2) % 2 = 1) = false by simpa using hx] at hxb
  have H0 := Lib.hid (And.intro h (And.intro (Ext.refl w L) (NBH.same w w L)))
  have HB := Lib.hid h2
  have HL := Lib.hid (show S.lg.length < Lim by omega)
  have HL1 := Lib.hid hl
  have H1' := Lib.hid h1
  have hch := children_c h i1 h1
  obtain ⟨l, r, hlr⟩ : ∃ l r, S.nd i1 = (l, r) := ⟨_, _, rfl⟩
  rw [hlr] at hch hl0 hr0
  have HLR := Lib.hid hlr
  have HCH := Lib.hid hch
  have hlb := eq0_false hl0
  have hrb := eq0_false hr0
  have HL0 := Lib.hid (And.intro hl0 (And.intro hr0 hx))
  have HW := Lib.hid (And.intro wf.lim (And.intro hs wf.la))
  clear hl0 hr0 h hl h1 h2 hlr hch wf hx hs
  go_enter Try.func107, Try.ntmps107
  · go_wp2_with fail
    refine HCH.out.mono ?_
    rintro e w1 ⟨rfl, hF1⟩
    have H1 := Lib.hid (And.intro (H0.out.1.nix hF1) (And.intro (Ext.nix (L := L) hF1) (NBH.same w w1 L)))
    have F1 := Lib.hid hF1
    clear hF1
    go_wp2_with fail
    refine (newedge_c i2 st _ HB.out).mono ?_
    rintro e w' ⟨rfl, rfl⟩
    go_wp2_with fail
    refine (newnodeX_n H1.out.1 HL.out HW.out.1 (by have := HW.out.2.1; omega)).mono ?_
    rintro e w2 ⟨rfl, L2, hR2, hE2, hK2⟩
    have H2 := Lib.hid (And.intro hR2 (And.intro (H1.out.2.1.trans hE2) (hK2.of_nix F1.out H0.out.1.nv_lt)))
    clear hR2 hE2 hK2
    go_wp2_with fail
    refine (setchl_k H2.out.1 (S.last + 1) l (by have := HW.out.2.2; simp [PS.setl, PS.setr, PS.newX]; omega)).mono ?_
    rintro e w3 ⟨rfl, L3, hR3, hE3, hK3⟩
    have H3 := Lib.hid (And.intro hR3 (And.intro (H2.out.2.1.trans hE3) (H2.out.2.2.then (congrArg Value.ownBlock hK3) hE3 (fun k hk => Nat.lt_of_lt_of_le (H0.out.1.nv_lt k hk) H2.out.2.1.fr.size))))
    clear hR3 hE3 hK3
    go_wp2_with fail
    refine (setchr_k H3.out.1 (S.last + 1) (eg i2 st) (by have := HW.out.2.2; simp [PS.setl, PS.setr, PS.newX]; omega)).mono ?_
    rintro e w4 ⟨rfl, L4, hR4, hE4, hK4⟩
    have H4 := Lib.hid (And.intro hR4 (And.intro (H3.out.2.1.trans hE4) (H3.out.2.2.then (congrArg Value.ownBlock hK4) hE4 (fun k hk => Nat.lt_of_lt_of_le (H0.out.1.nv_lt k hk) H3.out.2.1.fr.size))))
    clear hR4 hE4 hK4
    go_wp2_with fail
    refine (newedge_c (S.last + 1) false _ (by have := HW.out.2.1; omega)).mono ?_
    rintro e w' ⟨rfl, rfl⟩
    go_wp2_with fail
    refine (setchl_k H4.out.1 i1 (eg (S.last + 1) false) (by have := H1'.out; simp [PS.setl, PS.setr, PS.newX]; omega)).mono ?_
    rintro e w5 ⟨rfl, L5, hR5, hE5, hK5⟩
    have H5 := Lib.hid (And.intro hR5 (And.intro (H4.out.2.1.trans hE5) (H4.out.2.2.then (congrArg Value.ownBlock hK5) hE5 (fun k hk => Nat.lt_of_lt_of_le (H0.out.1.nv_lt k hk) H4.out.2.1.fr.size))))
    clear hR5 hE5 hK5
    go_wp2_with fail
    refine (upush_k H5.out.1 2 i1 l (by have := HL1.out; simpa [PS.setl, PS.setr, PS.newX] using this)).mono ?_
    rintro e w6 ⟨rfl, L6, hR6, hE6, hK6⟩
    have H6 := Lib.hid (And.intro hR6 (And.intro (H5.out.2.1.trans hE6) (H5.out.2.2.then (congrArg Value.ownBlock hK6) hE6 (fun k hk => Nat.lt_of_lt_of_le (H0.out.1.nv_lt k hk) H5.out.2.1.fr.size))))
    clear hR6 hE6 hK6
    go_wp2
    go_end0
    refine ⟨rfl, L6, ?_, H6.out.2.1, H6.out.2.2⟩
    have := H6.out.1
    unfold PS.addchild
    rw [HLR.out]
    simp only [HL0.out.1, HL0.out.2.1, HL0.out.2.2, if_true, if_false]
    exact this

theorem addchild_n {w : World} {p : Nat} {S : PS} {L : Lay} (h : Rep w p S L) (wf : WF0 S) (i1 i2 : Nat) (st : Bool) (h1 : i1 < S.nodes.length) (h2 : i2 < 2147483648) (hl : S.lg.length + 1 < Lim) (hs : S.last < 2147483646) :
    Calls Try.prog 107 #[.pointer (some ⟨p, 0, none⟩), .int .u32 (i1 : Nat), .int .u32 (i2 : Nat), .bool st] w (PostN p w L (.tuple #[]) (S.addchild i1 i2 st)) := by
  by_cases hl0 : (S.nd i1).1 = 0
  · exact addchild_n_l h i1 i2 st h1 h2 hl hl0
  · by_cases hr0 : (S.nd i1).2 = 0
    · exact addchild_n_r h i1 i2 st h1 h2 hl hl0 hr0
    · by_cases hx : (i1 ^^^ i2) % 2 = 1
      · exact addchild_n_x h i1 i2 st h1 h2 hl wf hs hl0 hr0 hx
      · exact addchild_n_y h i1 i2 st h1 h2 hl wf hs hl0 hr0 hx
theorem addchild_c {w : World} {p : Nat} {S : PS} {L : Lay} (h : Rep w p S L) (wf : WF0 S) (i1 i2 : Nat) (st : Bool) (h1 : i1 < S.nodes.length) (h2 : i2 < 2147483648) (hl : S.lg.length + 1 < Lim) (hs : S.last < 2147483646) :
    Calls Try.prog 107 #[.pointer (some ⟨p, 0, none⟩), .int .u32 (i1 : Nat), .int .u32 (i2 : Nat), .bool st] w (Post p w L (.tuple #[]) (S.addchild i1 i2 st)) :=
  (addchild_n h wf i1 i2 st h1 h2 hl hs).mono fun _ _ h => ⟨h.1, h.2.choose, h.2.choose_spec.1, h.2.choose_spec.2.1⟩
end Go.Proofs.Ytapnmgkpljlgmaa
