/- newPoset: five makes in whatever order. The exported methods of the poset. -/
import Derived.Test.YtapnmgkpljlgmaaG07
import Derived.Test.YtapnmgkpljlgmaaG16
import Derived.Test.YtapnmgkpljlgmaaG05
import Derived.Deep.RegionHeld3
import Derived.Deep.DrawnRows
set_option linter.unusedVariables false
set_option linter.unusedSimpArgs false
namespace Go.Proofs.Ytapnmgkpljlgmaa
open Go.RowKit

section
variable {P : Program} {ops : Array Oper} {Q : Exit → Act → World → Prop}
theorem wpOp_val {i : Nat} {o : Oper} {K : Act → World → Prop} {a : Act} {w w' : World} {v : Value} (hi : ops[i]? = some o) (hg : o.guard = none) (hr : (execOp a.eval o).run P w = .ok (.value v) w') (h : K (a.put o.dst v) w') : wpOp P ops Q i K a w := by
  unfold wpOp
  rw [hi]
  simp only [Region.wanted, hg, if_true]
  refine .inl ?_
  unfold Oper.wp
  rw [hr]
  exact h
def five (l0 l1 l2 l3 l4 : Bool) : Array Bool := #[l0, l1, l2, l3, l4, false, false, false]
def nf (b : Bool) : Nat := if b then 0 else 1
theorem wpAny_five {I : Bool → Bool → Bool → Bool → Bool → Act → World → Prop}
    (rdy : ∀ l0 l1 l2 l3 l4, (l0 && l1 && l2 && l3 && l4) = false → Region.ready .any ops (five l0 l1 l2 l3 l4) ≠ [] ∧ ∀ i ∈ Region.ready .any ops (five l0 l1 l2 l3 l4), i < 5 ∧ (five l0 l1 l2 l3 l4).getD i true = false)
    (s0 : ∀ l1 l2 l3 l4 a w, I false l1 l2 l3 l4 a w → wpOp P ops Q 0 (I true l1 l2 l3 l4) a w) (s1 : ∀ l0 l2 l3 l4 a w, I l0 false l2 l3 l4 a w → wpOp P ops Q 1 (I l0 true l2 l3 l4) a w)
    (s2 : ∀ l0 l1 l3 l4 a w, I l0 l1 false l3 l4 a w → wpOp P ops Q 2 (I l0 l1 true l3 l4) a w) (s3 : ∀ l0 l1 l2 l4 a w, I l0 l1 l2 false l4 a w → wpOp P ops Q 3 (I l0 l1 l2 true l4) a w)
    (s4 : ∀ l0 l1 l2 l3 a w, I l0 l1 l2 l3 false a w → wpOp P ops Q 4 (I l0 l1 l2 l3 true) a w)
    (fin : ∀ a w, I true true true true true a w → wpAny P .any ops Q 3 (five true true true true true) a w) :
    ∀ m l0 l1 l2 l3 l4 a w, nf l0 + nf l1 + nf l2 + nf l3 + nf l4 = m → I l0 l1 l2 l3 l4 a w → wpAny P .any ops Q (3 + m) (five l0 l1 l2 l3 l4) a w
  | 0, l0, l1, l2, l3, l4, a, w, hm, h => by
    cases l0 <;> cases l1 <;> cases l2 <;> cases l3 <;> cases l4 <;> simp [nf] at hm
    exact fin a w h
  | m + 1, l0, l1, l2, l3, l4, a, w, hm, h => by
    have hall : (l0 && l1 && l2 && l3 && l4) = false := by
      cases l0 <;> cases l1 <;> cases l2 <;> cases l3 <;> cases l4 <;> simp [nf] at hm ⊢
    obtain ⟨h0, h1⟩ := rdy l0 l1 l2 l3 l4 hall
    refine ⟨fun e => absurd e h0, fun i hi => ?_⟩
    obtain ⟨k1, k2⟩ := h1 i hi
    have ih := fun l0 l1 l2 l3 l4 a w => wpAny_five rdy s0 s1 s2 s3 s4 fin m l0 l1 l2 l3 l4 a w
    match i, k1, k2 with
    | 0, _, k2 =>
      have e : l0 = false := k2
      subst e
      exact wpOp_mono (fun a w k => ih true l1 l2 l3 l4 a w (by simp only [nf] at hm ⊢; simp at hm ⊢; omega) k) (s0 _ _ _ _ _ _ h)
    | 1, _, k2 =>
      have e : l1 = false := k2
      subst e
      exact wpOp_mono (fun a w k => ih l0 true l2 l3 l4 a w (by simp only [nf] at hm ⊢; simp at hm ⊢; omega) k) (s1 _ _ _ _ _ _ h)
    | 2, _, k2 =>
      have e : l2 = false := k2
      subst e
      exact wpOp_mono (fun a w k => ih l0 l1 true l3 l4 a w (by simp only [nf] at hm ⊢; simp at hm ⊢; omega) k) (s2 _ _ _ _ _ _ h)
    | 3, _, k2 =>
      have e : l3 = false := k2
      subst e
      exact wpOp_mono (fun a w k => ih l0 l1 l2 true l4 a w (by simp only [nf] at hm ⊢; simp at hm ⊢; omega) k) (s3 _ _ _ _ _ _ h)
    | 4, _, k2 =>
      have e : l4 = false := k2
      subst e
      exact wpOp_mono (fun a w k => ih l0 l1 l2 l3 true a w (by simp only [nf] at hm ⊢; simp at hm ⊢; omega) k) (s4 _ _ _ _ _ _ h)
/-- One operation alone can come next. -/
theorem wpAny_one {f i : Nat} {l : Array Bool} {a : Act} {w : World} (hr : Region.ready .any ops l = [i]) (h : wpOp P ops Q i (wpAny P .any ops Q f (l.setIfInBounds i true)) a w) : wpAny P .any ops Q (f + 1) l a w := by
  refine ⟨fun e => absurd (hr.symm.trans e) (List.cons_ne_nil _ _), fun j hj => ?_⟩
  rw [hr] at hj
  simp only [List.mem_singleton] at hj
  exact hj ▸ h
end

def PS.init : PS := ⟨0, [(0, 0)], fun _ => 0, fun _ => false, fun _ _ => false, []⟩
/-- Block b is new and holds o. -/
def NB (w0 w : World) (b : Nat) (o : Obj) : Prop := w0.heap.size ≤ b ∧ w.heap[b]? = some o
theorem NB.old {w0 w : World} {b : Nat} {o : Obj} (h : NB w0 w b o) (o' : Obj) : NB w0 (w.alloc o') b o := ⟨h.1, (Below.heap_alloc w o' b (heap_lt h.2)).trans h.2⟩
def oN : Obj := .cells (Array.replicate 32 (.int .u32 0)) 146
def oR : Obj := .cells (Array.replicate 4 (.int .u32 0)) 108
def oU : Obj := .cells #[.int .u8 0, .int .u32 0, .int .i32 0, .int .u32 0, .int .u8 0, .int .u32 0, .int .i32 0, .int .u32 0, .int .u8 0, .int .u32 0, .int .i32 0, .int .u32 0, .int .u8 0, .int .u32 0, .int .i32 0, .int .u32 0] 133
/-- What has been made so far. -/
def Made (w0 : World) (l0 l1 l2 l3 l4 : Bool) (a : Act) (w : World) : Prop :=
  ∃ v0 v1 v2 v3 v4 : Value, a = ⟨#[.pointer none, v0, v1, v2, v3, v4, undef, undef], []⟩ ∧ Fr w0 w Nix ∧
    (l0 = true → ∃ b, v0 = .map (some b) ∧ NB w0 w b (.map #[] 0)) ∧ (l1 = true → ∃ b, v1 = .slice (some ⟨b, 0, none⟩) 1 16 ∧ NB w0 w b oN) ∧
    (l2 = true → ∃ b, v2 = .slice (some ⟨b, 0, none⟩) 0 4 ∧ NB w0 w b oR) ∧ (l3 = true → ∃ b, v3 = .map (some b) ∧ NB w0 w b (.map #[] 0)) ∧
    (l4 = true → ∃ b, v4 = .slice (some ⟨b, 0, none⟩) 0 4 ∧ NB w0 w b oU) ∧ (l0 = true → l3 = true → v0 ≠ v3)
theorem m1 (w : World) : (Instr.makeSlice 104 (.int .i64 1) (.int .i64 16)).run Try.prog w = .ok (.slice (some ⟨w.heap.size, 0, none⟩) 1 16) (w.alloc oN) := by kernel_rfl
theorem m2 (w : World) : (Instr.makeSlice 105 (.int .i64 0) (.int .i64 4)).run Try.prog w = .ok (.slice (some ⟨w.heap.size, 0, none⟩) 0 4) (w.alloc oR) := by kernel_rfl
theorem m3 (w : World) : (Instr.makeSlice 107 (.int .i64 0) (.int .i64 4)).run Try.prog w = .ok (.slice (some ⟨w.heap.size, 0, none⟩) 0 4) (w.alloc oU) := by kernel_rfl
theorem NB.mk_ {w0 w : World} (f : Fr w0 w Nix) (o : Obj) : NB w0 (w.alloc o) w.heap.size o := ⟨f.size, heap_alloc_new w o⟩
theorem old_ {w0 w : World} {l : Bool} {p : Nat → Value} {v : Value} {ob o : Obj} (h : l = true → ∃ b, v = p b ∧ NB w0 w b ob) : l = true → ∃ b, v = p b ∧ NB w0 (w.alloc o) b ob := fun e => by
  obtain ⟨b, h1, h2⟩ := h e; exact ⟨b, h1, h2.old o⟩

theorem init_rep {w W : World} {b0 b1 b2 b3 b4 : Nat} {c : Array Value} (hc : c = #[.int .u32 0, .int .u8 0, .map (some b0), .slice (some ⟨b1, 0, none⟩) 1 16, .slice (some ⟨b2, 0, none⟩) 0 4, .map (some b3), .slice (some ⟨b4, 0, none⟩) 0 4])
    (hF : Fr w (W.alloc (.cells c 110)) Nix)
    (K : NB w W b0 (.map #[] 0) ∧ NB w W b1 oN ∧ NB w W b2 oR ∧ NB w W b3 (.map #[] 0) ∧ NB w W b4 oU ∧ b0 ≠ b3) (hs : w.heap.size ≤ W.heap.size) :
    ∃ p L, Ending.returned (.pointer (some ⟨W.heap.size, 0, none⟩)) = Ending.returned (.pointer (some ⟨p, 0, none⟩)) ∧ Rep (W.alloc (.cells c 110)) p PS.init L ∧ Fr w (W.alloc (.cells c 110)) Nix ∧ (∀ g, L.own g → w.heap.size ≤ g) := by
  obtain ⟨k0, k1, k2, k3, k4, hb⟩ := K
  have g0 := k0.old (.cells c 110)
  have g1 := k1.old (.cells c 110)
  have g2 := k2.old (.cells c 110)
  have g3 := k3.old (.cells c 110)
  have g4 := k4.old (.cells c 110)
  have hp : (W.alloc (.cells c 110)).heap[W.heap.size]? = some (.cells c 110 (0, 0)) := heap_alloc_new W _
  generalize W.alloc (.cells c 110) = V at *
  have own : ∀ {b n cap T : Nat} {cs : Array Value} {xs : List Value} {size : Nat}, V.heap[b]? = some (.cells cs T (0, 0)) → n ≤ cap → cap ≤ 16 → cs.size = cap * size → xs.length = n * size → cs.toList.take (n * size) = xs → V.ownsRow 0 T size (.slice (some ⟨b, 0, none⟩) n cap) n xs :=
    fun h1 h2 h3 h4 h5 h6 => ⟨h5, .inr ⟨_, _, _, rfl, Nat.zero_le _, h1, h2, by unfold maxLen; omega, h4, h6⟩⟩
  refine ⟨W.heap.size, ⟨b0, b3, .slice (some ⟨b1, 0, none⟩) 1 16, .slice (some ⟨b2, 0, none⟩) 0 4, .slice (some ⟨b4, 0, none⟩) 0 4, [], fun k => k = W.heap.size ∨ k = b0 ∨ k = b1 ∨ k = b2 ∨ k = b3 ∨ k = b4⟩, rfl, ?_, hF, ?_⟩
  · refine ⟨hc ▸ hp, own g1.2 (by omega) (by omega) (by rfl) rfl rfl, own g2.2 (by omega) (by omega) (by rfl) rfl rfl, own g4.2 (by omega) (by omega) (by rfl) rfl rfl, ?_, ?_, List.nodup_nil, fun r => by simp [PS.init], hb, .inl rfl, .inr (.inl rfl), .inr (.inr (.inr (.inr (.inl rfl)))), ?_, ?_, ?_, ?_⟩
    · exact ⟨#[], 0, g0.2, ⟨by simp, by simp, by simp, by simp⟩, by simp, by simp [PS.init]⟩
    · exact ⟨#[], 0, g3.2, ⟨by simp, by simp, by simp, by simp⟩, by simp, by simp, by simp [PS.init], by simp [PS.init]⟩
    · intro g hg; simp only [Value.ownBlock, Option.some.injEq] at hg; exact .inr (.inr (.inl hg.symm))
    · intro g hg; simp only [Value.ownBlock, Option.some.injEq] at hg; exact .inr (.inr (.inr (.inl hg.symm)))
    · intro g hg; simp only [Value.ownBlock, Option.some.injEq] at hg; exact .inr (.inr (.inr (.inr (.inr hg.symm))))
    · rintro g (rfl | rfl | rfl | rfl | rfl | rfl)
      · exact heap_lt hp
      · exact heap_lt g0.2
      · exact heap_lt g1.2
      · exact heap_lt g2.2
      · exact heap_lt g3.2
      · exact heap_lt g4.2
  · rintro g (rfl | rfl | rfl | rfl | rfl | rfl)
    · exact hs
    · exact k0.1
    · exact k1.1
    · exact k2.1
    · exact k3.1
    · exact k4.1

set_option maxRecDepth 10000 in
set_option maxHeartbeats 2000000 in
theorem newPoset_c (w : World) : Calls Try.prog 87 #[] w fun e w' => ∃ p L, e = .returned (.pointer (some ⟨p, 0, none⟩)) ∧ Rep w' p PS.init L ∧ Fr w w' Nix ∧ (∀ g, L.own g → w.heap.size ≤ g) := by
  go_enter Try.func87, Try.ntmps87
  go_wp2_with fail
  refine wp_region_any (by kernel_rfl) ?_
  refine wpAny_five (I := Made w) ?_ ?_ ?_ ?_ ?_ ?_ ?_ 5 false false false false false _ _ rfl ?_
  · intro l0 l1 l2 l3 l4 h
    cases l0 <;> cases l1 <;> cases l2 <;> cases l3 <;> cases l4 <;> first | (exact absurd h (by decide)) | exact ⟨of_decide_eq_true (by kernel_rfl), of_decide_eq_true (by kernel_rfl)⟩
  · rintro l1 l2 l3 l4 a W ⟨v0, v1, v2, v3, v4, rfl, hF, _, h1, h2, h3, h4, _⟩
    refine wpOp_val rfl rfl (v := .map (some W.heap.size)) (w' := W.alloc (.map #[] 0)) rfl ?_
    refine ⟨.map (some W.heap.size), v1, v2, v3, v4, rfl, hF.a _, fun _ => ⟨_, rfl, NB.mk_ hF _⟩, old_ h1, old_ h2, old_ h3, old_ h4, fun _ e e2 => ?_⟩
    obtain ⟨b, q1, q2⟩ := h3 e
    rw [q1] at e2
    simp only [Value.map.injEq, Option.some.injEq] at e2
    have := heap_lt q2.2; omega
  · rintro l0 l2 l3 l4 a W ⟨v0, v1, v2, v3, v4, rfl, hF, h0, _, h2, h3, h4, h5⟩
    refine wpOp_val rfl rfl (v := .slice (some ⟨W.heap.size, 0, none⟩) 1 16) (w' := W.alloc oN) (by kernel_rfl) ?_
    exact ⟨v0, _, v2, v3, v4, rfl, hF.a _, old_ h0, fun _ => ⟨_, rfl, NB.mk_ hF _⟩, old_ h2, old_ h3, old_ h4, h5⟩
  · rintro l0 l1 l3 l4 a W ⟨v0, v1, v2, v3, v4, rfl, hF, h0, h1, _, h3, h4, h5⟩
    refine wpOp_val rfl rfl (v := .slice (some ⟨W.heap.size, 0, none⟩) 0 4) (w' := W.alloc oR) (by kernel_rfl) ?_
    exact ⟨v0, v1, _, v3, v4, rfl, hF.a _, old_ h0, old_ h1, fun _ => ⟨_, rfl, NB.mk_ hF _⟩, old_ h3, old_ h4, h5⟩
  · rintro l0 l1 l2 l4 a W ⟨v0, v1, v2, v3, v4, rfl, hF, h0, h1, h2, _, h4, _⟩
    refine wpOp_val rfl rfl (v := .map (some W.heap.size)) (w' := W.alloc (.map #[] 0)) rfl ?_
    refine ⟨v0, v1, v2, .map (some W.heap.size), v4, rfl, hF.a _, old_ h0, old_ h1, old_ h2, fun _ => ⟨_, rfl, NB.mk_ hF _⟩, old_ h4, fun e _ e2 => ?_⟩
    obtain ⟨b, q1, q2⟩ := h0 e
    rw [q1] at e2
    simp only [Value.map.injEq, Option.some.injEq] at e2
    have := heap_lt q2.2; omega
  · rintro l0 l1 l2 l3 a W ⟨v0, v1, v2, v3, v4, rfl, hF, h0, h1, h2, h3, _, h5⟩
    refine wpOp_val rfl rfl (v := .slice (some ⟨W.heap.size, 0, none⟩) 0 4) (w' := W.alloc oU) (by kernel_rfl) ?_
    exact ⟨v0, v1, v2, v3, _, rfl, hF.a _, old_ h0, old_ h1, old_ h2, old_ h3, fun _ => ⟨_, rfl, NB.mk_ hF _⟩, h5⟩
  · rintro a W ⟨v0, v1, v2, v3, v4, rfl, hF, h0, h1, h2, h3, h4, h5⟩
    obtain ⟨b0, rfl, k0⟩ := h0 rfl
    obtain ⟨b1, rfl, k1⟩ := h1 rfl
    obtain ⟨b2, rfl, k2⟩ := h2 rfl
    obtain ⟨b3, rfl, k3⟩ := h3 rfl
    obtain ⟨b4, rfl, k4⟩ := h4 rfl
    have hb : b0 ≠ b3 := fun e => h5 rfl rfl (by rw [e])
    refine wpAny_one (i := 5) (by kernel_rfl) (wpOp_val rfl rfl (v := .agg #[.int .u32 0, .int .u8 0, .map (some b0), .slice (some ⟨b1, 0, none⟩) 1 16, .slice (some ⟨b2, 0, none⟩) 0 4, .map (some b3), .slice (some ⟨b4, 0, none⟩) 0 4]) (w' := W) (by kernel_rfl) ?_)
    refine wpAny_one (i := 6) (by kernel_rfl) (wpOp_val rfl rfl (v := .pointer (some ⟨W.heap.size, 0, none⟩)) (w' := W.alloc (.cells #[.int .u32 0, .int .u8 0, .map (some b0), .slice (some ⟨b1, 0, none⟩) 1 16, .slice (some ⟨b2, 0, none⟩) 0 4, .map (some b3), .slice (some ⟨b4, 0, none⟩) 0 4] 110)) (by kernel_rfl) ?_)
    refine wpAny_one (i := 7) (by kernel_rfl) (wpOp_val rfl rfl (v := .pointer (some ⟨W.heap.size, 0, none⟩)) (w' := W.alloc (.cells #[.int .u32 0, .int .u8 0, .map (some b0), .slice (some ⟨b1, 0, none⟩) 1 16, .slice (some ⟨b2, 0, none⟩) 0 4, .map (some b3), .slice (some ⟨b4, 0, none⟩) 0 4] 110)) rfl ?_)
    refine ⟨by kernel_rfl, ?_⟩
    have FW := Lib.hid (hF.a (.cells #[.int .u32 0, .int .u8 0, .map (some b0), .slice (some ⟨b1, 0, none⟩) 1 16, .slice (some ⟨b2, 0, none⟩) 0 4, .map (some b3), .slice (some ⟨b4, 0, none⟩) 0 4] 110))
    have FS := Lib.hid hF.size
    have KK := Lib.hid (And.intro k0 (And.intro k1 (And.intro k2 (And.intro k3 (And.intro k4 hb)))))
    clear hF k0 k1 k2 k3 k4 hb h0 h1 h2 h3 h4 h5
    go_wp2
    go_ret
    exact init_rep rfl FW.out KK.out FS.out
  · exact ⟨undef, undef, undef, undef, undef, rfl, Fr.drew w _, nofun, nofun, nofun, nofun, nofun, nofun⟩
end Go.Proofs.Ytapnmgkpljlgmaa
namespace Go.Proofs.Ytapnmgkpljlgmaa
open Go.RowKit
attribute [local go_sem ↓] Go.wp_at_zero Go.wp_at_succ
def BoolPost (R : Bool → World → Prop) (e : Ending) (w : World) : Prop := ∃ b, e = .returned (.bool b) ∧ R b w
set_option maxRecDepth 10000 in
set_option maxHeartbeats 2000000 in
theorem wOrdered {R : Bool → World → Prop} {w : World} {q p x y : Nat} (hq : w.cell? ⟨q, 0, none⟩ = some (.pointer (some ⟨p, 0, none⟩))) (hx : x < 2147483648) (hy : y < 2147483648) (hkeep : ∀ b w', R b w' → w'.cell? ⟨q, 0, none⟩ = some (.pointer (some ⟨p, 0, none⟩)))
    (hop : ∀ (w' : World) (a1 a2 : Nat), Fr w w' Nix → w.heap.size ≤ a1 → w.heap.size ≤ a2 → w'.cell? ⟨a1, 0, none⟩ = some (.int .i32 (x : Nat)) → w'.cell? ⟨a2, 0, none⟩ = some (.int .i32 (y : Nat)) →
      Calls Try.prog 94 #[.pointer (some ⟨p, 0, none⟩), .pointer (some ⟨a1, 0, none⟩), .pointer (some ⟨a2, 0, none⟩)] w' (BoolPost R)) :
    Calls Try.prog 74 #[.pointer (some ⟨q, 0, none⟩), .int .i64 (x : Nat), .int .i64 (y : Nat)] w (BoolPost R) := by
  have HOP := Lib.hid hop
  have HKP := Lib.hid hkeep
  have HX := Lib.hid hx
  have HY := Lib.hid hy
  have hql := block_lt_of_cell hq
  have HQ := Lib.hid hql
  clear hop hkeep hx hy hql
  go_enter Try.func74, Try.ntmps74
  go_wp2_with fail
  go_region_held3 (fun w' => w'.cell? ⟨q, 0, none⟩ = some (.pointer (some ⟨p, 0, none⟩))) (go_keep)
    (first
      | (go_at_call 89; ((with_reducible refine (v_c x _ HX.out).mono ?_); rintro e w1 ⟨rfl, hc1, hF1⟩; have hq1 := (hF1.cell (a := ⟨q, 0, none⟩) HQ.out fun e => e).trans hq; have H1 := Lib.hid (And.intro hc1 hF1); clear hc1 hF1))
      | (go_at_call 89; ((with_reducible refine (v_c y _ HY.out).mono ?_); rintro e w2 ⟨rfl, hc2, hF2⟩; have hq2 := (hF2.cell (a := ⟨q, 0, none⟩) (Nat.lt_of_lt_of_le HQ.out H1.out.2.size) fun e => e).trans hq1; have H2 := Lib.hid (And.intro hc2 hF2); clear hc2 hF2))
      | (go_at_call 94; refine (HOP.out _ _ _ ((Fr.drew _ _).t (H1.out.2.t H2.out.2)) (Nat.le_refl _) H1.out.2.size ((H2.out.2.cell (a := ⟨_, 0, none⟩) (block_lt_of_cell H1.out.1) fun e => e).trans H1.out.1) H2.out.1).mono ?_; rintro e w3 ⟨b, rfl, hR⟩; have hq3 := HKP.out _ _ hR; have HR := Lib.hid hR; clear hR))
  go_wp2
  go_ret
  exact ⟨_, rfl, HR.out⟩
set_option maxRecDepth 10000 in
set_option maxHeartbeats 2000000 in
theorem wOrderedOrEqual {R : Bool → World → Prop} {w : World} {q p x y : Nat} (hq : w.cell? ⟨q, 0, none⟩ = some (.pointer (some ⟨p, 0, none⟩))) (hx : x < 2147483648) (hy : y < 2147483648) (hkeep : ∀ b w', R b w' → w'.cell? ⟨q, 0, none⟩ = some (.pointer (some ⟨p, 0, none⟩)))
    (hop : ∀ (w' : World) (a1 a2 : Nat), Fr w w' Nix → w.heap.size ≤ a1 → w.heap.size ≤ a2 → w'.cell? ⟨a1, 0, none⟩ = some (.int .i32 (x : Nat)) → w'.cell? ⟨a2, 0, none⟩ = some (.int .i32 (y : Nat)) →
      Calls Try.prog 96 #[.pointer (some ⟨p, 0, none⟩), .pointer (some ⟨a1, 0, none⟩), .pointer (some ⟨a2, 0, none⟩)] w' (BoolPost R)) :
    Calls Try.prog 77 #[.pointer (some ⟨q, 0, none⟩), .int .i64 (x : Nat), .int .i64 (y : Nat)] w (BoolPost R) := by
  have HOP := Lib.hid hop
  have HKP := Lib.hid hkeep
  have HX := Lib.hid hx
  have HY := Lib.hid hy
  have hql := block_lt_of_cell hq
  have HQ := Lib.hid hql
  clear hop hkeep hx hy hql
  go_enter Try.func77, Try.ntmps77
  go_wp2_with fail
  go_region_held3 (fun w' => w'.cell? ⟨q, 0, none⟩ = some (.pointer (some ⟨p, 0, none⟩))) (go_keep)
    (first
      | (go_at_call 89; ((with_reducible refine (v_c x _ HX.out).mono ?_); rintro e w1 ⟨rfl, hc1, hF1⟩; have hq1 := (hF1.cell (a := ⟨q, 0, none⟩) HQ.out fun e => e).trans hq; have H1 := Lib.hid (And.intro hc1 hF1); clear hc1 hF1))
      | (go_at_call 89; ((with_reducible refine (v_c y _ HY.out).mono ?_); rintro e w2 ⟨rfl, hc2, hF2⟩; have hq2 := (hF2.cell (a := ⟨q, 0, none⟩) (Nat.lt_of_lt_of_le HQ.out H1.out.2.size) fun e => e).trans hq1; have H2 := Lib.hid (And.intro hc2 hF2); clear hc2 hF2))
      | (go_at_call 96; refine (HOP.out _ _ _ ((Fr.drew _ _).t (H1.out.2.t H2.out.2)) (Nat.le_refl _) H1.out.2.size ((H2.out.2.cell (a := ⟨_, 0, none⟩) (block_lt_of_cell H1.out.1) fun e => e).trans H1.out.1) H2.out.1).mono ?_; rintro e w3 ⟨b, rfl, hR⟩; have hq3 := HKP.out _ _ hR; have HR := Lib.hid hR; clear hR))
  go_wp2
  go_ret
  exact ⟨_, rfl, HR.out⟩
set_option maxRecDepth 10000 in
set_option maxHeartbeats 2000000 in
theorem wEqual {R : Bool → World → Prop} {w : World} {q p x y : Nat} (hq : w.cell? ⟨q, 0, none⟩ = some (.pointer (some ⟨p, 0, none⟩))) (hx : x < 2147483648) (hy : y < 2147483648) (hkeep : ∀ b w', R b w' → w'.cell? ⟨q, 0, none⟩ = some (.pointer (some ⟨p, 0, none⟩)))
    (hop : ∀ (w' : World) (a1 a2 : Nat), Fr w w' Nix → w.heap.size ≤ a1 → w.heap.size ≤ a2 → w'.cell? ⟨a1, 0, none⟩ = some (.int .i32 (x : Nat)) → w'.cell? ⟨a2, 0, none⟩ = some (.int .i32 (y : Nat)) →
      Calls Try.prog 92 #[.pointer (some ⟨p, 0, none⟩), .pointer (some ⟨a1, 0, none⟩), .pointer (some ⟨a2, 0, none⟩)] w' (BoolPost R)) :
    Calls Try.prog 72 #[.pointer (some ⟨q, 0, none⟩), .int .i64 (x : Nat), .int .i64 (y : Nat)] w (BoolPost R) := by
  have HOP := Lib.hid hop
  have HKP := Lib.hid hkeep
  have HX := Lib.hid hx
  have HY := Lib.hid hy
  have hql := block_lt_of_cell hq
  have HQ := Lib.hid hql
  clear hop hkeep hx hy hql
  go_enter Try.func72, Try.ntmps72
  go_wp2_with fail
  go_region_held3 (fun w' => w'.cell? ⟨q, 0, none⟩ = some (.pointer (some ⟨p, 0, none⟩))) (go_keep)
    (first
      | (go_at_call 89; ((with_reducible refine (v_c x _ HX.out).mono ?_); rintro e w1 ⟨rfl, hc1, hF1⟩; have hq1 := (hF1.cell (a := ⟨q, 0, none⟩) HQ.out fun e => e).trans hq; have H1 := Lib.hid (And.intro hc1 hF1); clear hc1 hF1))
      | (go_at_call 89; ((with_reducible refine (v_c y _ HY.out).mono ?_); rintro e w2 ⟨rfl, hc2, hF2⟩; have hq2 := (hF2.cell (a := ⟨q, 0, none⟩) (Nat.lt_of_lt_of_le HQ.out H1.out.2.size) fun e => e).trans hq1; have H2 := Lib.hid (And.intro hc2 hF2); clear hc2 hF2))
      | (go_at_call 92; refine (HOP.out _ _ _ ((Fr.drew _ _).t (H1.out.2.t H2.out.2)) (Nat.le_refl _) H1.out.2.size ((H2.out.2.cell (a := ⟨_, 0, none⟩) (block_lt_of_cell H1.out.1) fun e => e).trans H1.out.1) H2.out.1).mono ?_; rintro e w3 ⟨b, rfl, hR⟩; have hq3 := HKP.out _ _ hR; have HR := Lib.hid hR; clear hR))
  go_wp2
  go_ret
  exact ⟨_, rfl, HR.out⟩
set_option maxRecDepth 10000 in
set_option maxHeartbeats 2000000 in
theorem wNonEqual {R : Bool → World → Prop} {w : World} {q p x y : Nat} (hq : w.cell? ⟨q, 0, none⟩ = some (.pointer (some ⟨p, 0, none⟩))) (hx : x < 2147483648) (hy : y < 2147483648) (hkeep : ∀ b w', R b w' → w'.cell? ⟨q, 0, none⟩ = some (.pointer (some ⟨p, 0, none⟩)))
    (hop : ∀ (w' : World) (a1 a2 : Nat), Fr w w' Nix → w.heap.size ≤ a1 → w.heap.size ≤ a2 → w'.cell? ⟨a1, 0, none⟩ = some (.int .i32 (x : Nat)) → w'.cell? ⟨a2, 0, none⟩ = some (.int .i32 (y : Nat)) →
      Calls Try.prog 90 #[.pointer (some ⟨p, 0, none⟩), .pointer (some ⟨a1, 0, none⟩), .pointer (some ⟨a2, 0, none⟩)] w' (BoolPost R)) :
    Calls Try.prog 70 #[.pointer (some ⟨q, 0, none⟩), .int .i64 (x : Nat), .int .i64 (y : Nat)] w (BoolPost R) := by
  have HOP := Lib.hid hop
  have HKP := Lib.hid hkeep
  have HX := Lib.hid hx
  have HY := Lib.hid hy
  have hql := block_lt_of_cell hq
  have HQ := Lib.hid hql
  clear hop hkeep hx hy hql
  go_enter Try.func70, Try.ntmps70
  go_wp2_with fail
  go_region_held3 (fun w' => w'.cell? ⟨q, 0, none⟩ = some (.pointer (some ⟨p, 0, none⟩))) (go_keep)
    (first
      | (go_at_call 89; ((with_reducible refine (v_c x _ HX.out).mono ?_); rintro e w1 ⟨rfl, hc1, hF1⟩; have hq1 := (hF1.cell (a := ⟨q, 0, none⟩) HQ.out fun e => e).trans hq; have H1 := Lib.hid (And.intro hc1 hF1); clear hc1 hF1))
      | (go_at_call 89; ((with_reducible refine (v_c y _ HY.out).mono ?_); rintro e w2 ⟨rfl, hc2, hF2⟩; have hq2 := (hF2.cell (a := ⟨q, 0, none⟩) (Nat.lt_of_lt_of_le HQ.out H1.out.2.size) fun e => e).trans hq1; have H2 := Lib.hid (And.intro hc2 hF2); clear hc2 hF2))
      | (go_at_call 90; refine (HOP.out _ _ _ ((Fr.drew _ _).t (H1.out.2.t H2.out.2)) (Nat.le_refl _) H1.out.2.size ((H2.out.2.cell (a := ⟨_, 0, none⟩) (block_lt_of_cell H1.out.1) fun e => e).trans H1.out.1) H2.out.1).mono ?_; rintro e w3 ⟨b, rfl, hR⟩; have hq3 := HKP.out _ _ hR; have HR := Lib.hid hR; clear hR))
  go_wp2
  go_ret
  exact ⟨_, rfl, HR.out⟩
set_option maxRecDepth 10000 in
set_option maxHeartbeats 2000000 in
theorem wSetOrder {R : Bool → World → Prop} {w : World} {q p x y : Nat} (hq : w.cell? ⟨q, 0, none⟩ = some (.pointer (some ⟨p, 0, none⟩))) (hx : x < 2147483648) (hy : y < 2147483648) (hkeep : ∀ b w', R b w' → w'.cell? ⟨q, 0, none⟩ = some (.pointer (some ⟨p, 0, none⟩)))
    (hop : ∀ (w' : World) (a1 a2 : Nat), Fr w w' Nix → w.heap.size ≤ a1 → w.heap.size ≤ a2 → w'.cell? ⟨a1, 0, none⟩ = some (.int .i32 (x : Nat)) → w'.cell? ⟨a2, 0, none⟩ = some (.int .i32 (y : Nat)) →
      Calls Try.prog 93 #[.pointer (some ⟨p, 0, none⟩), .pointer (some ⟨a1, 0, none⟩), .pointer (some ⟨a2, 0, none⟩)] w' (BoolPost R)) :
    Calls Try.prog 73 #[.pointer (some ⟨q, 0, none⟩), .int .i64 (x : Nat), .int .i64 (y : Nat)] w (BoolPost R) := by
  have HOP := Lib.hid hop
  have HKP := Lib.hid hkeep
  have HX := Lib.hid hx
  have HY := Lib.hid hy
  have hql := block_lt_of_cell hq
  have HQ := Lib.hid hql
  clear hop hkeep hx hy hql
  go_enter Try.func73, Try.ntmps73
  go_wp2_with fail
  go_region_held3 (fun w' => w'.cell? ⟨q, 0, none⟩ = some (.pointer (some ⟨p, 0, none⟩))) (go_keep)
    (first
      | (go_at_call 89; ((with_reducible refine (v_c x _ HX.out).mono ?_); rintro e w1 ⟨rfl, hc1, hF1⟩; have hq1 := (hF1.cell (a := ⟨q, 0, none⟩) HQ.out fun e => e).trans hq; have H1 := Lib.hid (And.intro hc1 hF1); clear hc1 hF1))
      | (go_at_call 89; ((with_reducible refine (v_c y _ HY.out).mono ?_); rintro e w2 ⟨rfl, hc2, hF2⟩; have hq2 := (hF2.cell (a := ⟨q, 0, none⟩) (Nat.lt_of_lt_of_le HQ.out H1.out.2.size) fun e => e).trans hq1; have H2 := Lib.hid (And.intro hc2 hF2); clear hc2 hF2))
      | (go_at_call 93; refine (HOP.out _ _ _ ((Fr.drew _ _).t (H1.out.2.t H2.out.2)) (Nat.le_refl _) H1.out.2.size ((H2.out.2.cell (a := ⟨_, 0, none⟩) (block_lt_of_cell H1.out.1) fun e => e).trans H1.out.1) H2.out.1).mono ?_; rintro e w3 ⟨b, rfl, hR⟩; have hq3 := HKP.out _ _ hR; have HR := Lib.hid hR; clear hR))
  go_wp2
  go_ret
  exact ⟨_, rfl, HR.out⟩
set_option maxRecDepth 10000 in
set_option maxHeartbeats 2000000 in
theorem wSetOrderOrEqual {R : Bool → World → Prop} {w : World} {q p x y : Nat} (hq : w.cell? ⟨q, 0, none⟩ = some (.pointer (some ⟨p, 0, none⟩))) (hx : x < 2147483648) (hy : y < 2147483648) (hkeep : ∀ b w', R b w' → w'.cell? ⟨q, 0, none⟩ = some (.pointer (some ⟨p, 0, none⟩)))
    (hop : ∀ (w' : World) (a1 a2 : Nat), Fr w w' Nix → w.heap.size ≤ a1 → w.heap.size ≤ a2 → w'.cell? ⟨a1, 0, none⟩ = some (.int .i32 (x : Nat)) → w'.cell? ⟨a2, 0, none⟩ = some (.int .i32 (y : Nat)) →
      Calls Try.prog 95 #[.pointer (some ⟨p, 0, none⟩), .pointer (some ⟨a1, 0, none⟩), .pointer (some ⟨a2, 0, none⟩)] w' (BoolPost R)) :
    Calls Try.prog 76 #[.pointer (some ⟨q, 0, none⟩), .int .i64 (x : Nat), .int .i64 (y : Nat)] w (BoolPost R) := by
  have HOP := Lib.hid hop
  have HKP := Lib.hid hkeep
  have HX := Lib.hid hx
  have HY := Lib.hid hy
  have hql := block_lt_of_cell hq
  have HQ := Lib.hid hql
  clear hop hkeep hx hy hql
  go_enter Try.func76, Try.ntmps76
  go_wp2_with fail
  go_region_held3 (fun w' => w'.cell? ⟨q, 0, none⟩ = some (.pointer (some ⟨p, 0, none⟩))) (go_keep)
    (first
      | (go_at_call 89; ((with_reducible refine (v_c x _ HX.out).mono ?_); rintro e w1 ⟨rfl, hc1, hF1⟩; have hq1 := (hF1.cell (a := ⟨q, 0, none⟩) HQ.out fun e => e).trans hq; have H1 := Lib.hid (And.intro hc1 hF1); clear hc1 hF1))
      | (go_at_call 89; ((with_reducible refine (v_c y _ HY.out).mono ?_); rintro e w2 ⟨rfl, hc2, hF2⟩; have hq2 := (hF2.cell (a := ⟨q, 0, none⟩) (Nat.lt_of_lt_of_le HQ.out H1.out.2.size) fun e => e).trans hq1; have H2 := Lib.hid (And.intro hc2 hF2); clear hc2 hF2))
      | (go_at_call 95; refine (HOP.out _ _ _ ((Fr.drew _ _).t (H1.out.2.t H2.out.2)) (Nat.le_refl _) H1.out.2.size ((H2.out.2.cell (a := ⟨_, 0, none⟩) (block_lt_of_cell H1.out.1) fun e => e).trans H1.out.1) H2.out.1).mono ?_; rintro e w3 ⟨b, rfl, hR⟩; have hq3 := HKP.out _ _ hR; have HR := Lib.hid hR; clear hR))
  go_wp2
  go_ret
  exact ⟨_, rfl, HR.out⟩
set_option maxRecDepth 10000 in
set_option maxHeartbeats 2000000 in
theorem wSetEqual {R : Bool → World → Prop} {w : World} {q p x y : Nat} (hq : w.cell? ⟨q, 0, none⟩ = some (.pointer (some ⟨p, 0, none⟩))) (hx : x < 2147483648) (hy : y < 2147483648) (hkeep : ∀ b w', R b w' → w'.cell? ⟨q, 0, none⟩ = some (.pointer (some ⟨p, 0, none⟩)))
    (hop : ∀ (w' : World) (a1 a2 : Nat), Fr w w' Nix → w.heap.size ≤ a1 → w.heap.size ≤ a2 → w'.cell? ⟨a1, 0, none⟩ = some (.int .i32 (x : Nat)) → w'.cell? ⟨a2, 0, none⟩ = some (.int .i32 (y : Nat)) →
      Calls Try.prog 91 #[.pointer (some ⟨p, 0, none⟩), .pointer (some ⟨a1, 0, none⟩), .pointer (some ⟨a2, 0, none⟩)] w' (BoolPost R)) :
    Calls Try.prog 71 #[.pointer (some ⟨q, 0, none⟩), .int .i64 (x : Nat), .int .i64 (y : Nat)] w (BoolPost R) := by
  have HOP := Lib.hid hop
  have HKP := Lib.hid hkeep
  have HX := Lib.hid hx
  have HY := Lib.hid hy
  have hql := block_lt_of_cell hq
  have HQ := Lib.hid hql
  clear hop hkeep hx hy hql
  go_enter Try.func71, Try.ntmps71
  go_wp2_with fail
  go_region_held3 (fun w' => w'.cell? ⟨q, 0, none⟩ = some (.pointer (some ⟨p, 0, none⟩))) (go_keep)
    (first
      | (go_at_call 89; ((with_reducible refine (v_c x _ HX.out).mono ?_); rintro e w1 ⟨rfl, hc1, hF1⟩; have hq1 := (hF1.cell (a := ⟨q, 0, none⟩) HQ.out fun e => e).trans hq; have H1 := Lib.hid (And.intro hc1 hF1); clear hc1 hF1))
      | (go_at_call 89; ((with_reducible refine (v_c y _ HY.out).mono ?_); rintro e w2 ⟨rfl, hc2, hF2⟩; have hq2 := (hF2.cell (a := ⟨q, 0, none⟩) (Nat.lt_of_lt_of_le HQ.out H1.out.2.size) fun e => e).trans hq1; have H2 := Lib.hid (And.intro hc2 hF2); clear hc2 hF2))
      | (go_at_call 91; refine (HOP.out _ _ _ ((Fr.drew _ _).t (H1.out.2.t H2.out.2)) (Nat.le_refl _) H1.out.2.size ((H2.out.2.cell (a := ⟨_, 0, none⟩) (block_lt_of_cell H1.out.1) fun e => e).trans H1.out.1) H2.out.1).mono ?_; rintro e w3 ⟨b, rfl, hR⟩; have hq3 := HKP.out _ _ hR; have HR := Lib.hid hR; clear hR))
  go_wp2
  go_ret
  exact ⟨_, rfl, HR.out⟩
set_option maxRecDepth 10000 in
set_option maxHeartbeats 2000000 in
theorem wSetNonEqual {R : Bool → World → Prop} {w : World} {q p x y : Nat} (hq : w.cell? ⟨q, 0, none⟩ = some (.pointer (some ⟨p, 0, none⟩))) (hx : x < 2147483648) (hy : y < 2147483648) (hkeep : ∀ b w', R b w' → w'.cell? ⟨q, 0, none⟩ = some (.pointer (some ⟨p, 0, none⟩)))
    (hop : ∀ (w' : World) (a1 a2 : Nat), Fr w w' Nix → w.heap.size ≤ a1 → w.heap.size ≤ a2 → w'.cell? ⟨a1, 0, none⟩ = some (.int .i32 (x : Nat)) → w'.cell? ⟨a2, 0, none⟩ = some (.int .i32 (y : Nat)) →
      Calls Try.prog 88 #[.pointer (some ⟨p, 0, none⟩), .pointer (some ⟨a1, 0, none⟩), .pointer (some ⟨a2, 0, none⟩)] w' (BoolPost R)) :
    Calls Try.prog 69 #[.pointer (some ⟨q, 0, none⟩), .int .i64 (x : Nat), .int .i64 (y : Nat)] w (BoolPost R) := by
  have HOP := Lib.hid hop
  have HKP := Lib.hid hkeep
  have HX := Lib.hid hx
  have HY := Lib.hid hy
  have hql := block_lt_of_cell hq
  have HQ := Lib.hid hql
  clear hop hkeep hx hy hql
  go_enter Try.func69, Try.ntmps69
  go_wp2_with fail
  go_region_held3 (fun w' => w'.cell? ⟨q, 0, none⟩ = some (.pointer (some ⟨p, 0, none⟩))) (go_keep)
    (first
      | (go_at_call 89; ((with_reducible refine (v_c x _ HX.out).mono ?_); rintro e w1 ⟨rfl, hc1, hF1⟩; have hq1 := (hF1.cell (a := ⟨q, 0, none⟩) HQ.out fun e => e).trans hq; have H1 := Lib.hid (And.intro hc1 hF1); clear hc1 hF1))
      | (go_at_call 89; ((with_reducible refine (v_c y _ HY.out).mono ?_); rintro e w2 ⟨rfl, hc2, hF2⟩; have hq2 := (hF2.cell (a := ⟨q, 0, none⟩) (Nat.lt_of_lt_of_le HQ.out H1.out.2.size) fun e => e).trans hq1; have H2 := Lib.hid (And.intro hc2 hF2); clear hc2 hF2))
      | (go_at_call 88; refine (HOP.out _ _ _ ((Fr.drew _ _).t (H1.out.2.t H2.out.2)) (Nat.le_refl _) H1.out.2.size ((H2.out.2.cell (a := ⟨_, 0, none⟩) (block_lt_of_cell H1.out.1) fun e => e).trans H1.out.1) H2.out.1).mono ?_; rintro e w3 ⟨b, rfl, hR⟩; have hq3 := HKP.out _ _ hR; have HR := Lib.hid hR; clear hR))
  go_wp2
  go_ret
  exact ⟨_, rfl, HR.out⟩

theorem NewPoset_c (w : World) : Calls Try.prog 68 #[] w fun e w' => ∃ q p L, e = .returned (.pointer (some ⟨q, 0, none⟩)) ∧ w'.cell? ⟨q, 0, none⟩ = some (.pointer (some ⟨p, 0, none⟩)) ∧ Rep w' p PS.init L ∧ Fr w w' Nix ∧ (∀ g, L.own g → w.heap.size ≤ g) ∧ w.heap.size ≤ q ∧ ¬ L.own q := by
  go_enter Try.func68, Try.ntmps68
  go_wp2_with fail
  refine (newPoset_c w).mono ?_
  rintro e w1 ⟨p, L, rfl, hR, hF, hO⟩
  have H := Lib.hid (And.intro hR (And.intro hF hO))
  have hc := cells_new w1 [.pointer (some ⟨p, 0, none⟩)] 93 0 _ rfl
  have HC := Lib.hid hc
  clear hR hF hO hc
  go_wp2
  go_ret
  exact ⟨_, p, L, rfl, HC.out, H.out.1.nix (Fr.al _ _), H.out.2.1.a _, H.out.2.2, H.out.2.1.size, fun ho => Nat.lt_irrefl _ (H.out.1.lt _ ho)⟩
end Go.Proofs.Ytapnmgkpljlgmaa
