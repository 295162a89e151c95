/- impl.sound, impl.Intact: no panic comes, and the deferred closure finds none. -/
import Derived.Test.YtapnmgkpljlgmaaG35
import Derived.Test.YtapnmgkpljlgmaaG34
import Derived.Recover
import Derived.Defers
set_option linter.unusedVariables false
set_option linter.unusedSimpArgs false
namespace Go.Proofs.Ytapnmgkpljlgmaa
open Go.RowKit
set_option maxHeartbeats 1000000 in
theorem Sound_c {w : World} {q : Nat} {S : PS} {O : Nat → Prop} (h : At w q S O) (ok : OK S) :
    Calls Try.prog 101 #[.pointer (some ⟨q, 0, none⟩)] w fun e w' => e = .returned (.tuple #[]) ∧ Fr w w' Nix := by
  obtain ⟨p, L, hq, h2, h3, h4⟩ := h
  have H := Lib.hid h2
  clear h2 h3 h4
  go_enter Try.func101, Try.ntmps101
  go_wp2_with fail
  refine (CheckIntegrity_c H.out ok).mono ?_
  rintro e w1 ⟨rfl, hF⟩
  have HF := Lib.hid hF
  clear hF hq
  go_wp2
  go_end0
  exact ⟨rfl, HF.out⟩
theorem sound1_idle (p : Addr) (w : World) :
    CallsD Try.prog 100 #[.pointer (some p)] .returning w fun e u' w' => e = .returned (.tuple #[]) ∧ u' = .returning ∧ w' = w := by
  refine callsD_of_wpS Try.func100 rfl fun c₀ cs hu => ?_
  apply wpS_seq
  apply wpS_region
  simp [wpOpsS, go_sem, recoverD, hu, Try.ntmps100, Exit.thenS]
  refine wpS_cond (t := false) (by simp [Act.eval, Array.replicate]) ?_
  simp only [Bool.false_eq_true, if_false]
  refine wpS_of_wp (wp_skip ?_)
  cases c₀
  simp_all [bodyPostS, results, Try.results100]
set_option maxHeartbeats 1000000 in
theorem sound_c {w : World} {q : Nat} {S : PS} {O : Nat → Prop} (h : At w q S O) (ok : OK S) :
    Calls Try.prog 82 #[.pointer (some ⟨q, 0, none⟩)] w (Done w) := by
  have hmf : ∀ (fn : Fn) (first cap : Array Value) (w : World), (Instr.makeFunc fn first cap).run Try.prog w = .ok (.func fn first cap) w := fun _ _ _ _ => rfl
  have H := Lib.hid (And.intro h ok)
  clear h ok
  go_enter_defers Try.func82, Try.ntmps82
  go_wp2_with fail
  refine (Sound_c (H.out.1.nix (Fr.al _ _)) H.out.2).mono ?_
  rintro e w2 ⟨rfl, hF2⟩
  have hb : w2.heap[w.heap.size]? = some (.cells #[.bool false] 4 (0, 0)) := (hF2.block _ (by simp) fun e => e).trans (heap_alloc_new w _)
  have c0 := cell_block (j := 0) hb
  have f0 := frozen_block (j := 0) hb
  have HF := Lib.hid (show Fr w (w2.setCell ⟨w.heap.size, 0, none⟩ (.bool true)) Nix from ((Fr.al w _).t hF2).trans (Fr.setCell (F := fun i => i = w.heap.size) w2 ⟨w.heap.size, 0, none⟩ (.bool true) rfl) fun i hi => .inr (by omega))
  have HB := Lib.hid hb
  clear hF2 hb
  go_wp2
  refine leaves_cons (f := 100) (args := #[.pointer (some ⟨w.heap.size, 0, none⟩)]) (by simp) (by simp [go_sem]) ?_
  refine (sound1_idle ⟨w.heap.size, 0, none⟩ _).mono ?_
  rintro e u' w'' ⟨rfl, rfl, rfl⟩
  have hc : (w2.setCell ⟨w.heap.size, 0, none⟩ (.bool true)).cell? ⟨w.heap.size, 0, none⟩ = some (.bool true) := (cell_block (j := 0) (set_block (j := 0) (.bool true) HB.out)).trans rfl
  simp [Leaves, settle, results, Try.results82, go_sem]
  rw [hc]
  exact ⟨.bool true, rfl, rfl, HF.out⟩
def inLoop (w : World) (q : Nat) (l : List Z3) (n m : Nat) (u : Value) (wr : World) : Prop :=
  ∃ (k : Nat) (O : Nat → Prop), m + k = n ∧ u = .int .i64 (k : Nat) ∧ Fr w wr Nix ∧ RSt [] wr q k (mrun m00 (sts (l.take k))).1 O ∧ ∀ g, O g → w.heap.size ≤ g
set_option maxRecDepth 10000 in
set_option maxHeartbeats 8000000 in
theorem Intact_c {A : Option Addr} {n c : Nat} {v vals : Int} {l : List Z3} {w : World} (h : Rd w 3 A n (z3s l)) (g : GoodZ v l) :
    Calls Try.prog 53 #[.int .i64 vals, .slice A n c] w (Done w) := by
  have hlen : l.length = n := by have := h.1; rw [z3s_len] at this; omega
  have H := Lib.hid (And.intro h (And.intro g hlen))
  have hni : (n : Int) ≤ 64 := by have := g.len; omega
  clear h g hlen
  go_enter Try.func53, Try.ntmps53
  go_wp2_with fail
  refine (NewPoset_c w).mono ?_
  rintro e w1 ⟨q, p, L, rfl, k1, k2, k3, k4, k5, k6⟩
  have HP := Lib.hid (And.intro (show At w1 q PS.init (fun g => L.own g ∨ g = q) from ⟨p, L, k1, k2, k6, fun _ => Iff.rfl⟩) (And.intro k3 (show ∀ g, (L.own g ∨ g = q) → w.heap.size ≤ g from fun g hg => hg.elim (k4 g) (fun e => e ▸ k5))))
  clear k1 k2 k3 k4 k5 k6
  go_wp2_with fail
  go_loopg [11] n (fun m u wr => inLoop w q l n m u wr)
  case atStart => exact ⟨0, _, rfl, rfl, HP.out.2.1, ⟨PS.init, [], HP.out.1, init_li, .nil _, by rw [init_abs]; rfl⟩, HP.out.2.2⟩
  case round =>
    obtain ⟨k, O, hmk, rfl, hF, hR, hO⟩ := hrel
    have HMK := Lib.hid hmk
    have HR := Lib.hid (And.intro hF (And.intro hR hO))
    clear hmk hF hR hO
    by_cases hlt : k < n
    · obtain ⟨ad, po, px, py, rfl, hz, hc⟩ := rd3 (H.out.1.nix HR.out.1) hlt
      have HC := Lib.hid hc
      have HZ := Lib.hid hz
      have HW := Lib.hid ((H.out.2.1.wf _ (List.mem_of_getElem? hz)).mono H.out.2.1.v12)
      have HE := Lib.hid (fun h9 => deep_at H.out.2.1.deep hz h9)
      clear hz hc
      go_wp2_with (first
        | (with_reducible refine wpList_ld (o := ⟨some 14, _, _, _, _, _⟩) rfl 47 (.tmp 13) rfl _ rfl #[.int .i64 po, .int .i64 px, .int .i64 py] _ HC.out Try.underlying47 rfl (by kernel_rfl) ?_)
        | fail)
      refine (step_c (z := (po, px, py)) (HR.out.2.1.nix (Fr.al _ _)) (by have := HMK.out; omega) HW.out HE.out).mono ?_
      rintro e w3 ⟨O', rfl, a1, a2⟩
      have HA := Lib.hid (And.intro (mov_on HR.out.1 HR.out.2.2 (Fr.al _ _) a2) a1)
      clear a1 a2
      go_wp2
      go_roundg (n - (k + 1))
      case measure => have := HMK.out; omega
      case rel =>
        refine ⟨k + 1, O', by have := HMK.out; omega, by rw [Int.natCast_add]; rfl, HA.out.1.1, ?_, HA.out.1.2⟩
        rw [mrun_take HZ.out]; exact HA.out.2
    · have hk : k = n := by have := HMK.out; omega
      subst hk
      obtain ⟨S, stk, hA, li, _, _⟩ := HR.out.2.1
      have HA := Lib.hid (And.intro hA li.ok)
      clear hA li
      go_wp2_with fail
      refine (sound_c HA.out.1 HA.out.2).mono ?_
      rintro e w4 ⟨rfl, hF4⟩
      have HF4 := Lib.hid (HR.out.1.t hF4)
      clear hF4
      go_wp2
      go_ret
      exact ⟨rfl, HF4.out⟩
end Go.Proofs.Ytapnmgkpljlgmaa
