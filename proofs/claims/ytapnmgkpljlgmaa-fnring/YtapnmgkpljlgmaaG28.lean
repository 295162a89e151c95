/- Shuffled: a list in another order. -/
import Derived.Test.YtapnmgkpljlgmaaG26
set_option linter.unusedVariables false
set_option linter.unusedSimpArgs false
namespace Go.Proofs.Ytapnmgkpljlgmaa
open Go.RowKit

def shI (n t : Nat) (b : Bool) (k : Nat) : Nat := if b = true then n - 1 - (k + t) % n else (k + t) % n
def shuf {α : Type} (z : α) (l : List α) (t : Nat) (b : Bool) : List α := (List.range l.length).map fun k => l.getD (shI l.length t b k) z
def shufZ (l : List Z3) (t : Nat) (b : Bool) : List Z3 := shuf (0, 0, 0) l t b
theorem shI_lt {n t k : Nat} (b : Bool) (h : k < n) : shI n t b k < n := by
  unfold shI
  have := Nat.mod_lt (k + t) (show 0 < n by omega)
  split <;> omega
theorem shuf_len {α : Type} (z : α) (l : List α) (t : Nat) (b : Bool) : (shuf z l t b).length = l.length := by simp [shuf]
theorem shuf_get {α : Type} {z : α} {l : List α} {t k : Nat} {b : Bool} {u : α} (hk : k < l.length) (h : l[shI l.length t b k]? = some u) : (shuf z l t b)[k]? = some u := by
  unfold shuf
  rw [List.getElem?_map, List.getElem?_range hk]
  simp [List.getD, h]
theorem shI_on {n t i : Nat} (b : Bool) (hi : i < n) (ht : t ≤ n) : ∃ k, k < n ∧ shI n t b k = i := by
  have key : ∀ i, i < n → ∃ k, k < n ∧ (k + t) % n = i := fun i hi => by
    refine ⟨(i + (n - t)) % n, Nat.mod_lt _ (by omega), ?_⟩
    rw [Nat.mod_add_mod, show i + (n - t) + t = i + n by omega, Nat.add_mod_right, Nat.mod_eq_of_lt hi]
  cases b
  · obtain ⟨k, h1, h2⟩ := key i hi
    exact ⟨k, h1, by unfold shI; rw [if_neg (by decide)]; exact h2⟩
  · obtain ⟨k, h1, h2⟩ := key (n - 1 - i) (by omega)
    exact ⟨k, h1, by unfold shI; rw [if_pos rfl, h2]; omega⟩
theorem shuf_mem {α : Type} {z : α} {l : List α} {t : Nat} {b : Bool} (ht : t ≤ l.length) (u : α) : u ∈ l ↔ u ∈ shuf z l t b := by
  constructor
  · intro h
    obtain ⟨i, hi, e⟩ := List.mem_iff_getElem.1 h
    obtain ⟨k, h1, h2⟩ := shI_on b hi ht
    exact List.mem_of_getElem? (shuf_get (z := z) (t := t) (b := b) h1 (by rw [h2, List.getElem?_eq_getElem hi, e]))
  · intro h
    obtain ⟨k, hk, rfl⟩ := List.mem_map.1 h
    have := shI_lt (t := t) b (List.mem_range.1 hk)
    rw [List.getD_eq_getElem?_getD, List.getElem?_eq_getElem this]
    exact List.getElem_mem _
set_option maxRecDepth 10000 in
set_option maxHeartbeats 4000000 in
theorem shuffled_c {A : Option Addr} {n c t : Nat} {b : Bool} {l : List Z3} {w : World} (h : Rd w 3 A n (z3s l)) (hn : n < 2147483648) (ht : t ≤ n) :
    Calls Try.prog 48 #[.slice A n c, .int .i64 (t : Nat), .bool b] w fun e w' => ∃ u, e = .returned u ∧ Fsh w w' 40 3 u n (z3s (shufZ l t b)) := by
  have H := Lib.hid h
  have HN := Lib.hid (And.intro hn ht)
  have hm : (n : Int) < 2147483648 := by omega
  have hti : (t : Int) ≤ (n : Int) := by omega
  have HLN := Lib.hid (show l.length = n by have := h.1; rw [z3s_len] at this; omega)
  obtain ⟨q, hq⟩ : ∃ q, shufZ l t b = q := ⟨_, rfl⟩
  have HQ := Lib.hid hq
  rw [hq]
  clear h hn hq ht
  go_enter Try.func48, Try.ntmps48
  go_wp2_with fail
  go_loopg [7, 13] n (fun m v u wr => mirLoop w q n m v u wr)
  case atStart => exact ⟨0, rfl, rfl, Fsh.empty w 40 3⟩
  case round =>
    obtain ⟨k, hmk, rfl, hF⟩ := hrel
    have HF := Lib.hid hF
    have HMK := Lib.hid hmk
    clear hF hmk
    by_cases hlt : k < n
    · obtain ⟨J, hJ⟩ : ∃ J, shI n t b k = J := ⟨_, rfl⟩
      have hJn := shI_lt (t := t) b hlt
      rw [hJ] at hJn
      obtain ⟨ad, po, px, py, rfl, hz, hc⟩ := rd3 (H.out.nix HF.out.fr) hJn
      have HZ := Lib.hid (show q[k]? = some (po, px, py) by rw [← HQ.out]; exact shuf_get (by rw [HLN.out]; exact hlt) (by rw [HLN.out, hJ]; exact hz))
      have HC := Lib.hid hc
      have hown := HF.out.own
      have HL := Lib.hid (lim24 (n := k) (by have := HN.out; omega))
      have HJN := Lib.hid (And.intro hJ hJn)
      have hn0 : ¬ (n : Int) = 0 := by omega
      have hki : (k : Int) < (n : Int) := by omega
      have s0 : (0 : Int) ≤ (k : Int) + (t : Int) := by omega
      have hJi : (J : Int) < (n : Int) := by omega
      clear hz hc hJn
      cases b
      · have e1 : ((k : Int) + (t : Int)) % (n : Int) = (J : Int) := by rw [← hJ, ← Int.natCast_add, ← Int.natCast_emod]; unfold shI; rw [if_neg (by decide)]
        clear hJ
        go_wp2_with (first
          | (with_reducible refine wpList_ld (o := ⟨some 32, _, _, _, _, _⟩) rfl 40 (.tmp 31) rfl _ rfl #[.int .i64 po, .int .i64 px, .int .i64 py] _ HC.out Try.underlying40 rfl (by kernel_rfl) ?_)
          | (at_builtin; refine wpList_app _ rfl (.tmp 28) (.tmp 33) 24 rfl 40 _ 3 24 Try.underlying24 info_step rfl (by decide) _ _ _ rfl (hown.alloc _) ⟨_, 0, none⟩ 1 1 (z3c (po, px, py)) rfl rfl (by decide) (cells_at _ _ rfl _ _) (z3_one _) HL.out.1 HL.out.2 ?_)
          | fail)
        intro g cap w1 hown1 hgrow1 hnew1
        have hF1 := Lib.hid (HF.out.app (Fr.al _ _) hown1 hgrow1 (by simpa using hnew1))
        clear hown1 hgrow1 hnew1 hown
        go_wp2
        go_roundg (n - (k + 1))
        case measure => have := HMK.out; omega
        case rel =>
          refine ⟨k + 1, by have := HMK.out; omega, by rw [Int.natCast_add]; rfl, ?_⟩
          rw [tk_succ HZ.out]; exact hF1.out
      · obtain ⟨J0, hJ0⟩ : ∃ J0, (k + t) % n = J0 := ⟨_, rfl⟩
        have e1 : ((k : Int) + (t : Int)) % (n : Int) = (J0 : Int) := by rw [← hJ0, ← Int.natCast_add, ← Int.natCast_emod]
        have hJ0n : (J0 : Int) < (n : Int) := by have := Nat.mod_lt (k + t) (show 0 < n by omega); omega
        have e2 : (n : Int) - 1 - (J0 : Int) = (J : Int) := by
          have e3 : n - 1 - J0 = J := by rw [← hJ, ← hJ0]; rfl
          omega
        clear hJ hJ0
        go_wp2_with (first
          | (with_reducible refine wpList_ld (o := ⟨some 32, _, _, _, _, _⟩) rfl 40 (.tmp 31) rfl _ rfl #[.int .i64 po, .int .i64 px, .int .i64 py] _ HC.out Try.underlying40 rfl (by kernel_rfl) ?_)
          | (at_builtin; refine wpList_app _ rfl (.tmp 28) (.tmp 33) 24 rfl 40 _ 3 24 Try.underlying24 info_step rfl (by decide) _ _ _ rfl (hown.alloc _) ⟨_, 0, none⟩ 1 1 (z3c (po, px, py)) rfl rfl (by decide) (cells_at _ _ rfl _ _) (z3_one _) HL.out.1 HL.out.2 ?_)
          | fail)
        intro g cap w1 hown1 hgrow1 hnew1
        have hF1 := Lib.hid (HF.out.app (Fr.al _ _) hown1 hgrow1 (by simpa using hnew1))
        clear hown1 hgrow1 hnew1 hown
        go_wp2
        go_roundg (n - (k + 1))
        case measure => have := HMK.out; omega
        case rel =>
          refine ⟨k + 1, by have := HMK.out; omega, by rw [Int.natCast_add]; rfl, ?_⟩
          rw [tk_succ HZ.out]; exact hF1.out
    · have hk : k = n := by have := HMK.out; omega
      subst hk
      go_wp2
      go_ret
      refine ⟨_, rfl, ?_⟩
      have := HF.out
      rwa [tk_all (by rw [← HQ.out]; unfold shufZ; rw [shuf_len, HLN.out]; exact Nat.le_refl _)] at this
end Go.Proofs.Ytapnmgkpljlgmaa
