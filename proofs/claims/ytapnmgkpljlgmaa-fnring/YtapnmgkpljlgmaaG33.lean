/- Rows of numbers; the reference: True. -/
import Derived.Test.YtapnmgkpljlgmaaG19
import Derived.Test.YtapnmgkpljlgmaaG31
import Derived.Test.YtapnmgkpljlgmaaG25
import Derived.Test.YtapnmgkpljlgmaaG21
set_option linter.unusedVariables false
set_option linter.unusedSimpArgs false
namespace Go.Proofs.Ytapnmgkpljlgmaa
open Go.RowKit

/-! ## rows of numbers -/
theorem z1s_len (l : List Int) : (z1s l).length = l.length := List.length_map ..
theorem z1s_get {l : List Int} {k : Nat} {a : Int} (h : l[k]? = some a) : (z1s l)[k]? = some (.int .i64 a) := by unfold z1s; rw [List.getElem?_map, h]; rfl
theorem rdi {w : World} {ad : Addr} {n : Nat} {l : List Int} (h : Rd w 1 (some ad) n (z1s l)) {k : Nat} {a : Int} (hk : l[k]? = some a) : w.cell? (ad.add k) = some (.int .i64 a) := h.cells (by omega) (z1s_get hk)
theorem rdilen {w : World} {A : Option Addr} {n : Nat} {l : List Int} (h : Rd w 1 A n (z1s l)) : l.length = n := by have := h.1; rw [z1s_len] at this; omega
theorem rdiat {w : World} {A : Option Addr} {n : Nat} {l : List Int} (h : Rd w 1 A n (z1s l)) {k : Nat} (hk : k < n) : ∃ ad a, A = some ad ∧ l[k]? = some a ∧ w.cell? (ad.add k) = some (.int .i64 a) := by
  obtain ⟨ad, rfl, _, _⟩ := h.2 (by omega)
  have hl := rdilen h
  have e : l[k]? = some (l[k]'(by omega)) := List.getElem?_eq_getElem _
  exact ⟨ad, _, rfl, e, rdi h e⟩
theorem rdi_ad {w : World} {A : Option Addr} {n : Nat} {l : List Int} (h : Rd w 1 A n (z1s l)) (hn : 0 < n) : ∃ ad, A = some ad := by
  obtain ⟨ad, e, _⟩ := h.2 hn; exact ⟨ad, e⟩
theorem get_of {l : List Int} {k : Nat} (h : k < l.length) : ∃ a, l[k]? = some a := ⟨_, List.getElem?_eq_getElem h⟩

/-! ## True -/
def trB (o a b : Int) : Bool := if o = 0 ∨ o = 4 then decide (a < b) else if o = 1 ∨ o = 5 then decide (a ≤ b) else if o = 2 ∨ o = 6 then a == b else a != b
def numZ (ns : List Int) (z : Z3) : Prop := numOk (fun i => ns.getD i 0) (stz z)
theorem numZ_iff {ns : List Int} {o : Int} {X Y : Nat} {a b : Int} (h0 : 0 ≤ o) (ha : ns[X]? = some a) (hb : ns[Y]? = some b) : numZ ns (o, (X : Int), (Y : Int)) ↔ trB o a b = true := by
  have e1 : ns.getD X 0 = a := by rw [List.getD_eq_getElem?_getD, ha]; rfl
  have e2 : ns.getD Y 0 = b := by rw [List.getD_eq_getElem?_getD, hb]; rfl
  unfold numZ numOk trB stz
  simp only [Int.toNat_natCast, e1, e2]
  by_cases q0 : o = 0 ∨ o = 4
  · rw [if_pos (by omega), if_pos q0, decide_eq_true_eq]
  · rw [if_neg (by omega), if_neg q0]
    by_cases q1 : o = 1 ∨ o = 5
    · rw [if_pos (by omega), if_pos q1, decide_eq_true_eq]
    · rw [if_neg (by omega), if_neg q1]
      by_cases q2 : o = 2 ∨ o = 6
      · rw [if_pos (by omega), if_pos q2, beq_iff_eq]
      · rw [if_neg (by omega), if_neg q2, bne_iff_ne]
theorem num_z {ns : List Int} {l : List Z3} (g : GoodZ (ns.length : Int) l) (hs : ∀ (i : Nat) z, l[i]? = some z → factB z = true → numZ ns z) {i : Nat} {z : Z3} {b : Bool} (hz : l[i]? = some z) (hb : (outz l)[i]? = some b) :
    (factB z = true → b = true) ∧ (askB z = true → b = true → numZ ns z) := by
  have lo : ∀ z ∈ l, 0 ≤ z.1 := fun z hz => (g.wf z hz).lo
  obtain ⟨_, k⟩ := num_run (n := fun i => ns.getD i 0) (sts l) m00 (MN.nil _) fun s hs2 => by
    obtain ⟨z, hz, rfl⟩ := List.mem_map.1 hs2
    refine ⟨(g.wf z hz).wf.1, fun h3 => ?_⟩
    obtain ⟨i, hi⟩ := List.mem_iff_getElem?.1 hz
    refine hs i z hi ?_
    have := lo z hz
    have h3 : z.1.toNat ≤ 3 := h3
    simp [factB]; omega
  have hz2 : (sts l)[i]? = some (stz z) := by unfold sts; rw [List.getElem?_map, hz]; rfl
  obtain ⟨k1, k2⟩ := k i (stz z) b hz2 hb
  refine ⟨fun h => k1 ?_, fun h => k2 ?_⟩
  · have : 0 ≤ z.1 ∧ z.1 ≤ 3 := by simpa [factB] using h
    show z.1.toNat ≤ 3; omega
  · have : 4 ≤ z.1 ∧ z.1 ≤ 7 := by simpa [askB] using h
    unfold Ask stz; simp only; omega
set_option maxRecDepth 10000 in
set_option maxHeartbeats 4000000 in
theorem true_c {N : Option Addr} {m d X Y : Nat} {ns : List Int} {o a b : Int} {w : World} (h : Rd w 1 N m (z1s ns)) (hm : m ≤ 12) (ho : 0 ≤ o) (ho7 : o ≤ 7) (hX : X < m) (hY : Y < m) (ha : ns[X]? = some a) (hb : ns[Y]? = some b) :
    Calls Try.prog 57 #[.slice N m d, .agg #[.int .i64 o, .int .i64 (X : Nat), .int .i64 (Y : Nat)]] w (Bpost w (trB o a b)) := by
  have F0 := Lib.hid (Fr.al w (.cells #[.int .i64 o, .int .i64 (X : Nat), .int .i64 (Y : Nat)] 40))
  have HX := Lib.hid (box3_new w o (X : Nat) (Y : Nat) 40)
  obtain ⟨ad, rfl⟩ := rdi_ad h (by omega)
  have HA := Lib.hid (rdi (h.nix F0.out) ha)
  have HB := Lib.hid (rdi (h.nix F0.out) hb)
  obtain ⟨r, hr⟩ : ∃ r, trB o a b = r := ⟨_, rfl⟩
  have HR := Lib.hid hr
  rw [hr]
  have hXi : (X : Int) < (m : Int) := by omega
  have hYi : (Y : Int) < (m : Int) := by omega
  have hmi : (m : Int) ≤ 12 := by omega
  have key : o = 0 ∨ o = 1 ∨ o = 2 ∨ o = 3 ∨ o = 4 ∨ o = 5 ∨ o = 6 ∨ o = 7 := by omega
  clear h ha hb hr ho ho7
  go_enter Try.func57, Try.ntmps57
  go_upto_region 1 with fail
  obtain ⟨w0, hw0⟩ : ∃ w0, w.alloc (.cells #[.int .i64 o, .int .i64 (X : Nat), .int .i64 (Y : Nat)] 40) = w0 := ⟨_, rfl⟩
  obtain ⟨p, hp⟩ : ∃ p, w.heap.size = p := ⟨_, rfl⟩
  rw [hw0] at F0 HX HA HB ⊢
  rw [hp] at HX ⊢
  clear hw0 hp
  obtain ⟨x0, x1, x2⟩ := HX.out
  have a0 := HA.out
  have b0 := HB.out
  go_quiet (fail)
  rcases key with rfl | rfl | rfl | rfl | rfl | rfl | rfl | rfl
  all_goals
    go_wp2
    go_ret
    exact ⟨ret_bb HR.out, F0.out.t (Fr.drewN _ _ _)⟩
end Go.Proofs.Ytapnmgkpljlgmaa
