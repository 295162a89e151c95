/- impl.step: one call of a script. impl.EmptyAgain: all is undone; CheckEmpty of the first poset. CheckEmpty, Empty; impl.EmptyAgain. -/
import Derived.Test.YtapnmgkpljlgmaaG23
import Derived.Test.YtapnmgkpljlgmaaG25
import Derived.Test.YtapnmgkpljlgmaaG19
set_option linter.unusedVariables false
set_option linter.unusedSimpArgs false
namespace Go.Proofs.Ytapnmgkpljlgmaa
open Go.RowKit
/-- The poset behind a step. -/
def StepPost (bot : List PS) (w : World) (q t : Nat) (O : Nat → Prop) (m' : MS) (e : Ending) (w' : World) : Prop := ∃ O', e = .returned (.tuple #[]) ∧ RSt bot w' q t m' O' ∧ Mov w w' O O'
theorem StepPost.of {bot : List PS} {w wa wb : World} {q t t' : Nat} {m' : MS} {O O' : Nat → Prop} (f : Fr w wa Nix) (h : RSt bot wb q t' m' O') (ht : t' ≤ t) (hm : Mov wa wb O O') : StepPost bot w q t O m' (.returned (.tuple #[])) wb :=
  ⟨O', rfl, h.more ht, (Mov.nix f).trans hm⟩

set_option maxRecDepth 10000 in
set_option maxHeartbeats 4000000 in
theorem step0_c {bot : List PS} {w : World} {q t : Nat} {m : MS} {O : Nat → Prop} (h : RSt bot w q t m O) (ht : t ≤ 259) {x y : Nat} (hxy : x ≠ y) (hx : x < 12) (hy : y < 12) :
    Calls Try.prog 79 #[.pointer (some ⟨q, 0, none⟩), .agg #[.int .i64 0, .int .i64 (x : Nat), .int .i64 (y : Nat)]] w (StepPost bot w q (t + 1) O ((m.1.ans 0 x y).1, m.2)) := by
  have F0 := Lib.hid (Fr.al w (.cells #[.int .i64 0, .int .i64 (x : Nat), .int .i64 (y : Nat)] 47))
  have HB := Lib.hid (box3_new w 0 (x : Nat) (y : Nat) 47)
  have H := Lib.hid h
  have HT := Lib.hid ht
  have HX := Lib.hid (And.intro hxy (And.intro hx hy))
  have e1 := wrap_one hx
  have e2 := wrap_one hy
  have hxi : (x : Int) ≤ 12 := by omega
  have hyi : (y : Int) ≤ 12 := by omega
  clear h ht hxy hx hy
  go_enter Try.func79, Try.ntmps79
  go_upto_region 1 with fail
  obtain ⟨w0, hw0⟩ : ∃ w0, w.alloc (.cells #[.int .i64 0, .int .i64 (x : Nat), .int .i64 (y : Nat)] 47) = w0 := ⟨_, rfl⟩
  obtain ⟨p, hp⟩ : ∃ p, w.heap.size = p := ⟨_, rfl⟩
  rw [hw0] at F0 HB ⊢
  rw [hp] at HB ⊢
  clear hw0 hp
  obtain ⟨x0, x1, x2⟩ := HB.out
  go_quiet (fail)
  have HS := Lib.hid (H.out.nix (F0.out.t (Fr.drewN w0 nq Nix)))
  go_wp2_with fail
  refine (rsSetOrder HS.out (by have := HT.out; omega) HX.out.1 HX.out.2.1 HX.out.2.2).mono ?_
  rintro e w2 ⟨O', rfl, j2, j3⟩
  have HR := Lib.hid (StepPost.of (t := t + 1) (F0.out.t (Fr.drewN w0 nq Nix)) j2 (by omega) j3)
  clear j2 j3 x0 x1 x2
  go_wp2
  go_end0
  exact HR.out

set_option maxRecDepth 10000 in
set_option maxHeartbeats 4000000 in
theorem step1_c {bot : List PS} {w : World} {q t : Nat} {m : MS} {O : Nat → Prop} (h : RSt bot w q t m O) (ht : t ≤ 259) {x y : Nat} (hxy : x ≠ y) (hx : x < 12) (hy : y < 12) :
    Calls Try.prog 79 #[.pointer (some ⟨q, 0, none⟩), .agg #[.int .i64 1, .int .i64 (x : Nat), .int .i64 (y : Nat)]] w (StepPost bot w q (t + 1) O ((m.1.ans 1 x y).1, m.2)) := by
  have F0 := Lib.hid (Fr.al w (.cells #[.int .i64 1, .int .i64 (x : Nat), .int .i64 (y : Nat)] 47))
  have HB := Lib.hid (box3_new w 1 (x : Nat) (y : Nat) 47)
  have H := Lib.hid h
  have HT := Lib.hid ht
  have HX := Lib.hid (And.intro hxy (And.intro hx hy))
  have e1 := wrap_one hx
  have e2 := wrap_one hy
  have hxi : (x : Int) ≤ 12 := by omega
  have hyi : (y : Int) ≤ 12 := by omega
  clear h ht hxy hx hy
  go_enter Try.func79, Try.ntmps79
  go_upto_region 1 with fail
  obtain ⟨w0, hw0⟩ : ∃ w0, w.alloc (.cells #[.int .i64 1, .int .i64 (x : Nat), .int .i64 (y : Nat)] 47) = w0 := ⟨_, rfl⟩
  obtain ⟨p, hp⟩ : ∃ p, w.heap.size = p := ⟨_, rfl⟩
  rw [hw0] at F0 HB ⊢
  rw [hp] at HB ⊢
  clear hw0 hp
  obtain ⟨x0, x1, x2⟩ := HB.out
  go_quiet (fail)
  have HS := Lib.hid (H.out.nix (F0.out.t (Fr.drewN w0 nq Nix)))
  go_wp2_with fail
  refine (rsSetOrderOrEqual HS.out (by have := HT.out; omega) HX.out.1 HX.out.2.1 HX.out.2.2).mono ?_
  rintro e w2 ⟨O', rfl, j2, j3⟩
  have HR := Lib.hid (StepPost.of (t := t + 1) (F0.out.t (Fr.drewN w0 nq Nix)) j2 (by omega) j3)
  clear j2 j3 x0 x1 x2
  go_wp2
  go_end0
  exact HR.out

set_option maxRecDepth 10000 in
set_option maxHeartbeats 4000000 in
theorem step2_c {bot : List PS} {w : World} {q t : Nat} {m : MS} {O : Nat → Prop} (h : RSt bot w q t m O) (ht : t ≤ 259) {x y : Nat} (hxy : x ≠ y) (hx : x < 12) (hy : y < 12) :
    Calls Try.prog 79 #[.pointer (some ⟨q, 0, none⟩), .agg #[.int .i64 2, .int .i64 (x : Nat), .int .i64 (y : Nat)]] w (StepPost bot w q (t + 1) O ((m.1.ans 2 x y).1, m.2)) := by
  have F0 := Lib.hid (Fr.al w (.cells #[.int .i64 2, .int .i64 (x : Nat), .int .i64 (y : Nat)] 47))
  have HB := Lib.hid (box3_new w 2 (x : Nat) (y : Nat) 47)
  have H := Lib.hid h
  have HT := Lib.hid ht
  have HX := Lib.hid (And.intro hxy (And.intro hx hy))
  have e1 := wrap_one hx
  have e2 := wrap_one hy
  have hxi : (x : Int) ≤ 12 := by omega
  have hyi : (y : Int) ≤ 12 := by omega
  clear h ht hxy hx hy
  go_enter Try.func79, Try.ntmps79
  go_upto_region 1 with fail
  obtain ⟨w0, hw0⟩ : ∃ w0, w.alloc (.cells #[.int .i64 2, .int .i64 (x : Nat), .int .i64 (y : Nat)] 47) = w0 := ⟨_, rfl⟩
  obtain ⟨p, hp⟩ : ∃ p, w.heap.size = p := ⟨_, rfl⟩
  rw [hw0] at F0 HB ⊢
  rw [hp] at HB ⊢
  clear hw0 hp
  obtain ⟨x0, x1, x2⟩ := HB.out
  go_quiet (fail)
  have HS := Lib.hid (H.out.nix (F0.out.t (Fr.drewN w0 nq Nix)))
  go_wp2_with fail
  refine (rsSetEqual HS.out (by have := HT.out; omega) HX.out.1 HX.out.2.1 HX.out.2.2).mono ?_
  rintro e w2 ⟨O', rfl, j2, j3⟩
  have HR := Lib.hid (StepPost.of (t := t + 1) (F0.out.t (Fr.drewN w0 nq Nix)) j2 (by omega) j3)
  clear j2 j3 x0 x1 x2
  go_wp2
  go_end0
  exact HR.out

set_option maxRecDepth 10000 in
set_option maxHeartbeats 4000000 in
theorem step3_c {bot : List PS} {w : World} {q t : Nat} {m : MS} {O : Nat → Prop} (h : RSt bot w q t m O) (ht : t ≤ 259) {x y : Nat} (hxy : x ≠ y) (hx : x < 12) (hy : y < 12) :
    Calls Try.prog 79 #[.pointer (some ⟨q, 0, none⟩), .agg #[.int .i64 3, .int .i64 (x : Nat), .int .i64 (y : Nat)]] w (StepPost bot w q (t + 1) O ((m.1.ans 3 x y).1, m.2)) := by
  have F0 := Lib.hid (Fr.al w (.cells #[.int .i64 3, .int .i64 (x : Nat), .int .i64 (y : Nat)] 47))
  have HB := Lib.hid (box3_new w 3 (x : Nat) (y : Nat) 47)
  have H := Lib.hid h
  have HT := Lib.hid ht
  have HX := Lib.hid (And.intro hxy (And.intro hx hy))
  have e1 := wrap_one hx
  have e2 := wrap_one hy
  have hxi : (x : Int) ≤ 12 := by omega
  have hyi : (y : Int) ≤ 12 := by omega
  clear h ht hxy hx hy
  go_enter Try.func79, Try.ntmps79
  go_upto_region 1 with fail
  obtain ⟨w0, hw0⟩ : ∃ w0, w.alloc (.cells #[.int .i64 3, .int .i64 (x : Nat), .int .i64 (y : Nat)] 47) = w0 := ⟨_, rfl⟩
  obtain ⟨p, hp⟩ : ∃ p, w.heap.size = p := ⟨_, rfl⟩
  rw [hw0] at F0 HB ⊢
  rw [hp] at HB ⊢
  clear hw0 hp
  obtain ⟨x0, x1, x2⟩ := HB.out
  go_quiet (fail)
  have HS := Lib.hid (H.out.nix (F0.out.t (Fr.drewN w0 nq Nix)))
  go_wp2_with fail
  refine (rsSetNonEqual HS.out (by have := HT.out; omega) HX.out.1 HX.out.2.1 HX.out.2.2).mono ?_
  rintro e w2 ⟨O', rfl, j2, j3⟩
  have HR := Lib.hid (StepPost.of (t := t + 1) (F0.out.t (Fr.drewN w0 nq Nix)) j2 (by omega) j3)
  clear j2 j3 x0 x1 x2
  go_wp2
  go_end0
  exact HR.out

set_option maxRecDepth 10000 in
set_option maxHeartbeats 4000000 in
theorem step4_c {bot : List PS} {w : World} {q t : Nat} {m : MS} {O : Nat → Prop} (h : RSt bot w q t m O) (ht : t ≤ 259) {x y : Nat} (hxy : x ≠ y) (hx : x < 12) (hy : y < 12) :
    Calls Try.prog 79 #[.pointer (some ⟨q, 0, none⟩), .agg #[.int .i64 4, .int .i64 (x : Nat), .int .i64 (y : Nat)]] w (StepPost bot w q (t + 1) O ((m.1.ans 4 x y).1, m.2)) := by
  have F0 := Lib.hid (Fr.al w (.cells #[.int .i64 4, .int .i64 (x : Nat), .int .i64 (y : Nat)] 47))
  have HB := Lib.hid (box3_new w 4 (x : Nat) (y : Nat) 47)
  have H := Lib.hid h
  have HT := Lib.hid ht
  have HX := Lib.hid (And.intro hxy (And.intro hx hy))
  have e1 := wrap_one hx
  have e2 := wrap_one hy
  have hxi : (x : Int) ≤ 12 := by omega
  have hyi : (y : Int) ≤ 12 := by omega
  clear h ht hxy hx hy
  go_enter Try.func79, Try.ntmps79
  go_upto_region 1 with fail
  obtain ⟨w0, hw0⟩ : ∃ w0, w.alloc (.cells #[.int .i64 4, .int .i64 (x : Nat), .int .i64 (y : Nat)] 47) = w0 := ⟨_, rfl⟩
  obtain ⟨p, hp⟩ : ∃ p, w.heap.size = p := ⟨_, rfl⟩
  rw [hw0] at F0 HB ⊢
  rw [hp] at HB ⊢
  clear hw0 hp
  obtain ⟨x0, x1, x2⟩ := HB.out
  go_quiet (fail)
  have HS := Lib.hid (H.out.nix (F0.out.t (Fr.drewN w0 nq Nix)))
  go_wp2_with fail
  refine (rsOrdered HS.out HX.out.1 HX.out.2.1 HX.out.2.2).mono ?_
  rintro e w2 ⟨O', rfl, j2, j3⟩
  have HR := Lib.hid (StepPost.of (t := t + 1) (F0.out.t (Fr.drewN w0 nq Nix)) j2 (by omega) j3)
  clear j2 j3 x0 x1 x2
  go_wp2
  go_end0
  exact HR.out

set_option maxRecDepth 10000 in
set_option maxHeartbeats 4000000 in
theorem step5_c {bot : List PS} {w : World} {q t : Nat} {m : MS} {O : Nat → Prop} (h : RSt bot w q t m O) (ht : t ≤ 259) {x y : Nat} (hxy : x ≠ y) (hx : x < 12) (hy : y < 12) :
    Calls Try.prog 79 #[.pointer (some ⟨q, 0, none⟩), .agg #[.int .i64 5, .int .i64 (x : Nat), .int .i64 (y : Nat)]] w (StepPost bot w q (t + 1) O ((m.1.ans 5 x y).1, m.2)) := by
  have F0 := Lib.hid (Fr.al w (.cells #[.int .i64 5, .int .i64 (x : Nat), .int .i64 (y : Nat)] 47))
  have HB := Lib.hid (box3_new w 5 (x : Nat) (y : Nat) 47)
  have H := Lib.hid h
  have HT := Lib.hid ht
  have HX := Lib.hid (And.intro hxy (And.intro hx hy))
  have e1 := wrap_one hx
  have e2 := wrap_one hy
  have hxi : (x : Int) ≤ 12 := by omega
  have hyi : (y : Int) ≤ 12 := by omega
  clear h ht hxy hx hy
  go_enter Try.func79, Try.ntmps79
  go_upto_region 1 with fail
  obtain ⟨w0, hw0⟩ : ∃ w0, w.alloc (.cells #[.int .i64 5, .int .i64 (x : Nat), .int .i64 (y : Nat)] 47) = w0 := ⟨_, rfl⟩
  obtain ⟨p, hp⟩ : ∃ p, w.heap.size = p := ⟨_, rfl⟩
  rw [hw0] at F0 HB ⊢
  rw [hp] at HB ⊢
  clear hw0 hp
  obtain ⟨x0, x1, x2⟩ := HB.out
  go_quiet (fail)
  have HS := Lib.hid (H.out.nix (F0.out.t (Fr.drewN w0 nq Nix)))
  go_wp2_with fail
  refine (rsOrderedOrEqual HS.out HX.out.1 HX.out.2.1 HX.out.2.2).mono ?_
  rintro e w2 ⟨O', rfl, j2, j3⟩
  have HR := Lib.hid (StepPost.of (t := t + 1) (F0.out.t (Fr.drewN w0 nq Nix)) j2 (by omega) j3)
  clear j2 j3 x0 x1 x2
  go_wp2
  go_end0
  exact HR.out

set_option maxRecDepth 10000 in
set_option maxHeartbeats 4000000 in
theorem step6_c {bot : List PS} {w : World} {q t : Nat} {m : MS} {O : Nat → Prop} (h : RSt bot w q t m O) (ht : t ≤ 259) {x y : Nat} (hxy : x ≠ y) (hx : x < 12) (hy : y < 12) :
    Calls Try.prog 79 #[.pointer (some ⟨q, 0, none⟩), .agg #[.int .i64 6, .int .i64 (x : Nat), .int .i64 (y : Nat)]] w (StepPost bot w q (t + 1) O ((m.1.ans 6 x y).1, m.2)) := by
  have F0 := Lib.hid (Fr.al w (.cells #[.int .i64 6, .int .i64 (x : Nat), .int .i64 (y : Nat)] 47))
  have HB := Lib.hid (box3_new w 6 (x : Nat) (y : Nat) 47)
  have H := Lib.hid h
  have HT := Lib.hid ht
  have HX := Lib.hid (And.intro hxy (And.intro hx hy))
  have e1 := wrap_one hx
  have e2 := wrap_one hy
  have hxi : (x : Int) ≤ 12 := by omega
  have hyi : (y : Int) ≤ 12 := by omega
  clear h ht hxy hx hy
  go_enter Try.func79, Try.ntmps79
  go_upto_region 1 with fail
  obtain ⟨w0, hw0⟩ : ∃ w0, w.alloc (.cells #[.int .i64 6, .int .i64 (x : Nat), .int .i64 (y : Nat)] 47) = w0 := ⟨_, rfl⟩
  obtain ⟨p, hp⟩ : ∃ p, w.heap.size = p := ⟨_, rfl⟩
  rw [hw0] at F0 HB ⊢
  rw [hp] at HB ⊢
  clear hw0 hp
  obtain ⟨x0, x1, x2⟩ := HB.out
  go_quiet (fail)
  have HS := Lib.hid (H.out.nix (F0.out.t (Fr.drewN w0 nq Nix)))
  go_wp2_with fail
  refine (rsEqual HS.out HX.out.1 HX.out.2.1 HX.out.2.2).mono ?_
  rintro e w2 ⟨O', rfl, j2, j3⟩
  have HR := Lib.hid (StepPost.of (t := t + 1) (F0.out.t (Fr.drewN w0 nq Nix)) j2 (by omega) j3)
  clear j2 j3 x0 x1 x2
  go_wp2
  go_end0
  exact HR.out

set_option maxRecDepth 10000 in
set_option maxHeartbeats 4000000 in
theorem step7_c {bot : List PS} {w : World} {q t : Nat} {m : MS} {O : Nat → Prop} (h : RSt bot w q t m O) (ht : t ≤ 259) {x y : Nat} (hxy : x ≠ y) (hx : x < 12) (hy : y < 12) :
    Calls Try.prog 79 #[.pointer (some ⟨q, 0, none⟩), .agg #[.int .i64 7, .int .i64 (x : Nat), .int .i64 (y : Nat)]] w (StepPost bot w q (t + 1) O ((m.1.ans 7 x y).1, m.2)) := by
  have F0 := Lib.hid (Fr.al w (.cells #[.int .i64 7, .int .i64 (x : Nat), .int .i64 (y : Nat)] 47))
  have HB := Lib.hid (box3_new w 7 (x : Nat) (y : Nat) 47)
  have H := Lib.hid h
  have HT := Lib.hid ht
  have HX := Lib.hid (And.intro hxy (And.intro hx hy))
  have e1 := wrap_one hx
  have e2 := wrap_one hy
  have hxi : (x : Int) ≤ 12 := by omega
  have hyi : (y : Int) ≤ 12 := by omega
  clear h ht hxy hx hy
  go_enter Try.func79, Try.ntmps79
  go_upto_region 1 with fail
  obtain ⟨w0, hw0⟩ : ∃ w0, w.alloc (.cells #[.int .i64 7, .int .i64 (x : Nat), .int .i64 (y : Nat)] 47) = w0 := ⟨_, rfl⟩
  obtain ⟨p, hp⟩ : ∃ p, w.heap.size = p := ⟨_, rfl⟩
  rw [hw0] at F0 HB ⊢
  rw [hp] at HB ⊢
  clear hw0 hp
  obtain ⟨x0, x1, x2⟩ := HB.out
  go_quiet (fail)
  have HS := Lib.hid (H.out.nix (F0.out.t (Fr.drewN w0 nq Nix)))
  go_wp2_with fail
  refine (rsNonEqual HS.out HX.out.1 HX.out.2.1 HX.out.2.2).mono ?_
  rintro e w2 ⟨O', rfl, j2, j3⟩
  have HR := Lib.hid (StepPost.of (t := t + 1) (F0.out.t (Fr.drewN w0 nq Nix)) j2 (by omega) j3)
  clear j2 j3 x0 x1 x2
  go_wp2
  go_end0
  exact HR.out

set_option maxRecDepth 10000 in
set_option maxHeartbeats 4000000 in
theorem step8_c {bot : List PS} {w : World} {q t : Nat} {m : MS} {O : Nat → Prop} (h : RSt bot w q t m O) (ht : t ≤ 259) {x y : Int} :
    Calls Try.prog 79 #[.pointer (some ⟨q, 0, none⟩), .agg #[.int .i64 8, .int .i64 x, .int .i64 y]] w (StepPost bot w q (t + 1) O (m.1, m.1 :: m.2)) := by
  have F0 := Lib.hid (Fr.al w (.cells #[.int .i64 8, .int .i64 x, .int .i64 y] 47))
  have HB := Lib.hid (box3_new w 8 x y 47)
  have H := Lib.hid h
  have HT := Lib.hid ht
  clear h ht
  go_enter Try.func79, Try.ntmps79
  go_upto_region 1 with fail
  obtain ⟨w0, hw0⟩ : ∃ w0, w.alloc (.cells #[.int .i64 8, .int .i64 x, .int .i64 y] 47) = w0 := ⟨_, rfl⟩
  obtain ⟨p, hp⟩ : ∃ p, w.heap.size = p := ⟨_, rfl⟩
  rw [hw0] at F0 HB ⊢
  rw [hp] at HB ⊢
  clear hw0 hp
  obtain ⟨x0, x1, x2⟩ := HB.out
  go_quiet (fail)
  have HS := Lib.hid (H.out.nix (F0.out.t (Fr.drewN w0 nq Nix)))
  go_wp2_with fail
  refine (rsCheckpoint HS.out (by have := HT.out; omega)).mono ?_
  rintro e w2 ⟨O', rfl, j2, j3⟩
  have HR := Lib.hid (StepPost.of (t := t + 1) (F0.out.t (Fr.drewN w0 nq Nix)) j2 (by omega) j3)
  clear j2 j3 x0 x1 x2
  go_wp2
  go_end0
  exact HR.out

set_option maxRecDepth 10000 in
set_option maxHeartbeats 4000000 in
theorem step9_c {bot : List PS} {w : World} {q t : Nat} {m : MS} {O : Nat → Prop} (h : RSt bot w q t m O) (ht : t ≤ 259) {x y : Int} (hm : m.2 ≠ []) :
    Calls Try.prog 79 #[.pointer (some ⟨q, 0, none⟩), .agg #[.int .i64 9, .int .i64 x, .int .i64 y]] w (StepPost bot w q (t + 1) O (m.2.headD m.1, m.2.tail)) := by
  have F0 := Lib.hid (Fr.al w (.cells #[.int .i64 9, .int .i64 x, .int .i64 y] 47))
  have HB := Lib.hid (box3_new w 9 x y 47)
  have H := Lib.hid h
  have HT := Lib.hid ht
  have HM := Lib.hid hm
  clear hm
  clear h ht
  go_enter Try.func79, Try.ntmps79
  go_upto_region 1 with fail
  obtain ⟨w0, hw0⟩ : ∃ w0, w.alloc (.cells #[.int .i64 9, .int .i64 x, .int .i64 y] 47) = w0 := ⟨_, rfl⟩
  obtain ⟨p, hp⟩ : ∃ p, w.heap.size = p := ⟨_, rfl⟩
  rw [hw0] at F0 HB ⊢
  rw [hp] at HB ⊢
  clear hw0 hp
  obtain ⟨x0, x1, x2⟩ := HB.out
  go_quiet (fail)
  have HS := Lib.hid (H.out.nix (F0.out.t (Fr.drewN w0 nq Nix)))
  go_wp2_with fail
  refine (rsUndo HS.out (by have := HT.out; omega) HM.out).mono ?_
  rintro e w2 ⟨O', rfl, j2, j3⟩
  have HR := Lib.hid (StepPost.of (t := t + 1) (F0.out.t (Fr.drewN w0 nq Nix)) j2 (by omega) j3)
  clear j2 j3 x0 x1 x2
  go_wp2
  go_end0
  exact HR.out

theorem step_c {bot : List PS} {w : World} {q t : Nat} {m : MS} {O : Nat → Prop} (h : RSt bot w q t m O) (ht : t ≤ 259) {z : Z3} (wz : WfZ 12 z) (h9 : (stz z).op = 9 → m.2 ≠ []) :
    Calls Try.prog 79 #[.pointer (some ⟨q, 0, none⟩), .agg #[.int .i64 z.1, .int .i64 z.2.1, .int .i64 z.2.2]] w (StepPost bot w q (t + 1) O (mstep m (stz z)).1) := by
  rcases step_kind wz with ⟨o, x, y, ho, hxy, hx, hy, rfl⟩ | ⟨x, y, rfl⟩ | ⟨x, y, rfl⟩
  · rw [show stz ((o : Int), (x : Int), (y : Int)) = ⟨o, x, y⟩ from rfl, mstep_op _ ho]
    have hcase : o = 0 ∨ o = 1 ∨ o = 2 ∨ o = 3 ∨ o = 4 ∨ o = 5 ∨ o = 6 ∨ o = 7 := by omega
    rcases hcase with rfl | rfl | rfl | rfl | rfl | rfl | rfl | rfl
    · exact step0_c h ht hxy hx hy
    · exact step1_c h ht hxy hx hy
    · exact step2_c h ht hxy hx hy
    · exact step3_c h ht hxy hx hy
    · exact step4_c h ht hxy hx hy
    · exact step5_c h ht hxy hx hy
    · exact step6_c h ht hxy hx hy
    · exact step7_c h ht hxy hx hy
  · exact step8_c h ht
  · exact step9_c h ht (h9 rfl)
end Go.Proofs.Ytapnmgkpljlgmaa
namespace Go.Proofs.Ytapnmgkpljlgmaa
open Go.RowKit
open Go.ChangeMaps (setBlock)

theorem rsFirst {w : World} {q : Nat} {O : Nat → Prop} (h : At w q PS.init O) :
    Calls Try.prog 78 #[.pointer (some ⟨q, 0, none⟩)] w fun e w' => ∃ O', e = .returned (.tuple #[]) ∧ RSt [PS.init] w' q 1 (VS.nil, []) O' ∧ Mov w w' O O' := by
  obtain ⟨p, L, h1, h2, h3, h4⟩ := h
  refine (wCheckpoint h1 h2 (init_li.lim (by omega))).mono fun e w' k => ?_
  obtain ⟨O', k1, k2, k3⟩ := at_post h1 h3 h4 k
  exact ⟨O', k1, ⟨PS.init.push ⟨1, 0, 0, 0⟩, [], k2, init_li.push, .cons (push_undone PS.init 0 0 0) (init_li.more (by omega)) (.nil _), by rw [push_abs, init_abs]; rfl⟩, k3⟩
theorem mov_on {w wr wa w2 : World} {O O' : Nat → Prop} (fr : Fr w wr Nix) (on : ∀ g, O g → w.heap.size ≤ g) (ha : Fr wr wa Nix) (hM : Mov wa w2 O O') : Fr w w2 Nix ∧ ∀ g, O' g → w.heap.size ≤ g :=
  ⟨(fr.t ha).trans hM.fr fun i hi => .inr (on i hi), fun g hg => by
    rcases hM.own g hg with e | e
    · exact on g e
    · have := fr.size; have := ha.size; omega⟩

/-! ## the range over the sets of what is not equal -/
/-- The range under way over sets that are all empty: block b is the map, block r the iterator; cnt: how many are still to come. -/
def QRng (w : World) (b r : Nat) (cnt : Nat) : Prop :=
  ∃ es clock seen, w.heap[b]? = some (.map es clock) ∧ Ents .u32 es.toList clock ∧
    (∀ e ∈ es.toList, ∃ (i g c : Nat), e.key = .int .u32 (i : Nat) ∧ e.val = .slice (some ⟨g, 0, none⟩) ((i + 63) / 64) c ∧ g ≠ r ∧ Bits w g ((i + 63) / 64) c (fun _ => false)) ∧
    w.heap[r]? = some (.mapIter (some b) clock seen clock) ∧ (leftOf es seen).size = cnt
theorem QRng.lt {w : World} {b r cnt : Nat} (h : QRng w b r cnt) : b < w.heap.size ∧ r < w.heap.size ∧ b ≠ r := by
  obtain ⟨es, clock, seen, h1, h2, h3, h5, h6⟩ := h
  refine ⟨heap_lt h1, heap_lt h5, ?_⟩
  rintro rfl
  rw [h1] at h5; simp at h5
theorem QMap.range {w : World} {b : Nat} {own : Nat → Prop} (h : QMap w b (fun _ _ => false) own) :
    ∃ o, (Instr.range 106 (.map (some b))).run Try.prog w = .ok (.pointer (some ⟨w.heap.size, 0, none⟩)) (w.alloc o) ∧ ∃ cnt, QRng (w.alloc o) b w.heap.size cnt := by
  obtain ⟨es, clock, h1, h2, h3, h4, h5, h6⟩ := h
  refine ⟨_, run_range_map (P := Try.prog) w _ _ _ b es clock Try.underlying106 h1, (leftOf es #[]).size, es, clock, #[], ?_, h2, fun e he => ?_, heap_alloc_new _ _, rfl⟩
  · rw [heap_alloc_old _ _ (heap_lt h1)]; exact h1
  · obtain ⟨i, g, c, k1, k2, k3, k4⟩ := h3 e he
    have hg := k4.lt
    exact ⟨i, g, c, k1, k2, by omega, k4.kept (heap_alloc_old _ _ hg)⟩
theorem QRng.next {w : World} {b r cnt : Nat} (h : QRng w b r cnt) :
    (∀ ty, (Instr.next (.pointer (some ⟨r, 0, none⟩)) false ty).run Try.prog w = .ok (.tuple #[.bool false]) w) ∨
    ∃ (i g c : Nat) (w' : World) (cnt' : Nat), cnt' < cnt ∧ Fr w w' (fun k => k = r) ∧ QRng w' b r cnt' ∧ Bits w' g ((i + 63) / 64) c (fun _ => false) ∧
      (∀ ty, (Instr.next (.pointer (some ⟨r, 0, none⟩)) false ty).run Try.prog w = .ok (.tuple #[.bool true, .int .u32 (i : Nat), .slice (some ⟨g, 0, none⟩) ((i + 63) / 64) c]) w') ∧
      (Instr.entry (.pointer (some ⟨r, 0, none⟩))).run Try.prog w' = .ok (.tuple #[.int .u32 (i : Nat), .slice (some ⟨g, 0, none⟩) ((i + 63) / 64) c]) w' := by
  have hlt := h.lt
  obtain ⟨es, clock, seen, h1, h2, h3, h5, h6⟩ := h
  have hn := fun ty => run_next_at (P := Try.prog) w ty r b clock clock seen es clock h5 h1 h2.lt (Nat.le_refl _)
  have hbn : (es.toList.map (·.born)).Nodup := List.pairwise_map.2 h2.st
  by_cases hs : (leftOf es seen).size = 0
  · refine .inl fun ty => ?_
    rcases hn ty with ⟨_, h⟩ | ⟨e, he, _⟩
    · exact h
    · have : (leftOf es seen).toList = [] := by rw [← List.length_eq_zero_iff]; simpa using hs
      rw [this] at he; cases he
  · rcases hn 0 with ⟨h, _⟩ | ⟨e, he, w1, hw1, hrun⟩
    · exact absurd h hs
    · obtain ⟨hes, hse⟩ := mem_left he
      obtain ⟨i, g, c, k1, k2, k3, k4⟩ := h3 e hes
      have hF : Fr w (setBlock w1 r (.mapIter (some b) clock (seen.push e.born) clock)) (fun k => k = r) := by
        rcases hw1 with rfl | rfl
        · exact putObj_fr _ _ _
        · exact (Fr.drewN w 1 _).trans (putObj_fr (w.drewN 1) r _) fun _ h => .inl h
      have hr1 : r < w1.heap.size := by rcases hw1 with rfl | rfl <;> exact hlt.2.1
      have hb' : (setBlock w1 r (.mapIter (some b) clock (seen.push e.born) clock)).heap[b]? = some (.map es clock) := (hF.block b hlt.1 hlt.2.2).trans h1
      have hr' : (setBlock w1 r (.mapIter (some b) clock (seen.push e.born) clock)).heap[r]? = some (.mapIter (some b) clock (seen.push e.born) clock) := putObj_at (w := w1) _ hr1
      have hB : ∀ {g k c : Nat} {f : Nat → Bool}, g ≠ r → Bits w g k c f → Bits (setBlock w1 r (.mapIter (some b) clock (seen.push e.born) clock)) g k c f := fun hg hB => hB.kept (hF.block _ hB.lt hg)
      refine .inr ⟨i, g, c, _, _, ?_, hF, ⟨es, clock, seen.push e.born, hb', h2, fun x hx => ?_, hr', rfl⟩, hB k3 k4, fun ty => ?_, ?_⟩
      · rw [← h6]; exact left_shrinks es seen e he
      · obtain ⟨i2, g2, c2, j1, j2, j3, j4⟩ := h3 x hx
        exact ⟨i2, g2, c2, j1, j2, j3, hB j3 j4⟩
      · rw [k1, k2] at hrun; exact hrun
      · have := run_entry_at (P := Try.prog) (setBlock w1 r (.mapIter (some b) clock (seen.push e.born) clock)) r b clock seen es clock e hr' hb' hes hbn
        rw [k1, k2] at this; exact this
end Go.Proofs.Ytapnmgkpljlgmaa
namespace Go.Proofs.Ytapnmgkpljlgmaa
open Go.RowKit

theorem nat_zero {x : Nat} (hx : x < 18446744073709551616) (h : ∀ b, b < 64 → x.testBit b = false) : x = 0 := by
  apply Nat.eq_of_testBit_eq
  intro b
  rw [Nat.zero_testBit]
  by_cases q : b < 64
  · exact h b q
  · exact Nat.testBit_lt_two_pow (Nat.lt_of_lt_of_le hx (Nat.pow_le_pow_right (n := 2) (i := 64) (by omega) (by omega)))
theorem Bits.zero_at {w : World} {g k c : Nat} (h : Bits w g k c (fun _ => false)) {j : Nat} (hj : j < k) : w.cell? ⟨g, j, none⟩ = some (.int .u64 0) := by
  obtain ⟨cur, h1, h2, h3, h4, h5⟩ := h
  obtain ⟨x, hx, hx1, hx2⟩ := h5 j hj
  have := nat_zero hx fun b hb => hx2 b hb
  subst this
  rw [cell_block h1]; exact hx1
theorem Bits.cap {w : World} {g k c : Nat} {f : Nat → Bool} (h : Bits w g k c f) : (k : Int) ≤ 9223372036854775807 ∧ k ≤ c := by
  obtain ⟨cur, h1, h2, h3, h4, h5⟩ := h
  unfold maxLen at h4
  exact ⟨by omega, h3⟩
theorem row_none {w : World} {T : TypeId} {size : Nat} {v : Value} (h : w.ownsRow 0 T size v 0 []) : ∃ a c, v = .slice a 0 c := by
  rcases h.2 with ⟨hv, _⟩ | ⟨g, cap, cur, hv, _⟩
  · exact ⟨none, 0, hv⟩
  · exact ⟨_, cap, hv⟩
theorem len_map (w : World) (T : TypeId) {k e : TypeId} (ht : Try.prog.underlying T = some (.map k e)) {b clock : Nat} {es : Array MapEntry} (hb : w.heap[b]? = some (.map es clock)) (ty : TypeId) :
    (Builtin.len_ #[T] ty #[.map (some b)]).run Try.prog w = .ok (.int .i64 es.size) w := by
  simp [Builtin.len_, run_underlying ht, MapKept.run_getObj_map hb, goInt, Result.andThen]
set_option maxRecDepth 10000 in
set_option maxHeartbeats 4000000 in
theorem CheckEmpty_c {w : World} {p : Nat} {L : Lay} (h : Rep w p PS.init L) :
    Calls Try.prog 99 #[.pointer (some ⟨p, 0, none⟩)] w fun e w' => e = .returned .nilIface ∧ Fr w w' Nix := by
  have c0 : w.cell? ⟨p, 0, none⟩ = some (.int .u32 0) := by rw [cell_block h.hp]; rfl
  have c2 : w.cell? ⟨p, 2, none⟩ = some (.map (some L.vb)) := by rw [cell_block h.hp]; rfl
  have c3 : w.cell? ⟨p, 3, none⟩ = some L.nv := by rw [cell_block h.hp]; rfl
  have c4 : w.cell? ⟨p, 4, none⟩ = some L.rv := by rw [cell_block h.hp]; rfl
  have c5 : w.cell? ⟨p, 5, none⟩ = some (.map (some L.qb)) := by rw [cell_block h.hp]; rfl
  have c6 : w.cell? ⟨p, 6, none⟩ = some L.uv := by rw [cell_block h.hp]; rfl
  obtain ⟨gn, cn, hnv, _, _⟩ := row_at h.hn (show 0 < PS.init.nodes.length by decide)
  have hrl : L.rl = [] := List.eq_nil_iff_forall_not_mem.2 fun r hr => by have := (h.rm r).1 hr; simp [PS.init] at this
  obtain ⟨ar, cr, hrv, _⟩ := h.roots_none (by rw [hrl]; rfl)
  obtain ⟨au, cu, huv⟩ := row_none (show w.ownsRow 0 133 4 L.uv 0 [] from h.hu)
  rw [hnv] at c3
  rw [hrv] at c4
  rw [huv] at c6
  have c3 : w.cell? ⟨p, 3, none⟩ = some (.slice (some ⟨gn, 0, none⟩) 1 cn) := c3
  have hlen : ∀ ty, (Builtin.len_ #[103] ty #[.map (some L.vb)]).run Try.prog w = .ok (.int .i64 0) w := by
    obtain ⟨es, clock, h1, h2, h3, h4⟩ := h.hv
    intro ty
    have he : es.size = 0 := by
      rw [← Array.length_toList, List.length_eq_zero_iff]
      refine List.eq_nil_iff_forall_not_mem.2 fun e he => ?_
      obtain ⟨id, _, _, k⟩ := h3 e he
      exact k rfl
    have := len_map w 103 Try.underlying103 h1 ty
    rw [he] at this
    exact this
  obtain ⟨o, hrg, cnt, hQ⟩ := QMap.range (show QMap w L.qb (fun _ _ => false) L.own from h.hq)
  have HQ := Lib.hid hQ
  clear h hnv hrl hrv huv hQ
  go_enter Try.func99, Try.ntmps99
  go_wp2_with fail
  obtain ⟨r, hr⟩ : ∃ r, w.heap.size = r := ⟨_, rfl⟩
  have HQS := HQ.out
  have HF0 := Lib.hid (Fr.al w o)
  obtain ⟨w0, hw0⟩ : ∃ w0, w.alloc o = w0 := ⟨_, rfl⟩
  rw [hw0] at HQS HF0 ⊢
  rw [hr] at HQS ⊢
  have HR := Lib.hid (show w.heap.size ≤ r by omega)
  clear c0 c2 c3 c4 c5 c6 hlen hrg HQ hw0 hr
  go_loopg [4] cnt (fun m u wx => QRng wx L.qb r m ∧ Fr w0 wx (fun k => k = r))
  case atStart => exact ⟨HQS, Fr.refl _ _⟩
  case round =>
    clear HQS
    obtain ⟨hQ, hF⟩ := hrel
    have HF := Lib.hid hF
    rcases hQ.next with hrun | ⟨i, g, c, w2, cnt2, hlt, hF2, hQ2, hB2, hrun, hent⟩
    · clear hQ hF
      go_wp2
      go_ret
      exact ⟨rfl, HF0.out.trans HF.out fun k hk => .inr (by rw [hk]; exact HR.out)⟩
    · have HF2 := Lib.hid (HF.out.trans hF2 fun k hk => .inl hk)
      have HQ2 := Lib.hid (And.intro hQ2 hlt)
      have HB2 := Lib.hid hB2
      obtain ⟨K, hK⟩ : ∃ K, (i + 63) / 64 = K := ⟨_, rfl⟩
      have hcap := hB2.cap
      rw [hK] at hrun hent hcap HB2
      obtain ⟨hki, hkc⟩ := hcap
      clear hQ hF hlt hF2 hQ2 hB2 hK
      go_wp2_with fail
      clear hrun hent
      go_loopg [52] K (fun m u wx => ∃ j : Nat, m + j = K ∧ u = .int .i64 (j : Nat) ∧ wx = w2)
      case atStart => exact ⟨0, rfl, rfl, rfl⟩
      case round =>
        obtain ⟨j, hmj, rfl, rfl⟩ := hrel
        have HMJ := Lib.hid hmj
        clear hmj
        by_cases hlt : j < K
        · have hc := HB2.out.zero_at hlt
          go_wp2
          go_roundg (K - (j + 1))
          case measure => have := HMJ.out; omega
          case rel => exact ⟨j + 1, by have := HMJ.out; omega, by rw [Int.natCast_add]; rfl, rfl⟩
        · have hj : j = K := by have := HMJ.out; omega
          subst hj
          go_wp2
          go_roundg cnt2
          case measure => exact HQ2.out.2
          case rel => exact ⟨HQ2.out.1, HF2.out⟩
set_option maxHeartbeats 1000000 in
theorem Empty_c {w : World} {q : Nat} {O : Nat → Prop} (h : At w q PS.init O) :
    Calls Try.prog 81 #[.pointer (some ⟨q, 0, none⟩)] w fun e w' => e = .returned (.bool true) ∧ Fr w w' Nix := by
  obtain ⟨p, L, hq, h2, h3, h4⟩ := h
  have H := Lib.hid h2
  clear h2 h3 h4
  go_enter Try.func81, Try.ntmps81
  go_wp2_with fail
  refine (CheckEmpty_c H.out).mono ?_
  rintro e w1 ⟨rfl, hF⟩
  have HF := Lib.hid hF
  clear hF hq
  go_wp2
  go_ret
  exact ⟨rfl, HF.out⟩

/-! ## the steps, and all Undos -/
def emLoop (w : World) (q : Nat) (l : List Z3) (n m : Nat) (v u : Value) (wr : World) : Prop :=
  ∃ (k D : Nat) (O : Nat → Prop), m + k = n ∧ u = .int .i64 (k : Nat) ∧ v = .int .i64 (D : Nat) ∧ D = 1 + (mrun m00 (sts (l.take k))).1.2.length ∧ D ≤ 1 + k ∧ Fr w wr Nix ∧ RSt [PS.init] wr q (1 + k) (mrun m00 (sts (l.take k))).1 O ∧ ∀ g, O g → w.heap.size ≤ g
def unLoop (w : World) (q t d m : Nat) (u : Value) (wr : World) : Prop :=
  ∃ (k : Nat) (O : Nat → Prop), m + k = d + 1 ∧ u = .int .i64 (k : Nat) ∧ Fr w wr Nix ∧ (∀ g, O g → w.heap.size ≤ g) ∧
    ((∃ V stk, stk.length + k = d ∧ RSt [PS.init] wr q t (V, stk) O) ∨ (k = d + 1 ∧ At wr q PS.init O))
theorem box_left {w w2 : World} {c : List Value} {T : TypeId} {O O' : Nat → Prop} (hM : Mov (w.alloc (.cells c.toArray T)) w2 O O') (hO : ∀ g, O g → g < w.heap.size) : ∀ j, w2.cell? ⟨w.heap.size, j, none⟩ = (w.alloc (.cells c.toArray T)).cell? ⟨w.heap.size, j, none⟩ := fun j =>
  hM.fr.cell (a := ⟨w.heap.size, j, none⟩) (by simp) fun ho => by have := hO _ ho; simp only at this; omega
set_option maxRecDepth 10000 in
set_option maxHeartbeats 8000000 in
theorem EmptyAgain_c {A : Option Addr} {n c : Nat} {v vals : Int} {l : List Z3} {w : World} (h : Rd w 3 A n (z3s l)) (g : GoodZ v l) :
    Calls Try.prog 51 #[.int .i64 vals, .slice A n c] w (Done w) := by
  have hlen : l.length = n := by have := h.1; rw [z3s_len] at this; omega
  have H := Lib.hid (And.intro h (And.intro g hlen))
  have hni : (n : Int) ≤ 64 := by have := g.len; omega
  clear h g hlen
  go_enter Try.func51, Try.ntmps51
  go_wp2_with fail
  refine (NewPoset_c w).mono ?_
  rintro e w1 ⟨q, p, L, rfl, k1, k2, k3, k4, k5, k6⟩
  have HP := Lib.hid (And.intro (show At w1 q PS.init (fun g => L.own g ∨ g = q) from ⟨p, L, k1, k2, k6, fun _ => Iff.rfl⟩) (And.intro k3 (show ∀ g, (L.own g ∨ g = q) → w.heap.size ≤ g from fun g hg => hg.elim (k4 g) (fun e => e ▸ k5))))
  clear k1 k2 k3 k4 k5 k6
  go_wp2_with fail
  refine (rsFirst HP.out.1).mono ?_
  rintro e w2 ⟨O1, rfl, j1, j2⟩
  have HQ := Lib.hid (And.intro j1 (mov_on HP.out.2.1 HP.out.2.2 (Fr.refl _ _) j2))
  clear j1 j2
  go_wp2_with fail
  go_loopg [6, 14] n (fun m v u wr => emLoop w q l n m v u wr)
  case atStart => exact ⟨0, 1, O1, rfl, rfl, rfl, rfl, by omega, HQ.out.2.1, HQ.out.1, HQ.out.2.2⟩
  case round =>
    obtain ⟨k, D, O, hmk, rfl, rfl, hD, hDk, hF, hR, hO⟩ := hrel
    have HMK := Lib.hid hmk
    have HD := Lib.hid (And.intro hD hDk)
    have HR := Lib.hid (And.intro hF (And.intro hR hO))
    clear hmk hD hDk hF hR hO
    have hDi : (D : Int) ≤ 65 := by have := HD.out.2; have := HMK.out; omega
    have hD1 : (1 : Int) ≤ (D : Int) := by have := HD.out.1; omega
    by_cases hlt : k < n
    · obtain ⟨ad, po, px, py, rfl, hz, hc⟩ := rd3 (H.out.1.nix HR.out.1) hlt
      have HC := Lib.hid hc
      have HZ := Lib.hid hz
      have HW := Lib.hid ((H.out.2.1.wf _ (List.mem_of_getElem? hz)).mono H.out.2.1.v12)
      have HE := Lib.hid (fun h9 => deep_at H.out.2.1.deep hz h9)
      clear hz hc
      go_wp2_with (first
        | (with_reducible refine wpList_ld (o := ⟨some 17, _, _, _, _, _⟩) rfl 47 (.tmp 16) rfl _ rfl #[.int .i64 po, .int .i64 px, .int .i64 py] _ HC.out Try.underlying47 rfl (by kernel_rfl) ?_)
        | fail)
      refine (step_c (z := (po, px, py)) (HR.out.2.1.nix (Fr.al _ _)) (by have := HMK.out; omega) HW.out HE.out).mono ?_
      rintro e w3 ⟨O', rfl, a1, a2⟩
      have hbl := box_left (c := [.int .i64 po, .int .i64 px, .int .i64 py]) a2 fun g hg => HR.out.2.1.lt hg
      obtain ⟨y0, y1, y2⟩ := box3_new wr po px py 47
      have x0 := (hbl 0).trans y0
      have HA := Lib.hid (And.intro (mov_on HR.out.1 HR.out.2.2 (Fr.al _ _) a2) a1)
      clear a1 a2 hbl y0 y1 y2
      by_cases q8 : po = 8
      · subst q8
        go_wp2
        go_roundg (n - (k + 1))
        case measure => have := HMK.out; omega
        case rel =>
          refine ⟨k + 1, D + 1, O', by have := HMK.out; omega, by rw [Int.natCast_add]; rfl, by rw [Int.natCast_add]; rfl, ?_, by have := HD.out.2; omega, HA.out.1.1, ?_, HA.out.1.2⟩
          · rw [mrun_take HZ.out]
            have : (mstep (mrun m00 (sts (l.take k))).1 (stz (8, px, py))).1.2 = (mrun m00 (sts (l.take k))).1.1 :: (mrun m00 (sts (l.take k))).1.2 := rfl
            rw [this, List.length_cons, HD.out.1]; omega
          · rw [mrun_take HZ.out]; exact HA.out.2
      · have e8 : (po == 8) = false := by rw [beq_eq_false_iff_ne]; exact q8
        by_cases q9 : po = 9
        · subst q9
          have HNE := Lib.hid (HE.out rfl)
          go_wp2
          go_roundg (n - (k + 1))
          case measure => have := HMK.out; omega
          case rel =>
            have hne := HNE.out
            have hd := HD.out
            refine ⟨k + 1, D - 1, O', by have := HMK.out; omega, by rw [Int.natCast_add]; rfl, ?_, ?_, by omega, HA.out.1.1, ?_, HA.out.1.2⟩
            · congr 1; omega
            · rw [mrun_take HZ.out]
              have : (mstep (mrun m00 (sts (l.take k))).1 (stz (9, px, py))).1.2 = (mrun m00 (sts (l.take k))).1.2.tail := rfl
              rw [this, List.length_tail]
              have : 0 < (mrun m00 (sts (l.take k))).1.2.length := List.length_pos_iff.2 hne
              omega
            · rw [mrun_take HZ.out]; exact HA.out.2
        · have e9 : (po == 9) = false := by rw [beq_eq_false_iff_ne]; exact q9
          have HQQ := Lib.hid (And.intro q8 q9)
          clear q8 q9
          go_wp2
          go_roundg (n - (k + 1))
          case measure => have := HMK.out; omega
          case rel =>
            refine ⟨k + 1, D, O', by have := HMK.out; omega, by rw [Int.natCast_add]; rfl, rfl, ?_, by have := HD.out.2; omega, HA.out.1.1, ?_, HA.out.1.2⟩
            · rw [mrun_take HZ.out]
              have hw := HW.out.lo
              have : (mstep (mrun m00 (sts (l.take k))).1 (stz (po, px, py))).1.2 = (mrun m00 (sts (l.take k))).1.2 := by
                have q := HQQ.out
                simp only at hw
                unfold mstep
                rw [if_neg (by show ¬ po.toNat = 8; omega), if_neg (by show ¬ po.toNat = 9; omega)]
              rw [this]; exact HD.out.1
            · rw [mrun_take HZ.out]; exact HA.out.2
    · have hk : k = n := by have := HMK.out; omega
      subst hk
      obtain ⟨d, hd⟩ : ∃ d, D = d + 1 := ⟨D - 1, by have := HD.out.1; omega⟩
      subst hd
      go_wp2_with fail
      go_loopg [33] (d + 1) (fun m u wx => unLoop w q (1 + k) d m u wx)
      case atStart => exact ⟨0, O, rfl, rfl, HR.out.1, HR.out.2.2, .inl ⟨(mrun m00 (sts (l.take k))).1.1, (mrun m00 (sts (l.take k))).1.2, by have := HD.out.1; omega, HR.out.2.1⟩⟩
      case round =>
        obtain ⟨j, O2, hmj, rfl, hF2, hO2, hst⟩ := hrel
        have HMJ := Lib.hid hmj
        have HF2 := Lib.hid (And.intro hF2 hO2)
        clear hmj hF2 hO2
        by_cases hlt2 : j < d + 1
        · have hji : (j : Int) < ((d + 1 : Nat) : Int) := by omega
          rcases hst with ⟨V, stk, hs, hR⟩ | ⟨e, _⟩
          · have HR2 := Lib.hid hR
            have HS := Lib.hid hs
            have HT := Lib.hid (show 1 + k ≤ 260 by omega)
            clear hR hs
            by_cases hjd : j = d
            · have : stk = [] := List.eq_nil_of_length_eq_zero (by have := HS.out; omega)
              subst this
              have HJD := Lib.hid hjd
              clear hjd
              go_wp2_with fail
              refine (rsLast HR2.out HT.out).mono ?_
              rintro e w4 ⟨O', rfl, a1, a2⟩
              have HA := Lib.hid (And.intro (mov_on HF2.out.1 HF2.out.2 (Fr.refl _ _) a2) a1)
              clear a1 a2
              go_wp2
              go_roundg (d + 1 - (j + 1))
              case measure => have := HMJ.out; omega
              case rel => exact ⟨j + 1, O', by have := HMJ.out; omega, by rw [Int.natCast_add]; rfl, HA.out.1.1, HA.out.1.2, .inr ⟨by have := HJD.out; omega, HA.out.2⟩⟩
            · have HNE := Lib.hid (show stk ≠ [] by rintro rfl; have := HS.out; simp at this; omega)
              clear hjd
              go_wp2_with fail
              refine (rsUndo HR2.out HT.out HNE.out).mono ?_
              rintro e w4 ⟨O', rfl, a1, a2⟩
              have HA := Lib.hid (And.intro (mov_on HF2.out.1 HF2.out.2 (Fr.refl _ _) a2) a1)
              clear a1 a2
              go_wp2
              go_roundg (d + 1 - (j + 1))
              case measure => have := HMJ.out; omega
              case rel =>
                refine ⟨j + 1, O', by have := HMJ.out; omega, by rw [Int.natCast_add]; rfl, HA.out.1.1, HA.out.1.2, .inl ⟨_, _, ?_, HA.out.2⟩⟩
                have : 0 < stk.length := List.length_pos_iff.2 HNE.out
                have := HS.out
                simp only [List.length_tail]; omega
          · omega
        · have hj : j = d + 1 := by have := HMJ.out; omega
          subst hj
          rcases hst with ⟨V, stk, hs, _⟩ | ⟨_, hA⟩
          · omega
          · have HA := Lib.hid hA
            clear hA
            go_wp2_with fail
            refine (Empty_c HA.out).mono ?_
            rintro e w4 ⟨rfl, hF4⟩
            have HF4 := Lib.hid (HF2.out.1.t hF4)
            clear hF4
            go_wp2
            go_ret
            exact ⟨rfl, HF4.out⟩
end Go.Proofs.Ytapnmgkpljlgmaa
