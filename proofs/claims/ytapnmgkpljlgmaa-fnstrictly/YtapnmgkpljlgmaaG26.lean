/- Scripts turned into others: Mirrored, Turned, Without. What can be run: scripts turned, cut, put together. -/
import Derived.Test.YtapnmgkpljlgmaaG25
set_option linter.unusedVariables false
set_option linter.unusedSimpArgs false
namespace Go.Proofs.Ytapnmgkpljlgmaa
open Go.RowKit

theorem get_map {α β : Type} {f : α → β} {l : List α} {k : Nat} {z : α} (h : l[k]? = some z) : (l.map f)[k]? = some (f z) := by rw [List.getElem?_map, h]; rfl
def mirLoop (w : World) (l : List Z3) (n m : Nat) (v u : Value) (wr : World) : Prop :=
  ∃ k : Nat, m + k = n ∧ u = .int .i64 (k : Nat) ∧ Fsh w wr 40 3 v k (tk l k)
set_option maxRecDepth 10000 in
set_option maxHeartbeats 2000000 in
theorem mirrored_c {A : Option Addr} {n c : Nat} {l : List Z3} {w : World} (h : Rd w 3 A n (z3s l)) (hn : n < 2147483648) :
    Calls Try.prog 55 #[.slice A n c] w fun e w' => ∃ v, e = .returned v ∧ Fsh w w' 40 3 v n (z3s (l.map mirZ)) := by
  have H := Lib.hid h
  have HN := Lib.hid hn
  have hm : (n : Int) ≤ 9223372036854775807 := by omega
  have HLN := Lib.hid (show l.length = n by have := h.1; rw [z3s_len] at this; omega)
  obtain ⟨q, hq⟩ : ∃ q, l.map mirZ = q := ⟨_, rfl⟩
  have HQ := Lib.hid hq
  rw [hq]
  clear h hn hq
  go_enter Try.func55, Try.ntmps55
  go_wp2_with fail
  go_loopg [3, 9] n (fun m v u wr => mirLoop w q n m v u wr)
  case atStart => exact ⟨0, rfl, rfl, Fsh.empty w 40 3⟩
  case round =>
    obtain ⟨k, hmk, rfl, hF⟩ := hrel
    have HF := Lib.hid hF
    have HMK := Lib.hid hmk
    clear hF hmk
    by_cases hlt : k < n
    · obtain ⟨ad, po, px, py, rfl, hz, hc⟩ := rd3 (H.out.nix HF.out.fr) hlt
      have HZ := Lib.hid (get_map (f := mirZ) hz)
      have HC := Lib.hid hc
      have hown := HF.out.own
      have HL := Lib.hid (lim24 (n := k) (by have := HN.out; omega))
      clear hz hc
      go_wp2_with (first
        | (with_reducible refine wpList_ld (o := ⟨some 12, _, _, _, _, _⟩) rfl 40 (.tmp 11) rfl _ rfl #[.int .i64 po, .int .i64 px, .int .i64 py] _ HC.out Try.underlying40 rfl (by kernel_rfl) ?_)
        | (at_builtin; refine wpList_app _ rfl (.tmp 19) (.tmp 21) 24 rfl 40 _ 3 24 Try.underlying24 info_step rfl (by decide) _ _ _ rfl ((hown.alloc _).alloc _) ⟨_, 0, none⟩ 1 1 (z3c (po, py, px)) rfl rfl (by decide) (cells_at _ _ (size_alloc _ _) _ _) (z3_one _) HL.out.1 HL.out.2 ?_)
        | fail)
      intro g cap w1 hown1 hgrow1 hnew1
      have hF1 := Lib.hid (HF.out.app ((Fr.al _ _).a _) hown1 hgrow1 (by simpa using hnew1))
      clear hown1 hgrow1 hnew1 hown
      go_wp2
      go_roundg (n - (k + 1))
      case measure => have := HMK.out; omega
      case rel =>
        refine ⟨k + 1, by have := HMK.out; omega, by rw [Int.natCast_add]; rfl, ?_⟩
        rw [HQ.out] at HZ
        rw [tk_succ HZ.out]; exact hF1.out
    · have hk : k = n := by have := HMK.out; omega
      subst hk
      go_wp2
      go_ret
      refine ⟨_, rfl, ?_⟩
      have := HF.out
      rwa [tk_all (by rw [← HQ.out, List.length_map, HLN.out]; exact Nat.le_refl _)] at this
set_option maxRecDepth 10000 in
set_option maxHeartbeats 4000000 in
theorem turned_c {v t : Int} {A : Option Addr} {n c : Nat} {l : List Z3} {w : World} (h : Rd w 3 A n (z3s l)) (hn : n < 2147483648) (hw : ∀ z ∈ l, WfZ v z) (hv : v ≤ 12) (h0 : 0 ≤ t) (ht : t < v) :
    Calls Try.prog 56 #[.int .i64 v, .slice A n c, .int .i64 t] w fun e w' => ∃ u, e = .returned u ∧ Fsh w w' 40 3 u n (z3s (l.map (rotZ v t))) := by
  have H := Lib.hid h
  have HN := Lib.hid hn
  have hm : (n : Int) ≤ 9223372036854775807 := by omega
  have HLN := Lib.hid (show l.length = n by have := h.1; rw [z3s_len] at this; omega)
  have HW := Lib.hid hw
  have hv1 : 1 ≤ v := by omega
  have hv0 : ¬ v = 0 := by omega
  obtain ⟨q, hq⟩ : ∃ q, l.map (rotZ v t) = q := ⟨_, rfl⟩
  have HQ := Lib.hid hq
  rw [hq]
  clear h hn hq hw
  go_enter Try.func56, Try.ntmps56
  go_wp2_with fail
  go_loopg [7, 13] n (fun m v u wr => mirLoop w q n m v u wr)
  case atStart => exact ⟨0, rfl, rfl, Fsh.empty w 40 3⟩
  case round =>
    obtain ⟨k, hmk, rfl, hF⟩ := hrel
    have HF := Lib.hid hF
    have HMK := Lib.hid hmk
    clear hF hmk
    by_cases hlt : k < n
    · obtain ⟨ad, po, px, py, rfl, hz, hc⟩ := rd3 (H.out.nix HF.out.fr) hlt
      have HZ := Lib.hid (get_map (f := rotZ v t) hz)
      have wz := HW.out _ (List.mem_of_getElem? hz)
      have HC := Lib.hid hc
      have hown := HF.out.own
      have HL := Lib.hid (lim24 (n := k) (by have := HN.out; omega))
      rw [HQ.out] at HZ
      clear hz hc
      by_cases h89 : po = 8 ∨ po = 9
      · have HR := Lib.hid (show rotZ v t (po, px, py) = (po, px, py) by unfold rotZ; rw [if_pos h89])
        rcases h89 with rfl | rfl
        all_goals
          go_wp2_with (first
            | (with_reducible refine wpList_ld (o := ⟨some 16, _, _, _, _, _⟩) rfl 40 (.tmp 15) rfl _ rfl #[.int .i64 _, .int .i64 px, .int .i64 py] _ HC.out Try.underlying40 rfl (by kernel_rfl) ?_)
            | (at_builtin; refine wpList_app _ rfl (.tmp 39) (.tmp 41) 24 rfl 40 _ 3 24 Try.underlying24 info_step rfl (by decide) _ _ _ rfl ((hown.alloc _).alloc _) ⟨_, 0, none⟩ 1 1 (z3c (_, px, py)) rfl rfl (by decide) (cells_at _ _ (size_alloc _ _) _ _) (z3_one _) HL.out.1 HL.out.2 ?_)
            | fail)
          intro g cap w1 hown1 hgrow1 hnew1
          have hF1 := Lib.hid (HF.out.app ((Fr.al _ _).a _) hown1 hgrow1 (by simpa using hnew1))
          clear hown1 hgrow1 hnew1 hown
          go_wp2
          go_roundg (n - (k + 1))
          case measure => have := HMK.out; omega
          case rel =>
            refine ⟨k + 1, by have := HMK.out; omega, by rw [Int.natCast_add]; rfl, ?_⟩
            rw [tk_succ HZ.out, HR.out]; exact hF1.out
      · have HR := Lib.hid (show rotZ v t (po, px, py) = (po, (px + t) % v, (py + t) % v) by unfold rotZ; rw [if_neg h89])
        have n8 : (po == 8) = false := by rw [beq_eq_false_iff_ne]; omega
        have n9 : (po == 9) = false := by rw [beq_eq_false_iff_ne]; omega
        have m8 : (po != 8) = true := by rw [bne, n8]; rfl
        have m9 : (po != 9) = true := by rw [bne, n9]; rfl
        have u8 : ¬ po = 8 := by omega
        have u9 : ¬ po = 9 := by omega
        have hb := wz.ok (by simp only; omega) (by simp only; omega)
        simp only at hb
        obtain ⟨x0, y0, xv, yv, _⟩ := hb
        have x1 : 0 ≤ px + t := by omega
        have y1 : 0 ≤ py + t := by omega
        clear h89 wz
        go_wp2_with (first
          | (with_reducible refine wpList_ld (o := ⟨some 16, _, _, _, _, _⟩) rfl 40 (.tmp 15) rfl _ rfl #[.int .i64 po, .int .i64 px, .int .i64 py] _ HC.out Try.underlying40 rfl (by kernel_rfl) ?_)
          | (at_builtin; refine wpList_app _ rfl (.tmp 39) (.tmp 41) 24 rfl 40 _ 3 24 Try.underlying24 info_step rfl (by decide) _ _ _ rfl ((hown.alloc _).alloc _) ⟨_, 0, none⟩ 1 1 (z3c (po, (px + t) % v, (py + t) % v)) rfl rfl (by decide) (cells_at _ _ (size_alloc _ _) _ _) (z3_one _) HL.out.1 HL.out.2 ?_)
          | fail)
        intro g cap w1 hown1 hgrow1 hnew1
        have hF1 := Lib.hid (HF.out.app ((Fr.al _ _).a _) hown1 hgrow1 (by simpa using hnew1))
        clear hown1 hgrow1 hnew1 hown
        go_wp2
        go_roundg (n - (k + 1))
        case measure => have := HMK.out; omega
        case rel =>
          refine ⟨k + 1, by have := HMK.out; omega, by rw [Int.natCast_add]; rfl, ?_⟩
          rw [tk_succ HZ.out, HR.out]; exact hF1.out
    · have hk : k = n := by have := HMK.out; omega
      subst hk
      go_wp2
      go_ret
      refine ⟨_, rfl, ?_⟩
      have := HF.out
      rwa [tk_all (by rw [← HQ.out, List.length_map, HLN.out]; exact Nat.le_refl _)] at this
/-! ## Without -/
theorem isAsk_ask (z : Z3) : askB z = isAsk z := rfl
theorem wout_take {l : List Z3} {k : Nat} {z : Z3} (h : l[k]? = some z) : wout (l.take (k + 1)) = wout (l.take k) ++ if isAsk z = true then [] else [z] := by rw [take_snoc h, wout_snoc]
theorem wat_take {l : List Z3} {k : Nat} {z : Z3} (h : l[k]? = some z) : wat (l.take (k + 1)) 0 = wat (l.take k) 0 ++ if isAsk z = true then [] else [k] := by
  rw [take_snoc h, wat_snoc, List.length_take, Nat.min_eq_left (Nat.le_of_lt (List.getElem?_eq_some_iff.1 h).1), Nat.zero_add]
def ints (l : List Nat) : List Value := l.map fun k => .int .i64 (k : Nat)
theorem ints_snoc (l : List Nat) (k : Nat) : ints (l ++ [k]) = ints l ++ [.int .i64 (k : Nat)] := by unfold ints; rw [List.map_append]; rfl
/-- Both lists, in blocks of their own. -/
structure Two (w wr : World) (a b : Value) (q : List Z3) (p : List Nat) : Prop where
  fa : Fsh w wr 40 3 a q.length (z3s q)
  fb : Fsh w wr 3 1 b p.length (ints p)
  ne : ∀ g, a.ownBlock = some g → b.ownBlock ≠ some g
theorem Fsh.lt {w wr : World} {T : TypeId} {size : Nat} {v : Value} {n : Nat} {xs : List Value} (h : Fsh w wr T size v n xs) {g : Nat} (hg : v.ownBlock = some g) : g < wr.heap.size := by
  rcases h.own.2 with ⟨e1, _⟩ | ⟨g', c, cur, e1, _, e2, _⟩
  · rw [e1] at hg; cases hg
  · rw [e1] at hg; cases hg; exact heap_lt e2
theorem Two.nix {w wr w' : World} {a b : Value} {q : List Z3} {p : List Nat} (h : Two w wr a b q p) (f : Fr wr w' Nix) : Two w w' a b q p := ⟨h.fa.nix f, h.fb.nix f, h.ne⟩
theorem Two.appA {w wr wa w1 : World} {a b : Value} {q : List Z3} {p : List Nat} {z : Z3} {g cap : Nat} (h : Two w wr a b q p) (ha : Fr wr wa Nix)
    (hown : w1.ownsRow 0 40 3 (.slice (some ⟨g, 0, none⟩) (q.length + 1) cap) (q.length + 1) (z3s q ++ z3c z)) (hg : wa.grownBy w1 a.ownBlock) (hn : a.ownBlock = some g ∨ wa.heap.size ≤ g) :
    Two w w1 (.slice (some ⟨g, 0, none⟩) (q.length + 1) cap) b (q ++ [z]) p := by
  have e : (q ++ [z]).length = q.length + 1 := by simp
  refine ⟨?_, ?_, fun i hi hb => ?_⟩
  · rw [e, z3s_app, show z3s [z] = z3c z by simp [z3s]]
    exact h.fa.app ha hown hg hn
  · exact (h.fb.nix ha).kept (Fr.grown (F := fun k => a.ownBlock = some k) hg fun k hk => hk) (fun i hi e => h.ne i e hi) (fun i hi => h.fa.new i hi)
  · simp only [Value.ownBlock, Option.some.injEq] at hi
    subst hi
    rcases hn with hn | hn
    · exact h.ne _ hn hb
    · have := (h.fb.nix ha).lt hb; omega
theorem Two.appB {w wr wa w1 : World} {a b : Value} {q : List Z3} {p : List Nat} {k g cap : Nat} (h : Two w wr a b q p) (ha : Fr wr wa Nix)
    (hown : w1.ownsRow 0 3 1 (.slice (some ⟨g, 0, none⟩) (p.length + 1) cap) (p.length + 1) (ints p ++ [.int .i64 (k : Nat)])) (hg : wa.grownBy w1 b.ownBlock) (hn : b.ownBlock = some g ∨ wa.heap.size ≤ g) :
    Two w w1 a (.slice (some ⟨g, 0, none⟩) (p.length + 1) cap) q (p ++ [k]) := by
  have e : (p ++ [k]).length = p.length + 1 := by simp
  refine ⟨?_, ?_, fun i hi hb => ?_⟩
  · exact (h.fa.nix ha).kept (Fr.grown (F := fun k => b.ownBlock = some k) hg fun k hk => hk) (fun i hi e => h.ne i hi e) (fun i hi => h.fb.new i hi)
  · rw [e, ints_snoc]
    exact h.fb.app ha hown hg hn
  · simp only [Value.ownBlock, Option.some.injEq] at hb
    subst hb
    rcases hn with hn | hn
    · exact h.ne _ hi hn
    · have := (h.fa.nix ha).lt hi; omega
theorem two_empty (w : World) : Two w ((w.alloc (.cells #[] 40)).alloc (.cells #[] 3)) (.slice (some ⟨w.heap.size, 0, none⟩) 0 0) (.slice (some ⟨w.heap.size + 1, 0, none⟩) 0 0) [] [] := by
  refine ⟨(Fsh.empty w 40 3).nix (Fr.al _ _), ⟨own_empty (size_alloc _ _), fun g hg => ?_, (Fr.al _ _).a _, _, _, rfl⟩, fun g hg hb => ?_⟩
  · simp only [Value.ownBlock, Option.some.injEq] at hg; omega
  · simp only [Value.ownBlock, Option.some.injEq] at hg hb; omega
def wLoop2 (w : World) (l : List Z3) (n m : Nat) (a b u : Value) (wr : World) : Prop :=
  ∃ k : Nat, m + k = n ∧ u = .int .i64 (k : Nat) ∧ Two w wr a b (wout (l.take k)) (wat (l.take k) 0)
theorem limI {n : Nat} (h : n < 4294967296) : (n + 1) * 8 ≤ 140737488355328 ∧ n + 1 ≤ 1000000000000 := by omega
set_option maxRecDepth 10000 in
set_option maxHeartbeats 4000000 in
theorem without_c {A : Option Addr} {n c : Nat} {l : List Z3} {w : World} (h : Rd w 3 A n (z3s l)) (hn : n < 2147483648) :
    Calls Try.prog 52 #[.slice A n c] w fun e w' => ∃ a b, e = .returned (.tuple #[a, b]) ∧ Two w w' a b (wout l) (wat l 0) := by
  have H := Lib.hid h
  have HN := Lib.hid hn
  have hm : (n : Int) ≤ 9223372036854775807 := by omega
  have HLN := Lib.hid (show l.length = n by have := h.1; rw [z3s_len] at this; omega)
  clear h hn
  go_enter Try.func52, Try.ntmps52
  go_wp2_with fail
  go_loopg [4, 5, 12] n (fun m a b u wr => wLoop2 w l n m a b u wr)
  case atStart => exact ⟨0, rfl, rfl, two_empty w⟩
  case round =>
    obtain ⟨k, hmk, rfl, hF⟩ := hrel
    have HF := Lib.hid hF
    have HMK := Lib.hid hmk
    clear hF hmk
    by_cases hlt : k < n
    · obtain ⟨ad, po, px, py, rfl, hz, hc⟩ := rd3 (H.out.nix HF.out.fa.fr) hlt
      have HZ := Lib.hid hz
      have HC := Lib.hid hc
      have hq : (wout (l.take k)).length ≤ k ∧ (wat (l.take k) 0).length = (wout (l.take k)).length := by
        have h1 : (wout (l.take k)).length ≤ (l.take k).length := List.length_filter_le _ _
        have h2 : (l.take k).length ≤ k := List.length_take_le _ _
        exact ⟨by omega, (wat_get (l := l.take k) _ rfl).2.1⟩
      have HL := Lib.hid (lim24 (n := (wout (l.take k)).length) (by have := HN.out; omega))
      have HL2 := Lib.hid (limI (n := (wat (l.take k) 0).length) (by have := HN.out; omega))
      clear hz hc hq
      go_wp2_with (first
        | (with_reducible refine wpList_ld (o := ⟨some 16, _, _, _, _, _⟩) rfl 40 (.tmp 15) rfl _ rfl #[.int .i64 po, .int .i64 px, .int .i64 py] _ HC.out Try.underlying40 rfl (by kernel_rfl) ?_)
        | fail)
      refine (asks_c po px py _).mono ?_
      rintro e w2 ⟨rfl, hF2⟩
      have HB := Lib.hid ((box3_new _ po px py 40).nix hF2)
      have HF2 := Lib.hid (HF.out.nix ((Fr.al _ _).t hF2))
      clear hF2
      obtain ⟨s, hs⟩ : ∃ s, askB (po, px, py) = s := ⟨_, rfl⟩
      rw [hs]
      have HS := Lib.hid (show isAsk (po, px, py) = s from hs)
      clear hs
      cases s
      · have hown := HF2.out.fa.own
        obtain ⟨b0, b1, b2⟩ := HB.out
        go_wp2_with (first
          | (at_builtin; refine wpList_app _ rfl (.tmp 20) (.tmp 22) 24 rfl 40 _ 3 24 Try.underlying24 info_step rfl (by decide) _ _ _ rfl (hown.alloc _) ⟨_, 0, none⟩ 1 1 (z3c (po, px, py)) rfl rfl (by decide) (cells_at _ _ rfl _ _) (z3_one _) HL.out.1 HL.out.2 ?_)
          | fail)
        intro g cap w3 hown1 hgrow1 hnew1
        have HF3 := Lib.hid (HF2.out.appA (Fr.al _ _) hown1 hgrow1 (by simpa using hnew1))
        clear hown1 hgrow1 hnew1 hown b0 b1 b2
        have hown := HF3.out.fb.own
        go_wp2_with (first
          | (at_builtin; refine wpList_app _ rfl (.tmp 24) (.tmp 26) 52 rfl 3 _ 1 8 Try.underlying52 (by kernel_rfl : _ = some (some (.int .i64 0), 1, 8)) rfl (by decide) _ _ _ rfl (hown.alloc _) ⟨_, 0, none⟩ 1 1 [.int .i64 (k : Nat)] rfl rfl (by decide) (cells_at _ _ rfl _ _) (by simp [Value.oneCell']) HL2.out.1 HL2.out.2 ?_)
          | fail)
        intro g3 cap3 w4 hown1 hgrow1 hnew1
        have HF4 := Lib.hid (HF3.out.appB (Fr.al _ _) hown1 hgrow1 (by simpa using hnew1))
        clear hown1 hgrow1 hnew1 hown
        go_wp2
        go_roundg (n - (k + 1))
        case measure => have := HMK.out; omega
        case rel =>
          refine ⟨k + 1, by have := HMK.out; omega, by rw [Int.natCast_add]; rfl, ?_⟩
          rw [wout_take HZ.out, wat_take HZ.out, HS.out, if_neg (by decide), if_neg (by decide)]
          exact HF4.out
      · go_wp2
        go_roundg (n - (k + 1))
        case measure => have := HMK.out; omega
        case rel =>
          refine ⟨k + 1, by have := HMK.out; omega, by rw [Int.natCast_add]; rfl, ?_⟩
          rw [wout_take HZ.out, wat_take HZ.out, HS.out, if_pos rfl, if_pos rfl, List.append_nil, List.append_nil]
          exact HF2.out
    · have hk : k = n := by have := HMK.out; omega
      subst hk
      go_wp2
      go_ret2
      refine ⟨_, _, rfl, ?_⟩
      have := HF.out
      rwa [List.take_of_length_le (by rw [HLN.out]; exact Nat.le_refl _)] at this
end Go.Proofs.Ytapnmgkpljlgmaa
namespace Go.Proofs.Ytapnmgkpljlgmaa
open Go.RowKit

theorem Deep_map {f : Z3 → Z3} : ∀ (l : List Z3) (d : Nat), (∀ z ∈ l, (f z).1 = z.1) → (Deep d (sts (l.map f)) ↔ Deep d (sts l))
  | [], _, _ => Iff.rfl
  | z :: l, d, h => by
    have e : (stz (f z)).op = (stz z).op := by unfold stz; simp only; rw [h z (by simp)]
    have ih := fun d => Deep_map (f := f) l d fun t ht => h t (by simp [ht])
    show Deep d (stz (f z) :: sts (l.map f)) ↔ Deep d (stz z :: sts l)
    unfold Deep
    rw [e]
    split
    · exact ih _
    · split
      · exact and_congr_right fun _ => ih _
      · exact ih _
theorem RunOK.map {f : Z3 → Z3} {l : List Z3} (h : RunOK l) (hf : ∀ z ∈ l, (f z).1 = z.1 ∧ (WfZ 12 z → WfZ 12 (f z))) : RunOK (l.map f) where
  wf := fun z hz => by
    obtain ⟨t, ht, rfl⟩ := List.mem_map.1 hz
    exact (hf t ht).2 (h.wf t ht)
  deep := (Deep_map l 0 fun z hz => (hf z hz).1).2 h.deep
  cnt := by
    have e : sets (l.map f) = sets l := by
      have key : ∀ l : List Z3, (∀ z ∈ l, (f z).1 = z.1) → sets (l.map f) = sets l := by
        intro l
        induction l with
        | nil => intro _; rfl
        | cons z l ih =>
          intro hz
          have e1 : sets ((z :: l).map f) = sets [f z] + sets (l.map f) := sets_app [f z] (l.map f)
          have e2 : sets (z :: l) = sets [z] + sets l := sets_app [z] l
          rw [e1, e2, ih fun t ht => hz t (by simp [ht]), sets_one, sets_one, hz z (by simp)]
      exact key l fun z hz => (hf z hz).1
    rw [e]; exact h.cnt
  len := by rw [List.length_map]; exact h.len
theorem mir_wf {v : Int} {z : Z3} (h : WfZ v z) : WfZ v (mirZ z) := ⟨h.lo, h.hi, fun a b => by have := h.ok a b; show 0 ≤ z.2.2 ∧ 0 ≤ z.2.1 ∧ z.2.2 < v ∧ z.2.1 < v ∧ z.2.2 ≠ z.2.1; omega⟩
theorem rot_wf {v t : Int} (ht : 0 ≤ t) (htv : t < v) (hv : v ≤ 12) {z : Z3} (h : WfZ v z) : WfZ 12 (rotZ v t z) := by
  unfold rotZ
  by_cases q : z.1 = 8 ∨ z.1 = 9
  · rw [if_pos q]; exact h.mono hv
  · rw [if_neg q]
    have w := h.ok (by omega) (by omega)
    have e1 := rot_int (a := z.2.1) w.1 w.2.2.1 ht htv
    have e2 := rot_int (a := z.2.2) w.2.1 w.2.2.2.1 ht htv
    have p1 := Int.emod_nonneg (z.2.1 + t) (b := v) (by omega)
    have p2 := Int.emod_nonneg (z.2.2 + t) (b := v) (by omega)
    have l1 := Int.emod_lt_of_pos (z.2.1 + t) (b := v) (by omega)
    have l2 := Int.emod_lt_of_pos (z.2.2 + t) (b := v) (by omega)
    refine ⟨h.lo, h.hi, fun _ _ => ⟨p1, p2, by simp only; omega, by simp only; omega, fun e => ?_⟩⟩
    simp only at e
    have := rot_inj z.2.1.toNat z.2.2.toNat (v := v.toNat) (t := t.toNat) (by omega) (by omega) (by rw [← e1, ← e2, e])
    omega
theorem rot_op (v t : Int) (z : Z3) : (rotZ v t z).1 = z.1 := by unfold rotZ; split <;> rfl
theorem RunOK.map_wf {v t : Int} {l : List Z3} (h : RunOK l) (g : GoodZ v l) (ht : 0 ≤ t) (htv : t < v) : RunOK (l.map (rotZ v t)) where
  wf := fun z hz => by
    obtain ⟨u, hu, rfl⟩ := List.mem_map.1 hz
    exact rot_wf ht htv g.v12 (g.wf u hu)
  deep := (Deep_map l 0 fun z _ => rot_op v t z).2 h.deep
  cnt := by
    have key : ∀ l : List Z3, sets (l.map (rotZ v t)) = sets l := by
      intro l
      induction l with
      | nil => rfl
      | cons z l ih =>
        have e1 : sets ((z :: l).map (rotZ v t)) = sets [rotZ v t z] + sets (l.map (rotZ v t)) := sets_app [rotZ v t z] (l.map (rotZ v t))
        have e2 : sets (z :: l) = sets [z] + sets l := sets_app [z] l
        rw [e1, e2, ih, sets_one, sets_one, rot_op]
    rw [key]; exact h.cnt
  len := by rw [List.length_map]; exact h.len
theorem RunOK.take {l : List Z3} (h : RunOK l) (k : Nat) : RunOK (l.take k) where
  wf := fun z hz => h.wf z (List.mem_of_mem_take hz)
  deep := by
    have key : ∀ (l : List Z3) (d k : Nat), Deep d (sts l) → Deep d (sts (l.take k)) := by
      intro l
      induction l with
      | nil => intro d k _; simp [sts, Deep]
      | cons z l ih =>
        intro d k h
        cases k with
        | zero => simp [sts, Deep]
        | succ k =>
          have h : Deep d (stz z :: sts l) := h
          show Deep d (stz z :: sts (l.take k))
          unfold Deep at h ⊢
          split
          · rename_i q; rw [if_pos q] at h; exact ih _ _ h
          · rename_i q
            rw [if_neg q] at h
            split
            · rename_i q2; rw [if_pos q2] at h; exact ⟨h.1, ih _ _ h.2⟩
            · rename_i q2; rw [if_neg q2] at h; exact ih _ _ h
    exact key l 0 k h.deep
  cnt := Nat.le_trans (sets_take l k) h.cnt
  len := by have := h.len; rw [List.length_take]; omega
theorem RunOK.wout {l : List Z3} (h : RunOK l) : RunOK (wout l) where
  wf := fun z hz => h.wf z (List.mem_filter.1 hz).1
  deep := by
    have key : ∀ (l : List Z3) (d : Nat), Deep d (sts l) → Deep d (sts (Go.Proofs.Ytapnmgkpljlgmaa.wout l)) := by
      intro l
      induction l with
      | nil => intro d _; simp [sts, Deep, Go.Proofs.Ytapnmgkpljlgmaa.wout]
      | cons z l ih =>
        intro d h
        have h : Deep d (stz z :: sts l) := h
        cases hz : isAsk z
        · have e : Go.Proofs.Ytapnmgkpljlgmaa.wout (z :: l) = z :: Go.Proofs.Ytapnmgkpljlgmaa.wout l := by unfold Go.Proofs.Ytapnmgkpljlgmaa.wout; rw [List.filter_cons, hz]; rfl
          rw [e]
          show Deep d (stz z :: sts (Go.Proofs.Ytapnmgkpljlgmaa.wout l))
          unfold Deep at h ⊢
          split
          · rename_i q; rw [if_pos q] at h; exact ih _ h
          · rename_i q
            rw [if_neg q] at h
            split
            · rename_i q2; rw [if_pos q2] at h; exact ⟨h.1, ih _ h.2⟩
            · rename_i q2; rw [if_neg q2] at h; exact ih _ h
        · have e : Go.Proofs.Ytapnmgkpljlgmaa.wout (z :: l) = Go.Proofs.Ytapnmgkpljlgmaa.wout l := by unfold Go.Proofs.Ytapnmgkpljlgmaa.wout; rw [List.filter_cons, hz]; rfl
          rw [e]
          have ha := isAsk_op hz
          unfold Ask at ha
          unfold Deep at h
          rw [if_neg (by omega), if_neg (by omega)] at h
          exact ih _ h
    exact key l 0 h.deep
  cnt := by
    have : sets (Go.Proofs.Ytapnmgkpljlgmaa.wout l) ≤ sets l := by
      unfold sets Go.Proofs.Ytapnmgkpljlgmaa.wout
      rw [List.filter_filter]
      exact List.Sublist.length_le (by
        have : (List.filter (fun a => (decide (a.1 < 4 ∨ 7 < a.1)) && !isAsk a) l) = List.filter (fun a => decide (a.1 < 4 ∨ 7 < a.1)) (List.filter (fun a => !isAsk a) l) := by rw [List.filter_filter]
        rw [this]
        exact (List.filter_sublist (l := l)).filter _)
    have := h.cnt; omega
  len := by have := h.len; have h2 : (Go.Proofs.Ytapnmgkpljlgmaa.wout l).length ≤ l.length := List.length_filter_le _ _; omega
theorem RunOK.app' {a b : List Z3} (h : RunOK a) (hb : ∀ z ∈ b, WfZ 12 z) (hd : Deep (dpt 0 (sts a)) (sts b)) (hc : sets a + sets b ≤ 260) (hl : a.length + b.length ≤ 4000) : RunOK (a ++ b) where
  wf := fun z hz => (List.mem_append.1 hz).elim (h.wf z) (hb z)
  deep := by rw [sts_app]; exact Deep_app _ _ _ h.deep hd
  cnt := by rw [sets_app]; exact hc
  len := by rw [List.length_append]; exact hl
theorem one_flat {α : Type} (l : List α) : [l].flatten = l := by simp
end Go.Proofs.Ytapnmgkpljlgmaa
