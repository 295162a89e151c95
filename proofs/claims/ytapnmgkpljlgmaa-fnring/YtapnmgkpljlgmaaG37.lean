/- The reference: Row, Links. -/
import Derived.Test.YtapnmgkpljlgmaaG33
import Derived.Test.YtapnmgkpljlgmaaG21
import Derived.Test.YtapnmgkpljlgmaaG28
import Derived.Deep.AppendLies
import Derived.Deep.RegionLaw
import Derived.IntWalk
set_option linter.unusedVariables false
set_option linter.unusedSimpArgs false
namespace Go.Proofs.Ytapnmgkpljlgmaa
open Go.RowKit Go.ChangeShapes Go.WideShapes Go.ChangeAt Go.Deep

theorem slc_cap {H : Type} {enc : TypeId × Value → H} {P : Program} {W : World} {t e : TypeId} {A : Option Addr} {n c : Nat} {d : DataW H} {ps : List MemPlace} (ht : P.underlying t = some (.slice e)) (h : DataW.Trod enc P W 0 (fun _ => true) true t (.slice A n c) d ps) : n ≤ c ∧ c ≤ maxLen := by
  obtain ⟨f, hf⟩ := h
  rcases open_slice ht hf with ⟨h1, _⟩ | ⟨a, len, cap, m, k, D, Pl, h1, _, h3, h4, h5, _, h7⟩
  · have e1 : Value.slice A n c = .slice none 0 0 := by simpa [Value.cells] using h1
    simp only [Value.slice.injEq] at e1
    obtain ⟨rfl, rfl, rfl⟩ := e1
    exact ⟨Nat.le_refl _, Nat.zero_le _⟩
  · have e1 : Value.slice A n c = .slice (some a) len cap := by simpa [Value.cells] using h1
    simp only [Value.slice.injEq] at e1
    obtain ⟨rfl, rfl, rfl⟩ := e1
    exact ⟨by omega, by omega⟩

/-! ## rows of values -/
theorem ints_len (l : List Nat) : (ints l).length = l.length := List.length_map ..
theorem ints_at {row : List Nat} {k : Nat} (h : k < row.length) : (ints row)[k]? = some (.int .i64 ((row.getD k 0 : Nat) : Int)) := by
  unfold ints
  rw [List.getElem?_map, List.getD_eq_getElem?_getD, List.getElem?_eq_getElem h]; rfl
theorem rdnlen {w : World} {A : Option Addr} {n : Nat} {row : List Nat} (h : Rd w 1 A n (ints row)) : row.length = n := by have := h.1; rw [ints_len] at this; omega
theorem rdn {w : World} {ad : Addr} {n : Nat} {row : List Nat} (h : Rd w 1 (some ad) n (ints row)) {k : Nat} (hk : k < n) : w.cell? (ad.add k) = some (.int .i64 ((row.getD k 0 : Nat) : Int)) :=
  h.cells (by omega) (ints_at (by rw [rdnlen h]; exact hk))
structure RowZ (v : Int) (l : List Int) : Prop where
  two : 2 ≤ l.length
  v0 : 0 ≤ v
  v12 : v ≤ 12
  len : (l.length : Int) ≤ v
  rng : ∀ (i : Nat) a, l[i]? = some a → 0 ≤ a ∧ a < v
  nd : ∀ (i j : Nat) a b, j < i → l[i]? = some a → l[j]? = some b → a ≠ b
theorem RowZ.nat {v : Int} {l : List Int} (h : RowZ v l) : ∃ (V : Nat) (row : List Nat), v = V ∧ V ≤ 12 ∧ z1s l = ints row ∧ RowOK V row ∧ row.length ≤ V ∧ row.length = l.length := by
  obtain ⟨V, rfl⟩ : ∃ V : Nat, v = V := ⟨v.toNat, by have := h.v0; omega⟩
  have h0 : ∀ a ∈ l, 0 ≤ a ∧ a < V := fun a ha => by
    obtain ⟨i, hi⟩ := List.mem_iff_getElem?.1 ha
    exact h.rng i a hi
  have hl : (l.map Int.toNat).length = l.length := List.length_map ..
  refine ⟨V, l.map Int.toNat, rfl, by have := h.v12; omega, ?_, ⟨by rw [hl]; exact h.two, ?_, fun a ha => ?_⟩, by rw [hl]; have := h.len; omega, hl⟩
  · unfold z1s ints
    rw [List.map_map]
    refine List.map_congr_left fun a ha => ?_
    show Value.int .i64 a = Value.int .i64 ((a.toNat : Nat) : Int)
    rw [Int.toNat_of_nonneg (h0 a ha).1]
  · refine List.pairwise_iff_getElem.2 fun i j hi hj hij e => ?_
    rw [hl] at hi hj
    simp only [List.getElem_map] at e
    have ei := List.getElem?_eq_getElem hi
    have ej := List.getElem?_eq_getElem hj
    have a1 := h.rng i _ ei
    have a2 := h.rng j _ ej
    exact h.nd j i _ _ hij ej ei (by omega)
  · obtain ⟨b, hb, rfl⟩ := List.mem_map.1 ha
    have := h0 b hb; omega
def rowLoop (w : World) (l : List Int) (v : Int) (n m : Nat) (u : Value) (wr : World) : Prop :=
  ∃ k : Nat, m + k = n ∧ u = .int .i64 (k : Nat) ∧ wr = w ∧ (∀ (i : Nat) a, i < k → l[i]? = some a → 0 ≤ a ∧ a < v) ∧ ∀ (i j : Nat) a b, i < k → j < i → l[i]? = some a → l[j]? = some b → a ≠ b
def row2Loop (w : World) (l : List Int) (x : Int) (n m : Nat) (u : Value) (wr : World) : Prop :=
  ∃ k : Nat, m + k = n ∧ u = .int .i64 (k : Nat) ∧ wr = w ∧ ∀ (j : Nat) b, j < k → l[j]? = some b → x ≠ b
def RowPost (w : World) (v : Int) (l : List Int) (e : Ending) (w' : World) : Prop := ∃ b, e = .returned (.bool b) ∧ w' = w ∧ (b = true → RowZ v l)
theorem RowPost.no {w : World} {v : Int} {l : List Int} : RowPost w v l (.returned (.bool false)) w := ⟨false, rfl, rfl, by simp⟩
theorem RowPost.yes {w : World} {v : Int} {l : List Int} (h : RowZ v l) : RowPost w v l (.returned (.bool true)) w := ⟨true, rfl, rfl, fun _ => h⟩
set_option maxRecDepth 10000 in
set_option maxHeartbeats 4000000 in
theorem row_c {A : Option Addr} {n c : Nat} {l : List Int} {v : Int} {w : World} (h : Rd w 1 A n (z1s l)) (hc : n ≤ c ∧ c ≤ maxLen) :
    Calls Try.prog 60 #[.int .i64 v, .slice A n c] w (RowPost w v l) := by
  have hm := maxLen_int (show n ≤ maxLen by omega)
  have HL := Lib.hid (rdilen h)
  have H := Lib.hid h
  have hcc := maxLen_int hc.2
  have HC := Lib.hid hc
  clear h hc
  by_cases q1 : n < 2
  · have d1 : decide ((n : Int) < 2) = true := by rw [decide_eq_true_eq]; omega
    go_enter Try.func60, Try.ntmps60
    go_wp2
    go_ret
    exact RowPost.no
  have d1 : decide ((n : Int) < 2) = false := by rw [decide_eq_false_iff_not]; omega
  by_cases q2 : v < 0
  · have d2 : decide (v < 0) = true := decide_eq_true q2
    go_enter Try.func60, Try.ntmps60
    go_wp2
    go_ret
    exact RowPost.no
  have d2 : decide (v < 0) = false := decide_eq_false q2
  by_cases q3 : 12 < v
  · have d3 : decide (12 < v) = true := decide_eq_true q3
    go_enter Try.func60, Try.ntmps60
    go_wp2
    go_ret
    exact RowPost.no
  have d3 : decide (12 < v) = false := decide_eq_false q3
  by_cases q4 : v < (n : Int)
  · have d4 : decide (v < (n : Int)) = true := decide_eq_true q4
    go_enter Try.func60, Try.ntmps60
    go_wp2
    go_ret
    exact RowPost.no
  have d4 : decide (v < (n : Int)) = false := decide_eq_false q4
  have HQ := Lib.hid (And.intro q1 (And.intro q2 (And.intro q3 q4)))
  clear q1 q2 q3 q4
  go_enter Try.func60, Try.ntmps60
  go_wp2_with fail
  go_loopg [28] n (fun m u wr => rowLoop w l v n m u wr)
  case atStart => exact ⟨0, rfl, rfl, rfl, fun i a hi => absurd hi (by omega), fun i j a b hi => absurd hi (by omega)⟩
  case round =>
    clear d1 d2 d3 d4
    obtain ⟨k, hmk, rfl, rfl, hr, hd⟩ := hrel
    have HMK := Lib.hid hmk
    have HR := Lib.hid (And.intro hr hd)
    clear hr hd hmk
    by_cases hlt : k < n
    · obtain ⟨ad, x, rfl, hx, hcx⟩ := rdiat H.out hlt
      have HX := Lib.hid hx
      clear hx
      by_cases q5 : x < 0
      · have d5 : decide (x < 0) = true := decide_eq_true q5
        go_wp2
        go_ret
        exact RowPost.no
      have d5 : decide (x < 0) = false := decide_eq_false q5
      by_cases q6 : v ≤ x
      · have d6 : decide (v ≤ x) = true := decide_eq_true q6
        go_wp2
        go_ret
        exact RowPost.no
      have d6 : decide (v ≤ x) = false := decide_eq_false q6
      have HQ2 := Lib.hid (And.intro q5 q6)
      have hkc : (k : Int) ≤ (c : Int) := by have := HC.out; omega
      clear q5 q6
      go_wp2_with fail
      go_loopg [44] k (fun m u wx => row2Loop wr l x k m u wx)
      case atStart => exact ⟨0, rfl, rfl, rfl, fun j b hj => absurd hj (by omega)⟩
      case round =>
        clear d5 d6 hcx
        obtain ⟨j, hmj, rfl, rfl, hx2⟩ := hrel
        have HMJ := Lib.hid hmj
        have HX2 := Lib.hid hx2
        clear hx2 hmj
        by_cases hlt2 : j < k
        · obtain ⟨ad', y, hA, hy, hcy⟩ := rdiat H.out (show j < n by omega)
          cases hA
          have HY := Lib.hid hy
          clear hy
          by_cases q7 : x = y
          · subst q7
            have e0 : (x == x) = true := beq_self_eq_true _
            go_wp2
            go_ret
            exact RowPost.no
          · have e0 : (x == y) = false := by rw [beq_eq_false_iff_ne]; exact q7
            have HQ3 := Lib.hid q7
            clear q7
            go_wp2
            go_roundg (k - (j + 1))
            case measure => have := HMJ.out; omega
            case rel =>
              refine ⟨j + 1, by have := HMJ.out; omega, by rw [Int.natCast_add]; rfl, rfl, fun i b hi hb => ?_⟩
              rcases Nat.lt_succ_iff_lt_or_eq.1 hi with hi | rfl
              · exact HX2.out i b hi hb
              · rw [HY.out] at hb; cases hb; exact HQ3.out
        · have hj : j = k := by have := HMJ.out; omega
          subst hj
          go_wp2
          go_roundg (n - (j + 1))
          case measure => have := HMK.out; omega
          case rel =>
            refine ⟨j + 1, by have := HMK.out; omega, by rw [Int.natCast_add]; rfl, rfl, fun i a hi ha => ?_, fun i i2 a b hi hi2 ha hb => ?_⟩
            · rcases Nat.lt_succ_iff_lt_or_eq.1 hi with hi | rfl
              · exact HR.out.1 i a hi ha
              · rw [HX.out] at ha; cases ha
                have := HQ2.out; omega
            · rcases Nat.lt_succ_iff_lt_or_eq.1 hi with hi | rfl
              · exact HR.out.2 i i2 a b hi hi2 ha hb
              · rw [HX.out] at ha; cases ha
                exact HX2.out i2 b hi2 hb
    · have hk : k = n := by have := HMK.out; omega
      subst hk
      go_wp2
      go_ret
      have q := HQ.out
      have hl := HL.out
      exact RowPost.yes ⟨by omega, by omega, by omega, by omega, fun i a ha => HR.out.1 i a (by have := (List.getElem?_eq_some_iff.1 ha).1; omega) ha, fun i j a b hj ha hb => HR.out.2 i j a b (by have := (List.getElem?_eq_some_iff.1 ha).1; omega) hj ha hb⟩

/-- An append of steps to a row of the call's own, in a region that draws its order. -/
theorem step_app_z {ops : Array Oper} {o : Oper} {a : Act} {w : World} {K : Act → World → Prop} {Q : Exit → Act → World → Prop} {E : Prop} (hgd : o.guard = none) (s x : Operand)
    (ho : o.op = .call { callee := .builtin .append, args := #[s, x], argTypes := #[24, 24] })
    (v : Value) (n : Nat) (xs : List Value) (hs : a.eval s = v) (hown : w.ownsRow 0 40 3 v n xs)
    (ad : Addr) (m c : Nat) (news : List Value) (hx : a.eval x = .slice (some ad) m c) (hl : news.length = m * 3) (hnews : ∀ j u, news[j]? = some u → w.cell? (ad.add j) = some u) (h1 : ∀ u ∈ news, u.oneCell' = true)
    (hm : 0 < m) (hn : n + m ≤ 1000000)
    (h : ∀ g cap w', w'.ownsRow 0 40 3 (.slice (some ⟨g, 0, none⟩) (n + m) cap) (n + m) (xs ++ news) → w.grownBy w' v.ownBlock → (v.ownBlock = some g ∨ w.heap.size ≤ g) → K (a.put o.dst (.slice (some ⟨g, 0, none⟩) (n + m) cap)) w') :
    if Region.wanted o (yielded ops a.tmps) = true then Oper.wp Try.prog o a w K Q else E := by
  obtain ⟨ii, i1, i2, i3, i4⟩ := info_parts (P := Try.prog) info_step
  exact step_append_lies w hgd s x 24 ho 0 40 ii _ 3 24 Try.underlying24 i1 i2 i3 i4 rfl (by decide) v n xs hs hown ad m c news hx hl hnews h1 hm (by unfold maxLen; omega) (by omega) (Nat.zero_le _) _ rfl
    fun g cap w' k1 k2 k3 _ => h g cap w' k1 k2 (k3.imp id fun e => by omega)

/-! ## Links -/
def linkF (row : List Nat) (s : Int) (i : Nat) : Z3 := (if (i : Int) = s then 0 else 1, ((row.getD i 0 : Nat) : Int), ((row.getD (i + 1) 0 : Nat) : Int))
def linkZ (row : List Nat) (s : Int) (k : Nat) : List Z3 := (List.range k).map (linkF row s)
theorem linkZ_succ (row : List Nat) (s : Int) (k : Nat) : z3s (linkZ row s (k + 1)) = z3s (linkZ row s k) ++ z3c (linkF row s k) := by
  unfold linkZ
  rw [List.range_succ, List.map_append, z3s_app]
  rfl
theorem linkZ_len (row : List Nat) (s : Int) (k : Nat) : (linkZ row s k).length = k := by simp [linkZ]
theorem linkZ_sts (row : List Nat) (s : Int) : sts (linkZ row s (row.length - 1)) = links row s := by
  unfold sts linkZ links
  rw [List.map_map]
  refine List.map_congr_left fun i _ => ?_
  show stz (linkF row s i) = link row s i
  unfold stz linkF link
  simp only [Int.toNat_natCast]
  by_cases q : (i : Int) = s
  · rw [if_pos q, if_pos q]; rfl
  · rw [if_neg q, if_neg q]; rfl
def linkLoop (w : World) (row : List Nat) (s : Int) (n m : Nat) (v u : Value) (wr : World) : Prop :=
  ∃ j i : Nat, i = j + 1 ∧ m + i = n ∧ u = .int .i64 (i : Nat) ∧ Fsh w wr 40 3 v j (z3s (linkZ row s j))
set_option maxRecDepth 10000 in
set_option maxHeartbeats 4000000 in
theorem links_c {A : Option Addr} {n c : Nat} {row : List Nat} {s : Int} {w : World} (h : Rd w 1 A n (ints row)) (hn : n ≤ 12) (h2 : 2 ≤ n) :
    Calls Try.prog 61 #[.slice A n c, .int .i64 s] w fun e w' => ∃ u, e = .returned u ∧ Fsh w w' 40 3 u (n - 1) (z3s (linkZ row s (n - 1))) := by
  obtain ⟨ad, rfl⟩ := rd_pos h (by omega)
  have H := Lib.hid h
  have HN := Lib.hid (And.intro hn h2)
  have hni : (n : Int) ≤ 12 := by omega
  clear h hn h2
  go_enter Try.func61, Try.ntmps61
  go_wp2_with fail
  go_loopg [5, 6] (n - 1) (fun m v u wr => linkLoop w row s n m v u wr)
  case atStart => exact ⟨0, 1, rfl, by have := HN.out; omega, rfl, Fsh.empty w 40 3⟩
  case round =>
    obtain ⟨j, i, hji, hmi, rfl, hF⟩ := hrel
    have HMI := Lib.hid (And.intro hmi hji)
    have HF := Lib.hid hF
    clear hF hmi hji
    by_cases hlt : i < n
    · have c0 := rdn (H.out.nix HF.out.fr) (show j < n by have := HMI.out; omega)
      have c1 := rdn (H.out.nix HF.out.fr) hlt
      obtain ⟨a, ha⟩ : ∃ a, row.getD j 0 = a := ⟨_, rfl⟩
      obtain ⟨b, hb⟩ : ∃ b, row.getD i 0 = b := ⟨_, rfl⟩
      rw [ha] at c0
      rw [hb] at c1
      have HAB := Lib.hid (And.intro ha hb)
      have e1 : (i : Int) - 1 = (j : Int) := by have := HMI.out; omega
      have hi1 : (1 : Int) ≤ (i : Int) := by have := HMI.out; omega
      have hii : (i : Int) < (n : Int) := by omega
      have hjj : (j : Int) < (n : Int) := by omega
      have s0 : IntKind.i64.wrap (j : Int) = (j : Int) := IntWalk.i64_in _ (by omega)
      have hown := HF.out.own
      have HL2 := Lib.hid (show j + 1 ≤ 1000000 by have := HN.out; have := HMI.out; omega)
      clear ha hb
      obtain ⟨o, ho⟩ : ∃ o : Int, (if (j : Int) = s then 0 else 1) = o := ⟨_, rfl⟩
      have HO := Lib.hid (show linkF row s j = (o, (a : Int), (b : Int)) by
        unfold linkF
        rw [ho, ← HMI.out.2, HAB.out.1, HAB.out.2])
      by_cases hq : (j : Int) = s
      · have d0 : ((j : Int) == s) = true := by rw [beq_iff_eq]; exact hq
        obtain rfl : 0 = o := by rw [← ho, if_pos hq]
        clear hq ho
        go_upto_region 8 with fail
        go_region_law (first | (refine step_app_z rfl (.tmp 19) (.tmp 31) rfl _ _ _ rfl (HF.out.nix (by first | exact Fr.al _ _ | exact (Fr.drew _ _).t (Fr.al _ _) | exact (Fr.al _ _).t (Fr.drew _ _))).own ⟨wr.heap.size, 0, none⟩ 1 1 (z3c (0, (a : Int), (b : Int))) rfl rfl (cells_at _ _ rfl _ _) (z3_one _) (by decide) HL2.out ?_; intro g cap w3 hown1 hgrow1 hnew1))
        all_goals
          have hF3 := Lib.hid (HF.out.app (wa := _) (by first | exact Fr.al _ _ | exact (Fr.drew _ _).t (Fr.al _ _) | exact (Fr.al _ _).t (Fr.drew _ _)) hown1 hgrow1 hnew1)
          clear hown1 hgrow1 hnew1
          go_wp2
          go_roundg (n - (i + 1))
          case measure => have := HMI.out; omega
          case rel => exact ⟨j + 1, i + 1, by have := HMI.out; omega, by have := HMI.out; omega, by rw [Int.natCast_add]; rfl, by rw [linkZ_succ, HO.out]; exact hF3.out⟩
      · have d0 : ((j : Int) == s) = false := by rw [beq_eq_false_iff_ne]; exact hq
        obtain rfl : 1 = o := by rw [← ho, if_neg hq]
        clear hq ho
        go_upto_region 8 with fail
        go_region_law (first | (refine step_app_z rfl (.tmp 19) (.tmp 31) rfl _ _ _ rfl (HF.out.nix (by first | exact Fr.al _ _ | exact (Fr.drew _ _).t (Fr.al _ _) | exact (Fr.al _ _).t (Fr.drew _ _))).own ⟨wr.heap.size, 0, none⟩ 1 1 (z3c (1, (a : Int), (b : Int))) rfl rfl (cells_at _ _ rfl _ _) (z3_one _) (by decide) HL2.out ?_; intro g cap w3 hown1 hgrow1 hnew1))
        all_goals
          have hF3 := Lib.hid (HF.out.app (wa := _) (by first | exact Fr.al _ _ | exact (Fr.drew _ _).t (Fr.al _ _) | exact (Fr.al _ _).t (Fr.drew _ _)) hown1 hgrow1 hnew1)
          clear hown1 hgrow1 hnew1
          go_wp2
          go_roundg (n - (i + 1))
          case measure => have := HMI.out; omega
          case rel => exact ⟨j + 1, i + 1, by have := HMI.out; omega, by have := HMI.out; omega, by rw [Int.natCast_add]; rfl, by rw [linkZ_succ, HO.out]; exact hF3.out⟩
    · have hi : i = n := by have := HMI.out; omega
      subst hi
      go_wp2
      go_ret
      refine ⟨_, rfl, ?_⟩
      have e : i - 1 = j := by have := HMI.out; omega
      rw [e]
      exact HF.out
end Go.Proofs.Ytapnmgkpljlgmaa
