/- From the rows to the walks: what an argument reads as, and that it reads so behind a call that has only made new memory. The head line of the translation, sign by sign. Rows: lists of steps, lists of numbers, a step by value. -/
import Derived.Test.YtapnmgkpljlgmaaG16
import Derived.ProofKit
import Derived.OpenShut
import Derived.ChangeSame
import Derived.Deep.Slices
import Derived.Deep.Fields
import Derived.JoinedOf
import Derived.Lib.SmallJoins
set_option linter.unusedVariables false
set_option linter.unusedSimpArgs false
namespace Go.Proofs.Ytapnmgkpljlgmaa
open Go.RowKit Go.ChangeShapes Go.WideShapes Go.ChangeAt Go.Deep

section
variable {H : Type} {enc : TypeId × Value → H} {P : Program} {W W' : World}

/-- Only new blocks have come. -/
theorem same_of {W W' : World} (hB : Below W.heap.size W W') {p : MemPlace} (hp : p.block < W.heap.size) : W.sameAt W' p := by
  cases p with
  | cell b o => exact hB.cell (p := ⟨b, o, none⟩) hp
  | map b => exact hB.block b hp
theorem trod_up {base : Nat} {sp : Nat → Bool} {hd : Bool} {t : TypeId} {n : Nat} {cs : List Value} {x : DataW H × List MemPlace} (hB : Below W.heap.size W W') (h : DataW.trod enc P W base sp hd n t cs = some x) : DataW.trod enc P W' base sp hd n t cs = some x :=
  DataW.trod_carry n _ _ _ h fun p hp => same_of hB (DataW.trod_lt n _ _ _ h p hp)

/-- Numbers, and structs of numbers, have no spare room. -/
def Flat (P : Program) (t : TypeId) : Prop := (∃ k, P.underlying t = some (.int k)) ∨ ∃ fs, P.underlying t = some (.struct fs) ∧ ∀ (i : Nat) (f : Field), fs[i]? = some f → ∃ k, P.underlying f.type = some (.int k)
theorem flat_int {base : Nat} {sp sp' : Nat → Bool} {hd : Bool} {t : TypeId} {k : IntKind} (ht : P.underlying t = some (.int k)) : ∀ (n : Nat) (cs : List Value), DataW.trod enc P W base sp hd n t cs = DataW.trod enc P W base sp' hd n t cs
  | 0, _ => rfl
  | n + 1, cs => by
    rw [DataW.trod_step, DataW.trod_step]
    unfold DataW.trodStep
    rw [ht]
    split <;> simp_all
theorem flat_spare {base : Nat} {sp sp' : Nat → Bool} {hd : Bool} {t : TypeId} (ht : Flat P t) : ∀ (n : Nat) (cs : List Value) (x : DataW H × List MemPlace), DataW.trod enc P W base sp hd n t cs = some x → DataW.trod enc P W base sp' hd n t cs = some x
  | 0, _, _, h => by simp [DataW.trod] at h
  | n + 1, cs, x, h => by
    rcases ht with ⟨k, ht⟩ | ⟨fs, ht, hf⟩
    · rw [flat_int ht]; exact h
    · have key : ∀ (r r' : TypeId → List Value → Option (DataW H × List MemPlace)), (∀ (i : Nat) (f : Field), fs[i]? = some f → ∀ cs, r f.type cs = r' f.type cs) → DataW.trodStep enc P W base sp hd r t cs = some x → DataW.trodStep enc P W base sp' hd r' t cs = some x := by
        intro r r' hr h
        unfold DataW.trodStep at h ⊢
        rw [ht] at h ⊢
        dsimp only at h ⊢
        split at h
        · rename_i hc
          rw [if_pos hc]
          simp only [Option.map_eq_some_iff] at h ⊢
          obtain ⟨xs, h2, h3⟩ := h
          refine ⟨xs, mapM_carry h2 fun f y hfm _ hy => ?_, h3⟩
          obtain ⟨i, hi⟩ := List.mem_iff_getElem?.1 hfm
          rw [← hr i f (by simpa using hi)]; exact hy
        · cases h
      exact key _ _ (fun i f hfi cs => by
        obtain ⟨k, hk⟩ := hf i f hfi
        exact flat_int hk n cs) h

/-- A slice of such elements reads as before. -/
theorem slice_up {t e : TypeId} {v : Value} {d : DataW H} {ps : List MemPlace} (ht : P.underlying t = some (.slice e)) (he : Flat P e) (hc : 0 < P.cellsOf e) (hB : Below W.heap.size W W')
    (h : DataW.Trod enc P W 0 (fun _ => true) true t v d ps) (sp : Nat → Bool) (hs : ∀ p ∈ ps, sp p.block = true) : DataW.Trod enc P W' 0 sp true t v d ps := by
  obtain ⟨n, hn⟩ := h
  have hn := trod_up hB hn
  cases n with
  | zero => simp [DataW.trod] at hn
  | succ n =>
    refine ⟨n + 1, ?_⟩
    have hshape := DataW.trod_slice ht hn
    rw [DataW.trod_step] at hn ⊢
    generalize hv : v.cells.toList = cs at hn hshape ⊢
    rcases hshape with ⟨rfl, hx⟩ | ⟨a, len, cap, _, _, _, _, rfl, _⟩
    · unfold DataW.trodStep at hn ⊢
      rw [ht] at hn ⊢
      exact hn
    unfold DataW.trodStep at hn ⊢
    rw [ht] at hn ⊢
    dsimp only at hn ⊢
    split at hn
    case isFalse => cases hn
    rename_i hcond
    rw [if_pos hcond]
    simp only [Option.map_eq_some_iff, Option.bind_eq_some_iff, if_true] at hn ⊢
    obtain ⟨elems, he1, rest, hr1, h3⟩ := hn
    have carry : ∀ i x, ((W'.cells? 0 (a.add (i * P.cellsOf e)) (P.cellsOf e)).bind (DataW.trod enc P W' 0 (fun _ => true) true n e)) = some x → ((W'.cells? 0 (a.add (i * P.cellsOf e)) (P.cellsOf e)).bind (DataW.trod enc P W' 0 sp true n e)) = some x := by
      intro i x hx
      simp only [Option.bind_eq_some_iff] at hx ⊢
      obtain ⟨cs', k1, k2⟩ := hx
      exact ⟨cs', k1, flat_spare he n cs' x k2⟩
    refine ⟨elems, mapM_carry he1 fun i y _ _ hy => carry i y hy, rest, ?_, h3⟩
    by_cases hz : cap - len = 0
    · rw [hz] at hr1 ⊢
      simp at hr1
      subst hr1
      split <;> simp
    · have hlr : rest.length = cap - len := by simpa using mapM_some_length hr1
      have hsp : sp a.block = true := by
        refine hs (.cell a.block (a.off + 0)) ?_
        rw [show ps = MemPlace.row a ((elems.length + rest.length) * P.cellsOf e) ++ (elems ++ rest).flatMap (·.2) from (congrArg Prod.snd h3).symm]
        refine List.mem_append_left _ (MemPlace.mem_row.2 ⟨0, ?_, rfl⟩)
        exact Nat.mul_pos (by omega) hc
      rw [if_pos hsp]
      exact mapM_carry hr1 fun j y _ _ hy => carry _ y hy

/-- What a slice of elements of so many numbers reads as. -/
theorem open_slc {t e size : Nat} (hs0 : 0 < size) {v : Value} {d : DataW H} {ps : List MemPlace} (ht : P.underlying t = some (.slice e)) (hC : P.cellsOf e = size)
    (elem : ∀ (n : Nat) (cs : List Value) (x : DataW H × List MemPlace), cs.length = size → DataW.trod enc P W 0 (fun _ => true) true n e cs = some x → ∃ zs : List Int, zs.length = size ∧ cs = zs.map (Value.int .i64))
    (h : DataW.Trod enc P W 0 (fun _ => true) true t v d ps) (hv : ∃ a n c, v = .slice a n c) :
    ∃ (A : Option Addr) (n c : Nat) (g : Nat → List Int), v = .slice A n c ∧ n ≤ maxLen ∧ (∀ i, (g i).length = size) ∧ Rd W size A n ((List.range n).flatMap fun i => (g i).map (Value.int .i64)) := by
  obtain ⟨A, n, c, rfl⟩ := hv
  obtain ⟨f, hf⟩ := h
  rcases open_slice ht hf with ⟨h1, _⟩ | ⟨a, len, cap, m, k, D, Pl, h1, _, h3, h4, h5, _, h7⟩
  · have e1 : Value.slice A n c = .slice none 0 0 := by simpa [Value.cells] using h1
    simp only [Value.slice.injEq] at e1
    obtain ⟨rfl, rfl, rfl⟩ := e1
    exact ⟨none, 0, 0, fun _ => List.replicate size 0, rfl, Nat.zero_le _, fun i => by simp, by simp, fun h => absurd h (by omega)⟩
  · have e1 : Value.slice A n c = .slice (some a) len cap := by simpa [Value.cells] using h1
    simp only [Value.slice.injEq] at e1
    obtain ⟨rfl, rfl, rfl⟩ := e1
    have hm : m = c := by rw [h5]; simp
    have each : ∀ i, ∃ z : List Int, z.length = size ∧ (i < n → ∀ j u, j < size → (z.map (Value.int .i64))[j]? = some u → W.cell? ((a.add (i * size)).add j) = some u) := by
      intro i
      by_cases hi : i < n
      · obtain ⟨cs', k1, k2⟩ := h7 i (by omega)
        rw [hC] at k1
        obtain ⟨_, k3, k4⟩ := World.cells?_some k1
        obtain ⟨zs, k5, rfl⟩ := elem k cs' _ k3 k2
        exact ⟨zs, k5, fun _ j u hj hu => (k4 j hj).trans hu⟩
      · exact ⟨List.replicate size 0, by simp, fun h => absurd h hi⟩
    obtain ⟨g, hg⟩ := Classical.axiomOfChoice each
    have hfl : ∀ i, ((g i).map (Value.int .i64)).length = size := fun i => by rw [List.length_map]; exact (hg i).1
    refine ⟨some a, n, c, g, rfl, by omega, fun i => (hg i).1, by rw [flat_len hfl, List.length_range], fun hn => ⟨a, rfl, ?_, ?_⟩⟩
    · obtain ⟨cs', k1, k2⟩ := h7 0 (by omega)
      rw [hC] at k1
      obtain ⟨_, k3, k4⟩ := World.cells?_some k1
      have := k4 0 hs0
      have e0 : cs'[0]? = some (cs'[0]'(by omega)) := List.getElem?_eq_getElem _
      rw [e0] at this
      have := block_lt_of_cell this
      rwa [add_block, add_block] at this
    · intro k j u hj hu
      by_cases hk : k < n
      · have hr : (List.range n)[k]? = some k := by simp [hk]
        rw [flat_get hfl (List.range n) k j k hj hr] at hu
        exact (hg k).2 hk j u hj hu
      · exfalso
        have hlen := flat_len hfl (List.range n)
        rw [List.length_range] at hlen
        have : k * size + j < n * size := by
          rw [← hlen]; exact (List.getElem?_eq_some_iff.1 hu).1
        have : n * size ≤ k * size := Nat.mul_le_mul_right _ (by omega)
        omega

theorem elem_int {e : TypeId} (he : P.underlying e = some (.int .i64)) (n : Nat) (cs : List Value) (x : DataW H × List MemPlace) (_ : cs.length = 1) (h : DataW.trod enc P W 0 (fun _ => true) true n e cs = some x) : ∃ zs : List Int, zs.length = 1 ∧ cs = zs.map (Value.int .i64) := by
  obtain ⟨z, rfl, _⟩ := DataW.trod_int he h
  exact ⟨[z], rfl, rfl⟩
theorem elem_at {fs : Array Field} (hone : oneCellFields P fs = true) {cs : List Value} {n : Nat} {xs : List (DataW H × List MemPlace)} (hl : cs.length = fs.size) (hx : xs.length = fs.size)
    (hg : ∀ (i : Nat) (f : Field), fs[i]? = some f → DataW.trod enc P W 0 (fun _ => true) true n f.type ((cs.drop f.offset).take (P.cellsOf f.type)) = xs[i]?) (i : Nat) (f : Field) (hf : fs[i]? = some f) (hk : P.underlying f.type = some (.int .i64)) :
    ∃ z : Int, cs[i]? = some (.int .i64 z) := by
  obtain ⟨ho, hc⟩ := hone_of hone i f hf
  have hi : i < fs.size := (Array.getElem?_eq_some_iff.1 hf).1
  have h := hg i f hf
  rw [ho, hc, List.getElem?_eq_getElem (by omega : i < xs.length)] at h
  have e : (cs.drop i).take 1 = [cs[i]'(by omega)] := by rw [List.drop_eq_getElem_cons (by omega)]; rfl
  rw [e] at h
  obtain ⟨z, hz, _⟩ := DataW.trod_int hk h
  refine ⟨z, ?_⟩
  rw [List.getElem?_eq_getElem (by omega)]
  simpa using hz
theorem two_of {cs : List Value} {a b : Int} (hl : cs.length = 2) (ha : cs[0]? = some (.int .i64 a)) (hb : cs[1]? = some (.int .i64 b)) : ∃ zs : List Int, zs.length = 2 ∧ cs = zs.map (Value.int .i64) := by
  match cs, hl, ha, hb with
  | [c0, c1], _, ha, hb =>
    simp only [List.getElem?_cons_zero, List.getElem?_cons_succ, Option.some.injEq] at ha hb
    subst ha hb
    exact ⟨[a, b], rfl, rfl⟩
theorem three_of {cs : List Value} {a b c : Int} (hl : cs.length = 3) (ha : cs[0]? = some (.int .i64 a)) (hb : cs[1]? = some (.int .i64 b)) (hc : cs[2]? = some (.int .i64 c)) : ∃ zs : List Int, zs.length = 3 ∧ cs = zs.map (Value.int .i64) := by
  match cs, hl, ha, hb, hc with
  | [c0, c1, c2], _, ha, hb, hc =>
    simp only [List.getElem?_cons_zero, List.getElem?_cons_succ, Option.some.injEq] at ha hb hc
    subst ha hb hc
    exact ⟨[a, b, c], rfl, rfl⟩
theorem elem_pair (n : Nat) (cs : List Value) (x : DataW H × List MemPlace) (hl : cs.length = 2) (h : DataW.trod enc Try.prog W 0 (fun _ => true) true n 27 cs = some x) : ∃ zs : List Int, zs.length = 2 ∧ cs = zs.map (Value.int .i64) := by
  obtain ⟨xs, m, _, _, _, hx, hg⟩ := DataW.trod_struct Try.underlying27 h
  obtain ⟨a, ha⟩ := elem_at (by kernel_rfl) hl hx hg 0 _ rfl Try.underlying3
  obtain ⟨b, hb⟩ := elem_at (by kernel_rfl) hl hx hg 1 _ rfl Try.underlying3
  exact two_of hl ha hb
theorem elem_step {T : TypeId} {fs : Array Field} (hT : Try.prog.underlying T = some (.struct fs)) (hone : oneCellFields Try.prog fs = true) (h3 : fs.size = 3) (hi : ∀ (i : Nat) (f : Field), fs[i]? = some f → Try.prog.underlying f.type = some (.int .i64))
    (n : Nat) (cs : List Value) (x : DataW H × List MemPlace) (hl : cs.length = 3) (h : DataW.trod enc Try.prog W 0 (fun _ => true) true n T cs = some x) : ∃ zs : List Int, zs.length = 3 ∧ cs = zs.map (Value.int .i64) := by
  obtain ⟨xs, m, _, _, _, hx, hg⟩ := DataW.trod_struct hT h
  have at' : ∀ i, i < 3 → ∃ z : Int, cs[i]? = some (.int .i64 z) := fun i hi3 => elem_at hone (by omega) hx hg i (fs[i]'(by omega)) (Array.getElem?_eq_getElem _) (hi i _ (Array.getElem?_eq_getElem _))
  obtain ⟨a, ha⟩ := at' 0 (by omega)
  obtain ⟨b, hb⟩ := at' 1 (by omega)
  obtain ⟨c, hc⟩ := at' 2 (by omega)
  exact three_of hl ha hb hc
theorem list2 {g : Nat → List Int} (hg : ∀ i, (g i).length = 2) (n : Nat) : ∃ l : List (Int × Int), ((List.range n).flatMap fun i => (g i).map (Value.int .i64)) = z2s l := by
  refine ⟨(List.range n).map fun i => ((g i).getD 0 0, (g i).getD 1 0), ?_⟩
  unfold z2s
  rw [List.flatMap_map]
  congr 1
  funext i
  have := hg i
  match h : g i, this with
  | [a, b], _ => simp [z2c]
theorem list3 {g : Nat → List Int} (hg : ∀ i, (g i).length = 3) (n : Nat) : ∃ l : List Z3, ((List.range n).flatMap fun i => (g i).map (Value.int .i64)) = z3s l := by
  refine ⟨(List.range n).map fun i => ((g i).getD 0 0, (g i).getD 1 0, (g i).getD 2 0), ?_⟩
  unfold z3s
  rw [List.flatMap_map]
  congr 1
  funext i
  have := hg i
  match h : g i, this with
  | [a, b, c], _ => simp [z3c]
end

theorem pos_of {a b : Nat} (h : a = b + 1) : 0 < a := by omega
theorem knob : ownKnob Try.prog.godebug = none := by kernel_rfl
theorem flat_pair : Flat Try.prog 27 := .inr ⟨_, Try.underlying27, fun i f hf => ⟨.i64, by
  match i, hf with
  | 0, hf => cases hf; exact Try.underlying3
  | 1, hf => cases hf; exact Try.underlying3
  | i + 2, hf => simp at hf⟩⟩
theorem flat_step : Flat Try.prog 47 := .inr ⟨_, Try.underlying47, fun i f hf => ⟨.i64, by
  match i, hf with
  | 0, hf => cases hf; exact Try.underlying3
  | 1, hf => cases hf; exact Try.underlying3
  | 2, hf => cases hf; exact Try.underlying3
  | i + 3, hf => simp at hf⟩⟩

section
variable {H : Type} {enc : TypeId × Value → H} {P : Program}
/-- The row's last step, where only new blocks have come. -/
theorem post_new {f : Func} {s : ChangeSpec} {apart fresh handsOn again : Bool} {W W' : World} {args : Array Value} {v : Value} {ds gs : List (DataW H)} {before pa pv : List MemPlace}
    (hW : DataW.Whole enc P f.params.toList s.vars apart W args.toList ds gs before)
    (hres : ∀ (b : Nat) (sp : Nat → Bool) (hd : Bool), DataW.TrodAll enc P W' b sp hd f.resultTypes.toList (v.resultList f.resultTypes.size) (s.fn H (ds ++ gs)).results [])
    (hargs : ∀ sp : Nat → Bool, (∀ p ∈ before, sp p.block = true) → DataW.TrodAll enc P W' 0 sp true f.params.toList args.toList (s.fn H (ds ++ gs)).args pa)
    (hvars : ∀ sp : Nat → Bool, (∀ p ∈ before, sp p.block = true) → DataW.TrodVars enc P W' sp s.vars (s.fn H (ds ++ gs)).vars pv)
    (hps : before = pa ++ pv) (hb : Below W.heap.size W W')
    (hok : ∀ (j : Nat) (t : TypeId) (r : Value), f.resultTypes[j]? = some t → (v.resultList f.resultTypes.size)[j]? = some r → Value.okWide P W' .any 0 t r) :
    s.post enc P f apart fresh handsOn again W args v W' := by
  have lt : ∀ p ∈ before, p.block < W.heap.size := fun p hp => hW.lt p hp
  have old : ∀ p ∈ before, (fun b => decide (b < W.heap.size)) p.block = true := fun p hp => decide_eq_true (lt p hp)
  refine ⟨ds, gs, before, [], pa, pv, hW, hres _ _ _, hargs _ old, hvars _ old, World.keptBut_mono (fun p hp => ⟨hp, .inr ?_⟩) (hb.frame (· ∈ before)), fun _ => ?_⟩
  · rw [hps] at hp; exact List.mem_append.1 hp
  · obtain ⟨_, _, _, _, _, hz, hn⟩ := hW
    refine ⟨hok, _, _, ([] ++ pa) ++ pv, ⟨[] ++ pa, pv, trodAll_append (hargs _ fun _ _ => rfl) (hres _ _ _), hvars _ fun _ _ => rfl, rfl, fun b off hp => ?_, fun ha => ?_⟩, fun p hp _ => ?_⟩
    · have hin : MemPlace.cell b off ∈ before := by rw [hps]; simpa using hp
      rw [hb.frozen (lt _ hin)]; exact hz b off hin
    · have := hn ha; rw [hps] at this; simpa using this
    · rw [hps]; simpa using hp
end
end Go.Proofs.Ytapnmgkpljlgmaa
namespace Go.Proofs.Ytapnmgkpljlgmaa
def head1 : List Char := ([104, 97, 114, 110, 101, 115, 115] : List Nat).map Char.ofNat
def head2 : List Char := ([100, 56, 48, 51, 50, 50, 100, 97, 97, 100, 53, 56, 98, 56, 57, 102, 99, 50, 100, 53, 49, 99, 100, 50, 57, 51, 57, 52, 53, 49, 51, 98, 98, 52, 54, 51, 52, 54, 52, 54, 99, 102, 49, 97, 100, 56, 98, 101, 101, 101, 55, 56, 98, 101, 54, 97, 53, 97, 48, 57, 101, 54, 56, 101] : List Nat).map Char.ofNat
def head3 : List Char := ([99, 117, 116] : List Nat).map Char.ofNat
def head4 : List Char := ([97, 116, 32, 108, 111, 111, 112, 46, 101, 120, 97, 109, 112, 108, 101, 47, 112, 117, 98, 45, 102, 97, 99, 116, 115, 111, 102, 115, 105, 122, 101, 115, 47, 108, 97, 119, 115, 46, 70, 110, 65, 112, 97, 114, 116, 32, 108, 111, 111, 112, 46, 101, 120, 97, 109, 112, 108, 101, 47, 112, 117, 98, 45, 102, 97, 99, 116, 115, 111, 102, 115, 105, 122, 101, 115, 47, 108, 97, 119, 115, 46, 70, 110, 83, 97, 109, 101, 32, 108, 111, 111, 112, 46, 101, 120, 97, 109, 112, 108, 101, 47, 112, 117, 98, 45, 102, 97, 99, 116, 115, 111, 102, 115, 105, 122, 101, 115, 47, 108, 97, 119, 115, 46, 70, 110, 79, 114, 100, 101, 114, 115, 32, 108, 111, 111, 112, 46, 101, 120, 97, 109, 112, 108, 101, 47, 112, 117, 98, 45, 102, 97, 99, 116, 115, 111, 102, 115, 105, 122, 101, 115, 47, 108, 97, 119, 115, 46, 70, 110, 85, 110, 100, 111, 110, 101, 32, 108, 111, 111, 112, 46, 101, 120, 97, 109, 112, 108, 101, 47, 112, 117, 98, 45, 102, 97, 99, 116, 115, 111, 102, 115, 105, 122, 101, 115, 47, 108, 97, 119, 115, 46, 70, 110, 65, 116, 77, 111, 115, 116, 32, 108, 111, 111, 112, 46, 101, 120, 97, 109, 112, 108, 101, 47, 112, 117, 98, 45, 102, 97, 99, 116, 115, 111, 102, 115, 105, 122, 101, 115, 47, 108, 97, 119, 115, 46, 70, 110, 65, 110, 121, 79, 114, 100, 101, 114, 32, 108, 111, 111, 112, 46, 101, 120, 97, 109, 112, 108, 101, 47, 112, 117, 98, 45, 102, 97, 99, 116, 115, 111, 102, 115, 105, 122, 101, 115, 47, 108, 97, 119, 115, 46, 70, 110, 65, 112, 97, 114, 116, 83, 116, 97, 121, 115, 32, 108, 111, 111, 112, 46, 101, 120, 97, 109, 112, 108, 101, 47, 112, 117, 98, 45, 102, 97, 99, 116, 115, 111, 102, 115, 105, 122, 101, 115, 47, 108, 97, 119, 115, 46, 70, 110, 69, 109, 112, 116, 121, 65, 103, 97, 105, 110, 32, 108, 111, 111, 112, 46, 101, 120, 97, 109, 112, 108, 101, 47, 112, 117, 98, 45, 102, 97, 99, 116, 115, 111, 102, 115, 105, 122, 101, 115, 47, 108, 97, 119, 115, 46, 70, 110, 65, 115, 107, 105, 110, 103, 32, 108, 111, 111, 112, 46, 101, 120, 97, 109, 112, 108, 101, 47, 112, 117, 98, 45, 102, 97, 99, 116, 115, 111, 102, 115, 105, 122, 101, 115, 47, 108, 97, 119, 115, 46, 70, 110, 66, 111, 116, 104, 32, 108, 111, 111, 112, 46, 101, 120, 97, 109, 112, 108, 101, 47, 112, 117, 98, 45, 102, 97, 99, 116, 115, 111, 102, 115, 105, 122, 101, 115, 47, 108, 97, 119, 115, 46, 70, 110, 73, 110, 116, 97, 99, 116, 32, 108, 111, 111, 112, 46, 101, 120, 97, 109, 112, 108, 101, 47, 112, 117, 98, 45, 102, 97, 99, 116, 115, 111, 102, 115, 105, 122, 101, 115, 47, 108, 97, 119, 115, 46, 70, 110, 70, 105, 114, 115, 116, 32, 108, 111, 111, 112, 46, 101, 120, 97, 109, 112, 108, 101, 47, 112, 117, 98, 45, 102, 97, 99, 116, 115, 111, 102, 115, 105, 122, 101, 115, 47, 108, 97, 119, 115, 46, 70, 110, 71, 114, 111, 119, 115, 32, 108, 111, 111, 112, 46, 101, 120, 97, 109, 112, 108, 101, 47, 112, 117, 98, 45, 102, 97, 99, 116, 115, 111, 102, 115, 105, 122, 101, 115, 47, 108, 97, 119, 115, 46, 70, 110, 77, 101, 114, 103, 101, 100, 32, 108, 111, 111, 112, 46, 101, 120, 97, 109, 112, 108, 101, 47, 112, 117, 98, 45, 102, 97, 99, 116, 115, 111, 102, 115, 105, 122, 101, 115, 47, 108, 97, 119, 115, 46, 70, 110, 77, 105, 114, 114, 111, 114, 32, 108, 111, 111, 112, 46, 101, 120, 97, 109, 112, 108, 101, 47, 112, 117, 98, 45, 102, 97, 99, 116, 115, 111, 102, 115, 105, 122, 101, 115, 47, 108, 97, 119, 115, 46, 70, 110, 78, 97, 109, 101, 115, 32, 108, 111, 111, 112, 46, 101, 120, 97, 109, 112, 108, 101, 47, 112, 117, 98, 45, 102, 97, 99, 116, 115, 111, 102, 115, 105, 122, 101, 115, 47, 108, 97, 119, 115, 46, 70, 110, 78, 117, 109, 98, 101, 114, 115, 32, 108, 111, 111, 112, 46, 101, 120, 97, 109, 112, 108, 101, 47, 112, 117, 98, 45, 102, 97, 99, 116, 115, 111, 102, 115, 105, 122, 101, 115, 47, 108, 97, 119, 115, 46, 70, 110, 79, 110, 101, 79, 102, 32, 108, 111, 111, 112, 46, 101, 120, 97, 109, 112, 108, 101, 47, 112, 117, 98, 45, 102, 97, 99, 116, 115, 111, 102, 115, 105, 122, 101, 115, 47, 108, 97, 119, 115, 46, 70, 110, 82, 101, 102, 117, 115, 101, 100, 32, 108, 111, 111, 112, 46, 101, 120, 97, 109, 112, 108, 101, 47, 112, 117, 98, 45, 102, 97, 99, 116, 115, 111, 102, 115, 105, 122, 101, 115, 47, 108, 97, 119, 115, 46, 70, 110, 82, 105, 110, 103, 32, 108, 111, 111, 112, 46, 101, 120, 97, 109, 112, 108, 101, 47, 112, 117, 98, 45, 102, 97, 99, 116, 115, 111, 102, 115, 105, 122, 101, 115, 47, 108, 97, 119, 115, 46, 70, 110, 82, 111, 119, 32, 108, 111, 111, 112, 46, 101, 120, 97, 109, 112, 108, 101, 47, 112, 117, 98, 45, 102, 97, 99, 116, 115, 111, 102, 115, 105, 122, 101, 115, 47, 108, 97, 119, 115, 46, 70, 110, 83, 99, 114, 105, 112, 116, 32, 108, 111, 111, 112, 46, 101, 120, 97, 109, 112, 108, 101, 47, 112, 117, 98, 45, 102, 97, 99, 116, 115, 111, 102, 115, 105, 122, 101, 115, 47, 108, 97, 119, 115, 46, 70, 110, 83, 111, 117, 110, 100, 32, 108, 111, 111, 112, 46, 101, 120, 97, 109, 112, 108, 101, 47, 112, 117, 98, 45, 102, 97, 99, 116, 115, 111, 102, 115, 105, 122, 101, 115, 47, 108, 97, 119, 115, 46, 70, 110, 83, 116, 97, 114, 32, 108, 111, 111, 112, 46, 101, 120, 97, 109, 112, 108, 101, 47, 112, 117, 98, 45, 102, 97, 99, 116, 115, 111, 102, 115, 105, 122, 101, 115, 47, 108, 97, 119, 115, 46, 70, 110, 83, 116, 114, 105, 99, 116, 32, 108, 111, 111, 112, 46, 101, 120, 97, 109, 112, 108, 101, 47, 112, 117, 98, 45, 102, 97, 99, 116, 115, 111, 102, 115, 105, 122, 101, 115, 47, 108, 97, 119, 115, 46, 70, 110, 83, 116, 114, 105, 99, 116, 108, 121, 32, 108, 111, 111, 112, 46, 101, 120, 97, 109, 112, 108, 101, 47, 112, 117, 98, 45, 102, 97, 99, 116, 115, 111, 102, 115, 105, 122, 101, 115, 47, 108, 97, 119, 115, 46, 70, 110, 84, 104, 114, 101, 101, 32, 108, 111, 111, 112, 46, 101, 120, 97, 109, 112, 108, 101, 47, 112, 117, 98, 45, 102, 97, 99, 116, 115, 111, 102, 115, 105, 122, 101, 115, 47, 108, 97, 119, 115, 46, 70, 110, 84, 111, 108, 100, 32, 108, 111, 111, 112, 46, 101, 120, 97, 109, 112, 108, 101, 47, 112, 117, 98, 45, 102, 97, 99, 116, 115, 111, 102, 115, 105, 122, 101, 115, 47, 108, 97, 119, 115, 46, 70, 110, 84, 119, 105, 99, 101, 32, 108, 111, 111, 112, 46, 101, 120, 97, 109, 112, 108, 101, 47, 112, 117, 98, 45, 102, 97, 99, 116, 115, 111, 102, 115, 105, 122, 101, 115, 47, 108, 97, 119, 115, 46, 70, 110, 85, 110, 100, 111] : List Nat).map Char.ofNat
def sp32 : Char := Char.ofNat 32
theorem head_eq : Try.prog.initOrder = String.ofList (head1 ++ sp32 :: (head2 ++ sp32 :: (head3 ++ sp32 :: head4))) := by kernel_rfl
theorem words_app : ∀ (w r : List Char), (∀ c ∈ w, c ≠ sp32) → wordsSigns (w ++ sp32 :: r) = w :: wordsSigns r
  | [], r, _ => rfl
  | c :: w, r, h => by
    have ih := words_app w r fun d hd => h d (List.mem_cons_of_mem _ hd)
    have hc : c ≠ sp32 := h c (List.mem_cons_self ..)
    rw [List.cons_append, wordsSigns]
    · rw [ih]
    · intro e; exact hc e
theorem head_words : ∃ r, wordsSigns Try.prog.initOrder.toList = head1 :: head2 :: head3 :: r := by
  refine ⟨wordsSigns head4, ?_⟩
  rw [head_eq, String.toList_ofList, words_app _ _ (by decide +kernel), words_app _ _ (by decide +kernel), words_app _ _ (by decide +kernel)]
theorem behind_main (r : List (List Char)) : behindMainWord (head1 :: head2 :: head3 :: r) = head3 :: r := by kernel_rfl
theorem strip_lifts (r : List (List Char)) : stripLifts liftWords (head3 :: r) = ([], head3 :: r) := by kernel_rfl
theorem ne_gc : (head3 == "gc".toList) = false := by kernel_rfl
theorem ne_spec : (head3 == "spec".toList) = false := by kernel_rfl
theorem ne_carried : (head3 == "carried".toList) = false := by kernel_rfl
theorem is_cut : (head3 == "cut".toList) = true := by kernel_rfl
theorem lays_no : Try.prog.laysLater = false := by kernel_rfl
theorem bears_no : Try.prog.bearsReflect = false := by kernel_rfl
theorem door_fits : Try.prog.doorFits [] = true := by kernel_rfl
theorem head_lifts : Try.prog.headLifts = [] := by
  obtain ⟨r, hr⟩ := head_words
  unfold Program.headLifts
  rw [hr, behind_main, strip_lifts]
  kernel_rfl
theorem lifts_final : Try.prog.liftsFinal = false := by
  obtain ⟨r, hr⟩ := head_words
  unfold Program.liftsFinal
  rw [hr, behind_main, head_lifts]
  kernel_rfl
theorem main_words : ∃ r, behindMainWord (wordsSigns Try.prog.initOrder.toList) = head3 :: r := by
  obtain ⟨r, hr⟩ := head_words
  exact ⟨r, (congrArg behindMainWord hr).trans (behind_main r)⟩
theorem make_of {P : Program} {h : List Char} {r : List (List Char)} (hw : behindMainWord (wordsSigns P.initOrder.toList) = h :: r) (e1 : (h == "gc".toList) = false) (e2 : (h == "spec".toList) = false) (e3 : (h == "cut".toList) = true) : P.make = some .cut := by
  unfold Program.make
  rw [hw]
  simp only [e1, e2, e3, Bool.or_self, Bool.true_or, Bool.false_eq_true, if_false, if_true]
theorem may_of {P : Program} {h : List Char} {r : List (List Char)} (hw : behindMainWord (wordsSigns P.initOrder.toList) = h :: r) (hs : stripLifts liftWords (h :: r) = ([], h :: r)) (e1 : (h == "gc".toList) = false) (e2 : (h == "spec".toList) = false) (e3 : (h == "cut".toList) = true) (e4 : (h == "carried".toList) = false)
    (k1 : P.laysLater = false) (k2 : P.bearsReflect = false) (k3 : P.doorFits [] = true) : P.mayEnter = true := by
  unfold Program.mayEnter
  rw [hw]
  simp only [hs, e1, e2, e4, k1, k2, k3, List.head?_cons]
  have e : (some h == some "cut".toList) = true := e3
  rw [e]; rfl
theorem make_cut : Try.prog.make = some .cut := make_of main_words.choose_spec ne_gc ne_spec is_cut
theorem may_enter : Try.prog.mayEnter = true := may_of main_words.choose_spec (strip_lifts _) ne_gc ne_spec is_cut ne_carried lays_no bears_no door_fits
theorem joined_of {P : Program} {f : FuncId} {fn : Func} {s : ChangeSpec} {c : OpenClaim} (h0 : (c.wf (OpenSpec.ofChange s)) = true) (h1 : (laidOutB P) = true) (h2 : (mapsRowed P) = true) (h3 : (fn.params.all (P.readableRec ·)) = true) (h4 : (namedTie P c.named s.vars) = true) (h5 : ((c.stops == [])) = true) (h6 : ((P.stops == [])) = true) (h7 : ((c.knobs == [])) = true) (h8 : ((P.stopKnobs == [])) = true) (h9 : ((c.inPlace == P.inPlace f)) = true) (h10 : ((c.unfollowed == P.unfollowed f)) = true) (h11 : ((c.recurses == P.recurses f)) = true) (h12 : ((c.named == P.varsNamed f)) = true) (h13 : ((c.maps == (fn.params.toList ++ s.plain.varTypes P).any (P.mapsRec ·))) = true) (h14 : ((c.ifaces == (fn.params.toList ++ s.plain.varTypes P).any (P.ifacesRec ·))) = true) (h15 : ((c.mapsOut == P.mapsAmong fn.resultTypes.toList)) = true) (h16 : ((c.loops == (fn.params.toList ++ s.plain.varTypes P).any (P.loopsFrom ·))) = true) (h17 : ((c.wideKeys == (fn.params.toList ++ s.plain.varTypes P ++ fn.resultTypes.toList).any (P.wideKeysFrom ·))) = true) (h18 : (s.vars.all (P.varReadable ·)) = true) (h19 : (fn.resultTypes.all (fun t => P.readableRec t && decide (t < P.types.size))) = true) (h20 : ((c.ifacesOut == fn.resultTypes.toList.any (P.ifacesRec ·))) = true) (h21 : ((c.loopsOut == fn.resultTypes.toList.any (P.loopsFrom ·))) = true) (h22 : ((c.plainKeys == P.plainKeys)) = true) (h23 : (c.shortTexts.isNone) = true) (h24 : (P.stopsHeard) = true) (h28 : ((c.kinds == (if c.domain.isEmpty then [] else fn.params.toList.map fun t => match P.underlying t with | some (.int k) => some k | _ => none))) = true) (h29 : ((c.pinned == c.pinnedBy)) = true) (h30 : ((c.veiled == (fn.params.toList ++ s.plain.varTypes P ++ fn.resultTypes.toList).any (P.veiledRec ·))) = true) (h31 : (c.veiledFits P fn.params.toList (fn.params.toList ++ s.plain.varTypes P ++ fn.resultTypes.toList)) = true)
    (k1 : P.mayEnter = true) (k2 : P.liftsFinal = false) (k3 : P.make = some .cut) (k4 : c.lifted = false) (k5 : c.make = .cut) : joinedFacts P f fn s c = true := by
  have h25 := k1
  have h26 : (c.lifted == P.liftsFinal) = true := by rw [k2, k4]; rfl
  have h27 : (P.make == some c.make) = true := by rw [k3, k5]; rfl
  simp only [joinedFacts, Bool.and_eq_true]
  exact ⟨⟨⟨⟨⟨⟨⟨⟨⟨⟨⟨⟨⟨⟨⟨⟨⟨⟨⟨⟨⟨⟨⟨⟨⟨⟨⟨⟨⟨⟨⟨h0, h1⟩, h2⟩, h3⟩, h4⟩, h5⟩, h6⟩, h7⟩, h8⟩, h9⟩, h10⟩, h11⟩, h12⟩, h13⟩, h14⟩, h15⟩, h16⟩, h17⟩, h18⟩, h19⟩, h20⟩, h21⟩, h22⟩, h23⟩, h24⟩, h25⟩, h26⟩, h27⟩, h28⟩, h29⟩, h30⟩, h31⟩
end Go.Proofs.Ytapnmgkpljlgmaa
namespace Go.Proofs.Ytapnmgkpljlgmaa
open Go.RowKit Go.ChangeShapes Go.WideShapes Go.ChangeAt Go.Deep Go.Joins

section
variable {H : Type} {enc : TypeId × Value → H} {W : World}
theorem elem_istep (n : Nat) (cs : List Value) (x : DataW H × List MemPlace) (hl : cs.length = 3) (h : DataW.trod enc Try.prog W 0 (fun _ => true) true n 47 cs = some x) : ∃ zs : List Int, zs.length = 3 ∧ cs = zs.map (Value.int .i64) :=
  elem_step Try.underlying47 (by kernel_rfl) rfl (fun i f hf => by
    match i, hf with
    | 0, hf => cases hf; exact Try.underlying3
    | 1, hf => cases hf; exact Try.underlying3
    | 2, hf => cases hf; exact Try.underlying3
    | i + 3, hf => simp at hf) n cs x hl h
def z1s (l : List Int) : List Value := l.map (Value.int .i64)
theorem list1 {g : Nat → List Int} (hg : ∀ i, (g i).length = 1) (n : Nat) : ∃ l : List Int, ((List.range n).flatMap fun i => (g i).map (Value.int .i64)) = z1s l := by
  refine ⟨(List.range n).map fun i => (g i).getD 0 0, ?_⟩
  unfold z1s
  rw [List.map_map, ← List.flatMap_singleton' ((List.range n).map _), List.flatMap_map]
  congr 1
  funext i
  have := hg i
  match h : g i, this with
  | [a], _ => simp [h]
set_option maxRecDepth 100000 in
theorem open_stp {r : Reach} {b0 base : Nat} {spare : Nat → Bool} {held : Bool} {v : Value} {d : DataW H} {ps : List MemPlace} (hval : Value.okWide Try.prog W r b0 47 v) (h : DataW.Trod enc Try.prog W base spare held 47 v d ps) :
    ∃ o x y : Int, v = .agg #[.int .i64 o, .int .i64 x, .int .i64 y] ∧ d = .agg [.lit (.int .i64 o), .lit (.int .i64 x), .lit (.int .i64 y)] ∧ ps = [] ∧ (Lit.int .i64 o).wf = true ∧ (Lit.int .i64 x).wf = true ∧ (Lit.int .i64 y).wf = true := by
  obtain ⟨c0, c1, c2, y0, y1, y2, m, rfl, rfl, rfl, h0, h1, h2⟩ := open_agg3 Try.underlying47 (by kernel_rfl) (by kernel_rfl) hval h
  obtain ⟨o, e0, rfl, w0⟩ := DataW.trod_int Try.underlying3 h0
  obtain ⟨x, e1, rfl, w1⟩ := DataW.trod_int Try.underlying3 h1
  obtain ⟨y, e2, rfl, w2⟩ := DataW.trod_int Try.underlying3 h2
  simp at e0 e1 e2
  subst e0 e1 e2
  exact ⟨o, x, y, rfl, rfl, rfl, w0, w1, w2⟩
theorem shut_stp {base : Nat} {spare : Nat → Bool} {held : Bool} {o x y : Int} (w0 : (Lit.int .i64 o).wf = true) (w1 : (Lit.int .i64 x).wf = true) (w2 : (Lit.int .i64 y).wf = true) :
    DataW.Trod enc Try.prog W base spare held 47 (.agg #[.int .i64 o, .int .i64 x, .int .i64 y]) (.agg [.lit (.int .i64 o), .lit (.int .i64 x), .lit (.int .i64 y)]) [] :=
  shut_agg3 (y0 := (.lit (.int .i64 o), [])) (y1 := (.lit (.int .i64 x), [])) (y2 := (.lit (.int .i64 y), [])) Try.underlying47 (by kernel_rfl) (by kernel_rfl)
    (field_of_Trod (shut_int Try.underlying3 w0) rfl) (field_of_Trod (shut_int Try.underlying3 w1) rfl) (field_of_Trod (shut_int Try.underlying3 w2) rfl)
theorem flat_intT : Flat Try.prog 3 := .inl ⟨_, Try.underlying3⟩
end
end Go.Proofs.Ytapnmgkpljlgmaa
