/- General lemmas, over any program: an array of integers as a value, in a block, and as an argument that is read. -/
import Derived.Test.YtgojphoejmbliaaDoorLib
namespace Go.Kd
open Go Go.RowKit

/-- n cells, the i-th holding g i. -/
def cellsF (n : Nat) (g : Nat → Value) : Array Value := Array.ofFn fun i : Fin n => g i.1
/-- integers as values -/
def ints (k : IntKind) (f : Nat → Int) : Nat → Value := fun i => .int k (f i)

@[simp] theorem size_cellsF (n : Nat) (g : Nat → Value) : (cellsF n g).size = n := by simp [cellsF]
theorem get_cellsF {n : Nat} {g : Nat → Value} {i : Nat} (h : i < n) : (cellsF n g)[i]? = some (g i) := by simp [cellsF, h]
theorem cellsF_congr {n : Nat} {g g' : Nat → Value} (h : ∀ i, i < n → g i = g' i) : cellsF n g = cellsF n g' := by
  apply Array.ext
  · simp
  · intro i h1 h2
    simp [cellsF] at h1 ⊢
    exact h i h1
theorem cellsF_inj {n : Nat} {g g' : Nat → Value} (h : cellsF n g = cellsF n g') : ∀ i, i < n → g i = g' i := by
  intro i hi
  have e : (cellsF n g)[i]? = (cellsF n g')[i]? := by rw [h]
  rw [get_cellsF hi, get_cellsF hi] at e
  exact Option.some.inj e
theorem get_cellsF_none {n : Nat} {g : Nat → Value} {i : Nat} (h : n ≤ i) : (cellsF n g)[i]? = none := by simp [cellsF]; omega
theorem set_cellsF (n : Nat) (g : Nat → Value) (i : Nat) (v : Value) : (cellsF n g).setIfInBounds i v = cellsF n (fun j => if j = i then v else g j) := by
  apply Array.ext_getElem?
  intro j
  rw [Array.getElem?_setIfInBounds]
  by_cases hj : j < n
  · rw [get_cellsF hj, get_cellsF hj]
    by_cases hji : i = j
    · subst hji; simp [hj]
    · have h2 : ¬ j = i := fun e => hji e.symm
      simp [hji, h2]
  · rw [get_cellsF_none (by omega), get_cellsF_none (by omega)]
    have h3 : ¬ (i = j ∧ i < n) := by omega
    simp
    omega
theorem cellsF_of (n : Nat) (cs : Array Value) (g : Nat → Value) (hn : cs.size = n) (h : ∀ i, i < n → cs[i]? = some (g i)) : cs = cellsF n g := by
  apply Array.ext
  · simpa using hn
  · intro i h1 h2
    have := h i (by omega)
    simp [h1] at this
    simp [cellsF, this]
theorem replicate_cellsF (n : Nat) (v : Value) : Array.replicate n v = cellsF n (fun _ => v) := by
  apply Array.ext
  · simp
  · intro i h1 h2; simp [cellsF]
theorem one_cellsF (n : Nat) (k : IntKind) (f : Nat → Int) : (cellsF n (ints k f)).all (·.oneCell') = true := by
  rw [Array.all_eq_true]
  intro i h
  simp [cellsF, ints, Value.oneCell']
theorem ints_inj {n : Nat} {k : IntKind} {f g : Nat → Int} (h : cellsF n (ints k f) = cellsF n (ints k g)) : ∀ i, i < n → f i = g i := by
  intro i hi
  have := cellsF_inj h i hi
  simpa [ints] using this
theorem ints_congr {n : Nat} {k : IntKind} {f g : Nat → Int} (h : ∀ i, i < n → f i = g i) : cellsF n (ints k f) = cellsF n (ints k g) :=
  cellsF_congr fun i hi => by simp [ints, h i hi]

section reading
variable {H : Type} {enc : TypeId × Value → H} {P : Program} {w w' : World} {base base' : Nat} {spare spare' : Nat → Bool} {held held' : Bool}

theorem trod_int_any {E : TypeId} {k : IntKind} (hE : P.underlying E = some (.int k)) (m : Nat) (cs : List Value) :
    DataW.trod enc P w base spare held m E cs = DataW.trod enc P w' base' spare' held' m E cs := by
  cases m with
  | zero => rfl
  | succ m => rcases cs with _ | ⟨c, _ | ⟨c2, r⟩⟩ <;> (try cases c) <;> simp [DataW.trod, hE]

theorem trod_arr_any {T E : TypeId} {n : Nat} {k : IntKind} (hT : P.underlying T = some (.array n E)) (hE : P.underlying E = some (.int k)) (m : Nat) (cs : List Value) :
    DataW.trod enc P w base spare held m T cs = DataW.trod enc P w' base' spare' held' m T cs := by
  cases m with
  | zero => rfl
  | succ m =>
    simp only [DataW.trod, hT]
    have e : (fun i => DataW.trod enc P w base spare held m E ((cs.drop (i * P.cellsOf E)).take (P.cellsOf E))) = fun i => DataW.trod enc P w' base' spare' held' m E ((cs.drop (i * P.cellsOf E)).take (P.cellsOf E)) :=
      funext fun i => trod_int_any hE m _
    rw [e]

theorem Trod_arr_any {T E : TypeId} {n : Nat} {k : IntKind} (hT : P.underlying T = some (.array n E)) (hE : P.underlying E = some (.int k)) {v : Value} {d : DataW H} {ps : List MemPlace}
    (h : DataW.Trod enc P w base spare held T v d ps) : DataW.Trod enc P w' base' spare' held' T v d ps := by
  obtain ⟨m, hm⟩ := h
  exact ⟨m, by rw [trod_arr_any (w' := w) (base' := base) (spare' := spare) (held' := held) hT hE]; exact hm⟩

theorem Trod_int_any {E : TypeId} {k : IntKind} (hE : P.underlying E = some (.int k)) {v : Value} {d : DataW H} {ps : List MemPlace}
    (h : DataW.Trod enc P w base spare held E v d ps) : DataW.Trod enc P w' base' spare' held' E v d ps := by
  obtain ⟨m, hm⟩ := h
  exact ⟨m, by rw [trod_int_any (w' := w) (base' := base) (spare' := spare) (held' := held) hE]; exact hm⟩

theorem open_cells {T E : TypeId} {n : Nat} {k : IntKind} {fuel : Nat} {cs : Array Value} {d : DataW H} {ps : List MemPlace} (hT : P.underlying T = some (.array n E)) (hE : P.underlying E = some (.int k))
    (hcE : P.cellsOf E = 1) (hcT : P.cellsOf T = n) (h : DataW.trod enc P w base spare held fuel T cs.toList = some (d, ps)) :
    ∃ f : Nat → Int, cs = cellsF n (ints k f) ∧ d = .agg ((List.range n).map fun i => .lit (.int k (f i))) ∧ ps = [] ∧ ∀ i, i < n → (Lit.int k (f i)).wf = true := by
  obtain ⟨xs, m, _, hx, hl, hxs, hel⟩ := DataW.trod_array hT h
  rw [hcE] at hel
  rw [hcT] at hl
  have key : ∀ i, i < n → ∃ z, cs[i]? = some (.int k z) ∧ xs[i]? = some (.lit (.int k z), []) ∧ (Lit.int k z).wf = true := by
    intro i hi
    have h1 := hel i hi
    have hxi : i < xs.length := by omega
    rw [List.getElem?_eq_getElem hxi] at h1
    obtain ⟨z, hz, hx', hw⟩ := DataW.trod_int hE h1
    refine ⟨z, ?_, by rw [List.getElem?_eq_getElem hxi, hx'], hw⟩
    have hci : i < cs.toList.length := by omega
    rw [Nat.mul_one, List.drop_eq_getElem_cons hci] at hz
    simp at hz
    simp at hci
    simp [hci, hz]
  let f : Nat → Int := fun i => match cs[i]? with | some (.int _ z) => z | _ => 0
  have hf : ∀ i, i < n → cs[i]? = some (.int k (f i)) ∧ xs[i]? = some (.lit (.int k (f i)), []) ∧ (Lit.int k (f i)).wf = true := by
    intro i hi
    obtain ⟨z, hz, hx', hw⟩ := key i hi
    have : f i = z := by simp only [f, hz]
    rw [this]
    exact ⟨hz, hx', hw⟩
  have hxl : xs = (List.range n).map fun i => (.lit (.int k (f i)), []) := by
    apply List.ext_getElem?
    intro i
    by_cases hi : i < n
    · rw [(hf i hi).2.1]; simp [hi]
    · rw [List.getElem?_eq_none (by omega), List.getElem?_eq_none (by simp; omega)]
  simp only [Prod.mk.injEq] at hx
  refine ⟨f, cellsF_of n cs _ (by simpa using hl) (fun i hi => (hf i hi).1), ?_, ?_, fun i hi => (hf i hi).2.2⟩
  · rw [hx.1, hxl]
    simp [Function.comp_def]
  · rw [hx.2, hxl]
    simp [List.flatMap_map]

theorem open_arr {T E : TypeId} {n : Nat} {k : IntKind} {r : Reach} {b0 : Nat} {v : Value} {d : DataW H} {ps : List MemPlace} (hT : P.underlying T = some (.array n E)) (hE : P.underlying E = some (.int k))
    (hcE : P.cellsOf E = 1) (hcT : P.cellsOf T = n) (hok : Value.okWide P w r b0 T v) (h : DataW.Trod enc P w base spare held T v d ps) :
    ∃ f : Nat → Int, v = .agg (cellsF n (ints k f)) ∧ ps = [] ∧ ∀ i, i < n → (Lit.int k (f i)).wf = true := by
  unfold Value.okWide at hok
  rw [hT] at hok
  obtain ⟨cs, rfl, _, _⟩ := hok
  obtain ⟨fuel, hf⟩ := h
  obtain ⟨f, hc, _, hp, hw⟩ := open_cells (cs := cs) hT hE hcE hcT hf
  exact ⟨f, by rw [hc], hp, hw⟩

/-- Behind a call whose world has grown at most: what the row asks. -/
theorem post_of_ext {f : Func} {s : ChangeSpec} {apart fresh handsOn : Bool} {W W' : World} {args : Array Value} {v : Value} {ds gs : List (DataW H)} {before pa pv : List MemPlace}
    (hW : DataW.Whole enc P f.params.toList s.vars apart W args.toList ds gs before)
    (hres : ∀ (b : Nat) (sp : Nat → Bool) (hd : Bool), DataW.TrodAll enc P W' b sp hd f.resultTypes.toList (v.resultList f.resultTypes.size) (s.fn H (ds ++ gs)).results [])
    (hargs : ∀ sp : Nat → Bool, (∀ p ∈ before, sp p.block = true) → DataW.TrodAll enc P W' 0 sp true f.params.toList args.toList (s.fn H (ds ++ gs)).args pa)
    (hvars : ∀ sp : Nat → Bool, (∀ p ∈ before, sp p.block = true) → DataW.TrodVars enc P W' sp s.vars (s.fn H (ds ++ gs)).vars pv)
    (hps : before = pa ++ pv) (hx : Ext W W') :
    s.post enc P f apart fresh handsOn false W args v W' := by
  have hold : ∀ p ∈ before, (fun b => decide (b < W.heap.size)) p.block = true := fun p hp => by simpa using hW.lt p hp
  refine ⟨ds, gs, before, [], pa, pv, hW, hres _ _ _, hargs _ hold, hvars _ hold, World.keptBut_mono (fun p hp => ⟨hp, ?_⟩) (Below.frame hx (· ∈ before)), fun h => by cases h⟩
  rw [hps, List.mem_append] at hp
  exact Or.inr hp
end reading
end Go.Kd
