/- A slice of bytes that comes in: opened, and shut behind a call that leaves the old memory. -/
import Derived.Test.YtngmpnkhdjnhoaaClone
import Derived.Test.YtngmpnkhdjnhoaaArr
import Derived.ChangeSlices
import Derived.WideShapes
import Derived.Carry
namespace Go.Proofs.Ytngmpnkhdjnhoaa
open Go Go.ChangeShapes Go.WideShapes Go.ChangeAt Go.RowKit Go.Kd

theorem lt_of_cell {w : World} {a : Addr} {v : Value} (h : w.cell? a = some v) : a.block < w.heap.size := by
  rcases Nat.lt_or_ge a.block w.heap.size with h1 | h1
  · exact h1
  · have e : w.heap[a.block]? = none := Array.getElem?_eq_none h1
    simp [World.cell?, e] at h

section reading
variable {H : Type} {enc : TypeId × Value → H} {P : Program}
theorem open_bytes {T E : TypeId} {w : World} {base : Nat} {spare : Nat → Bool} {held : Bool} {r : Reach} {b0 : Nat} {v : Value} {d : DataW H} {ps : List MemPlace} (hT : P.underlying T = some (.slice E)) (hE : P.underlying E = some (.int .u8)) (hcE : P.cellsOf E = 1)
    (hok : Value.okWide P w r b0 T v) (h : DataW.Trod enc P w base spare held T v d ps) :
    ∃ (a : Option Addr) (n c : Nat), v = .slice a n c ∧ n ≤ 9223372036854775807 ∧ (n = 0 ∨ ∃ b off f, a = some ⟨b, off, none⟩ ∧ SlO w b off n f ∧ ∀ i, i < n → 0 ≤ f i ∧ f i ≤ 255) := by
  obtain ⟨a0, len, cap, rfl⟩ := okWide_slice hT hok
  obtain ⟨fuel, hf⟩ := h
  refine ⟨a0, len, cap, rfl, ?_⟩
  rcases open_ints hT hE hcE hf with ⟨hcs, hx⟩ | ⟨a, len', cap', zs, hcs, _, hl, hm, hz, hx, hcell, hwz⟩
  · simp [Value.cells] at hcs
    obtain ⟨rfl, rfl, rfl⟩ := hcs
    exact ⟨by omega, .inl rfl⟩
  · simp [Value.cells] at hcs
    obtain ⟨rfl, rfl, rfl⟩ := hcs
    have hlz : len ≤ zs.length := by rw [hz]; split <;> omega
    refine ⟨by unfold maxLen at hm; omega, ?_⟩
    by_cases h0 : len = 0
    · exact .inl h0
    · right
      obtain ⟨b, off, spot⟩ := a
      have hspot : spot = none := by simpa [Addr.add] using World.cell?_spot (hcell 0 (by omega))
      subst hspot
      refine ⟨b, off, fun i => zs.getD i 0, rfl, ⟨?_, fun i hi => ?_⟩, fun i hi => ?_⟩
      · have h1 := lt_of_cell (hcell 0 (by omega))
        rw [add_plain] at h1
        exact h1
      · rw [← add_plain]; exact hcell i (by omega)
      · have h1 : zs.getD i 0 ∈ zs := by
          rw [List.getD_eq_getElem?_getD, List.getElem?_eq_getElem (by omega)]
          exact List.getElem_mem _
        exact bounds_u8 (hwz _ h1)

/-- 'post_of_ext' for arguments that reach into memory. -/
theorem post_of_ext2 {f : Func} {s : ChangeSpec} {apart fresh handsOn : Bool} {W W' : World} {args : Array Value} {v : Value} {ds gs : List (DataW H)} {before pa pv : List MemPlace}
    (hW : DataW.Whole enc P f.params.toList s.vars apart W args.toList ds gs before)
    (hres : ∀ (b : Nat) (sp : Nat → Bool) (hd : Bool), DataW.TrodAll enc P W' b sp hd f.resultTypes.toList (v.resultList f.resultTypes.size) (s.fn H (ds ++ gs)).results [])
    (hargs : DataW.TrodAll enc P W' 0 (fun b => decide (b < W.heap.size)) true f.params.toList args.toList (s.fn H (ds ++ gs)).args pa)
    (hvars : ∀ sp : Nat → Bool, (∀ p ∈ before, sp p.block = true) → DataW.TrodVars enc P W' sp s.vars (s.fn H (ds ++ gs)).vars pv)
    (hps : before = pa ++ pv) (hx : Ext W W') :
    s.post enc P f apart fresh handsOn false W args v W' := by
  have hold : ∀ p ∈ before, (fun b => decide (b < W.heap.size)) p.block = true := fun p hp => by simpa using hW.lt p hp
  refine ⟨ds, gs, before, [], pa, pv, hW, hres _ _ _, hargs, hvars _ hold, World.keptBut_mono (fun p hp => ⟨hp, ?_⟩) (Below.frame hx (· ∈ before)), fun h => by cases h⟩
  rw [hps, List.mem_append] at hp
  exact Or.inr hp
end reading
end Go.Proofs.Ytngmpnkhdjnhoaa
