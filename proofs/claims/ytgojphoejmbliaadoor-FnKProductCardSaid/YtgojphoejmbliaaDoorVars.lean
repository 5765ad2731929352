/- General lemmas: package-level tables of integers, read before and behind a call that only adds blocks. -/
import Derived.Test.YtgojphoejmbliaaDoorArr
import Derived.ChangeVars
import Derived.OpenShut
import Derived.Deep.DeepHandedRow
import Derived.Lib.LaidTab
import Derived.Stop.LaidErr
namespace Go.Kd
open Go Go.RowKit Go.ChangeShapes Go.WideShapes
section
variable {H : Type} {enc : TypeId × Value → H} {P : Program} {W W' : World} {sp sp' : Nat → Bool}

theorem var?_ext {n : String} {cs : Array Value} (hx : Ext W W') (h : W.var? P n = some cs) : W'.var? P n = some cs := by
  unfold World.var? at *
  cases hg : P.globalNamed n with
  | none => rw [hg] at h; simp at h
  | some g =>
    rw [hg] at h
    simp only [Option.bind_some] at h ⊢
    cases hb : W.heap[g]? with
    | none => rw [hb] at h; simp at h
    | some o =>
      have hlt : g < W.heap.size := (Array.getElem?_eq_some_iff.1 hb).1
      rw [Ext.block hx hlt]
      exact h

theorem trodVars_ext : ∀ {ns : List String} {gs : List (DataW H)} {q : List MemPlace},
    (∀ n ∈ ns, ∀ g t, P.globalNamed n = some g → (P.globals[g]?).map (·.type) = some t → ∃ m E k, P.underlying t = some (.array m E) ∧ P.underlying E = some (.int k)) →
    Ext W W' → DataW.TrodVars enc P W sp ns gs q → DataW.TrodVars enc P W' sp' ns gs q
  | [], gs, q, _, _, h => by
    obtain ⟨rfl, rfl⟩ := trodVars_none h
    rfl
  | n :: ns, [], q, _, _, h => by simp [DataW.TrodVars] at h
  | n :: ns, d :: ds, q, hall, hx, h => by
    obtain ⟨g, t, cs, fuel, p, q', h1, h2, h3, h4, hs, e⟩ := h
    obtain ⟨m, E, k, hT, hE⟩ := hall n (List.mem_cons_self ..) g t h1 h2
    refine ⟨g, t, cs, fuel, p, q', h1, h2, var?_ext hx h3, ?_, trodVars_ext (fun n' hn' => hall n' (List.mem_cons_of_mem _ hn')) hx hs, e⟩
    rw [← h4]
    exact trod_arr_any hT hE _ _
end
end Go.Kd
