/- General lemmas, over any program: what a function gives back that has a result in a block and another one. -/
import Derived.Test.YtcgliedglahphaaMem
namespace Go.Kd
open Go Go.RowKit
section ret
variable {P : Program} {a : Act} {w : World}
theorem run_loadVarA {T T' : TypeId} {n : Nat} (hT : ArrT P T n) (b : Nat) (cs : Array Value) (hb : Blk w b T' cs) (hn : cs.size = n) : (loadVar T ⟨b, 0, none⟩).run P w = .ok (.agg cs) w := by
  obtain ⟨⟨E, hE⟩, hs⟩ := hT
  exact run_loadVar_row (P := P) w b T' T cs (0, 0) _ hb hE rfl (by rw [hs, hn])
theorem bodyPost_cell_tmp {fn : Func} {p q : Tmp} {T T' : TypeId} {n : Nat} {R : Ending → World → Prop} (hT : ArrT P T n) (hres : fn.results = #[.cell p T, .tmp q]) (b : Nat) (cs : Array Value) (v : Value) (hb : Blk w b T' cs) (hn : cs.size = n)
    (hp : a.tmps.getD p undef = .pointer (some ⟨b, 0, none⟩)) (hq : a.tmps.getD q undef = v) (hd : a.defers = []) (hR : R (.returned (.tuple #[.agg cs, v])) w) : bodyPost P fn R .ret a w := by
  refine bodyPost_ret (v := .tuple #[.agg cs, v]) ?_ hd hR
  unfold results
  rw [hres]
  simp only [Array.mapM_eq_mapM_toList, List.mapM_cons, List.mapM_nil, hp, hq]
  simp [asAddr, run_loadVarA hT b cs hb hn]
theorem bodyPost_two_cells {fn : Func} {p q : Tmp} {T1 T2 T1' T2' : TypeId} {n1 n2 : Nat} {R : Ending → World → Prop} (hT1 : ArrT P T1 n1) (hT2 : ArrT P T2 n2) (hres : fn.results = #[.cell p T1, .cell q T2]) (b c : Nat) (cs ds : Array Value) (hb : Blk w b T1' cs) (hn1 : cs.size = n1)
    (hc : Blk w c T2' ds) (hn2 : ds.size = n2) (hp : a.tmps.getD p undef = .pointer (some ⟨b, 0, none⟩)) (hq : a.tmps.getD q undef = .pointer (some ⟨c, 0, none⟩)) (hd : a.defers = []) (hR : R (.returned (.tuple #[.agg cs, .agg ds])) w) : bodyPost P fn R .ret a w := by
  refine bodyPost_ret (v := .tuple #[.agg cs, .agg ds]) ?_ hd hR
  unfold results
  rw [hres]
  simp only [Array.mapM_eq_mapM_toList, List.mapM_cons, List.mapM_nil, hp, hq]
  simp [asAddr, run_loadVarA hT1 b cs hb hn1, run_loadVarA hT2 c ds hc hn2]
end ret
end Go.Kd
