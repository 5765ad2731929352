/- For every two polynomials, laws.FnKProduct returns true. The tables are those of the text of the program. -/
import Derived.Test.YtgojphoejmbliaaDoorCards
import Derived.Test.YtgojphoejmbliaaDoorTie
import Derived.Test.YtgojphoejmbliaaDoorVars
import Derived.Test.YtgojphoejmbliaaDoorKProdWalk
import Derived.SevenTiedAt
namespace Go.Proofs.YtgojphoejmbliaaDoor.fnKProduct
open Go Go.ChangeShapes Go.WideShapes Go.ChangeAt Go.RowKit Go.Kd
set_option linter.unusedVariables false
theorem own : ownKnob Tryd.prog.godebug = none := by kernel_rfl
theorem g0 : Tryd.prog.globalNamed "loop.example/pub-g03034/pub/circl/kyber.Zetas" = some 0 := by kernel_rfl
theorem t0 : (Tryd.prog.globals[0]?).map (·.type) = some 40 := by kernel_rfl
theorem cT0 : Tryd.prog.cellsOf 40 = 128 := by kernel_rfl
theorem cE0 : Tryd.prog.cellsOf 22 = 1 := by kernel_rfl
set_option maxRecDepth 100000 in
theorem table0 {W : World} (h : laidMetH Tryd.prog Rows.fnKProductRow.laid W) : Lib.TabIs Tryd.prog W "loop.example/pub-g03034/pub/circl/kyber.Zetas" .i16 zs :=
  Lib.tabIs_of_head (rest := _) g0 t0 Tryd.underlying40 Tryd.underlying22 cE0 cT0 h
theorem g1 : Tryd.prog.globalNamed "loop.example/pub-g03034/pub/circl/kyber.InvNTTReductions" = some 1 := by kernel_rfl
theorem t1 : (Tryd.prog.globals[1]?).map (·.type) = some 42 := by kernel_rfl
theorem cT1 : Tryd.prog.cellsOf 42 = 79 := by kernel_rfl
theorem cE1 : Tryd.prog.cellsOf 3 = 1 := by kernel_rfl
set_option maxRecDepth 100000 in
theorem table1 {W : World} (h : laidMetH Tryd.prog Rows.fnKProductRow.laid W) : Lib.TabIs Tryd.prog W "loop.example/pub-g03034/pub/circl/kyber.InvNTTReductions" .i64 rs :=
  Lib.tabIs_of_head (rest := _) g1 t1 Tryd.underlying42 Tryd.underlying3 cE1 cT1 (laidMet.tail h)
theorem allTables : ∀ n ∈ Rows.fnKProductSpec.vars, ∀ g t, Tryd.prog.globalNamed n = some g → (Tryd.prog.globals[g]?).map (·.type) = some t → ∃ m E k, Tryd.prog.underlying t = some (.array m E) ∧ Tryd.prog.underlying E = some (.int k) := by
  intro n hn g t h1 h2
  have hn : n ∈ ["loop.example/pub-g03034/pub/circl/kyber.Zetas", "loop.example/pub-g03034/pub/circl/kyber.InvNTTReductions"] := hn
  simp only [List.mem_cons, List.not_mem_nil, or_false] at hn
  rcases hn with rfl | rfl
  · obtain rfl := Option.some.inj (g0.symm.trans h1)
    obtain rfl := Option.some.inj (t0.symm.trans h2)
    exact ⟨_, _, _, Tryd.underlying40, Tryd.underlying22⟩
  · obtain rfl := Option.some.inj (g1.symm.trans h1)
    obtain rfl := Option.some.inj (t1.symm.trans h2)
    exact ⟨_, _, _, Tryd.underlying42, Tryd.underlying3⟩
set_option maxRecDepth 100000 in
theorem contract (H : Type) (enc : TypeId × Value → H) (W : World) (base : Nat) (args : Array Value) (ds gs : List (DataW H)) (before : List MemPlace)
    (hval : ∀ (j : Nat) t v, Tryd.f3.params[j]? = some t → args[j]? = some v → Value.okWide Tryd.prog W .any base t v)
    (hW : DataW.Whole enc Tryd.prog Tryd.f3.params.toList Rows.fnKProductSpec.vars false W args.toList ds gs before) (hL : laidMetH Tryd.prog Rows.fnKProductRow.laid W) :
    Calls Tryd.prog 3 args W fun e W' => ∃ v, e = .returned v ∧ Rows.fnKProductSpec.post enc Tryd.prog Tryd.f3 false true false false W args v W' := by
  have hW' := hW
  obtain ⟨p, q, hA0, hV, rfl, hfz, hnd⟩ := hW
  have hA : DataW.TrodAll enc Tryd.prog W 0 (fun _ => true) true Tryd.f3.params.toList args.toList ds p := hA0
  rw [Tryd.params3] at hA hval
  obtain ⟨v0, vs0, d0, ds0, p0, q0, hargs, rfl, rfl, h0, r0⟩ := trodAll_cons hA
  obtain ⟨v1, vs1, d1, ds1, p1, q1, rfl, rfl, rfl, h1, r1⟩ := trodAll_cons r0
  obtain ⟨rfl, rfl, rfl⟩ := trodAll_nil r1
  obtain rfl : args = #[v0, v1] := by cases args; simp_all
  have hV' := hV
  obtain ⟨_, _, _, _, dg0, _, _, _, _, _, dg1, _, rfl, _⟩ := trodVars_two hV
  have k0 := h0
  obtain ⟨f0, rfl, rfl, w0⟩ := open_arr Tryd.underlying23 Tryd.underlying22 (by kernel_rfl) (by kernel_rfl) (hval 0 23 v0 rfl rfl) k0
  have k1 := h1
  obtain ⟨f1, rfl, rfl, w1⟩ := open_arr Tryd.underlying23 Tryd.underlying22 (by kernel_rfl) (by kernel_rfl) (hval 1 23 v1 rfl rfl) k1
  clear hA0
  simp only [List.append_nil] at hW'
  have hz0 : ZetasIn W := fun j hj => (table0 hL).cell g0 j hj
  have hz1 : RedsIn W := fun j hj => (table1 hL).cell g1 j hj
  refine (walk f0 w0 f1 w1 W hz0 hz1).mono fun e W' ⟨he, hg⟩ => ?_
  subst he
  exact ⟨_, rfl, post_of_ext (pa := []) (pv := q) hW' (fun _ _ _ => (trodAll_cons_mk (shut_bool Tryd.underlying4 _) trodAll_mk0)) (fun sp _ => (trodAll_cons_mk (Trod_arr_any Tryd.underlying23 Tryd.underlying22 h0) (trodAll_cons_mk (Trod_arr_any Tryd.underlying23 Tryd.underlying22 h1) trodAll_mk0))) (fun sp _ => trodVars_ext allTables hg hV') rfl hg⟩

noncomputable def laidWorld (os : Os) : World :=
  { World.holding Tryd.prog os ⟨#[], #[], []⟩ with heap := ((World.holding Tryd.prog os ⟨#[], #[], []⟩).heap.modify 0 (fun | .cells _ t frozen => .cells (zs.map fun z => Value.int .i16 z).toArray t frozen | o => o)).modify 1 (fun | .cells _ t frozen => .cells (rs.map fun z => Value.int .i64 z).toArray t frozen | o => o) }
set_option maxRecDepth 100000 in
theorem laid_met (os : Os) : laidMet Tryd.prog Rows.fnKProductRow.laid ((laidWorld os).forCall (fun _ _ => 0) ⟨#[], #[.agg (Array.replicate 256 (.int .i16 0)), .agg (Array.replicate 256 (.int .i16 0))], []⟩).memory :=
  laidMet_of_run' 8 (by kernel_rfl) (by kernel_rfl)
set_option maxRecDepth 100000 in
theorem reads (os : Os) {H : Type} (enc : TypeId × Value → H) : DataW.whole enc Tryd.prog ((laidWorld os).forCall (fun _ _ => 0) ⟨#[], #[.agg (Array.replicate 256 (.int .i16 0)), .agg (Array.replicate 256 (.int .i16 0))], []⟩).memory Tryd.f3.params.toList Rows.fnKProductSpec.vars false #[.agg (Array.replicate 256 (.int .i16 0)), .agg (Array.replicate 256 (.int .i16 0))].toList 8 =
    some ([.agg (List.replicate 256 (.lit (.int .i16 0))), .agg (List.replicate 256 (.lit (.int .i16 0)))], [Lib.tabData .i16 zs, Lib.tabData .i64 rs], MemPlace.row ⟨0, 0, none⟩ 128 ++ MemPlace.row ⟨1, 0, none⟩ 79) :=
  by kernel_rfl
set_option maxRecDepth 100000 in
theorem lifted (os : Os) (started : os.Started) (H : Type) (enc : TypeId × Value → H) (F : Stop.Interp) :
    ReturnsInHanded {} Tryd.checked os 3 .any ((OpenSpec.ofChange Rows.fnKProductSpec).preRow enc Tryd.prog Tryd.f3 Rows.fnKProductRow.domain false Rows.fnKProductRow.laid) (((OpenSpec.ofChange Rows.fnKProductSpec).at F).post enc Tryd.prog Tryd.f3 false true false false) := by
  refine returnsInHanded_of_row (C := Tryd.checked) (s := OpenSpec.ofChange Rows.fnKProductSpec) own started (by kernel_rfl) Tryd.func3
    (witness_row_at (enc := enc) (C := Tryd.checked) false (laidWorld os) #[.agg (Array.replicate 256 (.int .i16 0)), .agg (Array.replicate 256 (.int .i16 0))] rfl (by kernel_rfl) (by kernel_rfl) (by kernel_rfl)
      (OpenSpec.preRow_of_cond 8 (reads os enc) (by kernel_rfl) (fun k hk => by cases hk) (by kernel_rfl) (laid_met os))) ?_
  intro W base args ds gs before hval hW _ _ _ hL _ _
  exact contract H enc W base args ds gs before hval hW hL
theorem said : Rows.FnKProductSaid :=
  OpenClaim.holds_of_cond 3 Tryd.f3 rfl rfl rfl rfl rfl rfl rfl ⟨rfl, rfl, rfl, rfl, rfl⟩ rfl rfl rfl rfl rfl (by kernel_rfl) Tryd.func3 (by kernel_rfl)
    (of_decide_eq_true (by kernel_rfl)) (by unfold Func.isWrapper; first | (rw [if_pos (by decide +kernel)]; kernel_rfl) | (rw [if_neg (by decide +kernel)]; exact ⟨rfl, rfl⟩))
    (fun os started H enc _ F => by rw [OpenClaim.pre_eq_preRow]; exact lifted os started H enc F)
theorem plain (f : FuncId) (fn : Func) (hf : Tryd.pinned.checked.prog.funcNamed "loop.example/pub-g03034/laws.FnKProduct" = some f) (hfn : Tryd.pinned.checked.prog.funcs[f]? = some fn) :
    false = Tryd.pinned.checked.prog.looks [] ∧ ∀ (j : Nat) t, fn.params[j]? = some t → Tryd.pinned.checked.prog.wantsStandIn t = false := by
  obtain rfl : f = 3 := Option.some.inj ((show Tryd.prog.funcNamed "loop.example/pub-g03034/laws.FnKProduct" = some 3 by kernel_rfl).symm.trans hf) |>.symm
  obtain rfl : fn = Tryd.f3 := (Option.some.inj (Tryd.func3.symm.trans hfn)).symm
  refine ⟨by kernel_rfl, fun j t ht => ?_⟩
  rw [Tryd.params3] at ht
  have hm : t ∈ [23, 23] := by simpa using Array.mem_of_getElem? ht
  have hall : ([23, 23].all fun u => !Tryd.prog.wantsStandIn u) = true := by kernel_rfl
  exact (show Tryd.prog.wantsStandIn t = false by simpa using List.all_eq_true.1 hall t hm)
/-- The tied card. -/
theorem card : Rows.FnKProductCardSaid :=
  Claim7.holds_tied_plain_at .later [] _ _ _ _ said (fun _ h => by cases h) (by kernel_rfl) (fun _ h => by cases h) fnKProduct_row_tie rfl ⟨rfl, rfl⟩ (by kernel_rfl) rfl plain (by kernel_rfl)
#print axioms card
end Go.Proofs.YtgojphoejmbliaaDoor.fnKProduct
