/- For every number of 32 bits and every number of 16 bits, with a sign, laws.FnKMontIs returns true. No condition. -/
import Derived.Test.YtidgcjmgekeapaaRows
import Derived.Test.YtidgcjmgekeapaaKMontWalk
namespace Go.Proofs.Ytidgcjmgekeapaa.fnKMontIs
open Go Go.ChangeShapes Go.WideShapes Go.ChangeAt Go.RowKit Go.Kd
set_option linter.unusedVariables false
theorem own : ownKnob Try.prog.godebug = none := by kernel_rfl
set_option maxRecDepth 100000 in
theorem lifted (os : Os) (started : os.Started) (H : Type) (enc : TypeId × Value → H) :
    ReturnsInHanded {} Try.checked os 8 .any (Rows.fnKMontIsSpec.pre6 enc Try.prog Try.f8 Rows.fnKMontIsRow.domain false) (Rows.fnKMontIsSpec.post enc Try.prog Try.f8 false true false false) := by
  refine returnsInHanded_of_change (C := Try.checked) own started (by kernel_rfl) Try.func8
    (ChangeSpec.witness6 (enc := enc) (C := Try.checked) false ⟨#[], #[.int .i32 0, .int .i16 0], []⟩ 8 (by kernel_rfl) (by kernel_rfl) (by kernel_rfl) (by kernel_rfl)) ?_
  intro W base args ds gs before hval0 hW hcnd _
  have hval : ∀ (j : Nat) t v, Try.f8.params[j]? = some t → args[j]? = some v → Value.okWide Try.prog W .any base t v := hval0
  have hW' := hW
  obtain ⟨p, q, hA0, hV, rfl, hfz, hnd⟩ := hW
  have hA : DataW.TrodAll enc Try.prog W 0 (fun _ => true) true Try.f8.params.toList args.toList ds p := hA0
  rw [Try.params8] at hA hval
  obtain ⟨v0, vs0, d0, ds0, p0, q0, hargs, rfl, rfl, h0, r0⟩ := trodAll_cons hA
  obtain ⟨v1, vs1, d1, ds1, p1, q1, rfl, rfl, rfl, h1, r1⟩ := trodAll_cons r0
  obtain ⟨rfl, rfl, rfl⟩ := trodAll_nil r1
  obtain rfl : args = #[v0, v1] := by cases args; simp_all
  obtain ⟨rfl, rfl⟩ := trodVars_none hV
  have k0 := h0
  obtain ⟨a0, rfl, _, rfl, w0⟩ := open_int Try.underlying21 (hval 0 21 v0 rfl rfl) k0
  have k1 := h1
  obtain ⟨a1, rfl, _, rfl, w1⟩ := open_int Try.underlying22 (hval 1 22 v1 rfl rfl) k1
  clear hA0 hval0
  simp only [List.append_nil] at hW'
  refine (walk a0 w0 a1 w1 W).mono fun e W' ⟨he, hg⟩ => ?_
  subst he
  exact ⟨_, rfl, post_of_ext (pa := []) (pv := []) hW' (fun _ _ _ => (trodAll_cons_mk (shut_bool Try.underlying4 _) trodAll_mk0)) (fun sp _ => (trodAll_cons_mk (Trod_int_any Try.underlying21 h0) (trodAll_cons_mk (Trod_int_any Try.underlying22 h1) trodAll_mk0))) (fun _ _ => rfl) rfl hg⟩

theorem over : Rows.fnKMontIsRow.holds Try.pinned (OpenSpec.ofChange Rows.fnKMontIsSpec) :=
  OpenClaim.holds_of_wide 8 Try.f8 rfl rfl rfl rfl rfl rfl rfl ⟨rfl, rfl, rfl, rfl, rfl⟩ rfl rfl rfl rfl rfl (by kernel_rfl) Try.func8 (by kernel_rfl)
    (of_decide_eq_true (by kernel_rfl)) (by unfold Func.isWrapper; first | (rw [if_pos (by decide +kernel)]; kernel_rfl) | (rw [if_neg (by decide +kernel)]; exact ⟨rfl, rfl⟩))
    (fun os started H enc _ => lifted os started H enc)

/-- The statement. -/
theorem proved : Rows.FnKMontIsSaid := over
#print axioms proved
end Go.Proofs.Ytidgcjmgekeapaa.fnKMontIs
