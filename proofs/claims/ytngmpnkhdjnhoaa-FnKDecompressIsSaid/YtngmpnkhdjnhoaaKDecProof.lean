/- laws.FnKDecompressIs returns true at every slice of bytes and number, and the arguments read as they did. -/
import Derived.Test.YtngmpnkhdjnhoaaRows
import Derived.Test.YtngmpnkhdjnhoaaKDecWalk
import Derived.Test.YtngmpnkhdjnhoaaSlice
namespace Go.Proofs.Ytngmpnkhdjnhoaa.fnKDecompressIs
open Go Go.ChangeShapes Go.WideShapes Go.ChangeAt Go.RowKit Go.Kd
set_option linter.unusedVariables false
theorem own : ownKnob Try.prog.godebug = none := by kernel_rfl
theorem laidOut : laidOutB Try.prog = true := by kernel_rfl
set_option maxRecDepth 100000 in
theorem lifted (os : Os) (started : os.Started) (H : Type) (enc : TypeId × Value → H) :
    ReturnsInHanded {} Try.checked os 7 .any (Rows.fnKDecompressIsSpec.pre6 enc Try.prog Try.f7 Rows.fnKDecompressIsRow.domain false) (Rows.fnKDecompressIsSpec.post enc Try.prog Try.f7 false true false false) := by
  refine returnsInHanded_of_change (C := Try.checked) own started (by kernel_rfl) Try.func7
    (ChangeSpec.witness6 (enc := enc) (C := Try.checked) false ⟨#[], #[.slice none 0 0, .int .i64 0], []⟩ 8 (by kernel_rfl) (by kernel_rfl) (by kernel_rfl) (by kernel_rfl)) ?_
  intro W base args ds gs before hval0 hW hcnd _
  have hval : ∀ (j : Nat) t v, Try.f7.params[j]? = some t → args[j]? = some v → Value.okWide Try.prog W .any base t v := hval0
  have hW' := hW
  obtain ⟨p, q, hA0, hV, rfl, hfz, hnd⟩ := hW
  have hA : DataW.TrodAll enc Try.prog W 0 (fun _ => true) true Try.f7.params.toList args.toList ds p := hA0
  rw [Try.params7] at hA hval
  obtain ⟨v0, vs0, d0, ds0, p0, q0, hargs, rfl, rfl, h0, r0⟩ := trodAll_cons hA
  obtain ⟨v1, vs1, d1, ds1, p1, q1, rfl, rfl, rfl, h1, r1⟩ := trodAll_cons r0
  obtain ⟨rfl, rfl, rfl⟩ := trodAll_nil r1
  obtain rfl : args = #[v0, v1] := by cases args; simp_all
  obtain ⟨rfl, rfl⟩ := trodVars_none hV
  simp only [List.append_nil] at hW'
  have hlt : ∀ x ∈ (p0 ++ p1 : List MemPlace), x.block < W.heap.size := fun x hx => by simpa using hW'.lt x (by simpa using hx)
  have k0 := h0
  have back0 : ∀ W2, Below W.heap.size W W2 → DataW.Trod enc Try.prog W2 0 (fun b => decide (b < W.heap.size)) true 25 v0 d0 p0 := fun W2 hn => Below.trod laidOut (by kernel_rfl) (of_decide_eq_true (by kernel_rfl)) k0 hn (fun x hx => hlt x (by simp [hx]))
  obtain ⟨a0, n0, c0, rfl, b0, o0⟩ := open_bytes Try.underlying25 Try.underlying5 (by kernel_rfl) (hval 0 25 v0 rfl rfl) k0
  have k1 := h1
  obtain ⟨a1, rfl, _, rfl, w1⟩ := open_int Try.underlying3 (hval 1 3 v1 rfl rfl) k1
  clear hA0 hval0
  refine (walk a0 n0 c0 W b0 o0 a1 w1).mono fun e W' ⟨he, hg⟩ => ?_
  subst he
  exact ⟨_, rfl, post_of_ext2 (pv := []) hW' (fun _ _ _ => (trodAll_cons_mk (shut_bool Try.underlying4 _) trodAll_mk0)) (trodAll_cons_mk (back0 _ hg) (trodAll_cons_mk (Trod_int_any Try.underlying3 h1) trodAll_mk0)) (fun _ _ => rfl) (by simp) hg⟩

theorem over : Rows.fnKDecompressIsRow.holds Try.pinned (OpenSpec.ofChange Rows.fnKDecompressIsSpec) :=
  OpenClaim.holds_of_wide 7 Try.f7 rfl rfl rfl rfl rfl rfl rfl ⟨rfl, rfl, rfl, rfl, rfl⟩ rfl rfl rfl rfl rfl (by kernel_rfl) Try.func7 (by kernel_rfl)
    (of_decide_eq_true (by kernel_rfl)) (by unfold Func.isWrapper; first | (rw [if_pos (by decide +kernel)]; kernel_rfl) | (rw [if_neg (by decide +kernel)]; exact ⟨rfl, rfl⟩))
    (fun os started H enc _ => lifted os started H enc)

/-- The statement. -/
theorem proved : Rows.FnKDecompressIsSaid := over
#print axioms proved
end Go.Proofs.Ytngmpnkhdjnhoaa.fnKDecompressIs
