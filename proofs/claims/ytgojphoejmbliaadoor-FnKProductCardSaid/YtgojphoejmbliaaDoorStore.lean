/- General lemmas, over any program: one number stored into a block of numbers; a row of numbers that is read. -/
import Derived.Test.YtgojphoejmbliaaDoorBytes
import Derived.Laws.IdiomCopy
namespace Go.Kd
open Go Go.RowKit

/-- Block b holds, from its head on, the numbers f 0 .. f (n - 1). -/
def RowK (w : World) (b n : Nat) (k : IntKind) (f : Nat → Int) : Prop := b < w.heap.size ∧ ∀ i, i < n → w.cell? ⟨b, i, none⟩ = some (.int k (f i))
theorem Blk.rowK {w : World} {b n : Nat} {T : TypeId} {k : IntKind} {f : Nat → Int} (h : Blk w b T (cellsF n (ints k f))) : RowK w b n k f := ⟨h.lt, fun _ hi => h.cell hi⟩
theorem SlB.rowK {w : World} {b n : Nat} {f : Nat → Int} (h : SlB w b n f) : RowK w b n .u8 f := h
theorem RowK.only {w w' : World} {b c n : Nat} {k : IntKind} {f : Nat → Int} (h : RowK w b n k f) (hne : b ≠ c) (ho : Only c w w') : RowK w' b n k f :=
  ⟨by rw [ho.size]; exact h.1, fun i hi => by rw [← h.2 i hi]; simp only [World.cell?, ho.block b hne]⟩
theorem RowK.ext {w w' : World} {b n : Nat} {k : IntKind} {f : Nat → Int} (h : RowK w b n k f) (hx : Ext w w') : RowK w' b n k f :=
  ⟨Nat.lt_of_lt_of_le h.1 hx.size, fun i hi => (hx.cell h.1).trans (h.2 i hi)⟩

section store
variable {P : Program} {ops : Array Oper} {Q : Exit → Act → World → Prop} {a : Act} {w : World} {rest : List Oper} {o : Oper}

theorem run_storeI {E T : TypeId} {n : Nat} {g : Nat → Value} (hsz : (P.info? E).map (·.size) = some 1) (x y : Operand) (b i : Nat) (k : IntKind) (c : Int) (hb : Blk w b T (cellsF n g)) (hi : i < n)
    (ho : o.op = .store E x y) (hx : a.eval x = .pointer (some ⟨b, i, none⟩)) (hy : a.eval y = .int k c) : (execOp a.eval o).run P w = .ok .skip (w.setCell ⟨b, i, none⟩ (.int k c)) := by
  obtain ⟨info, hq, hs⟩ := Option.map_eq_some_iff.1 hsz
  have h := run_storeCells_cells (P := P) b i [Value.int k c] 0 w (fun j hj => by
    have : j = 0 := by simp at hj; omega
    subst this
    rw [show (⟨b, i + 0 + 0, none⟩ : Addr) = ⟨b, i, none⟩ by rfl, hb.cell hi]; rfl) (fun j hj => by
    have : j = 0 := by simp at hj; omega
    subst this
    exact hb.frozen _) (fun v hv => by
    simp at hv; subst hv; rfl)
  have hc : (Value.int k c).cells = #[Value.int k c] := rfl
  unfold execOp
  simp only [ho, hx, hy, Instr.storeAt, Instr.sureAddr, Sem.run_bind, Sem.run_pure, Result.andThen_ok, storeVar, hc]
  simp only [Nat.add_zero] at h
  simp [sizeOf, typeInfo, hq, hs, h, Sem.run_bind]
  rfl

theorem wpList_storeI {E T : TypeId} {n : Nat} {g : Nat → Value} (hsz : (P.info? E).map (·.size) = some 1) (x y : Operand) (b i : Nat) (k : IntKind) (c : Int) (hb : Blk w b T (cellsF n g)) (hi : i < n)
    (ho : o.op = .store E x y) (hx : a.eval x = .pointer (some ⟨b, i, none⟩)) (hy : a.eval y = .int k c) (hg : Region.wanted o (yielded ops a.tmps) = true)
    (h : ∀ w', Only b w w' → Blk w' b T (cellsF n (fun j => if j = i then .int k c else g j)) → wpList P ops Q rest (a.put o.dst undef) w') : wpList P ops Q (o :: rest) a w :=
  wpList_unit hg (run_storeI hsz x y b i k c hb hi ho hx hy) (h _ (Only.setCell (Only.refl b w) _) (hb.setCell i _))
end store
end Go.Kd
