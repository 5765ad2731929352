/- General lemmas, over any program: two arrays of integers compared; an element of an array by value; addresses of elements; a literal. -/
import Derived.Test.YtgojphoejmbliaaDoorMem
import Derived.ChangeKeysEq
import Derived.Laws.StructEq
namespace Go.Kd
open Go Go.RowKit

theorem ne_dec {n : Nat} {f g : Nat → Int} (j : Nat) (hj : j < n) (h : f j ≠ g j) : (!decide (∀ i, i < n → f i = g i)) = true := by
  have h' : ¬ ∀ i, i < n → f i = g i := fun e => h (e j hj)
  simp only [h', decide_false, Bool.not_false]
theorem eq_dec {n : Nat} {f g : Nat → Int} (h : ∀ i, i < n → f i = g i) : decide (∀ i, i < n → f i = g i) = true := decide_eq_true h

section eqs
variable {P : Program} {ops : Array Oper} {Q : Exit → Act → World → Prop} {a : Act} {w : World} {rest : List Oper} {o : Oper}

/-- What the tables tell of an array type of integers. -/
structure IntArr (P : Program) (T E : TypeId) (n : Nat) (k : IntKind) : Prop where
  desc : P.underlying T = some (.array n E)
  elem : P.underlying E = some (.int k)
  cells : P.cellsOf E = 1
  info : ∃ i, P.info? E = some i ∧ i.size = 1
  guard : P.eqGuardType P.depth T = false

theorem run_eqItems {T E : TypeId} {n : Nat} {k : IntKind} (h : IntArr P T E n k) (f g : Nat → Int) (d : Nat) : ∀ is : List Nat, (∀ i ∈ is, i < n) →
    (Op.eqItems (d + 1) E 1 (cellsF n (ints k f)) (cellsF n (ints k g)) is).run P w = .ok (decide (∀ i ∈ is, f i = g i)) w
  | [], _ => by simp [Op.eqItems]
  | i :: is, hb => by
    have hk : P.plainKey E = true := by simp [Program.plainKey, h.elem]
    have hi : i < n := hb i (by simp)
    have p1 := run_part_plain (P := P) (w := w) hk (xs := cellsF n (ints k f)) (off := i) (v := .int k (f i)) (get_cellsF hi)
    have p2 := run_part_plain (P := P) (w := w) hk (xs := cellsF n (ints k g)) (off := i) (v := .int k (g i)) (get_cellsF hi)
    have p3 := run_equalIn_int (P := P) w d E k k (f i) (g i) h.elem
    have ih := run_eqItems h f g d is (fun j hj => hb j (by simp [hj]))
    simp only [Op.eqItems, Nat.mul_one, Sem.run_bind, p1, p2, p3, Result.andThen_ok]
    by_cases he : f i = g i
    · rw [he] at p3
      simp [he, ih]
    · simp [he]

theorem run_eqA {T E : TypeId} {n : Nat} {k : IntKind} (h : IntArr P T E n k) (f g : Nat → Int) (d : Nat) :
    (Op.equalIn (d + 2) T (.agg (cellsF n (ints k f))) (.agg (cellsF n (ints k g)))).run P w = .ok (decide (∀ i, i < n → f i = g i)) w := by
  obtain ⟨i, hi, _⟩ := h.info
  rw [show d + 2 = (d + 1) + 1 from rfl, run_equalIn_array w (d + 1) _ _ h.desc hi, h.cells, run_eqItems h f g d (List.range n) (fun j hj => List.mem_range.1 hj)]
  simp [List.mem_range]

theorem run_eql {T E : TypeId} {n : Nat} {k : IntKind} (h : IntArr P T E n k) (x y : Operand) (Ty : TypeId) (f g : Nat → Int) (ho : o.op = .binOp .eql T x y Ty) (hx : a.eval x = .agg (cellsF n (ints k f)))
    (hy : a.eval y = .agg (cellsF n (ints k g))) : (execOp a.eval o).run P w = .ok (.value (.bool (decide (∀ i, i < n → f i = g i)))) w := by
  unfold execOp
  simp only [ho, hx, hy, Sem.run_bind, run_eqGuard_agg (P := P) w BinOp.eql T x y (cellsF n (ints k f)) (cellsF n (ints k g)) h.guard, run_eql_struct, run_eqA h f g 9998, Result.andThen, Sem.run_pure]

theorem run_neq {T E : TypeId} {n : Nat} {k : IntKind} (h : IntArr P T E n k) (x y : Operand) (Ty : TypeId) (f g : Nat → Int) (ho : o.op = .binOp .neq T x y Ty) (hx : a.eval x = .agg (cellsF n (ints k f)))
    (hy : a.eval y = .agg (cellsF n (ints k g))) : (execOp a.eval o).run P w = .ok (.value (.bool (!decide (∀ i, i < n → f i = g i)))) w := by
  unfold execOp
  simp only [ho, hx, hy, Sem.run_bind, run_eqGuard_agg (P := P) w BinOp.neq T x y (cellsF n (ints k f)) (cellsF n (ints k g)) h.guard, run_neq_struct, run_eqA h f g 9998, Result.andThen, Sem.run_pure]

/-- An element of an array by value: at the walk's own form. -/
theorem run_index {T E : TypeId} {n : Nat} {k ki : IntKind} (h : IntArr P T E n k) (f : Nat → Value) (j : Nat) (hj : j < n) :
    (Instr.index T (.agg (cellsF n f)) (.int ki (j : Int))).run P w = .ok (f j) w := by
  obtain ⟨i, hi, hs⟩ := h.info
  have hk : P.plainKey E = true := by simp [Program.plainKey, h.elem]
  have p1 := run_part_plain (P := P) (w := w) hk (xs := cellsF n f) (off := j) (v := f j) (get_cellsF hj)
  have hz : (sizeOf E).run P w = .ok 1 w := by simp [sizeOf, typeInfo, hi, hs]
  have h0 : (0 : Int) ≤ (j : Int) ∧ (j : Int) < (n : Int) := by omega
  simp only [Instr.index, asIntOf, Sem.run_bind, Sem.run_pure, Result.andThen_ok, run_underlying h.desc]
  rw [if_pos h0]
  simp only [Sem.run_bind, hz, Result.andThen_ok, Int.toNat_natCast, Nat.mul_one, p1]

/-- The zero array, by a literal without parts. -/
theorem run_build0 {T E : TypeId} {n : Nat} {k : IntKind} (h : IntArr P T E n k) (Z : Array Value) (hz : (P.info? T).map (fun i => (i.zero, i.size)) = some (some (.agg Z), n)) (ho : o.op = .build T #[]) :
    (execOp a.eval o).run P w = .ok (.value (.agg Z)) w := by
  obtain ⟨i, hi, hs⟩ := h.info
  have hz' := (zero_of_info hz).1 w
  have hse : (sizeOf E).run P w = .ok 1 w := by simp [sizeOf, typeInfo, hi, hs]
  unfold execOp
  simp [ho, Instr.build, Sem.run_bind, hz', run_underlying h.desc, hse, Value.cells, Instr.fill]

/-- An array literal with one part, the first. -/
theorem run_build1 {T E : TypeId} {n : Nat} {k : IntKind} (h : IntArr P T E n k) (g : Nat → Value) (j : Nat) (hj : j < n) (x : Operand) (c : Int) (hx : a.eval x = .int k c) (hz : (P.info? T).map (fun i => (i.zero, i.size)) = some (some (.agg (cellsF n g)), n)) (ho : o.op = .build T #[(j, x)]) :
    (execOp a.eval o).run P w = .ok (.value (.agg (cellsF n fun i => if i = j then .int k c else g i))) w := by
  obtain ⟨i, hi, hs⟩ := h.info
  have hz' := (zero_of_info hz).1 w
  have hse : (sizeOf E).run P w = .ok 1 w := by simp [sizeOf, typeInfo, hi, hs]
  have hlt : ¬ j + 1 > n := by omega
  unfold execOp
  simp [ho, hx, Instr.build, Sem.run_bind, hz', run_underlying h.desc, hse, Value.cells, Instr.fill, hlt, set_cellsF]

section det
variable {L : Act → Prop} {w0 : World}
theorem wpDet_eql {T E : TypeId} {n : Nat} {k : IntKind} (h : IntArr P T E n k) (x y : Operand) (Ty : TypeId) (f g : Nat → Int) (t : Bool) (ht : decide (∀ i, i < n → f i = g i) = t) (ho : o.op = .binOp .eql T x y Ty)
    (hx : a.eval x = .agg (cellsF n (ints k f))) (hy : a.eval y = .agg (cellsF n (ints k g))) (hg : Region.wanted o (yielded ops a.tmps) = true)
    (hK : wpDet P ops w0 L rest (a.put o.dst (.bool t))) : wpDet P ops w0 L (o :: rest) a :=
  wpDet_val _ hg (fun _ _ => by rw [run_eql h x y Ty f g ho hx hy, ht]) hK
theorem wpDet_neq {T E : TypeId} {n : Nat} {k : IntKind} (h : IntArr P T E n k) (x y : Operand) (Ty : TypeId) (f g : Nat → Int) (t : Bool) (ht : (!decide (∀ i, i < n → f i = g i)) = t) (ho : o.op = .binOp .neq T x y Ty)
    (hx : a.eval x = .agg (cellsF n (ints k f))) (hy : a.eval y = .agg (cellsF n (ints k g))) (hg : Region.wanted o (yielded ops a.tmps) = true)
    (hK : wpDet P ops w0 L rest (a.put o.dst (.bool t))) : wpDet P ops w0 L (o :: rest) a :=
  wpDet_val _ hg (fun _ _ => by rw [run_neq h x y Ty f g ho hx hy, ht]) hK
theorem wpDet_build0 {T E : TypeId} {n : Nat} {k : IntKind} (h : IntArr P T E n k) (Z : Array Value) (hz : (P.info? T).map (fun i => (i.zero, i.size)) = some (some (.agg Z), n)) (ho : o.op = .build T #[])
    (hg : Region.wanted o (yielded ops a.tmps) = true) (hK : wpDet P ops w0 L rest (a.put o.dst (.agg Z))) : wpDet P ops w0 L (o :: rest) a :=
  wpDet_val _ hg (fun _ _ => run_build0 h Z hz ho) hK
end det
theorem wpList_build0 {T E : TypeId} {n : Nat} {k : IntKind} (h : IntArr P T E n k) (Z : Array Value) (hz : (P.info? T).map (fun i => (i.zero, i.size)) = some (some (.agg Z), n)) (ho : o.op = .build T #[])
    (hg : Region.wanted o (yielded ops a.tmps) = true) (hK : wpList P ops Q rest (a.put o.dst (.agg Z)) w) : wpList P ops Q (o :: rest) a w :=
  wpList_val hg (run_build0 h Z hz ho) hK
theorem wpList_build1 {T E : TypeId} {n : Nat} {k : IntKind} (h : IntArr P T E n k) (g : Nat → Value) (j : Nat) (hj : j < n) (x : Operand) (c : Int) (hx : a.eval x = .int k c) (hz : (P.info? T).map (fun i => (i.zero, i.size)) = some (some (.agg (cellsF n g)), n)) (ho : o.op = .build T #[(j, x)])
    (hg : Region.wanted o (yielded ops a.tmps) = true) (hK : wpList P ops Q rest (a.put o.dst (.agg (cellsF n fun i => if i = j then .int k c else g i))) w) : wpList P ops Q (o :: rest) a w :=
  wpList_val hg (run_build1 h g j hj x c hx hz ho) hK
theorem wpList_eql {T E : TypeId} {n : Nat} {k : IntKind} (h : IntArr P T E n k) (x y : Operand) (Ty : TypeId) (f g : Nat → Int) (t : Bool) (ht : decide (∀ i, i < n → f i = g i) = t) (ho : o.op = .binOp .eql T x y Ty)
    (hx : a.eval x = .agg (cellsF n (ints k f))) (hy : a.eval y = .agg (cellsF n (ints k g))) (hg : Region.wanted o (yielded ops a.tmps) = true)
    (hK : wpList P ops Q rest (a.put o.dst (.bool t)) w) : wpList P ops Q (o :: rest) a w :=
  wpList_val hg (by rw [run_eql h x y Ty f g ho hx hy, ht]) hK
theorem wpList_neq {T E : TypeId} {n : Nat} {k : IntKind} (h : IntArr P T E n k) (x y : Operand) (Ty : TypeId) (f g : Nat → Int) (t : Bool) (ht : (!decide (∀ i, i < n → f i = g i)) = t) (ho : o.op = .binOp .neq T x y Ty)
    (hx : a.eval x = .agg (cellsF n (ints k f))) (hy : a.eval y = .agg (cellsF n (ints k g))) (hg : Region.wanted o (yielded ops a.tmps) = true)
    (hK : wpList P ops Q rest (a.put o.dst (.bool t)) w) : wpList P ops Q (o :: rest) a w :=
  wpList_val hg (by rw [run_neq h x y Ty f g ho hx hy, ht]) hK
end eqs
end Go.Kd
