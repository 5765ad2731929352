/- General lemmas, over any program: a block of cells; whole arrays boxed, made, read, stored; the steps of a region whose order is drawn. -/
import Derived.Test.YtgojphoejmbliaaDoorArr
namespace Go.Kd
open Go Go.RowKit

/-- Block b is a row of cells, none of them frozen. -/
def Blk (w : World) (b : Nat) (T : TypeId) (cs : Array Value) : Prop := w.heap[b]? = some (.cells cs T (0, 0))

/-- Block b may have turned, nothing else has. -/
structure Only (b : Nat) (w w' : World) : Prop where
  os : w'.os = w.os
  tape : w'.tape = w.tape
  output : w'.output = w.output
  size : w'.heap.size = w.heap.size
  block : ∀ k, k ≠ b → w'.heap[k]? = w.heap[k]?

theorem Only.refl (b : Nat) (w : World) : Only b w w := ⟨rfl, rfl, rfl, rfl, fun _ _ => rfl⟩
theorem Only.trans {b : Nat} {w1 w2 w3 : World} (h : Only b w1 w2) (k : Only b w2 w3) : Only b w1 w3 :=
  ⟨k.os.trans h.os, k.tape.trans h.tape, k.output.trans h.output, k.size.trans h.size, fun i hi => (k.block i hi).trans (h.block i hi)⟩
theorem Only.drew {b : Nat} {w1 w2 : World} (h : Only b w1 w2) : Only b w1 w2.drew := ⟨h.os, h.tape, h.output, h.size, h.block⟩
theorem Only.blk {b c : Nat} {w w' : World} {T : TypeId} {cs : Array Value} (h : Only b w w') (hc : c ≠ b) (k : Blk w c T cs) : Blk w' c T cs := (h.block c hc).trans k
theorem Only.ext {b : Nat} {w0 w w' : World} (h : Only b w w') (hx : Ext w0 w) (hb : w0.heap.size ≤ b) : Ext w0 w' :=
  Below.trans hx ⟨h.os, h.tape, h.output, Nat.le_of_eq h.size.symm, fun k hk => h.block k (by omega)⟩
theorem Only.setRow {b : Nat} {w0 w : World} (h : Only b w0 w) (cs : Array Value) : Only b w0 (w.setRow b cs) :=
  h.trans ⟨rfl, rfl, rfl, by simp, fun k hk => setRow_other w b k cs hk⟩
theorem Only.setCell {b i : Nat} {w0 w : World} (h : Only b w0 w) (v : Value) : Only b w0 (w.setCell ⟨b, i, none⟩ v) :=
  h.trans ⟨rfl, rfl, rfl, by simp, fun k hk => heap_setCell_other w ⟨b, i, none⟩ k v hk⟩

theorem Blk.lt {w : World} {b : Nat} {T : TypeId} {cs : Array Value} (h : Blk w b T cs) : b < w.heap.size := (Array.getElem?_eq_some_iff.1 h).1
theorem Blk.ext {w w' : World} {b : Nat} {T : TypeId} {cs : Array Value} (h : Blk w b T cs) (hx : Ext w w') : Blk w' b T cs := (hx.block h.lt).trans h
theorem Blk.drew {w : World} {b : Nat} {T : TypeId} {cs : Array Value} (h : Blk w b T cs) : Blk w.drew b T cs := h
theorem Blk.cell {w : World} {b i : Nat} {T : TypeId} {n : Nat} {g : Nat → Value} (h : Blk w b T (cellsF n g)) (hi : i < n) : w.cell? ⟨b, i, none⟩ = some (g i) := by
  have h' : w.heap[b]? = some (.cells (cellsF n g) T (0, 0)) := h
  simp [World.cell?, h', get_cellsF hi]
theorem Blk.frozen {w : World} {b : Nat} {T : TypeId} {cs : Array Value} (h : Blk w b T cs) (i : Nat) : w.frozen? ⟨b, i, none⟩ = false := by
  have h' : w.heap[b]? = some (.cells cs T (0, 0)) := h
  simp [World.frozen?, h']
theorem Blk.setRow {w : World} {b : Nat} {T : TypeId} {cs : Array Value} (h : Blk w b T cs) (cs' : Array Value) : Blk (w.setRow b cs') b T cs' := setRow_heap w b cs cs' T (0, 0) h
theorem Blk.setCell {w : World} {b : Nat} {T : TypeId} {n : Nat} {g : Nat → Value} (h : Blk w b T (cellsF n g)) (i : Nat) (v : Value) :
    Blk (w.setCell ⟨b, i, none⟩ v) b T (cellsF n (fun j => if j = i then v else g j)) := by
  have h' := heap_setCell_same w b i (cellsF n g) T v h
  rw [set_cellsF] at h'
  exact h'
theorem Blk.congr {w : World} {b : Nat} {T : TypeId} {n : Nat} {g g' : Nat → Value} (h : Blk w b T (cellsF n g)) (e : ∀ i, i < n → g i = g' i) : Blk w b T (cellsF n g') := by
  rw [← cellsF_congr e]; exact h
theorem Blk.inj {w : World} {b : Nat} {T : TypeId} {n : Nat} {g g' : Nat → Value} (h : Blk w b T (cellsF n g)) (h' : Blk w b T (cellsF n g')) : ∀ i, i < n → g i = g' i := by
  have h1 : w.heap[b]? = _ := h
  have h2 : w.heap[b]? = _ := h'
  rw [h1] at h2
  simp at h2
  exact cellsF_inj h2

section ops
variable {P : Program} {ops : Array Oper} {Q : Exit → Act → World → Prop} {a : Act} {w : World} {rest : List Oper} {o : Oper}

/-- An operation that gives a value and leaves a world. -/
theorem wpList_val {v : Value} {w' : World} (hg : Region.wanted o (yielded ops a.tmps) = true) (hr : (execOp a.eval o).run P w = .ok (.value v) w')
    (h : wpList P ops Q rest (a.put o.dst v) w') : wpList P ops Q (o :: rest) a w := by
  unfold wpList
  rw [if_pos hg]
  exact .inl (by unfold Oper.wp; rw [hr]; exact h)

theorem wpList_unit {w' : World} (hg : Region.wanted o (yielded ops a.tmps) = true) (hr : (execOp a.eval o).run P w = .ok .skip w')
    (h : wpList P ops Q rest (a.put o.dst undef) w') : wpList P ops Q (o :: rest) a w := by
  unfold wpList
  rw [if_pos hg]
  exact .inl (by unfold Oper.wp; rw [hr]; exact h)

theorem run_box (T : TypeId) (x : Operand) (ho : o.op = .box T x) (cs : Array Value) (hx : a.eval x = .agg cs) :
    (execOp a.eval o).run P w = .ok (.value (.pointer (some ⟨w.heap.size, 0, none⟩))) (w.alloc (.cells cs T)) := by
  unfold execOp
  simp only [ho, hx]
  rfl

theorem blk_new (w : World) (cs : Array Value) (T : TypeId) : Blk (w.alloc (.cells cs T)) w.heap.size T cs := heap_alloc_new w _

theorem wpList_boxA (T : TypeId) (x : Operand) (cs : Array Value) (ho : o.op = .box T x) (hx : a.eval x = .agg cs) (hg : Region.wanted o (yielded ops a.tmps) = true)
    (h : ∀ w' b, w.heap.size ≤ b → Ext w w' → Blk w' b T cs → wpList P ops Q rest (a.put o.dst (.pointer (some ⟨b, 0, none⟩))) w') : wpList P ops Q (o :: rest) a w :=
  wpList_val hg (run_box T x ho cs hx) (h _ _ (Nat.le_refl _) (Ext.alloc (Ext.refl w) _) (blk_new w cs T))

theorem run_alloc (T : TypeId) (ho : o.op = .alloc T) (cs : Array Value) (n : Nat) (hz : (P.info? T).map (fun i => (i.zero, i.size)) = some (some (.agg cs), n)) :
    (execOp a.eval o).run P w = .ok (.value (.pointer (some ⟨w.heap.size, 0, none⟩))) (w.alloc (.cells cs T)) := by
  have hz' := (zero_of_info hz).1 w
  unfold execOp
  simp only [ho, Instr.alloc, Sem.run_bind, hz', Result.andThen]
  rfl

theorem wpList_allocA (T : TypeId) (cs : Array Value) (n : Nat) (hz : (P.info? T).map (fun i => (i.zero, i.size)) = some (some (.agg cs), n)) (ho : o.op = .alloc T)
    (hg : Region.wanted o (yielded ops a.tmps) = true)
    (h : ∀ w' b, w.heap.size ≤ b → Ext w w' → Blk w' b T cs → wpList P ops Q rest (a.put o.dst (.pointer (some ⟨b, 0, none⟩))) w') : wpList P ops Q (o :: rest) a w :=
  wpList_val hg (run_alloc T ho cs n hz) (h _ _ (Nat.le_refl _) (Ext.alloc (Ext.refl w) _) (blk_new w cs T))

/-- What the table tells of an array's type: n elements, one cell each. -/
structure ArrT (P : Program) (T : TypeId) (n : Nat) : Prop where
  desc : ∃ E, P.underlying T = some (.array n E)
  size : (P.info? T).map (·.size) = some n

theorem run_loadA {T T' : TypeId} {n : Nat} (hT : ArrT P T n) (x : Operand) (b : Nat) (cs : Array Value) (hn : cs.size = n) (ho : o.op = .load T x) (hx : a.eval x = .pointer (some ⟨b, 0, none⟩))
    (hb : Blk w b T' cs) : (execOp a.eval o).run P w = .ok (.value (.agg cs)) w := by
  obtain ⟨⟨E, hE⟩, hs⟩ := hT
  have hl := run_loadVar_row (P := P) w b T' T cs (0, 0) _ hb hE rfl (by rw [hs, hn])
  unfold execOp
  simp only [ho, hx, Instr.loadAt, Instr.sureAddr, Sem.run_bind, Sem.run_pure, Result.andThen, hl]

theorem wpList_loadA {T T' : TypeId} {n : Nat} (hT : ArrT P T n) (x : Operand) (b : Nat) (cs : Array Value) (hb : Blk w b T' cs) (hn : cs.size = n) (ho : o.op = .load T x) (hx : a.eval x = .pointer (some ⟨b, 0, none⟩))
    (hg : Region.wanted o (yielded ops a.tmps) = true) (h : wpList P ops Q rest (a.put o.dst (.agg cs)) w) : wpList P ops Q (o :: rest) a w :=
  wpList_val hg (run_loadA hT x b cs hn ho hx hb) h

theorem run_storeA {T T' : TypeId} {n : Nat} (hT : ArrT P T n) (x y : Operand) (b : Nat) (old cs : Array Value) (hn : cs.size = n) (hold : old.size = n) (h1 : cs.all (·.oneCell') = true)
    (ho : o.op = .store T x y) (hx : a.eval x = .pointer (some ⟨b, 0, none⟩)) (hy : a.eval y = .agg cs) (hb : Blk w b T' old) : (execOp a.eval o).run P w = .ok .skip (w.setRow b cs) := by
  obtain ⟨_, hs⟩ := hT
  have hl := run_storeVar_row (P := P) w b T' T old cs hb (by rw [hs, hn]) (by omega) h1
  unfold execOp
  simp only [ho, hx, hy, Instr.storeAt, Instr.sureAddr, Sem.run_bind, Sem.run_pure, Result.andThen, hl]

theorem wpList_storeA {T T' : TypeId} {n : Nat} (hT : ArrT P T n) (x y : Operand) (b : Nat) (old cs : Array Value) (hb : Blk w b T' old) (hn : cs.size = n) (hold : old.size = n) (h1 : cs.all (·.oneCell') = true)
    (ho : o.op = .store T x y) (hx : a.eval x = .pointer (some ⟨b, 0, none⟩)) (hy : a.eval y = .agg cs) (hg : Region.wanted o (yielded ops a.tmps) = true)
    (h : ∀ w', Only b w w' → Blk w' b T' cs → wpList P ops Q rest (a.put o.dst undef) w') : wpList P ops Q (o :: rest) a w :=
  wpList_unit hg (run_storeA hT x y b old cs hn hold h1 ho hx hy hb) (h _ (Only.setRow (Only.refl b w) cs) (hb.setRow cs))

/-- A result that lies in a block. -/
theorem bodyPost_cellA {fn : Func} {p : Tmp} {T T' : TypeId} {n : Nat} {R : Ending → World → Prop} (hT : ArrT P T n) (hres : fn.results = #[.cell p T]) (b : Nat) (cs : Array Value) (hb : Blk w b T' cs) (hn : cs.size = n)
    (hp : a.tmps.getD p undef = .pointer (some ⟨b, 0, none⟩)) (hd : a.defers = []) (hR : R (.returned (.agg cs)) w) : bodyPost P fn R .ret a w := by
  obtain ⟨⟨E, hE⟩, hs⟩ := hT
  exact bodyPost_ret (results_cell_row hres a.tmps w b T' cs (0, 0) _ hp hb hE rfl (by rw [hs, hn])) hd hR

/-- A region, then more code. -/
theorem wp_region_then {id : Nat} {l : List Oper} {y : Code} (h : wpList P l.toArray (Exit.then (y.wp P Q) Q) l a w) : (Code.seq (.region id l.toArray false) y).wp P Q a w := wp_seq (wp_region_lit h)
theorem wp_next {y : Code} (h : y.wp P Q a w) : wpList P ops (Exit.then (y.wp P Q) Q) [] a w := h

theorem wp_then {y : Code} (h : y.wp P Q a w) : Exit.then (y.wp P Q) Q .normal a w := h

/-- Arriving at a named Go function. -/
theorem run_callFunc {f : FuncId} {fn : Func} {args : Array Value} (hf : P.funcs[f]? = some fn) (hn : (fn.name == "runtime.NumGoroutine") = false) (hb : fn.body.isNone = false) :
    (callFunc f args).run P w = .ok (.enter f args) w := by
  unfold callFunc
  simp only [Sem.run_bind]
  show Result.andThen (.ok P w) _ = _
  simp only [Result.andThen, hf, hn, hb, Bool.false_eq_true, if_false]
  rfl

theorem run_call {f : FuncId} {fn : Func} (xs : List Operand) (ats : Array TypeId) (hf : P.funcs[f]? = some fn) (hn : (fn.name == "runtime.NumGoroutine") = false) (hb : fn.body.isNone = false)
    (ho : o.op = .call { callee := .value (.func f), args := xs.toArray, argTypes := ats }) : (execOp a.eval o).run P w = .ok (.enter f (xs.map a.eval).toArray) w := by
  obtain ⟨dst, op, type, pos, after, guard⟩ := o
  simp only at ho
  subst ho
  rw [execOp_call_go, Array.empty_append, Array.append_empty, List.map_toArray]
  exact run_callFunc hf hn hb

/-! ### The steps of 'wpDet' -/
section det
variable {L : Act → Prop} {w0 : World}

theorem wpDet_nil (h : L a) : wpDet P ops w0 L [] a := h

theorem wpDet_val (v : Value) (hg : Region.wanted o (yielded ops a.tmps) = true) (hr : ∀ w, Ext w0 w → (execOp a.eval o).run P w = .ok (.value v) w)
    (h : wpDet P ops w0 L rest (a.put o.dst v)) : wpDet P ops w0 L (o :: rest) a :=
  ⟨v, .inl ⟨hg, fun w hw => .inl ⟨w, hr w hw, Ext.refl w⟩⟩, h⟩

theorem wpDet_skip (hg : Region.wanted o (yielded ops a.tmps) = false) (h : wpDet P ops w0 L rest (a.put o.dst undef)) : wpDet P ops w0 L (o :: rest) a :=
  ⟨undef, .inr ⟨hg, rfl⟩, h⟩

theorem wpDet_move (x : Operand) (ho : o.op = .move x) (hg : Region.wanted o (yielded ops a.tmps) = true) (h : wpDet P ops w0 L rest (a.put o.dst (a.eval x))) : wpDet P ops w0 L (o :: rest) a :=
  wpDet_val _ hg (fun w _ => by unfold execOp; simp only [ho]; rfl) h

theorem wpDet_assign (x : Operand) (ho : o.op = .assign x) (hg : Region.wanted o (yielded ops a.tmps) = true) (h : wpDet P ops w0 L rest (a.put o.dst (a.eval x))) : wpDet P ops w0 L (o :: rest) a :=
  wpDet_val _ hg (fun w _ => by unfold execOp; simp only [ho]; rfl) h

theorem wpDet_pick (c x y : Operand) (t : Bool) (ho : o.op = .pick c x y) (hc : a.eval c = .bool t) (hg : Region.wanted o (yielded ops a.tmps) = true)
    (h : wpDet P ops w0 L rest (a.put o.dst (if t then a.eval x else a.eval y))) : wpDet P ops w0 L (o :: rest) a :=
  wpDet_val _ hg (fun w _ => by unfold execOp; simp only [ho, hc, asBool]; rfl) h

theorem wpDet_loadA {T T' : TypeId} {n : Nat} (hT : ArrT P T n) (x : Operand) (b : Nat) (cs : Array Value) (hb : Blk w0 b T' cs) (hn : cs.size = n) (ho : o.op = .load T x)
    (hx : a.eval x = .pointer (some ⟨b, 0, none⟩)) (hg : Region.wanted o (yielded ops a.tmps) = true) (h : wpDet P ops w0 L rest (a.put o.dst (.agg cs))) : wpDet P ops w0 L (o :: rest) a :=
  wpDet_val _ hg (fun _ hw => run_loadA hT x b cs hn ho hx (hb.ext hw)) h

theorem wpDet_call {f : FuncId} {fn : Func} (v : Value) (xs : List Operand) (ats : Array TypeId) (hf : P.funcs[f]? = some fn) (hn : (fn.name == "runtime.NumGoroutine") = false) (hb : fn.body.isNone = false)
    (ho : o.op = .call { callee := .value (.func f), args := xs.toArray, argTypes := ats }) (hg : Region.wanted o (yielded ops a.tmps) = true)
    (hc : ∀ w, Ext w0 w → Calls P f (xs.map a.eval).toArray w (fun e w'' => e = .returned v ∧ Ext w w''))
    (h : wpDet P ops w0 L rest (a.put o.dst v)) : wpDet P ops w0 L (o :: rest) a :=
  ⟨v, .inl ⟨hg, fun w hw => .inr (.inr ⟨f, _, run_call xs ats hf hn hb ho, hc w hw⟩)⟩, h⟩
end det

/-- A call outside such a region, its result known. -/
theorem wpList_call0 {f : FuncId} {fn : Func} (xs : List Operand) (ats : Array TypeId) (hf : P.funcs[f]? = some fn) (hn : (fn.name == "runtime.NumGoroutine") = false) (hb : fn.body.isNone = false)
    (ho : o.op = .call { callee := .value (.func f), args := xs.toArray, argTypes := ats }) (hg : Region.wanted o (yielded ops a.tmps) = true) {v : Value} {R : World → Prop}
    (hc : Calls P f (xs.map a.eval).toArray w (fun e w'' => e = .returned v ∧ R w''))
    (h : ∀ w', R w' → wpList P ops Q rest (a.put o.dst v) w') : wpList P ops Q (o :: rest) a w := by
  unfold wpList
  rw [if_pos hg]
  refine .inl ?_
  unfold Oper.wp
  rw [run_call xs ats hf hn hb ho]
  exact hc.mono fun e w'' ⟨he, hR⟩ => by subst he; exact h w'' hR

/-- A call outside such a region. -/
theorem wpList_call {f : FuncId} {fn : Func} (xs : List Operand) (ats : Array TypeId) (hf : P.funcs[f]? = some fn) (hn : (fn.name == "runtime.NumGoroutine") = false) (hb : fn.body.isNone = false)
    (ho : o.op = .call { callee := .value (.func f), args := xs.toArray, argTypes := ats }) (hg : Region.wanted o (yielded ops a.tmps) = true) {R : Value → World → Prop}
    (hc : Calls P f (xs.map a.eval).toArray w (fun e w'' => ∃ v, e = .returned v ∧ R v w''))
    (h : ∀ v w', R v w' → wpList P ops Q rest (a.put o.dst v) w') : wpList P ops Q (o :: rest) a w := by
  unfold wpList
  rw [if_pos hg]
  refine .inl ?_
  unfold Oper.wp
  rw [run_call xs ats hf hn hb ho]
  exact hc.mono fun e w'' ⟨v, he, hR⟩ => by subst he; exact h v w'' hR
end ops
end Go.Kd
