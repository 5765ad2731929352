/- General: two blocks may have turned. -/
import Derived.Test.YtgojphoejmbliaaDoorStore
namespace Go.Kd
open Go Go.RowKit
/-- Blocks b and c may have turned, nothing else has. -/
structure Only2 (b c : Nat) (w w' : World) : Prop where
  os : w'.os = w.os
  tape : w'.tape = w.tape
  output : w'.output = w.output
  size : w'.heap.size = w.heap.size
  block : ∀ k, k ≠ b → k ≠ c → w'.heap[k]? = w.heap[k]?
namespace Only2
variable {b c : Nat} {w w1 w2 w3 : World}
theorem refl (b c : Nat) (w : World) : Only2 b c w w := ⟨rfl, rfl, rfl, rfl, fun _ _ _ => rfl⟩
theorem trans (h : Only2 b c w1 w2) (k : Only2 b c w2 w3) : Only2 b c w1 w3 :=
  ⟨k.os.trans h.os, k.tape.trans h.tape, k.output.trans h.output, k.size.trans h.size, fun i hi hj => (k.block i hi hj).trans (h.block i hi hj)⟩
theorem of1 (h : Only b w1 w2) : Only2 b c w1 w2 := ⟨h.os, h.tape, h.output, h.size, fun k hk _ => h.block k hk⟩
theorem of2 (h : Only c w1 w2) : Only2 b c w1 w2 := ⟨h.os, h.tape, h.output, h.size, fun k _ hk => h.block k hk⟩
theorem blk {d : Nat} {T : TypeId} {cs : Array Value} (h : Only2 b c w1 w2) (h1 : d ≠ b) (h2 : d ≠ c) (k : Blk w1 d T cs) : Blk w2 d T cs := (h.block d h1 h2).trans k
theorem ext {w0 : World} (h : Only2 b c w1 w2) (hx : Ext w0 w1) (hb : w0.heap.size ≤ b) (hc : w0.heap.size ≤ c) : Ext w0 w2 :=
  Below.trans hx ⟨h.os, h.tape, h.output, Nat.le_of_eq h.size.symm, fun k hk => h.block k (by omega) (by omega)⟩
theorem row {d n : Nat} {k : IntKind} {f : Nat → Int} (h : Only2 b c w1 w2) (h1 : d ≠ b) (h2 : d ≠ c) (r : RowK w1 d n k f) : RowK w2 d n k f :=
  ⟨by rw [h.size]; exact r.1, fun i hi => by rw [← r.2 i hi]; simp only [World.cell?, h.block d h1 h2]⟩
/-- a region that draws an order: the heap is as it was -/
theorem of_heap (h : Ext w1 w2) (e : w2.heap = w1.heap) : Only2 b c w1 w2 := ⟨h.os, h.tape, h.output, by rw [e], fun _ _ _ => by rw [e]⟩
end Only2
section canon
variable {P : Program} {ops : Array Oper} {R : World → World → Prop} {world : List Nat} {L : Act → World → Prop} {a : Act} {w : World} {rest : List (Nat × Oper)} {k : Nat} {o : Oper}
/-- a call that leaves the world -/
theorem wpC_callP {f : FuncId} {fn : Func} (v : Value) (xs : List Operand) (ats : Array TypeId) (hf : P.funcs[f]? = some fn) (hn : (fn.name == "runtime.NumGoroutine") = false) (hb : fn.body.isNone = false)
    (hk : world.contains k = false) (ho1 : o.op = .call { callee := .value (.func f), args := xs.toArray, argTypes := ats }) (hg : Region.wanted o (yielded ops a.tmps) = true)
    (hc : ∀ w', R w w' → Calls P f (xs.map a.eval).toArray w' (fun e w'' => e = .returned v ∧ w' = w''))
    (h : wpC' P ops R world L rest (a.put o.dst v) w) : wpC' P ops R world L ((k, o) :: rest) a w :=
  wpC_pure v hk (fun w' hw => .inl ⟨hg, .inr (.inr ⟨f, _, run_call xs ats hf hn hb ho1, hc w' hw⟩)⟩) h
end canon
theorem Blk.of_heap {w w' : World} {b : Nat} {T : TypeId} {cs : Array Value} (h : Blk w b T cs) (e : w'.heap = w.heap) : Blk w' b T cs := by unfold Blk at *; rw [e]; exact h
end Go.Kd
