/- General lemma, over any program: a region of determined operations, then two array variables that are made and filled ('x, y := f(a), g(b)'). -/
import Derived.Test.YtgojphoejmbliaaDoorMem
namespace Go.Kd
open Go Go.RowKit

section two
variable {P : Program}

def L0 (ops : Array Oper) (m : Nat) : Array Bool := markFrom m 0 (Array.replicate ops.size false)

/-- The check: m operations in the order of the text; then two that may be met in either order; then one, and another. -/
def twoB (ops : Array Oper) (m : Nat) : Bool :=
  Region.noSelect ops && lexC ops m 0 (Array.replicate ops.size false) && decide (ops.size = m + 4) &&
  decide (Region.ready .any ops (L0 ops m) = [m, m + 1]) && decide (Region.ready .any ops ((L0 ops m).setIfInBounds m true) = [m + 1]) &&
  decide (Region.ready .any ops ((L0 ops m).setIfInBounds (m + 1) true) = [m]) &&
  decide (Region.ready .any ops (((L0 ops m).setIfInBounds m true).setIfInBounds (m + 1) true) = [m + 2]) &&
  decide (Region.ready .any ops ((((L0 ops m).setIfInBounds m true).setIfInBounds (m + 1) true).setIfInBounds (m + 2) true) = [m + 3]) &&
  decide (Region.ready .any ops (((((L0 ops m).setIfInBounds m true).setIfInBounds (m + 1) true).setIfInBounds (m + 2) true).setIfInBounds (m + 3) true) = [])

theorem wpOp_val {ops : Array Oper} {Q : Exit → Act → World → Prop} {K : Act → World → Prop} {i : Nat} {o : Oper} {a : Act} {w w' : World} {v : Value} (hi : ops[i]? = some o) (hg : o.guard = none)
    (hr : (execOp a.eval o).run P w = .ok (.value v) w') (h : K (a.put o.dst v) w') : wpOp P ops Q i K a w := by
  unfold wpOp
  simp only [hi]
  rw [if_pos (by simp [Region.wanted, hg])]
  exact .inl (by unfold Oper.wp; rw [hr]; exact h)
theorem wpOp_unit {ops : Array Oper} {Q : Exit → Act → World → Prop} {K : Act → World → Prop} {i : Nat} {o : Oper} {a : Act} {w w' : World} (hi : ops[i]? = some o) (hg : o.guard = none)
    (hr : (execOp a.eval o).run P w = .ok .skip w') (h : K (a.put o.dst undef) w') : wpOp P ops Q i K a w := by
  unfold wpOp
  simp only [hi]
  rw [if_pos (by simp [Region.wanted, hg])]
  exact .inl (by unfold Oper.wp; rw [hr]; exact h)

theorem wp_region_two {id : Nat} {Q : Exit → Act → World → Prop} {a : Act} {w : World} {l : List Oper} (m : Nat) (ox oy px py : Oper) (T1 T2 : TypeId) (n1 n2 : Nat) (sx sy : Tmp) (vx vy : Operand) (Z1 Z2 : Array Value)
    (hm : P.follows .mixedOrders = true) (hB : twoB l.toArray m = true) (hl : l.drop m = [ox, oy, px, py])
    (hT1 : ArrT P T1 n1) (hT2 : ArrT P T2 n2) (hz1 : (P.info? T1).map (fun i => (i.zero, i.size)) = some (some (.agg Z1), n1)) (hz2 : (P.info? T2).map (fun i => (i.zero, i.size)) = some (some (.agg Z2), n2))
    (hZ1 : Z1.size = n1) (hZ2 : Z2.size = n2)
    (ex : ox.op = .alloc T1 ∧ ox.dst = some sx ∧ ox.guard = none) (ey : oy.op = .alloc T2 ∧ oy.dst = some sy ∧ oy.guard = none)
    (ep : px.op = .store T1 (.tmp sx) vx ∧ px.dst = none ∧ px.guard = none) (eq : py.op = .store T2 (.tmp sy) vy ∧ py.dst = none ∧ py.guard = none) (hne : sx ≠ sy)
    (h : wpDet P l.toArray w (fun a' => ∃ X Y, X.size = n1 ∧ Y.size = n2 ∧ X.all (·.oneCell') = true ∧ Y.all (·.oneCell') = true ∧
      (∀ p q, ((a'.put (some sx) p).put (some sy) q).eval vx = .agg X ∧ ((a'.put (some sx) p).put (some sy) q).eval vy = .agg Y ∧
        ((a'.put (some sx) p).put (some sy) q).eval (.tmp sx) = p ∧ ((a'.put (some sx) p).put (some sy) q).eval (.tmp sy) = q) ∧
      ∀ bx bY w', w.heap.size ≤ bx → w.heap.size ≤ bY → bx ≠ bY → Ext w w' → Blk w' bx T1 X → Blk w' bY T2 Y →
        Q .normal ((a'.put (some sx) (.pointer (some ⟨bx, 0, none⟩))).put (some sy) (.pointer (some ⟨bY, 0, none⟩))) w') (l.take m) a) :
    (Code.region id l.toArray true).wp P Q a w := by
  simp only [twoB, Bool.and_eq_true, decide_eq_true_eq] at hB
  obtain ⟨⟨⟨⟨⟨⟨⟨⟨hsel, hlex⟩, hsz⟩, r0⟩, r1⟩, r1'⟩, r2⟩, r3⟩, r4⟩ := hB
  have hlen : l.length = m + 4 := by simpa using hsz
  have htl : (l.take m).length = m := by simp; omega
  have at_ (j : Nat) : l.toArray[m + j]? = [ox, oy, px, py][j]? := by
    rw [← hl]; simp [List.getElem?_drop]
  have a0 : l.toArray[m]? = some ox := by simpa using at_ 0
  have a1 : l.toArray[m + 1]? = some oy := by simpa using at_ 1
  have a2 : l.toArray[m + 2]? = some px := by simpa using at_ 2
  have a3 : l.toArray[m + 3]? = some py := by simpa using at_ 3
  obtain ⟨ex1, ex2, ex3⟩ := ex
  obtain ⟨ey1, ey2, ey3⟩ := ey
  obtain ⟨ep1, ep2, ep3⟩ := ep
  obtain ⟨eq1, eq2, eq3⟩ := eq
  have H := wpG_lex (P := P) (ops := l.toArray) (w0 := w) (w := { w with drawn := w.drawn + 1 }) (n := m + 4) (g := 4) (L := fun listed a' w' => Region.ready .any l.toArray listed = [] ∧ Q .normal a' w') hsel
    (fun i _ listed _ _ j hj => by
      obtain ⟨_, o, ho, _⟩ := mem_ready.1 hj
      have := (Array.getElem?_eq_some_iff.1 ho).1
      omega)
    (fun listed a w hL j hj => by rw [hL.1] at hj; cases hj) (Ext.drew (Ext.refl w)) (l.take m) 0 (Array.replicate l.toArray.size false) a
    (fun j hj => by
      have hj' : j < m := by rw [htl] at hj; exact hj
      simp [hj']) (by omega) (inv0 _) (by rw [htl]; exact hlex) (by
      refine wpDet_mono ?_ h
      rintro a' ⟨X, Y, hX, hY, hX1, hY1, hev, hK⟩
      rw [htl]
      show wpG P l.toArray w (m + 4) _ 4 (L0 l.toArray m) a' _
      -- the two stores, and the end
      have fin : ∀ bx bY w4, w.heap.size ≤ bx → w.heap.size ≤ bY → bx ≠ bY → Ext w w4 → Blk w4 bx T1 Z1 → Blk w4 bY T2 Z2 →
          wpG P l.toArray w (m + 4) (fun listed a' w' => Region.ready .any l.toArray listed = [] ∧ Q .normal a' w') 2 (((L0 l.toArray m).setIfInBounds m true).setIfInBounds (m + 1) true)
            ((a'.put (some sx) (.pointer (some ⟨bx, 0, none⟩))).put (some sy) (.pointer (some ⟨bY, 0, none⟩))) w4 := by
        intro bx bY w4 h1 h2 hn hx4 kx ky w5 hx5
        obtain ⟨v1, v2, v3, v4⟩ := hev (.pointer (some ⟨bx, 0, none⟩)) (.pointer (some ⟨bY, 0, none⟩))
        refine ⟨by rw [r2]; simp, fun i hi => ?_⟩
        rw [r2] at hi
        obtain rfl : i = m + 2 := by simpa using hi
        refine ⟨by omega, wpOp_unit a2 ep3 (run_storeA hT1 (.tmp sx) vx bx Z1 X hX hZ1 hX1 ep1 v3 v1 (kx.ext hx5)) ?_⟩
        rw [ep2]
        have o5 := Only.setRow (Only.refl bx w5) X
        have kx5 := (kx.ext hx5).setRow X
        have ky5 := o5.blk (fun e => hn e.symm) (ky.ext hx5)
        refine ⟨o5.ext (hx4.trans hx5) h1, fun w6 hx6 => ⟨by rw [r3]; simp, fun i hi => ?_⟩⟩
        rw [r3] at hi
        obtain rfl : i = m + 3 := by simpa using hi
        refine ⟨by omega, wpOp_unit a3 eq3 (run_storeA hT2 (.tmp sy) vy bY Z2 Y hY hZ2 hY1 eq1 v4 v2 (ky5.ext hx6)) ?_⟩
        rw [eq2]
        have o6 := Only.setRow (Only.refl bY w6) Y
        have ky6 := (ky5.ext hx6).setRow Y
        have kx6 := o6.blk hn (kx5.ext hx6)
        have hx7 := o6.ext ((o5.ext (hx4.trans hx5) h1).trans hx6) h2
        exact ⟨hx7, fun w7 hx8 => ⟨r4, hK bx bY w7 h1 h2 hn (hx7.trans hx8) (kx6.ext hx8) (ky6.ext hx8)⟩⟩
      intro w1 hx1
      have hw1 : Ext w w1 := Ext.of_drawn hx1
      refine ⟨by rw [r0]; simp, fun i hi => ?_⟩
      rw [r0] at hi
      have hi' : i = m ∨ i = m + 1 := by simpa using hi
      rcases hi' with rfl | rfl
      · refine ⟨by omega, wpOp_val a0 ex3 (run_alloc T1 ex1 Z1 n1 hz1) ?_⟩
        rw [ex2]
        have g1 := Ext.alloc (Ext.refl w1) (.cells Z1 T1)
        refine ⟨hw1.trans g1, fun w2 hx2 => ⟨by rw [r1]; simp, fun j hj => ?_⟩⟩
        rw [r1] at hj
        obtain rfl : j = i + 1 := by simpa using hj
        refine ⟨by omega, wpOp_val a1 ey3 (run_alloc T2 ey1 Z2 n2 hz2) ?_⟩
        rw [ey2]
        have g2 := Ext.alloc (Ext.refl w2) (.cells Z2 T2)
        have k1 := (blk_new w1 Z1 T1).ext hx2
        refine ⟨((hw1.trans g1).trans hx2).trans g2, fin w1.heap.size w2.heap.size _ hw1.size ?_ ?_ (((hw1.trans g1).trans hx2).trans g2) (k1.ext g2) (blk_new w2 Z2 T2)⟩
        · exact (((hw1.trans g1).trans hx2)).size
        · have := k1.lt; omega
      · refine ⟨by omega, wpOp_val a1 ey3 (run_alloc T2 ey1 Z2 n2 hz2) ?_⟩
        rw [ey2]
        have g1 := Ext.alloc (Ext.refl w1) (.cells Z2 T2)
        refine ⟨hw1.trans g1, fun w2 hx2 => ⟨by rw [r1']; simp, fun j hj => ?_⟩⟩
        rw [r1'] at hj
        obtain rfl : j = m := by simpa using hj
        refine ⟨by omega, wpOp_val a0 ex3 (run_alloc T1 ex1 Z1 n1 hz1) ?_⟩
        rw [ex2]
        have g2 := Ext.alloc (Ext.refl w2) (.cells Z1 T1)
        have k1 := (blk_new w1 Z2 T2).ext hx2
        have hf := fin w2.heap.size w1.heap.size _ (((hw1.trans g1).trans hx2)).size hw1.size (by have := k1.lt; omega) (((hw1.trans g1).trans hx2).trans g2) (blk_new w2 Z1 T1) (k1.ext g2)
        refine ⟨((hw1.trans g1).trans hx2).trans g2, ?_⟩
        rw [Array.setIfInBounds_comm _ _ (by omega), Act.put_comm _ _ _ (by intro d hd e; exact hne (Option.some.inj (e.trans hd.symm)))]
        exact hf)
  refine wp_region_any hm ?_
  have H2 := wpAny_of_G (Q := Q) (g := 0) (fun listed a w hL => ⟨hL.1, hL.2⟩) _ _ _ _ H
  rw [htl, show m + 4 + 0 = l.toArray.size by omega] at H2
  exact H2
end two
end Go.Kd
