/- General law, over any program: a region whose order is drawn, met in an order of our own: operations that change the world stand in a fixed order among themselves; the others give one value from their place on, whatever the world becomes. -/
import Derived.Test.YtgojphoejmbliaaDoorMem
namespace Go.Kd
open Go Go.RowKit

section canon
variable {P : Program} {ops : Array Oper} {R : World → World → Prop} {world : List Nat}

/-- The operation o, met at the frame a in the world w, gives v and leaves the world. -/
def PureAt (P : Program) (ops : Array Oper) (o : Oper) (a : Act) (v : Value) (w : World) : Prop :=
  (Region.wanted o (yielded ops a.tmps) = true ∧ ((execOp a.eval o).run P w = .ok (.value v) w ∨ ((execOp a.eval o).run P w = .ok .skip w ∧ v = undef) ∨
    ∃ f args, (execOp a.eval o).run P w = .ok (.enter f args) w ∧ Calls P f args w (fun e w'' => e = .returned v ∧ w = w''))) ∨
  (Region.wanted o (yielded ops a.tmps) = false ∧ v = undef)

theorem PureAt.of_same {o : Oper} {v : Value} {a a' : Act} {w : World} (hy : PureAt P ops o a v w) (he : execOp a'.eval o = execOp a.eval o)
    (hw : Region.wanted o (yielded ops a'.tmps) = Region.wanted o (yielded ops a.tmps)) : PureAt P ops o a' v w := by
  unfold PureAt at *
  rw [he, hw]
  exact hy

theorem PureAt.wpOp {w : World} {Q : Exit → Act → World → Prop} {i : Nat} {o : Oper} {v : Value} {a : Act} (hi : ops[i]? = some o) (hy : PureAt P ops o a v w)
    {K : Act → World → Prop} (h : K (a.put o.dst v) w) : wpOp P ops Q i K a w := by
  unfold Go.wpOp
  simp only [hi]
  rcases hy with ⟨hw, hv⟩ | ⟨hw, rfl⟩
  · simp only [hw, if_true]
    refine .inl ?_
    rcases hv with hr | ⟨hr, rfl⟩ | ⟨f, args, hr, hc⟩
    · simp only [Oper.wp, hr, Oper.upon]; exact h
    · simp only [Oper.wp, hr, Oper.upon]; exact h
    · simp only [Oper.wp, hr, Oper.upon]
      exact hc.mono fun e w'' ⟨he, hg⟩ => by subst he; subst hg; exact h
  · simp only [hw, Bool.false_eq_true, if_false]; exact h

theorem wpOp_pull {i : Nat} {p oi : Oper} {v : Value} (hi : ops[i]? = some oi) (hap : p.apart ops oi = true)
    (hsp : ∀ cs b, p.op ≠ .select cs b) (hsi : ∀ cs b, oi.op ≠ .select cs b) (htr : ∀ {w1 w2 w3}, R w1 w2 → R w2 w3 → R w1 w3) {K : Act → World → Prop} {a : Act} {w : World}
    (hy : ∀ w', R w w' → PureAt P ops p a v w') (h : wpOp P ops Qbot i (fun a' w' => R w w' ∧ K a' w') (a.put p.dst v) w) :
    wpOp P ops Qbot i (fun a' w' => R w w' ∧ (∀ w'', R w' w'' → PureAt P ops p a' v w'') ∧ K (a'.put p.dst v) w') a w := by
  obtain ⟨h1, h2, h3⟩ := Oper.apart_spec hap
  have keep : ∀ (a : Act) (w' : World), R w w' → (∀ w'', R w w'' → PureAt P ops p a v w'') → ∀ u w'', R w' w'' → PureAt P ops p (a.put oi.dst u) v w'' := fun a w' hr hy u w'' hr' =>
    (hy w'' (htr hr hr')).of_same (execOp_put p hsp a oi.dst u h3) (wanted_put p a oi.dst u h3)
  have keepD : ∀ d w'', R w w'' → PureAt P ops p { a with defers := d :: a.defers } v w'' := fun d w'' hr => (hy w'' hr).of_same rfl rfl
  unfold wpOp at *
  simp only [hi] at *
  rw [wanted_put oi a p.dst v h1] at h
  split
  · rename_i hw
    simp only [hw, if_true] at h
    rcases h with h | ⟨hasks, hlets⟩
    case inr => obtain ⟨_, _, hf⟩ := hlets; exact hf.elim
    refine .inl ?_
    unfold Oper.wp at *
    rw [execOp_put oi hsi a p.dst v h1] at h
    generalize (execOp a.eval oi).run P w = r at *
    cases r with
    | ok n w' =>
      cases n <;> simp only [Oper.upon] at h ⊢
      case value u => exact ⟨h.1, keep a w' h.1 hy u, by rw [← Act.put_comm a v u h2]; exact h.2⟩
      case skip => exact ⟨h.1, keep a w' h.1 hy _, by rw [← Act.put_comm a v undef h2]; exact h.2⟩
      case defer d =>
        refine ⟨h.1, keep _ w' h.1 (keepD d) _, ?_⟩
        rw [← Act.put_comm _ v undef h2, ← Act.put_defers]
        exact h.2
      case enter f args =>
        refine Calls.mono h fun e w'' he => ?_
        cases e with
        | returned u => exact ⟨he.1, keep a w'' he.1 hy u, by rw [← Act.put_comm a v u h2]; exact he.2⟩
        | panicked c => exact he.elim
        | outgrown => obtain ⟨_, _, hf⟩ := he; exact hf.elim
      case row row args => exact Rows.mono h fun u w'' he => ⟨he.1, keep a w'' he.1 hy u, by rw [← Act.put_comm a v u h2]; exact he.2⟩
    | halt x w' =>
      cases x <;> simp only [Oper.upon] at h ⊢
      case panic u => exact h.elim
  · rename_i hw
    simp only [hw] at h
    exact ⟨h.1, keep a w h.1 hy _, by rw [← Act.put_comm a v undef h2]; exact h.2⟩

/-- The operations of a list, met one behind the other: those of 'world' change the world within R; each other one gives a value that stays, whatever the world becomes. -/
def wpC (P : Program) (ops : Array Oper) (R : World → World → Prop) (world : List Nat) (L : Act → World → Prop) : List Nat → Act → World → Prop
  | [], a, w => L a w
  | k :: rest, a, w => ∃ o, ops[k]? = some o ∧
      ((world.contains k = true ∧ wpOp P ops Qbot k (fun a' w' => R w w' ∧ wpC P ops R world L rest a' w') a w) ∨
       (world.contains k = false ∧ ∃ v, (∀ w', R w w' → PureAt P ops o a v w') ∧ wpC P ops R world L rest (a.put o.dst v) w))

/-- y waits, straight or through others, for x. -/
def blocked (ops : Array Oper) (x : Nat) : Nat → Nat → Bool
  | 0, _ => false
  | f + 1, y => match ops[y]? with
    | none => false
    | some o => o.after.any fun e => Region.binds .any e && (e.on == x || (Nat.blt x e.on && blocked ops x f e.on))

def waits (ops : Array Oper) (y x : Nat) : Bool := match ops[y]? with
  | none => false
  | some o => o.after.any fun e => Region.binds .any e && e.on == x

def pairB (ops : Array Oper) (world : List Nat) (x y : Nat) : Bool :=
  !waits ops x y && (blocked ops x 12 y || (!world.contains x && match ops[x]?, ops[y]? with
    | some ox, some oy => ox.apart ops oy
    | _, _ => false))

def pairsB (ops : Array Oper) (world : List Nat) : List Nat → Bool
  | [] => true
  | x :: l => l.all (fun y => pairB ops world x y) && pairsB ops world l

def canonB (ops : Array Oper) (world order : List Nat) : Bool :=
  Region.noSelect ops && decide (order.length = ops.size) && ((List.range ops.size).all fun k => order.contains k) && (order.all fun k => decide (k < ops.size)) &&
  ((List.range ops.size).all fun k => !waits ops k k && match ops[k]? with
    | none => true
    | some o => o.after.all fun e => decide (e.on < ops.size)) && pairsB ops world order

theorem pairsB_mid {world : List Nat} {i : Nat} {post : List Nat} : ∀ {pre : List Nat}, pairsB ops world (pre ++ i :: post) = true → (∀ x ∈ pre, pairB ops world x i = true) ∧ pairsB ops world (pre ++ post) = true
  | [], h => by
    simp only [List.nil_append, pairsB, Bool.and_eq_true] at h
    exact ⟨by simp, by simpa using h.2⟩
  | x :: pre, h => by
    simp only [List.cons_append, pairsB, Bool.and_eq_true, List.all_eq_true] at h
    obtain ⟨h1, h2⟩ := h
    obtain ⟨h3, h4⟩ := pairsB_mid h2
    refine ⟨fun y hy => ?_, ?_⟩
    · rcases List.mem_cons.1 hy with rfl | hy
      · exact h1 i (by simp)
      · exact h3 y hy
    · simp only [List.cons_append, pairsB, Bool.and_eq_true, List.all_eq_true]
      refine ⟨fun y hy => h1 y ?_, h4⟩
      rcases List.mem_append.1 hy with hy | hy
      · simp [hy]
      · simp [hy]

theorem blocked_spec {x : Nat} {listed : Array Bool} (inv : HeadInv .any ops ops.size listed) (hx : listed.getD x false = false) :
    ∀ (f y : Nat), blocked ops x f y = true → (∀ o, ops[y]? = some o → ∀ e ∈ o.after, Region.binds .any e = true → listed.getD e.on false = true) → False
  | 0, y, h, _ => by simp [blocked] at h
  | f + 1, y, h, hall => by
    unfold blocked at h
    split at h
    · cases h
    · rename_i o ho
      obtain ⟨e, he, hb⟩ := Array.any_eq_true'.1 h
      simp only [Bool.and_eq_true, Bool.or_eq_true, beq_iff_eq] at hb
      have hl := hall o ho e he hb.1
      rcases hb.2 with h1 | h1
      · rw [h1, hx] at hl; cases hl
      · refine blocked_spec inv hx f e.on h1.2 fun o' ho' e' he' hb' => inv.closed e.on o' ho' ?_ e' he' hb'
        exact hl

theorem wpC_pull {L : Act → World → Prop} (hsel : Region.noSelect ops = true) (htr : ∀ {w1 w2 w3}, R w1 w2 → R w2 w3 → R w1 w3) (hrf : ∀ w, R w w) {i : Nat} {oi : Oper} (hi : ops[i]? = some oi) {post : List Nat} :
    ∀ {pre : List Nat} {a : Act} {w : World}, (∀ x ∈ pre, world.contains x = false ∧ ∃ ox, ops[x]? = some ox ∧ ox.apart ops oi = true) →
      wpC P ops R world L (pre ++ i :: post) a w → wpOp P ops Qbot i (fun a' w' => R w w' ∧ wpC P ops R world L (pre ++ post) a' w') a w
  | [], a, w, _, h => by
    obtain ⟨o, ho, h⟩ := h
    obtain rfl := Option.some.inj (hi.symm.trans ho)
    rcases h with ⟨_, h⟩ | ⟨_, v, hv, h⟩
    · exact h
    · exact (hv w (hrf w)).wpOp hi ⟨hrf w, h⟩
  | x :: pre, a, w, hpre, h => by
    obtain ⟨ox, hox, h⟩ := h
    obtain ⟨hx1, ox', hox', hap⟩ := hpre x (by simp)
    obtain rfl := Option.some.inj (hox.symm.trans hox')
    rcases h with ⟨h1, _⟩ | ⟨_, v, hv, h⟩
    · rw [hx1] at h1; cases h1
    · have ih := wpC_pull (L := L) hsel htr hrf hi (fun y hy => hpre y (by simp [hy])) h
      have := wpOp_pull (R := R) hi hap (fun cs b => Region.noSelect_spec hsel x ox cs b hox) (fun cs b => Region.noSelect_spec hsel i oi cs b hi) htr hv ih
      refine wpOp_mono (fun a' w' h' => ⟨h'.1, ox, hox, .inr ⟨hx1, v, h'.2.1, h'.2.2⟩⟩) this

theorem wpAny_of_C {Q : Exit → Act → World → Prop} {L : Act → World → Prop} (hsel : Region.noSelect ops = true) (htr : ∀ {w1 w2 w3}, R w1 w2 → R w2 w3 → R w1 w3) (hrf : ∀ w, R w w)
    (hself : ∀ k, k < ops.size → waits ops k k = false) (hon : ∀ (k : Nat) (o : Oper), ops[k]? = some o → ∀ e ∈ o.after, e.on < ops.size) (hL : ∀ a w, L a w → Q .normal a w) :
    ∀ (n : Nat) (r : List Nat) (listed : Array Bool) (a : Act) (w : World), r.length = n → (∀ k, k < ops.size → (listed.getD k true = false ↔ k ∈ r)) → (∀ k ∈ r, k < ops.size) → r.Nodup → pairsB ops world r = true →
      HeadInv .any ops ops.size listed → wpC P ops R world L r a w → wpAny P .any ops Q n listed a w
  | 0, r, listed, a, w, hn, hr, hlt, _, _, inv, h => by
    obtain rfl : r = [] := List.eq_nil_of_length_eq_zero hn
    refine ⟨?_, hL _ _ h⟩
    apply List.eq_nil_iff_forall_not_mem.2
    intro i hi
    obtain ⟨h1, o, ho, _⟩ := mem_ready.1 hi
    have := (hr i (Array.getElem?_eq_some_iff.1 ho).1).1 h1
    simp at this
  | n + 1, r, listed, a, w, hn, hr, hlt, hnd, hp, inv, h => by
    refine ⟨fun h0 => ?_, fun i hi => ?_⟩
    · exfalso
      cases r with
      | nil => simp at hn
      | cons k rest =>
        have hk : k < ops.size := hlt k (by simp)
        have : k ∈ Region.ready .any ops listed := by
          refine mem_ready.2 ⟨(hr k hk).2 (by simp), ops[k], by simp [hk], fun e he hb => ?_⟩
          have hon' := hon k ops[k] (by simp [hk]) e he
          by_cases hl : listed.getD e.on true = false
          · exfalso
            have hm := (hr e.on hon').1 hl
            rcases List.mem_cons.1 hm with hek | hm
            · have := hself k hk
              unfold waits at this
              rw [Array.getElem?_eq_getElem hk] at this
              simp only [] at this
              have h1 := Array.any_eq_false'.1 this e he
              simp [hb, hek] at h1
            · simp only [pairsB, Bool.and_eq_true, List.all_eq_true] at hp
              have h1 := hp.1 e.on hm
              unfold pairB at h1
              simp only [Bool.and_eq_true, Bool.not_eq_true'] at h1
              have h2 := h1.1
              unfold waits at h2
              rw [Array.getElem?_eq_getElem hk] at h2
              have h3 := Array.any_eq_false'.1 h2 e he
              simp [hb] at h3
          · have h1 : listed.getD e.on true = true := by simpa using hl
            have hs : e.on < listed.size := by rw [inv.size]; exact hon'
            simp [hs] at h1 ⊢
            exact h1
        rw [h0] at this
        cases this
    · obtain ⟨hun, oi, hoi, hall⟩ := mem_ready.1 hi
      have hilt : i < ops.size := (Array.getElem?_eq_some_iff.1 hoi).1
      have hm := (hr i hilt).1 hun
      obtain ⟨pre, post, rfl⟩ := List.append_of_mem hm
      obtain ⟨hp1, hp2⟩ := pairsB_mid hp
      have hpull := wpC_pull (P := P) (ops := ops) (R := R) (world := world) (L := L) hsel htr hrf hoi (post := post) (pre := pre) (a := a) (w := w) (fun x hx => by
        have h1 := hp1 x hx
        have hxlt : x < ops.size := hlt x (by simp [hx])
        unfold pairB at h1
        simp only [Bool.and_eq_true, Bool.or_eq_true, Bool.not_eq_true'] at h1
        rcases h1.2 with h2 | h2
        · exfalso
          have hxu := (hr x hxlt).2 (by simp [hx])
          refine blocked_spec (x := x) inv (getD_both hxu) 12 i h2 fun o ho e he hb => ?_
          obtain rfl := Option.some.inj (hoi.symm.trans ho)
          exact hall e he hb
        · refine ⟨h2.1, ?_⟩
          have h3 := h2.2
          rw [hoi, Array.getElem?_eq_getElem hxlt] at h3
          exact ⟨_, Array.getElem?_eq_getElem hxlt, h3⟩) h
      refine wpOp_Q (fun _ _ _ hf => hf.elim) (wpOp_mono (fun a' w' h' => ?_) hpull)
      have hnd' := List.nodup_append.1 hnd
      have hnd2 := List.nodup_cons.1 hnd'.2.1
      refine wpAny_of_C hsel htr hrf hself hon hL n (pre ++ post) _ a' w' (by simp at hn ⊢; omega) (fun k hk => ?_) (fun k hk => hlt k (by rcases List.mem_append.1 hk with h | h <;> simp [h])) ?_ hp2 (inv.set hi hilt) h'.2
      · by_cases hki : i = k
        · subst hki
          have h1 : (listed.setIfInBounds i true).getD i true = true := by
            have hs : i < listed.size := by rw [inv.size]; exact hilt
            simp [hs]
          rw [h1]
          refine ⟨fun h => (by cases h), fun h => ?_⟩
          exfalso
          rcases List.mem_append.1 h with h | h
          · exact hnd'.2.2 i h i (by simp) rfl
          · exact hnd2.1 h
        · rw [getD_set_ne true hki, hr k hk]
          simp only [List.mem_append, List.mem_cons]
          refine ⟨fun h => ?_, fun h => ?_⟩
          · rcases h with h | h | h
            · exact .inl h
            · exact absurd h.symm hki
            · exact .inr h
          · rcases h with h | h
            · exact .inl h
            · exact .inr (.inr h)
      · refine List.nodup_append.2 ⟨hnd'.1, hnd2.2, fun x hx y hy => hnd'.2.2 x hx y (by simp [hy])⟩

/-- the operations themselves, in that order -/
def pickO (l : List Oper) : List Nat → List (Nat × Oper)
  | [] => []
  | k :: r => match l[k]? with
    | some o => (k, o) :: pickO l r
    | none => []
def wpC' (P : Program) (ops : Array Oper) (R : World → World → Prop) (world : List Nat) (L : Act → World → Prop) : List (Nat × Oper) → Act → World → Prop
  | [], a, w => L a w
  | (k, o) :: rest, a, w =>
      ((world.contains k = true ∧ wpOp P ops Qbot k (fun a' w' => R w w' ∧ wpC' P ops R world L rest a' w') a w) ∨
       (world.contains k = false ∧ ∃ v, (∀ w', R w w' → PureAt P ops o a v w') ∧ wpC' P ops R world L rest (a.put o.dst v) w))
theorem wpC_of_pick {l : List Oper} {L : Act → World → Prop} : ∀ {order : List Nat} {a : Act} {w : World}, (∀ k ∈ order, k < l.length) → wpC' P l.toArray R world L (pickO l order) a w → wpC P l.toArray R world L order a w
  | [], _, _, _, h => h
  | k :: r, a, w, hk, h => by
    have hlt := hk k (by simp)
    have e : l[k]? = some l[k] := List.getElem?_eq_getElem hlt
    unfold pickO at h
    rw [e] at h
    refine ⟨l[k], by simp [hlt], ?_⟩
    rcases h with ⟨h1, h2⟩ | ⟨h1, v, h2, h3⟩
    · exact .inl ⟨h1, wpOp_mono (fun a' w' h' => ⟨h'.1, wpC_of_pick (fun x hx => hk x (by simp [hx])) h'.2⟩) h2⟩
    · exact .inr ⟨h1, v, h2, wpC_of_pick (fun x hx => hk x (by simp [hx])) h3⟩

theorem wp_region_canon {id : Nat} {Q : Exit → Act → World → Prop} {a : Act} {w : World} {l : List Oper} (R : World → World → Prop) (world order : List Nat) (hm : P.follows .mixedOrders = true) (hrf : ∀ w, R w w)
    (htr : ∀ {w1 w2 w3}, R w1 w2 → R w2 w3 → R w1 w3) (hnd : order.Nodup) (hB : canonB l.toArray world order = true)
    (h : ∀ w1, Ext w w1 → w1.heap = w.heap → wpC' P l.toArray R world (fun a' w' => Q .normal a' w') (pickO l order) a w1) : (Code.region id l.toArray true).wp P Q a w := by
  simp only [canonB, Bool.and_eq_true, decide_eq_true_eq, List.all_eq_true] at hB
  obtain ⟨⟨⟨⟨⟨hsel, hlen⟩, hcont⟩, hlt⟩, hself⟩, hpairs⟩ := hB
  refine wp_region_any hm ?_
  have hlt' : ∀ k ∈ order, k < l.toArray.size := fun k hk => by simpa using hlt k hk
  have := wpAny_of_C (P := P) (Q := Q) (R := R) (world := world) (L := fun a' w' => Q .normal a' w') hsel htr hrf (fun k hk => by
      have h1 := hself k (List.mem_range.2 hk)
      simp only [Bool.not_eq_true'] at h1
      exact h1.1) (fun k o ho e he => by
      have hk := (Array.getElem?_eq_some_iff.1 ho).1
      have h1 := hself k (List.mem_range.2 hk)
      rw [ho] at h1
      simpa using Array.all_eq_true'.1 h1.2 e he) (fun _ _ h => h) order.length order (Array.replicate l.toArray.size false) a { w with drawn := w.drawn + 1 } rfl
    (fun k hk => by
      have h1 := hcont k (List.mem_range.2 hk)
      have h2 : k ∈ order := by simpa using h1
      have hk' : k < l.length := by simpa using hk
      simp [h2, hk']) hlt' hnd hpairs (inv0 _) (wpC_of_pick (fun k hk => by simpa using hlt' k hk) (h _ (Ext.drew (Ext.refl w)) rfl))
  rw [hlen] at this
  exact this

/-! ### The steps -/
section steps
variable {L : Act → World → Prop} {a : Act} {w : World} {rest : List (Nat × Oper)} {k : Nat} {o : Oper}

theorem wpC_nil (h : L a w) : wpC' P ops R world L [] a w := h
theorem wpC_pure (v : Value)  (hk : world.contains k = false) (hp : ∀ w', R w w' → PureAt P ops o a v w') (h : wpC' P ops R world L rest (a.put o.dst v) w) :
    wpC' P ops R world L ((k, o) :: rest) a w := .inr ⟨hk, v, hp, h⟩
theorem wpC_val (v : Value)  (hk : world.contains k = false) (hg : Region.wanted o (yielded ops a.tmps) = true) (hr : ∀ w', R w w' → (execOp a.eval o).run P w' = .ok (.value v) w')
    (h : wpC' P ops R world L rest (a.put o.dst v) w) : wpC' P ops R world L ((k, o) :: rest) a w :=
  wpC_pure v hk (fun w' hw => .inl ⟨hg, .inl (hr w' hw)⟩) h
theorem wpC_skip  (hk : world.contains k = false) (hg : Region.wanted o (yielded ops a.tmps) = false) (h : wpC' P ops R world L rest (a.put o.dst undef) w) :
    wpC' P ops R world L ((k, o) :: rest) a w := wpC_pure undef hk (fun _ _ => .inr ⟨hg, rfl⟩) h
theorem wpC_move (x : Operand)  (hk : world.contains k = false) (ho1 : o.op = .move x) (hg : Region.wanted o (yielded ops a.tmps) = true)
    (h : wpC' P ops R world L rest (a.put o.dst (a.eval x)) w) : wpC' P ops R world L ((k, o) :: rest) a w :=
  wpC_val _ hk hg (fun w _ => by unfold execOp; simp only [ho1]; rfl) h
theorem wpC_assign (x : Operand)  (hk : world.contains k = false) (ho1 : o.op = .assign x) (hg : Region.wanted o (yielded ops a.tmps) = true)
    (h : wpC' P ops R world L rest (a.put o.dst (a.eval x)) w) : wpC' P ops R world L ((k, o) :: rest) a w :=
  wpC_val _ hk hg (fun w _ => by unfold execOp; simp only [ho1]; rfl) h
theorem wpC_pick (c x y : Operand) (t : Bool)  (hk : world.contains k = false) (ho1 : o.op = .pick c x y) (hc : a.eval c = .bool t) (hg : Region.wanted o (yielded ops a.tmps) = true)
    (h : wpC' P ops R world L rest (a.put o.dst (if t then a.eval x else a.eval y)) w) : wpC' P ops R world L ((k, o) :: rest) a w :=
  wpC_val _ hk hg (fun w _ => by unfold execOp; simp only [ho1, hc, asBool]; rfl) h
theorem wpC_loadA {T T' : TypeId} {n : Nat} (hT : ArrT P T n) (x : Operand) (b : Nat) (cs : Array Value) (hb : ∀ w', R w w' → Blk w' b T' cs) (hn : cs.size = n)  (hk : world.contains k = false)
    (ho1 : o.op = .load T x) (hx : a.eval x = .pointer (some ⟨b, 0, none⟩)) (hg : Region.wanted o (yielded ops a.tmps) = true) (h : wpC' P ops R world L rest (a.put o.dst (.agg cs)) w) :
    wpC' P ops R world L ((k, o) :: rest) a w :=
  wpC_val _ hk hg (fun w' hw => run_loadA hT x b cs hn ho1 hx (hb w' hw)) h
/-- operations that change the world -/
theorem wpC_valW {v : Value} {w' : World} (ho : ops[k]? = some o) (hk : world.contains k = true) (hg : Region.wanted o (yielded ops a.tmps) = true) (hr : (execOp a.eval o).run P w = .ok (.value v) w') (hR : R w w')
    (h : wpC' P ops R world L rest (a.put o.dst v) w') : wpC' P ops R world L ((k, o) :: rest) a w := by
  refine .inl ⟨hk, ?_⟩
  unfold wpOp
  simp only [ho]
  rw [if_pos hg]
  exact .inl (by unfold Oper.wp; rw [hr]; exact ⟨hR, h⟩)
theorem wpC_unitW {w' : World} (ho : ops[k]? = some o) (hk : world.contains k = true) (hg : Region.wanted o (yielded ops a.tmps) = true) (hr : (execOp a.eval o).run P w = .ok .skip w') (hR : R w w')
    (h : wpC' P ops R world L rest (a.put o.dst undef) w') : wpC' P ops R world L ((k, o) :: rest) a w := by
  refine .inl ⟨hk, ?_⟩
  unfold wpOp
  simp only [ho]
  rw [if_pos hg]
  exact .inl (by unfold Oper.wp; rw [hr]; exact ⟨hR, h⟩)
theorem wpC_skipW (ho : ops[k]? = some o) (hk : world.contains k = true) (hg : Region.wanted o (yielded ops a.tmps) = false) (hR : R w w) (h : wpC' P ops R world L rest (a.put o.dst undef) w) :
    wpC' P ops R world L ((k, o) :: rest) a w := by
  refine .inl ⟨hk, ?_⟩
  unfold wpOp
  simp only [ho]
  rw [if_neg (by simp [hg])]
  exact ⟨hR, h⟩
theorem wpC_callW {f : FuncId} {fn : Func} (xs : List Operand) (ats : Array TypeId) (hf : P.funcs[f]? = some fn) (hn : (fn.name == "runtime.NumGoroutine") = false) (hb : fn.body.isNone = false)
    (ho : ops[k]? = some o) (hk : world.contains k = true) (ho1 : o.op = .call { callee := .value (.func f), args := xs.toArray, argTypes := ats }) (hg : Region.wanted o (yielded ops a.tmps) = true) {V : Value → World → Prop}
    (hc : Calls P f (xs.map a.eval).toArray w (fun e w'' => ∃ v, e = .returned v ∧ V v w''))
    (h : ∀ v w', V v w' → R w w' ∧ wpC' P ops R world L rest (a.put o.dst v) w') : wpC' P ops R world L ((k, o) :: rest) a w := by
  refine .inl ⟨hk, ?_⟩
  unfold wpOp
  simp only [ho]
  rw [if_pos hg]
  refine .inl ?_
  unfold Oper.wp
  rw [run_call xs ats hf hn hb ho1]
  exact hc.mono fun e w'' ⟨v, he, hR⟩ => by subst he; exact h v w'' hR
end steps
end canon
end Go.Kd
