/- General lemmas, over any program: worlds that only grow; a region whose order is drawn, where each operation gives the same value in whatever order. -/
import Derived.WalkKit
import Derived.WalkLawsBesides
import Derived.WalkSpells
import Derived.StillTail
import Derived.StillTailTactics
import Derived.Deep.WholeRow
import Derived.Deep.QuietTactic
import Derived.BigQuiet
import Derived.ProofKit
import Derived.OpenShut
namespace Go.Kd
open Go Go.RowKit

/-- The world w' is w with new blocks behind it. -/
def Ext (w w' : World) : Prop := Below w.heap.size w w'

namespace Ext
variable {w w1 w2 : World}
theorem refl (w : World) : Ext w w := Below.refl _ _
theorem trans (h : Ext w w1) (k : Ext w1 w2) : Ext w w2 := Below.trans h (Below.mono k (Below.size h))
theorem alloc (h : Ext w w1) (o : Obj) : Ext w (w1.alloc o) := Below.alloc h (Below.size h) o
theorem drew (h : Ext w w1) : Ext w w1.drew := Below.drew h
theorem setCell (h : Ext w w1) {p : Addr} (hp : w.heap.size ≤ p.block) (u : Value) : Ext w (w1.setCell p u) := Below.setCell h hp u
theorem cell (h : Ext w w1) {p : Addr} (hp : p.block < w.heap.size) : w1.cell? p = w.cell? p := Below.cell h hp
theorem block (h : Ext w w1) {k : Nat} (hk : k < w.heap.size) : w1.heap[k]? = w.heap[k]? := Below.block h k hk
theorem size (h : Ext w w1) : w.heap.size ≤ w1.heap.size := Below.size h
end Ext

section region
variable {P : Program} {ops : Array Oper}

/-- The operation o, met at the frame a in whatever world that has grown out of w0, gives v, and the world grows at most. -/
def DetAt (P : Program) (ops : Array Oper) (w0 : World) (o : Oper) (a : Act) (v : Value) : Prop :=
  (Region.wanted o (yielded ops a.tmps) = true ∧ ∀ w, Ext w0 w →
    ((∃ w', (execOp a.eval o).run P w = .ok (.value v) w' ∧ Ext w w') ∨ ((execOp a.eval o).run P w = .ok .skip w ∧ v = undef) ∨
      ∃ f args, (execOp a.eval o).run P w = .ok (.enter f args) w ∧ Calls P f args w (fun e w'' => e = .returned v ∧ Ext w w''))) ∨
  (Region.wanted o (yielded ops a.tmps) = false ∧ v = undef)

theorem DetAt.of_same {w0 : World} {o : Oper} {v : Value} {a a' : Act} (hy : DetAt P ops w0 o a v) (he : execOp a'.eval o = execOp a.eval o)
    (hw : Region.wanted o (yielded ops a'.tmps) = Region.wanted o (yielded ops a.tmps)) : DetAt P ops w0 o a' v := by
  unfold DetAt at *
  rw [he, hw]
  exact hy

theorem DetAt.wpOp {w0 w : World} {Q : Exit → Act → World → Prop} {i : Nat} {o : Oper} {v : Value} {a : Act} (hi : ops[i]? = some o) (hy : DetAt P ops w0 o a v) (hx : Ext w0 w)
    {K : Act → World → Prop} (h : ∀ w', Ext w w' → K (a.put o.dst v) w') : wpOp P ops Q i K a w := by
  unfold Go.wpOp
  simp only [hi]
  rcases hy with ⟨hw, hv⟩ | ⟨hw, rfl⟩
  · simp only [hw, if_true]
    refine .inl ?_
    rcases hv w hx with ⟨w', hr, he⟩ | ⟨hr, rfl⟩ | ⟨f, args, hr, hc⟩
    · simp only [Oper.wp, hr, Oper.upon]; exact h _ he
    · simp only [Oper.wp, hr, Oper.upon]; exact h _ (Ext.refl _)
    · simp only [Oper.wp, hr, Oper.upon]
      exact hc.mono fun e w'' ⟨he, hg⟩ => by subst he; exact h _ hg
  · simp only [hw, Bool.false_eq_true, if_false]; exact h _ (Ext.refl _)

theorem oper_wp_Q {o : Oper} {a : Act} {w : World} {K : Act → World → Prop} {Q Q' : Exit → Act → World → Prop} (h : ∀ e a w, Q e a w → Q' e a w)
    (hh : o.wp P a w K Q) : o.wp P a w K Q' := by
  unfold Oper.wp at *
  generalize (execOp a.eval o).run P w = r at *
  cases r with
  | ok n w' =>
    cases n <;> simp only [Oper.upon] at hh ⊢ <;>
      first
        | exact hh
        | exact Calls.mono hh (fun e w'' he => by
            cases e with
            | returned v => exact he
            | panicked c => exact h _ _ _ he
            | outgrown => obtain ⟨a0, w0, hq⟩ := he; exact ⟨a0, w0, h _ _ _ hq⟩)
  | halt x w' => cases x <;> simp only [Oper.upon] at hh ⊢ <;> exact h _ _ _ hh

theorem wpOp_Q {i : Nat} {a : Act} {w : World} {K : Act → World → Prop} {Q Q' : Exit → Act → World → Prop} (h : ∀ e a w, Q e a w → Q' e a w)
    (hh : wpOp P ops Q i K a w) : wpOp P ops Q' i K a w := by
  unfold Go.wpOp at *
  split
  · simpa [*] using hh
  · rename_i o ho
    simp only [ho] at hh
    split
    · rename_i hw; simp only [hw, if_true] at hh
      rcases hh with hh | ⟨hh, a0, w0, hq⟩
      · exact .inl (oper_wp_Q h hh)
      · exact .inr ⟨hh, a0, w0, h _ _ _ hq⟩
    · rename_i hw; simp only [hw] at hh; exact hh

def Qbot : Exit → Act → World → Prop := fun _ _ _ => False

/-- Another operation j, met where i has been carried out, goes as well where i is still to come. -/
theorem wpOp_putD {w0 : World} {j : Nat} {oi oj : Oper} {v : Value} (hj : ops[j]? = some oj) (hap : oi.apart ops oj = true)
    (hsi : ∀ cs b, oi.op ≠ .select cs b) (hsj : ∀ cs b, oj.op ≠ .select cs b) {K : Act → World → Prop} {a : Act} {w : World}
    (hy : DetAt P ops w0 oi a v) (h : wpOp P ops Qbot j K (a.put oi.dst v) w) :
    wpOp P ops Qbot j (fun a' w' => DetAt P ops w0 oi a' v ∧ K (a'.put oi.dst v) w') a w := by
  obtain ⟨h1, h2, h3⟩ := Oper.apart_spec hap
  have keep : ∀ (a : Act), DetAt P ops w0 oi a v → ∀ u, DetAt P ops w0 oi (a.put oj.dst u) v := fun a hy u =>
    hy.of_same (execOp_put oi hsi a oj.dst u h3) (wanted_put oi a oj.dst u h3)
  have keepD : ∀ d, DetAt P ops w0 oi { a with defers := d :: a.defers } v := fun d => hy.of_same rfl rfl
  unfold wpOp at *
  simp only [hj] at *
  rw [wanted_put oj a oi.dst v h1] at h
  split
  · rename_i hw
    simp only [hw, if_true] at h
    rcases h with h | ⟨hasks, hlets⟩
    case inr => obtain ⟨_, _, hf⟩ := hlets; exact hf.elim
    refine .inl ?_
    unfold Oper.wp at *
    rw [execOp_put oj hsj a oi.dst v h1] at h
    generalize (execOp a.eval oj).run P w = r at *
    cases r with
    | ok n w' =>
      cases n <;> simp only [Oper.upon] at h ⊢
      case value u => exact ⟨keep a hy u, by rw [← Act.put_comm a v u h2]; exact h⟩
      case skip => exact ⟨keep a hy _, by rw [← Act.put_comm a v undef h2]; exact h⟩
      case defer d =>
        refine ⟨keep _ (keepD d) _, ?_⟩
        rw [← Act.put_comm _ v undef h2, ← Act.put_defers]
        exact h
      case enter f args =>
        refine Calls.mono h fun e w'' he => ?_
        cases e with
        | returned u => exact ⟨keep a hy u, by rw [← Act.put_comm a v u h2]; exact he⟩
        | panicked c => exact he.elim
        | outgrown => obtain ⟨_, _, hf⟩ := he; exact hf.elim
      case row row args => exact Rows.mono h fun u w'' he => ⟨keep a hy u, by rw [← Act.put_comm a v u h2]; exact he⟩
    | halt x w' =>
      cases x <;> simp only [Oper.upon] at h ⊢
      case panic u => exact h.elim
  · rename_i hw
    simp only [hw] at h
    exact ⟨keep a hy _, by rw [← Act.put_comm a v undef h2]; exact h⟩

/-- 'n' operations at the head are carried out in whatever order; between any two of them the world may grow. -/
def wpG (P : Program) (ops : Array Oper) (w0 : World) (n : Nat) (L : Array Bool → Act → World → Prop) : Nat → Array Bool → Act → World → Prop
  | 0, listed, a, w => ∀ w', Ext w w' → L listed a w'
  | f + 1, listed, a, w => ∀ w', Ext w w' → Region.ready .any ops listed ≠ [] ∧
      ∀ i ∈ Region.ready .any ops listed, i < n ∧ wpOp P ops Qbot i (fun a'' w'' => Ext w0 w'' ∧ wpG P ops w0 n L f (listed.setIfInBounds i true) a'' w'') a w'

theorem wpG_ext {w0 : World} {n : Nat} {L : Array Bool → Act → World → Prop} {f : Nat} {listed : Array Bool} {a : Act} {w w1 : World} (h : wpG P ops w0 n L f listed a w) (hx : Ext w w1) :
    wpG P ops w0 n L f listed a w1 := by
  cases f with
  | zero => exact fun w' hw' => h w' (hx.trans hw')
  | succ f => exact fun w' hw' => h w' (hx.trans hw')

theorem wpG_first {w0 : World} {n i : Nat} {oi : Oper} {v : Value} {L : Array Bool → Act → World → Prop} (hi : ops[i]? = some oi)
    (hsel : ∀ (j : Nat) (o : Oper) cs b, ops[j]? = some o → o.op ≠ .select cs b) (hin : i < n)
    (hwait : ∀ listed, HeadInv .any ops n listed → listed.getD i true = false → ∀ j ∈ Region.ready .any ops listed, j < n)
    (hdone : ∀ listed a w, L listed a w → ∀ j ∈ Region.ready .any ops listed, n ≤ j) :
    ∀ (f : Nat) (listed : Array Bool) (a : Act) (w : World), HeadInv .any ops n listed → Ext w0 w →
      (∀ j oj, ops[j]? = some oj → j ≠ i → listed.getD j true = false → (∀ e ∈ oj.after, Region.binds .any e = true → e.on ≠ i) → oi.apart ops oj = true) →
      i ∈ Region.ready .any ops listed → DetAt P ops w0 oi a v →
      wpG P ops w0 n L f (listed.setIfInBounds i true) (a.put oi.dst v) w → wpG P ops w0 n L (f + 1) listed a w := by
  intro f
  induction f with
  | zero =>
    intro listed a w inv hx _ hr hy H w' hw'
    have hun := (mem_ready.1 hr).1
    refine ⟨fun h => (by rw [h] at hr; cases hr), fun j hj => ?_⟩
    have hjn := hwait listed inv hun j hj
    refine ⟨hjn, ?_⟩
    by_cases hji : j = i
    · subst hji
      exact hy.wpOp hi (hx.trans hw') fun w'' he => ⟨(hx.trans hw').trans he, wpG_ext H (hw'.trans he)⟩
    · have := hdone _ _ _ (H w' hw') j (ready_mono hj hji)
      omega
  | succ f ih =>
    intro listed a w inv hx hfree hr hy H w' hw'
    have hun := (mem_ready.1 hr).1
    refine ⟨fun h => (by rw [h] at hr; cases hr), fun j hj => ?_⟩
    have hjn := hwait listed inv hun j hj
    refine ⟨hjn, ?_⟩
    by_cases hji : j = i
    · subst hji
      exact hy.wpOp hi (hx.trans hw') fun w'' he => ⟨(hx.trans hw').trans he, wpG_ext H (hw'.trans he)⟩
    · have h1 := ((H w' hw').2 j (ready_mono hj hji)).2
      obtain ⟨hjun, oj, hoj, hall⟩ := mem_ready.1 hj
      have hnot : ∀ e ∈ oj.after, Region.binds .any e = true → e.on ≠ i := fun e he hb heq => by
        have h1 := hall e he hb
        rw [heq, getD_both hun] at h1
        cases h1
      have h2 := wpOp_putD hoj (hfree j oj hoj hji hjun hnot) (fun cs b => hsel i oi cs b hi) (fun cs b => hsel j oj cs b hoj) hy h1
      have hfree' : ∀ k ok, ops[k]? = some ok → k ≠ i → (listed.setIfInBounds j true).getD k true = false →
          (∀ e ∈ ok.after, Region.binds .any e = true → e.on ≠ i) → oi.apart ops ok = true := fun k ok hk hki hun hno => by
        refine hfree k ok hk hki ?_ hno
        by_cases hjk : j = k
        · subst hjk; exact hjun
        · rw [getD_set_ne true hjk] at hun; exact hun
      refine wpOp_mono (fun a' w'' h3 => ?_) h2
      refine ⟨h3.2.1, ih (listed.setIfInBounds j true) a' w'' (inv.set hj hjn) h3.2.1 hfree' (ready_mono hr (Ne.symm hji)) h3.1 ?_⟩
      rw [Array.setIfInBounds_comm _ _ hji]
      exact h3.2.2

/-- The list of operations, met in the order of the text; each gives one value, whatever the world has grown to. -/
def wpDet (P : Program) (ops : Array Oper) (w0 : World) (L : Act → Prop) : List Oper → Act → Prop
  | [], a => L a
  | o :: rest, a => ∃ v, DetAt P ops w0 o a v ∧ wpDet P ops w0 L rest (a.put o.dst v)

def markFrom : Nat → Nat → Array Bool → Array Bool
  | 0, _, l => l
  | f + 1, k, l => markFrom f (k + 1) (l.setIfInBounds k true)

def lexC (ops : Array Oper) : Nat → Nat → Array Bool → Bool
  | 0, _, _ => true
  | f + 1, k, listed => (Region.ready .any ops listed).contains k && Region.free .any ops listed k && lexC ops f (k + 1) (listed.setIfInBounds k true)

theorem wpG_lex {w0 w : World} {n g : Nat} {L : Array Bool → Act → World → Prop} (hsel : Region.noSelect ops = true)
    (hwait : ∀ i, i < n → ∀ listed, HeadInv .any ops n listed → listed.getD i true = false → ∀ j ∈ Region.ready .any ops listed, j < n)
    (hdone : ∀ listed a w, L listed a w → ∀ j ∈ Region.ready .any ops listed, n ≤ j) (hx : Ext w0 w) :
    ∀ (l : List Oper) (k : Nat) (listed : Array Bool) (a : Act), (∀ j, j < l.length → l[j]? = ops[k + j]?) → k + l.length ≤ n → HeadInv .any ops n listed →
    lexC ops l.length k listed = true → wpDet P ops w0 (fun a' => wpG P ops w0 n L g (markFrom l.length k listed) a' w) l a → wpG P ops w0 n L (l.length + g) listed a w
  | [], k, listed, a, _, _, _, _, h => by simpa [markFrom, wpDet] using h
  | o :: l, k, listed, a, hl, hk, inv, hB, h => by
    have h0 : ops[k]? = some o := by simpa using (hl 0 (by simp)).symm
    simp only [List.length_cons, lexC, Bool.and_eq_true] at hB
    obtain ⟨⟨hr, hf⟩, hB'⟩ := hB
    have hkn : k < n := by simp only [List.length_cons] at hk; omega
    have hr' : k ∈ Region.ready .any ops listed := by simpa using hr
    obtain ⟨v, hy, hK⟩ := h
    rw [List.length_cons, Nat.add_right_comm]
    exact wpG_first h0 (Region.noSelect_spec hsel) hkn (hwait k hkn) hdone (l.length + g) listed a w inv hx (Region.free_spec h0 hf) hr' hy
      (wpG_lex hsel hwait hdone hx l (k + 1) _ _ (fun j hj => by have := hl (j + 1) (by simp; omega); simpa [Nat.add_assoc, Nat.add_comm 1 j] using this) (by simp only [List.length_cons] at hk; omega) (inv.set hr' hkn) hB' hK)

theorem wpAny_of_G {w0 : World} {n g : Nat} {L : Array Bool → Act → World → Prop} {Q : Exit → Act → World → Prop}
    (hL : ∀ listed a w, L listed a w → wpAny P .any ops Q g listed a w) :
    ∀ (f : Nat) (listed : Array Bool) (a : Act) (w : World), wpG P ops w0 n L f listed a w → wpAny P .any ops Q (f + g) listed a w
  | 0, listed, a, w, h => by rw [Nat.zero_add]; exact hL _ _ _ (h w (Ext.refl _))
  | f + 1, listed, a, w, h => by
    rw [show f + 1 + g = (f + g) + 1 by omega]
    have h' := h w (Ext.refl _)
    exact ⟨fun h0 => absurd h0 h'.1, fun i hi => wpOp_Q (fun _ _ _ hf => hf.elim) (wpOp_mono (fun a' w' h2 => wpAny_of_G hL f _ a' w' h2.2) (h'.2 i hi).2)⟩

theorem inv0 {ops : Array Oper} (n : Nat) : HeadInv .any ops n (Array.replicate ops.size false) :=
  ⟨by simp, fun j oj _ hl => (by rw [getD_replicate_false] at hl; cases hl), fun t _ ht => getD_in (by simpa using ht) (getD_replicate_false _ _)⟩

theorem Ext.of_drawn {w w' : World} {k : Nat} (h : Ext { w with drawn := k } w') : Ext w w' := by
  have h' : Below w.heap.size { w with drawn := k } w' := h
  exact ⟨h'.os, h'.tape, h'.output, h'.size, h'.block⟩

theorem wpDet_mono {L L' : Act → Prop} {w0 : World} (hL : ∀ a, L a → L' a) : ∀ {l : List Oper} {a : Act}, wpDet P ops w0 L l a → wpDet P ops w0 L' l a
  | [], _, h => hL _ h
  | _ :: _, _, ⟨v, h1, h2⟩ => ⟨v, h1, wpDet_mono hL h2⟩

/-- The check of a region that is met by 'wp_region_det': every operation may be met in the order of the text. -/
def allB (ops : Array Oper) : Bool := Region.noSelect ops && lexC ops ops.size 0 (Array.replicate ops.size false) && (Region.ready .any ops (markFrom ops.size 0 (Array.replicate ops.size false))).isEmpty

theorem wp_region_det {id : Nat} {Q : Exit → Act → World → Prop} {a : Act} {w : World} {l : List Oper} (hm : P.follows .mixedOrders = true) (hB : allB l.toArray = true)
    (h : wpDet P l.toArray w (fun a' => ∀ w', Ext w w' → Q .normal a' w') l a) : (Code.region id l.toArray true).wp P Q a w := by
  simp only [allB, Bool.and_eq_true, List.isEmpty_iff] at hB
  obtain ⟨⟨hsel, hlex⟩, hend⟩ := hB
  have hn : l.toArray.size = l.length := by simp
  have H := wpG_lex (P := P) (ops := l.toArray) (w0 := w) (w := { w with drawn := w.drawn + 1 }) (n := l.length) (g := 0) (L := fun listed a' w' => Region.ready .any l.toArray listed = [] ∧ Q .normal a' w') hsel
    (fun i _ listed _ _ j hj => by
      obtain ⟨_, o, ho, _⟩ := mem_ready.1 hj
      have := (Array.getElem?_eq_some_iff.1 ho).1
      omega)
    (fun listed a w hL j hj => by rw [hL.1] at hj; cases hj) (Ext.drew (Ext.refl w)) l 0 (Array.replicate l.toArray.size false) a (fun j hj => by simp) (by omega) (inv0 _) (by rw [← hn]; exact hlex) (by
      refine wpDet_mono ?_ h
      intro a' ha w' hw'
      exact ⟨by rw [← hn]; exact hend, ha w' (Ext.of_drawn hw')⟩)
  refine wp_region_any hm ?_
  have H2 := wpAny_of_G (Q := Q) (g := 0) (fun listed a w hL => ⟨hL.1, hL.2⟩) _ _ _ _ H
  rw [hn]
  exact H2

theorem lexHead_split {g : Nat} : ∀ (f k : Nat) (listed : Array Bool), Region.lexHead .any ops g f k listed = true →
    lexC ops f k listed = true ∧ Region.seqB .any ops g (k + f) (markFrom f k listed) = true
  | 0, k, listed, h => ⟨rfl, by simpa [Region.lexHead, markFrom] using h⟩
  | f + 1, k, listed, h => by
    simp only [Region.lexHead, Bool.and_eq_true] at h
    obtain ⟨⟨h1, h2⟩, h3⟩ := h
    have ih := lexHead_split f (k + 1) _ h3
    refine ⟨by simp only [lexC, Bool.and_eq_true]; exact ⟨⟨h1, h2⟩, ih.1⟩, ?_⟩
    have := ih.2
    rw [show k + (f + 1) = k + 1 + f by omega]
    exact this

/-- A region whose first n operations each give one value in whatever order; the others follow, one behind the other. -/
theorem wp_region_det_tail {id : Nat} {Q : Exit → Act → World → Prop} {a : Act} {w : World} {l : List Oper} (n : Nat) (hm : P.follows .mixedOrders = true) (hB : Region.lexTailB .any l.toArray n = true)
    (h : wpDet P l.toArray w (fun a' => ∀ w', Ext w w' → wpList P l.toArray Q (l.drop n) a' w') (l.take n) a) : (Code.region id l.toArray true).wp P Q a w := by
  simp only [Region.lexTailB, Bool.and_eq_true, decide_eq_true_eq] at hB
  obtain ⟨⟨⟨⟨hsel, hn⟩, hs⟩, hc⟩, hlex⟩ := hB
  have hn' : n < l.length := by simpa using hn
  have htl : (l.take n).length = n := by simp; omega
  have hdl : (l.drop n).length = l.toArray.size - n := by simp
  obtain ⟨hlexC, hseq⟩ := lexHead_split _ _ _ hlex
  have H := wpG_lex (P := P) (ops := l.toArray) (w0 := w) (w := { w with drawn := w.drawn + 1 }) (n := n) (g := 0)
    (L := fun listed a' w' => Region.seqB .any l.toArray (l.toArray.size - n) n listed = true ∧ wpList P l.toArray Q (l.drop n) a' w') hsel
    (fun i hi listed inv hun j hj => by
      rcases Nat.lt_or_ge j n with h | h
      · exact h
      · exact absurd hj (tail_waits hs hc hn inv _ i rfl hi hun j h))
    (fun listed a w hL j hj => seqB_ready hL.1 j hj) (Ext.drew (Ext.refl w)) (l.take n) 0 (Array.replicate l.toArray.size false) a
    (fun j hj => by
      have hj' : j < n := by rw [htl] at hj; exact hj
      simp [hj']) (by omega) (inv0 _) (by rw [htl]; exact hlexC) (by
      refine wpDet_mono ?_ h
      intro a' ha w' hw'
      refine ⟨?_, ha w' (Ext.of_drawn hw')⟩
      rw [htl]
      simpa using hseq)
  refine wp_region_any hm ?_
  have H2 := wpAny_of_G (Q := Q) (g := l.toArray.size - n) (fun listed a w hL => by
    have := wpAny_of_seq (md := .any) (Q' := Q) (l.drop n) n listed a w (fun j => by simp [List.getElem?_drop]) (by rw [hdl]; exact hL.1) hL.2
    rwa [hdl] at this) _ _ _ _ H
  rw [htl, show n + 0 + (l.toArray.size - n) = l.toArray.size by omega] at H2
  exact H2

end region
end Go.Kd
