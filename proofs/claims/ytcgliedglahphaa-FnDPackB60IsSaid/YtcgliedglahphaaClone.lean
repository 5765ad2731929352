/- slices.Clone at bytes: a slice of the same bytes in memory of its own. -/
import Derived.Test.YtcgliedglahphaaProg
import Derived.Test.YtcgliedglahphaaStore
import Derived.Lib.Walk
import Derived.Lib.SliceRun
import Derived.Deep.LoopGhost
import Derived.Laws.OwnMore
import Derived.Lib.Hide
namespace Go.Proofs.Ytcgliedglahphaa
open Go Go.Proofs Go.RowKit Go.Kd Go.Lib
theorem infoC : (Try.prog.info? 5).map (fun i => (i.zero, i.size, i.bytes)) = some (some (.int .u8 0), 1, 1) := by kernel_rfl

/-- A slice that begins somewhere in its block. -/
def SlO (w : World) (b off n : Nat) (f : Nat → Int) : Prop := b < w.heap.size ∧ ∀ i, i < n → w.cell? ⟨b, off + i, none⟩ = some (.int .u8 (f i))
theorem SlO.ext {w w' : World} {b off n : Nat} {f : Nat → Int} (h : SlO w b off n f) (hx : Ext w w') : SlO w' b off n f :=
  ⟨Nat.lt_of_lt_of_le h.1 hx.size, fun i hi => (hx.cell h.1).trans (h.2 i hi)⟩
theorem slB_slO {w : World} {b n : Nat} {f : Nat → Int} (h : SlB w b n f) : SlO w b 0 n f := ⟨h.1, fun i hi => by rw [Nat.zero_add]; exact h.2 i hi⟩

set_option maxHeartbeats 2000000 in
set_option maxRecDepth 100000 in
theorem clone_at (b off n c : Nat) (f : Nat → Int) (w : World) (hbig : n ≤ 65536) (hc : SlO w b off n f) :
    Calls Try.prog 8 #[.slice (some ⟨b, off, none⟩) n c] w fun e w' => ∃ v, e = .returned v ∧ ∃ g cap, v = .slice (some ⟨g, 0, none⟩) n cap ∧ w.heap.size ≤ g ∧ SlB w' g n f ∧ Ext w w' := by
  obtain ⟨i0, hi, e⟩ := Option.map_eq_some_iff.1 infoC
  simp only [Prod.mk.injEq] at e
  obtain ⟨hz0, hz1, hz2⟩ := e
  have tS := Try.underlying24
  have q22 : ∀ (w : World) (a : Option Addr) (n c n' c' : Nat), (binOp .eql 24 (.slice a n c) (.slice none n' c')).run Try.prog w = .ok (.bool a.isNone) w := fun w a n c n' c' => Lib.run_eql_slice_nil w _ _ a n c n' c' tS
  have u22 : ∀ w, Sem.run Try.prog (underlying 24) w = .ok (TypeDesc.slice 5) w := run_underlying tS
  have A := Lib.hid hc
  clear hc
  go_enter Try.func8, Try.ntmps8
  go_wp2_with (at_builtin; refine wpList_append_own _ rfl _ _ 24 rfl w.heap.size 5 i0 (.int .u8 0) 1 1 tS hi hz0 hz1 hz2 rfl (by decide) _ _ _ rfl (World.ownsRow_made w #[] 0 (Nat.le_refl _) (Nat.zero_le _) rfl) ?ad ?m ?c ?news ?e3 ?qc1 ?qc2 ?qc3 ?qc4 ?qc5 ?qc6 ?_)
  case e3 => exact (rfl : _ = Value.slice (some ⟨b, off, none⟩) n c)
  case news => exact ((List.range n).map fun i => Value.int .u8 (f i))
  case qc1 => simp
  case qc2 =>
    intro j u hj
    have hjn : j < n := by
      have := (List.getElem?_eq_some_iff.1 hj).1
      simpa using this
    rw [Addr.add_lit]
    refine Lib.cell?_alloc_some _ ?_
    rw [A.out.2 j hjn]
    simpa [hjn] using hj
  case qc3 => intro u hu; obtain ⟨x, _, rfl⟩ := List.mem_map.1 hu; rfl
  case qc4 => unfold maxLen; omega
  case qc5 => omega
  case qc6 => simp
  intro v' w1 hown hgrow hnil
  go_wp2
  go_ret
  have hx : Ext w w1 := ((Below.refl _ w).alloc (Nat.le_refl _) _).grown hgrow (by simp) (by intro k hk; simp [Value.ownBlock] at hk; omega)
  rcases hown.2 with ⟨hv, _⟩ | ⟨g, cap, cur, hv, hg, hb, hn1, _, _, _⟩
  · exact absurd hv hnil
  · have hown' := hown
    rw [hv] at hown'
    have hlt : g < w1.heap.size := (Array.getElem?_eq_some_iff.1 hb).1
    refine ⟨_, rfl, g, cap, hv, hg, ⟨hlt, fun i hi => ?_⟩, hx⟩
    have h1 := World.ownsRow.cellAt hown' i (by omega)
    rw [h1]
    simp [hi]
theorem clone_any (b n c : Nat) (f : Nat → Int) (w : World) (hbig : n ≤ 65536) (hc : SlB w b n f) :
    Calls Try.prog 8 #[.slice (some ⟨b, 0, none⟩) n c] w fun e w' => ∃ v, e = .returned v ∧ ∃ g cap, v = .slice (some ⟨g, 0, none⟩) n cap ∧ w.heap.size ≤ g ∧ SlB w' g n f ∧ Ext w w' :=
  clone_at b 0 n c f w hbig (slB_slO hc)
end Go.Proofs.Ytcgliedglahphaa
