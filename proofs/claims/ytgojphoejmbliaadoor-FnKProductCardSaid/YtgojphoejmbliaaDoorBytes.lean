/- General lemmas, over any program: slices of bytes: made, read as a string, compared; bits put together. -/
import Derived.Test.YtgojphoejmbliaaDoorCanon
import Derived.Test.YtgojphoejmbliaaDoorUpto
import Derived.Laws.BytesArg
import Derived.Laws.MakeOwn
import Derived.Laws.BitsAllLaws
namespace Go.Kd
open Go Go.RowKit

/-- the bytes f 0 .. f (n - 1) -/
def strOf (n : Nat) (f : Nat → Int) : ByteArray := strOfNums ((List.range n).map f)
theorem strOf_congr {n : Nat} {f g : Nat → Int} (h : ∀ i, i < n → f i = g i) : strOf n f = strOf n g := by
  unfold strOf
  congr 1
  exact List.map_congr_left fun i hi => h i (List.mem_range.1 hi)

/-- Block b holds, from its head on, the bytes f 0 .. f (n - 1). -/
def SlB (w : World) (b n : Nat) (f : Nat → Int) : Prop := b < w.heap.size ∧ ∀ i, i < n → w.cell? ⟨b, i, none⟩ = some (.int .u8 (f i))
theorem SlB.ext {w w' : World} {b n : Nat} {f : Nat → Int} (h : SlB w b n f) (hx : Ext w w') : SlB w' b n f :=
  ⟨Nat.lt_of_lt_of_le h.1 hx.size, fun i hi => (hx.cell h.1).trans (h.2 i hi)⟩
theorem Blk.slB {w : World} {b n : Nat} {T : TypeId} {f : Nat → Int} (h : Blk w b T (cellsF n (ints .u8 f))) : SlB w b n f := ⟨h.lt, fun _ hi => h.cell hi⟩

section bytes
variable {P : Program} {ops : Array Oper} {Q : Exit → Act → World → Prop} {a : Act} {w : World} {rest : List Oper} {o : Oper}

theorem run_str {S E D : TypeId} (hS : P.underlying S = some (.slice E)) (hE : P.underlying E = some (.int .u8)) (hD : P.underlying D = some .string) (x : Operand) (b n c : Nat) (f : Nat → Int) (hb : SlB w b n f)
    (ho : o.op = .convert S D x) (hx : a.eval x = .slice (some ⟨b, 0, none⟩) n c) : (execOp a.eval o).run P w = .ok (.value (.string (strOf n f))) w := by
  have h := run_convert_bytes_arg (P := P) w S E hS hE b 0 n c ((List.range n).map f) (by simp) (fun i hi => by
    rw [Nat.zero_add, hb.2 i hi]
    simp [List.getD, hi]) D hD
  unfold execOp
  simp only [ho, hx, Sem.run_bind, h]
  rfl

theorem made_cellsF (n : Nat) : madeCells #[Value.int .u8 0] n = cellsF n (ints .u8 fun _ => 0) :=
  cellsF_of n _ _ (size_madeCells _ _) fun i hi => by simp [madeCells, hi, ints, Nat.mod_one]

theorem run_makeB {S E : TypeId} (hS : P.underlying S = some (.slice E)) (hi : (P.info? E).map (fun i => (i.zero, i.size, i.bytes)) = some (some (.int .u8 0), 1, 1)) (x y : Operand) (n : Nat) (hn : n ≤ 65536)
    (ho : o.op = .makeSlice S x y) (hx : a.eval x = .int .i64 n) (hy : a.eval y = .int .i64 n) :
    (execOp a.eval o).run P w = .ok (.value (.slice (some ⟨w.heap.size, 0, none⟩) n n)) (w.alloc (.cells (cellsF n (ints .u8 fun _ => 0)) E)) := by
  obtain ⟨i, hi, e⟩ := Option.map_eq_some_iff.1 hi
  simp only [Prod.mk.injEq] at e
  obtain ⟨hz, h1, h2⟩ := e
  have h := run_make (P := P) w S E i _ hS hi hz .i64 .i64 n n (by omega) (by omega) (by rw [h2]; omega) (by omega)
  rw [h1, Int.toNat_natCast, Nat.mul_one, show (Value.int IntKind.u8 0).cells = #[Value.int .u8 0] by rfl, made_cellsF] at h
  unfold execOp
  simp only [ho, hx, hy, Sem.run_bind, h]
  rfl

theorem wpList_makeB {S E : TypeId} (hS : P.underlying S = some (.slice E)) (hi : (P.info? E).map (fun i => (i.zero, i.size, i.bytes)) = some (some (.int .u8 0), 1, 1)) (x y : Operand) (n : Nat) (hn : n ≤ 65536)
    (ho : o.op = .makeSlice S x y) (hx : a.eval x = .int .i64 n) (hy : a.eval y = .int .i64 n) (hg : Region.wanted o (yielded ops a.tmps) = true)
    (h : ∀ w' b, w.heap.size ≤ b → Ext w w' → Blk w' b E (cellsF n (ints .u8 fun _ => 0)) → wpList P ops Q rest (a.put o.dst (.slice (some ⟨b, 0, none⟩) n n)) w') : wpList P ops Q (o :: rest) a w :=
  wpList_val hg (run_makeB hS hi x y n hn ho hx hy) (h _ _ (Nat.le_refl _) (Ext.alloc (Ext.refl w) _) (blk_new w _ E))
theorem run_eqlS (T Ty : TypeId) (x y : Operand) (s : ByteArray) (ho : o.op = .binOp .eql T x y Ty) (hx : a.eval x = .string s) (hy : a.eval y = .string s) :
    (execOp a.eval o).run P w = .ok (.value (.bool true)) w := by
  unfold execOp
  simp only [ho, hx, hy, eqGuard_at_string, binOp_string_eql, Sem.run_bind, Sem.run_pure, Result.andThen, beq_self_eq_true]
end bytes

/-- the number of the lowest r bits from the place 8 t on -/
def octet (bit : Nat → Int) (t : Nat) : Nat → Int
  | 0 => 0
  | r + 1 => octet bit t r + bit (8 * t + r) * 2 ^ r
theorem octet_bd {bit : Nat → Int} (hb : ∀ q, 0 ≤ bit q ∧ bit q ≤ 1) (t : Nat) : ∀ r, 0 ≤ octet bit t r ∧ octet bit t r < 2 ^ r
  | 0 => ⟨by unfold octet; omega, by unfold octet; decide⟩
  | r + 1 => by
    have ih := octet_bd hb t r
    have hq := hb (8 * t + r)
    unfold octet
    have h01 : bit (8 * t + r) = 0 ∨ bit (8 * t + r) = 1 := by omega
    have hp : (2 : Int) ^ (r + 1) = 2 ^ r * 2 := by rw [Int.pow_succ]
    rcases h01 with h | h <;> rw [h, hp] <;> omega
/-- the byte t when m bits have been laid -/
def encAt (bit : Nat → Int) (m t : Nat) : Int := octet bit t (min 8 (m - 8 * t))
theorem encAt_zero (bit : Nat → Int) (t : Nat) : encAt bit 0 t = 0 := by unfold encAt; rw [show min 8 (0 - 8 * t) = 0 by omega]; rfl
theorem encAt_all {bit : Nat → Int} {m t : Nat} (h : 8 * t + 8 ≤ m) : encAt bit m t = octet bit t 8 := by unfold encAt; rw [show min 8 (m - 8 * t) = 8 by omega]
theorem encAt_here (bit : Nat → Int) (m : Nat) : encAt bit m (m / 8) = octet bit (m / 8) (m % 8) := by unfold encAt; rw [show min 8 (m - 8 * (m / 8)) = m % 8 by omega]
theorem encAt_step (bit : Nat → Int) (m t : Nat) : encAt bit (m + 1) t = if t = m / 8 then encAt bit m (m / 8) + bit m * 2 ^ (m % 8) else encAt bit m t := by
  by_cases h : t = m / 8
  · rw [if_pos h, encAt_here]
    subst h
    unfold encAt
    rw [show min 8 (m + 1 - 8 * (m / 8)) = m % 8 + 1 by omega]
    show octet bit (m / 8) (m % 8) + bit (8 * (m / 8) + m % 8) * 2 ^ (m % 8) = _
    rw [show 8 * (m / 8) + m % 8 = m by omega]
  · rw [if_neg h]
    unfold encAt
    rw [show min 8 (m + 1 - 8 * t) = min 8 (m - 8 * t) by omega]
/-- the q-th bit of numbers of d bits -/
def bitL (l : Nat → Int) (d q : Nat) : Int := l (q / d) / 2 ^ (q % d) % 2
theorem bitL_bd (l : Nat → Int) (d q : Nat) : 0 ≤ bitL l d q ∧ bitL l d q ≤ 1 := by unfold bitL; omega
/-- the bytes of numbers of d bits each -/
def enc (l : Nat → Int) (d t : Nat) : Int := octet (bitL l d) t 8

/-- bits that do not meet -/
theorem or_u8 (x y : Int) (k : Nat) (z : Int) (hx : 0 ≤ x) (hx2 : x < 2 ^ k) (hy : y = 2 ^ k * z) (hz : 0 ≤ z) (hs : x + y < 256) : bits .or .u8 x y = x + y := by
  obtain ⟨x', rfl⟩ := Int.eq_ofNat_of_zero_le hx
  obtain ⟨z', rfl⟩ := Int.eq_ofNat_of_zero_le hz
  have e : (2 : Int) ^ k * (z' : Int) = ((2 ^ k * z' : Nat) : Int) := by push_cast; rfl
  have hx3 : x' < 2 ^ k := by
    have : ((x' : Nat) : Int) < ((2 ^ k : Nat) : Int) := by push_cast; exact hx2
    omega
  subst hy
  rw [e] at hs ⊢
  rw [u8_or_nat x' (2 ^ k * z') (by omega) (by omega), Nat.or_comm, ← Nat.two_pow_add_eq_or_of_lt hx3]
  omega
theorem or8 (x y : Int) (k : Nat) (z : Int) (hx : 0 ≤ x) (hx2 : x < 2 ^ k) (hy : y = 2 ^ k * z) (hz : 0 ≤ z) (hs : x + y < 256) : bits .or .u8 x y = x + y := or_u8 x y k z hx hx2 hy hz hs
theorem or_nat_sum (x z : Nat) (k : Nat) (h : x < 2 ^ k) : x ||| 2 ^ k * z = x + 2 ^ k * z := by
  rw [Nat.or_comm, ← Nat.two_pow_add_eq_or_of_lt h]
  omega
theorem or_u32 (x y : Int) (k : Nat) (z : Int) (hx : 0 ≤ x) (hx2 : x < 2 ^ k) (hy : y = 2 ^ k * z) (hz : 0 ≤ z) (hs : x + y < 4294967296) : bits .or .u32 x y = x + y := by
  obtain ⟨x', rfl⟩ := Int.eq_ofNat_of_zero_le hx
  obtain ⟨z', rfl⟩ := Int.eq_ofNat_of_zero_le hz
  have e : (2 : Int) ^ k * (z' : Int) = ((2 ^ k * z' : Nat) : Int) := by push_cast; rfl
  have hx3 : x' < 2 ^ k := by
    have : ((x' : Nat) : Int) < ((2 ^ k : Nat) : Int) := by push_cast; exact hx2
    omega
  subst hy
  rw [e] at hs ⊢
  rw [u32_or_nat x' (2 ^ k * z') (by omega) (by omega), or_nat_sum x' z' k hx3]
  omega
theorem and_u32 (x : Int) (n : Nat) (m : Int) (h : 0 ≤ x ∧ x ≤ 4294967295) (hm : m = ((2 ^ n - 1 : Nat) : Int)) (hn : n ≤ 32) : bits BinOp.and IntKind.u32 x m = x % ((2 ^ n : Nat) : Int) := by
  subst hm
  have h32 : 2 ^ n ≤ 2 ^ 32 := Nat.pow_le_pow_right (by omega) hn
  rw [u32_and x _ h.1 (by omega) (by omega) (by omega), Int.toNat_natCast, Nat.and_two_pow_sub_one_eq_mod]
  obtain ⟨y, rfl⟩ := Int.eq_ofNat_of_zero_le h.1
  rw [Int.toNat_natCast]
  rfl
end Go.Kd
