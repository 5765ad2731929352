/- Dilithium's functions of one number: what ReduceLe2Q, le2qModQ, modQ, montReduceLe2Q and power2round return. -/
import Derived.Test.YtnehgjpphojhlaaDoorProg
import Derived.Test.YtnehgjpphojhlaaDoorLib
import Derived.Lib.Hide
namespace Go.Proofs.YtnehgjpphojhlaaDoor
open Go Go.Proofs Go.RowKit Go.Kd

theorem ret_k {k : IntKind} {a b : Int} (h : a = b) : Ending.returned (.int k a) = .returned (.int k b) := by rw [h]
theorem ret_k2 {k : IntKind} {a b c d : Int} (h : a = b) (h' : c = d) : Ending.returned (.tuple #[.int k a, .int k c]) = .returned (.tuple #[.int k b, .int k d]) := by rw [h, h']

theorem and32 (x : Int) (n : Nat) (m : Int) (h : 0 ≤ x ∧ x ≤ 4294967295) (hm : m = ((2 ^ n - 1 : Nat) : Int)) (hn : n ≤ 32) : bits BinOp.and IntKind.u32 x m = x % ((2 ^ n : Nat) : Int) := by
  subst hm
  have h32 : 2 ^ n ≤ 2 ^ 32 := Nat.pow_le_pow_right (by omega) hn
  rw [u32_and x _ h.1 (by omega) (by omega) (by omega), Int.toNat_natCast, Nat.and_two_pow_sub_one_eq_mod]
  obtain ⟨y, rfl⟩ := Int.eq_ofNat_of_zero_le h.1
  rw [Int.toNat_natCast]
  rfl
theorem and64 (x : Int) (n : Nat) (m : Int) (h : 0 ≤ x ∧ x ≤ 18446744073709551615) (hm : m = ((2 ^ n - 1 : Nat) : Int)) (hn : n ≤ 64) : bits BinOp.and IntKind.u64 x m = x % ((2 ^ n : Nat) : Int) := by
  subst hm
  have h64 : 2 ^ n ≤ 2 ^ 64 := Nat.pow_le_pow_right (by omega) hn
  rw [u64_and x _ h.1 (by omega) (by omega) (by omega), Int.toNat_natCast, Nat.and_two_pow_sub_one_eq_mod]
  obtain ⟨y, rfl⟩ := Int.eq_ofNat_of_zero_le h.1
  rw [Int.toNat_natCast]
  rfl
theorem wrap32_eq (y : Int) : wrap32 y = (y + 2147483648) % 4294967296 - 2147483648 := by
  unfold wrap32; omega
theorem wrapu64_eq (y : Int) : IntKind.u64.wrap y = y % 18446744073709551616 := by
  simp [IntKind.wrap, IntKind.signed, IntKind.bits]

/-- ReduceLe2Q: a number below 2 q, the same modulo q. -/
def red2q (x : Int) : Int := x % 8388608 + x / 8388608 * 8191
theorem red2q_bd (x : Int) (h : 0 ≤ x ∧ x ≤ 4294967295) : 0 ≤ red2q x ∧ red2q x < 16760834 := by unfold red2q; omega
theorem red2q_mod (x : Int) : red2q x % 8380417 = x % 8380417 := by unfold red2q; omega

theorem red2q_any (x : Int) (w : World) (h : 0 ≤ x ∧ x ≤ 4294967295) :
    Calls Tryd.prog 32 #[.int .u32 x] w fun e w' => e = .returned (.int .u32 (red2q x)) ∧ w = w' := by
  have ha := and32 x 23 8388607 h (by decide) (by decide)
  have hb := red2q_bd x h
  have HA := Lib.hid ha
  clear ha
  obtain ⟨h1, h2⟩ := h
  go_enter Tryd.func32, Tryd.ntmps32
  go_wp2
  go_ret
  refine ⟨ret_k ?_, rfl⟩
  rw [HA.out]
  unfold red2q at *
  omega



/-- montReduceLe2Q: a number times the inverse of 2^32, modulo q, below 2 q. -/
def montD (x : Int) : Int := (x + (x * 4236238847) % 4294967296 * 8380417) / 4294967296
theorem montD_bd (x : Int) (h : 0 ≤ x ∧ x < 35993616941842432) : 0 ≤ montD x ∧ montD x < 16760834 := by unfold montD; omega
theorem montD_mul (x : Int) : montD x * 4294967296 = x + (x * 4236238847) % 4294967296 * 8380417 := by unfold montD; omega
theorem montD_mod (x : Int) : (montD x * 4294967296) % 8380417 = x % 8380417 := by rw [montD_mul]; omega

theorem montD_any (x : Int) (w : World) (h : 0 ≤ x ∧ x < 35993616941842432) :
    Calls Tryd.prog 31 #[.int .u64 x] w fun e w' => e = .returned (.int .u32 (montD x)) ∧ w = w' := by
  have e1 : bits BinOp.and IntKind.u64 (IntKind.u64.wrap (x * 4236238847)) 4294967295 = (x * 4236238847) % 4294967296 := by
    rw [and64 _ 32 4294967295 (by rw [wrapu64_eq]; omega) (by decide) (by decide), wrapu64_eq]; omega
  have hb := montD_bd x h
  have hm := montD_mul x
  have E1 := Lib.hid e1
  have HB := Lib.hid hb
  have HM := Lib.hid hm
  clear e1 hb hm
  obtain ⟨h1, h2⟩ := h
  go_enter Tryd.func31, Tryd.ntmps31
  go_wp2
  go_ret
  refine ⟨ret_k ?_, rfl⟩
  have hb := HB.out
  have hm := HM.out
  rw [E1.out]
  have b1 : 0 ≤ (x * 4236238847) % 4294967296 := by omega
  have b2 : (x * 4236238847) % 4294967296 < 4294967296 := by omega
  generalize (x * 4236238847) % 4294967296 = m at *
  generalize montD x = y at *
  rw [wrapu64_eq (m * 8380417), wrapu64_eq]
  omega

/-- power2round: the lower part, from -2^12 + 1 to 2^12. -/
def low13 (x : Int) : Int := if x % 8192 ≤ 4096 then x % 8192 else x % 8192 - 8192
def high13 (x : Int) : Int := (x - low13 x) / 8192

end Go.Proofs.YtnehgjpphojhlaaDoor
