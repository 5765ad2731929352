/- Dilithium's functions of one number: what ReduceLe2Q, le2qModQ, modQ, montReduceLe2Q and power2round return. -/
import Derived.Test.YtgkombmhadgioaaProg
import Derived.Test.YtgkombmhadgioaaLib
import Derived.Lib.Hide
namespace Go.Proofs.Ytgkombmhadgioaa
open Go Go.Proofs Go.RowKit Go.Kd

theorem ret_k {k : IntKind} {a b : Int} (h : a = b) : Ending.returned (.int k a) = .returned (.int k b) := by rw [h]
theorem ret_k2 {k : IntKind} {a b c d : Int} (h : a = b) (h' : c = d) : Ending.returned (.tuple #[.int k a, .int k c]) = .returned (.tuple #[.int k b, .int k d]) := by rw [h, h']

theorem and32 (x : Int) (n : Nat) (m : Int) (h : 0 ≤ x ∧ x ≤ 4294967295) (hm : m = ((2 ^ n - 1 : Nat) : Int)) (hn : n ≤ 32) : bits BinOp.and IntKind.u32 x m = x % ((2 ^ n : Nat) : Int) := by
  subst hm
  have h32 : 2 ^ n ≤ 2 ^ 32 := Nat.pow_le_pow_right (by omega) hn
  rw [u32_and x _ h.1 (by omega) (by omega) (by omega), Int.toNat_natCast, Nat.and_two_pow_sub_one_eq_mod]
  obtain ⟨y, rfl⟩ := Int.eq_ofNat_of_zero_le h.1
  rw [Int.toNat_natCast]
  rfl
theorem and64 (x : Int) (n : Nat) (m : Int) (h : 0 ≤ x ∧ x ≤ 18446744073709551615) (hm : m = ((2 ^ n - 1 : Nat) : Int)) (hn : n ≤ 64) : bits BinOp.and IntKind.u64 x m = x % ((2 ^ n : Nat) : Int) := by
  subst hm
  have h64 : 2 ^ n ≤ 2 ^ 64 := Nat.pow_le_pow_right (by omega) hn
  rw [u64_and x _ h.1 (by omega) (by omega) (by omega), Int.toNat_natCast, Nat.and_two_pow_sub_one_eq_mod]
  obtain ⟨y, rfl⟩ := Int.eq_ofNat_of_zero_le h.1
  rw [Int.toNat_natCast]
  rfl
theorem wrap32_eq (y : Int) : wrap32 y = (y + 2147483648) % 4294967296 - 2147483648 := by
  unfold wrap32; omega
theorem wrapu64_eq (y : Int) : IntKind.u64.wrap y = y % 18446744073709551616 := by
  simp [IntKind.wrap, IntKind.signed, IntKind.bits]

/-- ReduceLe2Q: a number below 2 q, the same modulo q. -/
def red2q (x : Int) : Int := x % 8388608 + x / 8388608 * 8191
theorem red2q_bd (x : Int) (h : 0 ≤ x ∧ x ≤ 4294967295) : 0 ≤ red2q x ∧ red2q x < 16760834 := by unfold red2q; omega
theorem red2q_mod (x : Int) : red2q x % 8380417 = x % 8380417 := by unfold red2q; omega

theorem red2q_any (x : Int) (w : World) (h : 0 ≤ x ∧ x ≤ 4294967295) :
    Calls Try.prog 46 #[.int .u32 x] w fun e w' => e = .returned (.int .u32 (red2q x)) ∧ w = w' := by
  have ha := and32 x 23 8388607 h (by decide) (by decide)
  have hb := red2q_bd x h
  have HA := Lib.hid ha
  clear ha
  obtain ⟨h1, h2⟩ := h
  go_enter Try.func46, Try.ntmps46
  go_wp2
  go_ret
  refine ⟨ret_k ?_, rfl⟩
  rw [HA.out]
  unfold red2q at *
  omega

/-- le2qModQ, of numbers below 2 q. -/
theorem le2q_any (x : Int) (w : World) (h : 0 ≤ x ∧ x < 16760834) :
    Calls Try.prog 68 #[.int .u32 x] w fun e w' => e = .returned (.int .u32 (x % 8380417)) ∧ w = w' := by
  obtain ⟨h1, h2⟩ := h
  by_cases hc : x < 8380417
  · have e0 : wrap32 ((x - 8380417) % 4294967296) / 2147483648 % 4294967296 = 4294967295 := by rw [wrap32_eq]; omega
    have e1 : bits BinOp.and IntKind.u32 4294967295 8380417 = 8380417 := by decide +kernel
    have E0 := Lib.hid e0
    have E1 := Lib.hid e1
    clear e0 e1
    go_enter Try.func68, Try.ntmps68
    go_wp2
    go_ret
    exact ⟨ret_k (by rw [E0.out, E1.out]; omega), rfl⟩
  · have e0 : (x - 8380417) / 2147483648 = 0 := by omega
    have e1 : bits BinOp.and IntKind.u32 0 8380417 = 0 := by decide +kernel
    have E0 := Lib.hid e0
    have E1 := Lib.hid e1
    clear e0 e1
    go_enter Try.func68, Try.ntmps68
    go_wp2
    go_ret
    exact ⟨ret_k (by rw [E0.out, E1.out]; omega), rfl⟩

theorem modq_any (x : Int) (w : World) (h : 0 ≤ x ∧ x ≤ 4294967295) :
    Calls Try.prog 67 #[.int .u32 x] w fun e w' => e = .returned (.int .u32 (x % 8380417)) ∧ w = w' := by
  have hb := red2q_bd x h
  have hm := Lib.hid (red2q_mod x)
  obtain ⟨h1, h2⟩ := h
  go_enter Try.func67, Try.ntmps67
  go_wp2_with (first | (go_at_call 46; refine (red2q_any _ _ ⟨h1, h2⟩).mono ?_; rintro e w' ⟨rfl, rfl⟩) | (go_at_call 68; refine (le2q_any _ _ hb).mono ?_; rintro e w' ⟨rfl, rfl⟩))
  go_ret
  exact ⟨ret_k hm.out, rfl⟩

/-- montReduceLe2Q: a number times the inverse of 2^32, modulo q, below 2 q. -/
def montD (x : Int) : Int := (x + (x * 4236238847) % 4294967296 * 8380417) / 4294967296
theorem montD_bd (x : Int) (h : 0 ≤ x ∧ x < 35993616941842432) : 0 ≤ montD x ∧ montD x < 16760834 := by unfold montD; omega
theorem montD_mul (x : Int) : montD x * 4294967296 = x + (x * 4236238847) % 4294967296 * 8380417 := by unfold montD; omega
theorem montD_mod (x : Int) : (montD x * 4294967296) % 8380417 = x % 8380417 := by rw [montD_mul]; omega

theorem montD_any (x : Int) (w : World) (h : 0 ≤ x ∧ x < 35993616941842432) :
    Calls Try.prog 64 #[.int .u64 x] w fun e w' => e = .returned (.int .u32 (montD x)) ∧ w = w' := by
  have e1 : bits BinOp.and IntKind.u64 (IntKind.u64.wrap (x * 4236238847)) 4294967295 = (x * 4236238847) % 4294967296 := by
    rw [and64 _ 32 4294967295 (by rw [wrapu64_eq]; omega) (by decide) (by decide), wrapu64_eq]; omega
  have hb := montD_bd x h
  have hm := montD_mul x
  have E1 := Lib.hid e1
  have HB := Lib.hid hb
  have HM := Lib.hid hm
  clear e1 hb hm
  obtain ⟨h1, h2⟩ := h
  go_enter Try.func64, Try.ntmps64
  go_wp2
  go_ret
  refine ⟨ret_k ?_, rfl⟩
  have hb := HB.out
  have hm := HM.out
  rw [E1.out]
  have b1 : 0 ≤ (x * 4236238847) % 4294967296 := by omega
  have b2 : (x * 4236238847) % 4294967296 < 4294967296 := by omega
  generalize (x * 4236238847) % 4294967296 = m at *
  generalize montD x = y at *
  rw [wrapu64_eq (m * 8380417), wrapu64_eq]
  omega

/-- power2round: the lower part, from -2^12 + 1 to 2^12. -/
def low13 (x : Int) : Int := if x % 8192 ≤ 4096 then x % 8192 else x % 8192 - 8192
def high13 (x : Int) : Int := (x - low13 x) / 8192

theorem p2r_any (x : Int) (w : World) (h : 0 ≤ x ∧ x < 8380417) :
    Calls Try.prog 73 #[.int .u32 x] w fun e w' => e = .returned (.tuple #[.int .u32 (8380417 + low13 x), .int .u32 (high13 x)]) ∧ w = w' := by
  have ha := and32 x 13 8191 (by omega) (by decide) (by decide)
  have e1 : bits BinOp.and IntKind.u32 4294967295 8192 = 8192 := by decide +kernel
  have e2 : bits BinOp.and IntKind.u32 0 8192 = 0 := by decide +kernel
  have HA := Lib.hid ha
  have E1 := Lib.hid e1
  have E2 := Lib.hid e2
  clear ha e1 e2
  obtain ⟨h1, h2⟩ := h
  go_enter Try.func73, Try.ntmps73
  go_wp2
  go_ret2
  refine ⟨ret_k2 ?_ ?_, rfl⟩
  · rw [HA.out, wrap32_eq]
    unfold low13
    have hp : ((2 ^ 13 : Nat) : Int) = 8192 := by decide
    rw [hp]
    by_cases hc : x % 8192 ≤ 4096
    · have e3 : ((x % 8192 - 4097) % 4294967296 + 2147483648) % 4294967296 - 2147483648 = x % 8192 - 4097 := by omega
      have e4 : (x % 8192 - 4097) / 2147483648 % 4294967296 = 4294967295 := by omega
      rw [e3, e4, E1.out, if_pos hc]
      omega
    · have e3 : ((x % 8192 - 4097) % 4294967296 + 2147483648) % 4294967296 - 2147483648 = x % 8192 - 4097 := by omega
      have e4 : (x % 8192 - 4097) / 2147483648 % 4294967296 = 0 := by omega
      rw [e3, e4, E2.out, if_neg hc]
      omega
  · rw [HA.out, wrap32_eq]
    unfold high13 low13
    have hp : ((2 ^ 13 : Nat) : Int) = 8192 := by decide
    rw [hp]
    by_cases hc : x % 8192 ≤ 4096
    · have e3 : ((x % 8192 - 4097) % 4294967296 + 2147483648) % 4294967296 - 2147483648 = x % 8192 - 4097 := by omega
      have e4 : (x % 8192 - 4097) / 2147483648 % 4294967296 = 4294967295 := by omega
      rw [e3, e4, E1.out, if_pos hc]
      omega
    · have e3 : ((x % 8192 - 4097) % 4294967296 + 2147483648) % 4294967296 - 2147483648 = x % 8192 - 4097 := by omega
      have e4 : (x % 8192 - 4097) / 2147483648 % 4294967296 = 0 := by omega
      rw [e3, e4, E2.out, if_neg hc]
      omega
end Go.Proofs.Ytgkombmhadgioaa
