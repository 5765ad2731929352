/- General lemmas, over any program: bits put together, and cut, in numbers of several kinds. -/
import Derived.Test.YtgojphoejmbliaaDoorBytes
namespace Go.Kd
open Go Go.RowKit

theorem wrap_i16' (n : Int) : IntKind.i16.wrap n = (n + 32768) % 65536 - 32768 := by
  first
  | exact IntKind.wrap_i16 n
  | (simp only [IntKind.wrap, IntKind.bits, IntKind.signed]; simp; omega)
theorem or_i16 (x y : Int) (k : Nat) (z : Int) (hx : 0 ≤ x) (hx2 : x < 2 ^ k) (hy : y = 2 ^ k * z) (hz : 0 ≤ z) (hs : x + y < 32768) : bits .or .i16 x y = x + y := by
  obtain ⟨x', rfl⟩ := Int.eq_ofNat_of_zero_le hx
  obtain ⟨z', rfl⟩ := Int.eq_ofNat_of_zero_le hz
  have e : (2 : Int) ^ k * (z' : Int) = ((2 ^ k * z' : Nat) : Int) := by push_cast; rfl
  have hx3 : x' < 2 ^ k := by
    have : ((x' : Nat) : Int) < ((2 ^ k : Nat) : Int) := by push_cast; exact hx2
    omega
  subst hy
  rw [e] at hs ⊢
  show IntKind.i16.wrap ((BitVec.ofInt 16 ((x' : Nat) : Int) ||| BitVec.ofInt 16 ((2 ^ k * z' : Nat) : Int)).toNat : Int) = _
  generalize hq : 2 ^ k * z' = q at *
  have e1 : (BitVec.ofInt 16 ((x' : Nat) : Int)).toNat = x' := by rw [BitVec.toNat_ofInt]; omega
  have e2 : (BitVec.ofInt 16 ((q : Nat) : Int)).toNat = q := by rw [BitVec.toNat_ofInt]; omega
  rw [BitVec.toNat_or, e1, e2, ← hq, or_nat_sum x' z' k hx3, wrap_i16', hq]
  omega
theorem and_i16 (x : Int) (n : Nat) (m : Int) (hm : m = ((2 ^ n - 1 : Nat) : Int)) (hn : n ≤ 15) : bits BinOp.and IntKind.i16 x m = x % ((2 ^ n : Nat) : Int) := by
  subst hm
  have h32 : 2 ^ n ≤ 2 ^ 15 := Nat.pow_le_pow_right (by omega) hn
  have h1 : 1 ≤ 2 ^ n := Nat.one_le_two_pow
  show IntKind.i16.wrap ((BitVec.ofInt 16 x &&& BitVec.ofInt 16 ((2 ^ n - 1 : Nat) : Int)).toNat : Int) = _
  obtain ⟨y, hy⟩ : ∃ y : Nat, (y : Int) = x % 65536 := ⟨(x % 65536).toNat, by omega⟩
  have e1 : (BitVec.ofInt 16 x).toNat = y := by rw [BitVec.toNat_ofInt]; omega
  have e2 : (BitVec.ofInt 16 ((2 ^ n - 1 : Nat) : Int)).toNat = 2 ^ n - 1 := by rw [BitVec.toNat_ofInt]; omega
  rw [BitVec.toNat_and, e1, e2, Nat.and_two_pow_sub_one_eq_mod, wrap_i16']
  have h2 : y % 2 ^ n < 2 ^ n := Nat.mod_lt _ (by omega)
  have hd : ((2 ^ n : Nat) : Int) ∣ 65536 := by
    have : 2 ^ n ∣ 2 ^ 16 := Nat.pow_dvd_pow 2 (by omega)
    exact Int.natCast_dvd_natCast.2 this
  have h3 : ((y % 2 ^ n : Nat) : Int) = x % ((2 ^ n : Nat) : Int) := by
    rw [show ((y % 2 ^ n : Nat) : Int) = (y : Int) % ((2 ^ n : Nat) : Int) from rfl, hy, Int.emod_emod_of_dvd _ hd]
  rw [← h3]
  generalize y % 2 ^ n = q at *
  omega

theorem wrap_u16' (n : Int) : IntKind.u16.wrap n = n % 65536 := by
  first
  | exact IntKind.wrap_u16 n
  | (simp only [IntKind.wrap, IntKind.bits, IntKind.signed]; simp; omega)
theorem or_u16 (x y : Int) (k : Nat) (z : Int) (hx : 0 ≤ x) (hx2 : x < 2 ^ k) (hy : y = 2 ^ k * z) (hz : 0 ≤ z) (hs : x + y < 65536) : bits .or .u16 x y = x + y := by
  obtain ⟨x', rfl⟩ := Int.eq_ofNat_of_zero_le hx
  obtain ⟨z', rfl⟩ := Int.eq_ofNat_of_zero_le hz
  have e : (2 : Int) ^ k * (z' : Int) = ((2 ^ k * z' : Nat) : Int) := by push_cast; rfl
  have hx3 : x' < 2 ^ k := by
    have : ((x' : Nat) : Int) < ((2 ^ k : Nat) : Int) := by push_cast; exact hx2
    omega
  subst hy
  rw [e] at hs ⊢
  show IntKind.u16.wrap ((BitVec.ofInt 16 ((x' : Nat) : Int) ||| BitVec.ofInt 16 ((2 ^ k * z' : Nat) : Int)).toNat : Int) = _
  generalize hq : 2 ^ k * z' = q at *
  have e1 : (BitVec.ofInt 16 ((x' : Nat) : Int)).toNat = x' := by rw [BitVec.toNat_ofInt]; omega
  have e2 : (BitVec.ofInt 16 ((q : Nat) : Int)).toNat = q := by rw [BitVec.toNat_ofInt]; omega
  rw [BitVec.toNat_or, e1, e2, ← hq, or_nat_sum x' z' k hx3, wrap_u16', hq]
  omega
theorem and_u16 (x : Int) (n : Nat) (m : Int) (hm : m = ((2 ^ n - 1 : Nat) : Int)) (hn : n ≤ 16) : bits BinOp.and IntKind.u16 x m = x % ((2 ^ n : Nat) : Int) := by
  subst hm
  have h32 : 2 ^ n ≤ 2 ^ 16 := Nat.pow_le_pow_right (by omega) hn
  have h1 : 1 ≤ 2 ^ n := Nat.one_le_two_pow
  show IntKind.u16.wrap ((BitVec.ofInt 16 x &&& BitVec.ofInt 16 ((2 ^ n - 1 : Nat) : Int)).toNat : Int) = _
  obtain ⟨y, hy⟩ : ∃ y : Nat, (y : Int) = x % 65536 := ⟨(x % 65536).toNat, by omega⟩
  have e1 : (BitVec.ofInt 16 x).toNat = y := by rw [BitVec.toNat_ofInt]; omega
  have e2 : (BitVec.ofInt 16 ((2 ^ n - 1 : Nat) : Int)).toNat = 2 ^ n - 1 := by rw [BitVec.toNat_ofInt]; omega
  rw [BitVec.toNat_and, e1, e2, Nat.and_two_pow_sub_one_eq_mod, wrap_u16']
  have h2 : y % 2 ^ n < 2 ^ n := Nat.mod_lt _ (by omega)
  have hd : ((2 ^ n : Nat) : Int) ∣ 65536 := by
    have : 2 ^ n ∣ 2 ^ 16 := Nat.pow_dvd_pow 2 (by omega)
    exact Int.natCast_dvd_natCast.2 this
  have h3 : ((y % 2 ^ n : Nat) : Int) = x % ((2 ^ n : Nat) : Int) := by
    rw [show ((y % 2 ^ n : Nat) : Int) = (y : Int) % ((2 ^ n : Nat) : Int) from rfl, hy, Int.emod_emod_of_dvd _ hd]
  rw [← h3]
  generalize y % 2 ^ n = q at *
  omega

theorem wrap_u64' (n : Int) : IntKind.u64.wrap n = n % 18446744073709551616 := by
  first
  | exact IntKind.wrap_u64 n
  | (simp only [IntKind.wrap, IntKind.bits, IntKind.signed]; simp; omega)
theorem or_u64 (x y : Int) (k : Nat) (z : Int) (hx : 0 ≤ x) (hx2 : x < 2 ^ k) (hy : y = 2 ^ k * z) (hz : 0 ≤ z) (hs : x + y < 18446744073709551616) : bits .or .u64 x y = x + y := by
  obtain ⟨x', rfl⟩ := Int.eq_ofNat_of_zero_le hx
  obtain ⟨z', rfl⟩ := Int.eq_ofNat_of_zero_le hz
  have e : (2 : Int) ^ k * (z' : Int) = ((2 ^ k * z' : Nat) : Int) := by push_cast; rfl
  have hx3 : x' < 2 ^ k := by
    have : ((x' : Nat) : Int) < ((2 ^ k : Nat) : Int) := by push_cast; exact hx2
    omega
  subst hy
  rw [e] at hs ⊢
  show IntKind.u64.wrap ((BitVec.ofInt 64 ((x' : Nat) : Int) ||| BitVec.ofInt 64 ((2 ^ k * z' : Nat) : Int)).toNat : Int) = _
  generalize hq : 2 ^ k * z' = q at *
  have e1 : (BitVec.ofInt 64 ((x' : Nat) : Int)).toNat = x' := by rw [BitVec.toNat_ofInt]; omega
  have e2 : (BitVec.ofInt 64 ((q : Nat) : Int)).toNat = q := by rw [BitVec.toNat_ofInt]; omega
  rw [BitVec.toNat_or, e1, e2, ← hq, or_nat_sum x' z' k hx3, wrap_u64', hq]
  omega
theorem and_u64 (x : Int) (n : Nat) (m : Int) (hm : m = ((2 ^ n - 1 : Nat) : Int)) (hn : n ≤ 64) : bits BinOp.and IntKind.u64 x m = x % ((2 ^ n : Nat) : Int) := by
  subst hm
  have h32 : 2 ^ n ≤ 2 ^ 64 := Nat.pow_le_pow_right (by omega) hn
  have h1 : 1 ≤ 2 ^ n := Nat.one_le_two_pow
  show IntKind.u64.wrap ((BitVec.ofInt 64 x &&& BitVec.ofInt 64 ((2 ^ n - 1 : Nat) : Int)).toNat : Int) = _
  obtain ⟨y, hy⟩ : ∃ y : Nat, (y : Int) = x % 18446744073709551616 := ⟨(x % 18446744073709551616).toNat, by omega⟩
  have e1 : (BitVec.ofInt 64 x).toNat = y := by rw [BitVec.toNat_ofInt]; omega
  have e2 : (BitVec.ofInt 64 ((2 ^ n - 1 : Nat) : Int)).toNat = 2 ^ n - 1 := by rw [BitVec.toNat_ofInt]; omega
  rw [BitVec.toNat_and, e1, e2, Nat.and_two_pow_sub_one_eq_mod, wrap_u64']
  have h2 : y % 2 ^ n < 2 ^ n := Nat.mod_lt _ (by omega)
  have hd : ((2 ^ n : Nat) : Int) ∣ 18446744073709551616 := by
    have : 2 ^ n ∣ 2 ^ 64 := Nat.pow_dvd_pow 2 (by omega)
    exact Int.natCast_dvd_natCast.2 this
  have h3 : ((y % 2 ^ n : Nat) : Int) = x % ((2 ^ n : Nat) : Int) := by
    rw [show ((y % 2 ^ n : Nat) : Int) = (y : Int) % ((2 ^ n : Nat) : Int) from rfl, hy, Int.emod_emod_of_dvd _ hd]
  rw [← h3]
  generalize y % 2 ^ n = q at *
  omega

theorem wrap_i64' (n : Int) : IntKind.i64.wrap n = (n + 9223372036854775808) % 18446744073709551616 - 9223372036854775808 := by
  first
  | exact IntKind.wrap_i64 n
  | (simp only [IntKind.wrap, IntKind.bits, IntKind.signed]; simp; omega)
theorem or_i64 (x y : Int) (k : Nat) (z : Int) (hx : 0 ≤ x) (hx2 : x < 2 ^ k) (hy : y = 2 ^ k * z) (hz : 0 ≤ z) (hs : x + y < 9223372036854775808) : bits .or .i64 x y = x + y := by
  obtain ⟨x', rfl⟩ := Int.eq_ofNat_of_zero_le hx
  obtain ⟨z', rfl⟩ := Int.eq_ofNat_of_zero_le hz
  have e : (2 : Int) ^ k * (z' : Int) = ((2 ^ k * z' : Nat) : Int) := by push_cast; rfl
  have hx3 : x' < 2 ^ k := by
    have : ((x' : Nat) : Int) < ((2 ^ k : Nat) : Int) := by push_cast; exact hx2
    omega
  subst hy
  rw [e] at hs ⊢
  show IntKind.i64.wrap ((BitVec.ofInt 64 ((x' : Nat) : Int) ||| BitVec.ofInt 64 ((2 ^ k * z' : Nat) : Int)).toNat : Int) = _
  generalize hq : 2 ^ k * z' = q at *
  have e1 : (BitVec.ofInt 64 ((x' : Nat) : Int)).toNat = x' := by rw [BitVec.toNat_ofInt]; omega
  have e2 : (BitVec.ofInt 64 ((q : Nat) : Int)).toNat = q := by rw [BitVec.toNat_ofInt]; omega
  rw [BitVec.toNat_or, e1, e2, ← hq, or_nat_sum x' z' k hx3, wrap_i64', hq]
  omega
theorem and_i64 (x : Int) (n : Nat) (m : Int) (hm : m = ((2 ^ n - 1 : Nat) : Int)) (hn : n ≤ 63) : bits BinOp.and IntKind.i64 x m = x % ((2 ^ n : Nat) : Int) := by
  subst hm
  have h32 : 2 ^ n ≤ 2 ^ 63 := Nat.pow_le_pow_right (by omega) hn
  have h1 : 1 ≤ 2 ^ n := Nat.one_le_two_pow
  show IntKind.i64.wrap ((BitVec.ofInt 64 x &&& BitVec.ofInt 64 ((2 ^ n - 1 : Nat) : Int)).toNat : Int) = _
  obtain ⟨y, hy⟩ : ∃ y : Nat, (y : Int) = x % 18446744073709551616 := ⟨(x % 18446744073709551616).toNat, by omega⟩
  have e1 : (BitVec.ofInt 64 x).toNat = y := by rw [BitVec.toNat_ofInt]; omega
  have e2 : (BitVec.ofInt 64 ((2 ^ n - 1 : Nat) : Int)).toNat = 2 ^ n - 1 := by rw [BitVec.toNat_ofInt]; omega
  rw [BitVec.toNat_and, e1, e2, Nat.and_two_pow_sub_one_eq_mod, wrap_i64']
  have h2 : y % 2 ^ n < 2 ^ n := Nat.mod_lt _ (by omega)
  have hd : ((2 ^ n : Nat) : Int) ∣ 18446744073709551616 := by
    have : 2 ^ n ∣ 2 ^ 64 := Nat.pow_dvd_pow 2 (by omega)
    exact Int.natCast_dvd_natCast.2 this
  have h3 : ((y % 2 ^ n : Nat) : Int) = x % ((2 ^ n : Nat) : Int) := by
    rw [show ((y % 2 ^ n : Nat) : Int) = (y : Int) % ((2 ^ n : Nat) : Int) from rfl, hy, Int.emod_emod_of_dvd _ hd]
  rw [← h3]
  generalize y % 2 ^ n = q at *
  omega

end Go.Kd
