/- Kyber's functions of one number: what montReduce, toMont, barrettReduce and csubq return. -/
import Derived.Test.YtgojphoejmbliaaDoorProg
import Derived.Test.YtgojphoejmbliaaDoorLib
namespace Go.Proofs.YtgojphoejmbliaaDoor
open Go Go.Proofs Go.RowKit Go.Kd

theorem ret_k {k : IntKind} {a b : Int} (h : a = b) : Ending.returned (.int k a) = .returned (.int k b) := by rw [h]

/-- csubq: the prime is taken off a number that is not below it. -/
def csub (x : Int) : Int := if x < 3329 then x else x - 3329

theorem csubq_any (x : Int) (w : World) (h : -29439 ≤ x ∧ x ≤ 32767) :
    Calls Tryd.prog 23 #[.int .i16 x] w fun e w' => e = .returned (.int .i16 (csub x)) ∧ w = w' := by
  obtain ⟨h1, h2⟩ := h
  by_cases hc : x < 3329
  · have e0 : (x - 3329) / 32768 = -1 := by omega
    have e1 : bits BinOp.and IntKind.i16 (-1) 3329 = 3329 := by decide +kernel
    go_enter Tryd.func23, Tryd.ntmps23
    go_wp2
    go_ret
    exact ⟨ret_k (by unfold csub; rw [if_pos (by omega)]; try omega), rfl⟩
  · have e0 : (x - 3329) / 32768 = 0 := by omega
    have e1 : bits BinOp.and IntKind.i16 0 3329 = 0 := by decide +kernel
    go_enter Tryd.func23, Tryd.ntmps23
    go_wp2
    go_ret
    exact ⟨ret_k (by unfold csub; rw [if_neg (by omega)]), rfl⟩

/-- barrettReduce: a number from 0 to q, the same modulo q. -/
def barrett (x : Int) : Int := x - x * 20159 / 67108864 * 3329

theorem barrett_bd (x : Int) (h : -32768 ≤ x ∧ x ≤ 32767) : 0 ≤ barrett x ∧ barrett x ≤ 3329 := by unfold barrett; omega
theorem barrett_mod (x : Int) : (barrett x) % 3329 = x % 3329 := by unfold barrett; omega

theorem barrett_any (x : Int) (w : World) (h : -32768 ≤ x ∧ x ≤ 32767) :
    Calls Tryd.prog 24 #[.int .i16 x] w fun e w' => e = .returned (.int .i16 (barrett x)) ∧ w = w' := by
  have hb := barrett_bd x h
  obtain ⟨h1, h2⟩ := h
  go_enter Tryd.func24, Tryd.ntmps24
  go_wp2
  go_ret
  refine ⟨ret_k ?_, rfl⟩
  unfold barrett at *
  simp only [IntKind.wrap, IntKind.signed, IntKind.bits] at *
  simp at *
  omega

/-- montReduce: a number times the inverse of 2^16, modulo q. -/
def mont (x : Int) : Int := (x - ((x * 62209 + 32768) % 65536 - 32768) * 3329) / 65536

theorem mont_bd (x : Int) (h : -109084672 ≤ x ∧ x ≤ 109084671) : -3329 ≤ mont x ∧ mont x ≤ 3329 := by unfold mont; omega
theorem mont_mul (x : Int) : mont x * 65536 = x - ((x * 62209 + 32768) % 65536 - 32768) * 3329 := by unfold mont; omega
theorem mont_mod (x : Int) : (mont x * 65536) % 3329 = x % 3329 := by rw [mont_mul]; omega

theorem wrap16_eq (y : Int) : IntKind.i16.wrap y = (y + 32768) % 65536 - 32768 := by
  simp only [IntKind.wrap, IntKind.signed, IntKind.bits]
  simp
  split <;> omega
theorem wrap32_eq (y : Int) : wrap32 y = (y + 2147483648) % 4294967296 - 2147483648 := by
  unfold wrap32; omega

theorem mont_eq (x : Int) (h : -109084672 ≤ x ∧ x ≤ 109084671) :
    IntKind.i16.wrap (wrap32 (x - wrap32 (wrap32 (IntKind.i16.wrap (wrap32 (x * 62209))) * 3329)) % 4294967296 / 65536) = mont x := by
  have hb := mont_bd x h
  have hm := mont_mul x
  have e1 : IntKind.i16.wrap (wrap32 (x * 62209)) = (x * 62209 + 32768) % 65536 - 32768 := by rw [wrap16_eq, wrap32_eq]; omega
  have h1 : -32768 ≤ (x * 62209 + 32768) % 65536 - 32768 := by omega
  have h2 : (x * 62209 + 32768) % 65536 - 32768 ≤ 32767 := by omega
  rw [e1]
  generalize (x * 62209 + 32768) % 65536 - 32768 = m at *
  generalize mont x = y at *
  have e2 : wrap32 m = m := by rw [wrap32_eq]; omega
  have e3 : wrap32 (m * 3329) = m * 3329 := by rw [wrap32_eq]; omega
  have e4 : wrap32 (x - m * 3329) = y * 65536 := by rw [wrap32_eq]; omega
  rw [e2, e3, e4, wrap16_eq]
  omega

theorem mont_any (x : Int) (w : World) (h : -109084672 ≤ x ∧ x ≤ 109084671) :
    Calls Tryd.prog 25 #[.int .i32 x] w fun e w' => e = .returned (.int .i16 (mont x)) ∧ w = w' := by
  obtain ⟨h1, h2⟩ := h
  go_enter Tryd.func25, Tryd.ntmps25
  go_wp2
  go_ret
  exact ⟨ret_k (mont_eq x ⟨h1, h2⟩), rfl⟩

theorem tomont_mod (x : Int) : mont (x * 1353) % 3329 = (x * 65536) % 3329 := by
  have h := mont_mul (x * 1353)
  omega
end Go.Proofs.YtgojphoejmbliaaDoor
