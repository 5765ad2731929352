/- The table of roots (Kyber): its numbers, and what they are. -/
import Derived.Test.YtgojphoejmbliaaDoorPow
namespace Go.Proofs.YtgojphoejmbliaaDoor
open Go Go.Proofs Go.RowKit Go.Kd
def zs : List Int := [2285, 2571, 2970, 1812, 1493, 1422, 287, 202, 3158, 622, 1577, 182, 962, 2127, 1855, 1468, 573, 2004, 264, 383, 2500, 1458, 1727, 3199, 2648, 1017, 732, 608, 1787, 411, 3124, 1758, 1223, 652, 2777, 1015, 2036, 1491, 3047, 1785, 516, 3321, 3009, 2663, 1711, 2167, 126, 1469, 2476, 3239, 3058, 830, 107, 1908, 3082, 2378, 2931, 961, 1821, 2604, 448, 2264, 677, 2054, 2226, 430, 555, 843, 2078, 871, 1550, 105, 422, 587, 177, 3094, 3038, 2869, 1574, 1653, 3083, 778, 1159, 3182, 2552, 1483, 2727, 1119, 1739, 644, 2457, 349, 418, 329, 3173, 3254, 817, 1097, 603, 610, 1322, 2044, 1864, 384, 2114, 3193, 1218, 1994, 2455, 220, 2142, 1670, 2144, 1799, 2051, 794, 1819, 2475, 2459, 478, 3221, 3021, 996, 991, 958, 1869, 1522, 1628]
set_option maxRecDepth 100000 in
theorem zs_is : ∀ j : Fin 128, zs.getD j 0 % 3329 = pw 17 3329 (rv 7 0 (j.1 : Nat)).toNat * 65536 % 3329 ∧ 0 ≤ zs.getD j 0 ∧ zs.getD j 0 ≤ 3329 := by decide +kernel
/-- the variable holds the table -/
def ZetasIn (w : World) : Prop := ∀ j : Nat, j < 128 → w.cell? ⟨0, j, none⟩ = some (.int .i16 (zs.getD j 0))
end Go.Proofs.YtgojphoejmbliaaDoor
