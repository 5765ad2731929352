/- The string of a slice of bytes that begins somewhere in its block. -/
import Derived.Test.YtngmpnkhdjnhoaaClone
import Derived.Test.YtngmpnkhdjnhoaaBytes
namespace Go.Proofs.Ytngmpnkhdjnhoaa
open Go Go.Proofs Go.RowKit Go.Kd
section str
variable {P : Program} {a : Act} {w : World} {o : Oper}
theorem run_strO {S E D : TypeId} (hS : P.underlying S = some (.slice E)) (hE : P.underlying E = some (.int .u8)) (hD : P.underlying D = some .string) (x : Operand) (b off n c : Nat) (f : Nat → Int) (hb : SlO w b off n f)
    (ho : o.op = .convert S D x) (hx : a.eval x = .slice (some ⟨b, off, none⟩) n c) : (execOp a.eval o).run P w = .ok (.value (.string (strOf n f))) w := by
  have h := run_convert_bytes_arg (P := P) w S E hS hE b off n c ((List.range n).map f) (by simp) (fun i hi => by
    rw [hb.2 i hi]
    simp [List.getD, hi]) D hD
  unfold execOp
  simp only [ho, hx, Sem.run_bind, h]
  rfl
end str
end Go.Proofs.Ytngmpnkhdjnhoaa
