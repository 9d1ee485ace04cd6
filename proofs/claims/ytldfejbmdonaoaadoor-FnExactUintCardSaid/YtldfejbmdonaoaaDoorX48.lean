/- Joined by a program of mine from texts of this claim: Pn, Fl. -/
import Derived.Test.YtldfejbmdonaoaaDoorX44
import Derived.Test.YtldfejbmdonaoaaDoorX46
namespace Go.Proofs.YtldfejbmdonaoaaDoor.Pn
open Go.RowKit YtldfejbmdonaoaaDoorW.PrintWords YtldfejbmdonaoaaDoorW.PrintLast YtldfejbmdonaoaaDoorW.PrintMore Tp Fr At Pz Nx Gp Gv Gn Gi Wh PFnExactFloat
set_option linter.unusedVariables false
set_option linter.unusedSimpArgs false
theorem lead_of {s : ByteArray} {n : Int} (h : NumT s n) : Lead s 0 := ⟨by have := h.size; omega, Int.le_refl _, h.pos, fun q h1 h2 => by omega⟩
theorem shape_of {s : ByteArray} {n : Int} (h : NumT s n) : Shape s 0 2 (s.size : Int) := .inr (.inl ⟨rfl, h.good, h.end_.symm, fun h => by omega⟩)
theorem self_of (s : ByteArray) : s.extract (Int.toNat 0) ((s.size : Int)).toNat = s := by rw [Int.toNat_natCast]; exact Bt.extract_whole s
theorem x_of {s : ByteArray} {n : Int} (h : NumT s n) (hn : n.natAbs < 9007199254740992) {x : Nat} (hx : ExactX s x) : x = floatOfInt .f64 n := by
  obtain ⟨j, hj, hv, hs⟩ := h.is
  have h2 := hx.1 j hj (by rw [hv]; split <;> omega) (fun e => by rw [hv, if_pos (hs.mp e)]; have := hs.mp e; omega)
  rw [h2, hv]
  by_cases c : n < 0
  · rw [if_pos (hs.mpr c), if_pos c, Int.neg_neg]
  · rw [if_neg (fun e => c (hs.mp e)), if_neg c]
end Go.Proofs.YtldfejbmdonaoaaDoor.Pn
namespace Go.Proofs.YtldfejbmdonaoaaDoor.Fl
open Go.RowKit YtldfejbmdonaoaaDoorW.PrintWords YtldfejbmdonaoaaDoorW.PrintLast YtldfejbmdonaoaaDoorW.PrintMore Tp Fr At Pz Nx Gp Gv Gn Gi Wh Pn PFnExactFloat
set_option linter.unusedVariables false
set_option linter.unusedSimpArgs false
end Go.Proofs.YtldfejbmdonaoaaDoor.Fl