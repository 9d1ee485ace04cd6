/- Joined by a program of mine from texts of this claim: Sp1. -/
import Derived.Test.YtldfejbmdonaoaaDoorX33
namespace Go.Proofs.YtldfejbmdonaoaaDoor.Sp
open Go.RowKit YtldfejbmdonaoaaDoorW.PrintWords YtldfejbmdonaoaaDoorW.PrintLast YtldfejbmdonaoaaDoorW.PrintMore
attribute [local go_sem] max2_int min2_int max_two min_two max_three min_three max_four min_four   -- for this text's walks alone
set_option linter.unusedVariables false
set_option linter.unusedSimpArgs false
def IsS45 (w0 W : World) (g : Nat) (f0 : ByteArray) (f1 : Int) (f2 : Bool) : Prop := W.heap[g]? = some (.cells #[.string f0, .int .i64 f1, .bool f2] 45 (0, 0)) ∧ w0.heap.size ≤ g
theorem IsS45.grown {w0 W : World} {g : Nat} {f0 : ByteArray} {f1 : Int} {f2 : Bool} {W1 : World} {row : Option Nat} (h : IsS45 w0 W g f0 f1 f2) (hw : W.grownBy W1 row) (hne : some g ≠ row) : IsS45 w0 W1 g f0 f1 f2 := by
  obtain ⟨hb, hg⟩ := h
  exact ⟨blk_grown hb hw hne, hg⟩
theorem IsS45.kept {w0 W : World} {g : Nat} {f0 : ByteArray} {f1 : Int} {f2 : Bool} {W1 : World} {S : Nat → Prop} (h : IsS45 w0 W g f0 f1 f2) (hk : Kept W W1 S) (hne : ¬ S g) : IsS45 w0 W1 g f0 f1 f2 := by
  obtain ⟨hb, hg⟩ := h
  exact ⟨blk_kept hb hk hne, hg⟩
theorem IsS45.below {w0 W : World} {g : Nat} {f0 : ByteArray} {f1 : Int} {f2 : Bool} {W1 : World} (h : IsS45 w0 W g f0 f1 f2) (hw : Below W.heap.size W W1) : IsS45 w0 W1 g f0 f1 f2 := h.grown (grown_of_below hw none) (by simp)
theorem IsS45.alloc {w0 W : World} {g : Nat} {f0 : ByteArray} {f1 : Int} {f2 : Bool} (h : IsS45 w0 W g f0 f1 f2) (o : Obj) : IsS45 w0 (W.alloc o) g f0 f1 f2 := h.below (below_alloc (Below.refl _ _) o)
theorem IsS45.drewN {w0 W : World} {g : Nat} {f0 : ByteArray} {f1 : Int} {f2 : Bool} (h : IsS45 w0 W g f0 f1 f2) (m : Nat) : IsS45 w0 (W.drewN m) g f0 f1 f2 := h
theorem IsS45.drew {w0 W : World} {g : Nat} {f0 : ByteArray} {f1 : Int} {f2 : Bool} (h : IsS45 w0 W g f0 f1 f2) : IsS45 w0 W.drew g f0 f1 f2 := h
theorem IsS45.apart {w0 W : World} {g : Nat} {f0 : ByteArray} {f1 : Int} {f2 : Bool} {α : Type} {d : Kd α} {e : Nat} {base : Nat} {ok : Nat → Prop} {v : Value} {xs : List α} (h : IsS45 w0 W g f0 f1 f2) (ho : d.R e W base ok v xs) (ht : ∀ q, q ∈ e :: d.E → q ≠ 45) : d.R e W base (fun k => ok k ∧ k ≠ g) v xs := by
  obtain ⟨hb, hg⟩ := h
  exact Kd.R_types ho hb ht
theorem IsS45.lt {w0 W : World} {g : Nat} {f0 : ByteArray} {f1 : Int} {f2 : Bool} (h : IsS45 w0 W g f0 f1 f2) : g < W.heap.size := by
  obtain ⟨hb, hg⟩ := h
  exact blk_lt hb
end Go.Proofs.YtldfejbmdonaoaaDoor.Sp