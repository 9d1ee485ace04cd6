/- Joined by a program of mine from texts of this claim: WInv, WInvWords, WGuard, Sp0, Sp1. -/
import Derived.Test.YtldfejbmdonaoaaGreatDoorZ7
import Derived.Test.YtldfejbmdonaoaaGreatDoorZ8
import Derived.Test.YtldfejbmdonaoaaGreatDoorZ1
import Derived.Test.YtldfejbmdonaoaaGreatDoorProg
import Derived.Below
import Derived.Deep.Draws
import Derived.Deep.AppendLies
import Derived.Maps.AppendAt
import Derived.OwnWalk
import Derived.Laws.BytesArg
import Derived.Laws.MakeOwn
import Derived.Laws.OwnMore
import Derived.Deep.OwnRows
import Derived.Tactics
import Derived.Lib.ConvBytes
import Derived.Laws.Slices
import Derived.WalkKit
import Derived.KernelRfl
import Derived.RowKit3
import Derived.Deep.LoopGhost
import Derived.Deep.QuietTactic
import Derived.BigQuiet
import Derived.WideLaws
import Derived.Deep.DeepCutAuto
import Derived.Deep.CutBlock
import Derived.Deep.RegionHeld3
import Derived.Laws.Rows
import Derived.Lib.AppendStr
import Derived.ArgAppend
import Derived.Laws.IdiomCopy
import Derived.OrdersHeld
import Derived.Laws.BitsLemmas
import Derived.RowKit
import Derived.Test.YtldfejbmdonaoaaGreatDoorZ2
import Derived.Test.YtldfejbmdonaoaaGreatDoorZ3
import Derived.Test.YtldfejbmdonaoaaGreatDoorZ4
import Derived.Test.YtldfejbmdonaoaaGreatDoorZ5
namespace Go.Proofs.YtldfejbmdonaoaaGreatDoorW.PrintLast
def up (b : Nat → Bool) (i : Nat) : Nat → Bool := fun j => if j = i then true else b j
section
variable {P : Program} {ops : Array Oper} {Q : Exit → Act → World → Prop} {md : Region.Mode} {T : Bool × List (List Nat × List Nat)} {B : List Nat} {O : List Nat} {b : Nat → Bool} {i j n : Nat}
end
end Go.Proofs.YtldfejbmdonaoaaGreatDoorW.PrintLast
namespace Go.Proofs.YtldfejbmdonaoaaGreatDoorW.PrintWords
open Go.RowKit
end Go.Proofs.YtldfejbmdonaoaaGreatDoorW.PrintWords
namespace Go.Proofs.YtldfejbmdonaoaaGreatDoorW.PrintLast
section
variable {ops : Array Oper} {a : Act} {o og : Oper} {g : Nat} {t : Tmp} {u : Bool}
end
end Go.Proofs.YtldfejbmdonaoaaGreatDoorW.PrintLast
namespace Go.Proofs.YtldfejbmdonaoaaGreatDoorW.PrintWords
open Go.RowKit
section
variable {P : Program} {ops : Array Oper} {rest : List Oper} {o : Oper} {a : Act} {Q : Exit → Act → World → Prop} {W : World}
end
end Go.Proofs.YtldfejbmdonaoaaGreatDoorW.PrintWords
namespace Go.Proofs.YtldfejbmdonaoaaGreatDoor.Sp
open Go.RowKit YtldfejbmdonaoaaGreatDoorW.PrintWords YtldfejbmdonaoaaGreatDoorW.PrintLast YtldfejbmdonaoaaGreatDoorW.PrintMore
attribute [local go_sem] max2_int min2_int max_two min_two max_three min_three max_four min_four   -- for this text's walks alone
set_option linter.unusedVariables false
set_option linter.unusedSimpArgs false
def errW : Option Int → Value
  | none => .nilIface
  | some c => .iface 0 (.int .i64 c)
theorem errW_none : errW none = .nilIface := rfl
theorem errW_some (c : Int) : errW (some c) = .iface 0 (.int .i64 c) := rfl
theorem info5 : (Tryz.prog.info? 5).map (fun i => (i.zero, i.size, i.bytes)) = some (some (.int .u8 0), 1, 1) := by kernel_rfl
end Go.Proofs.YtldfejbmdonaoaaGreatDoor.Sp
namespace Go.Proofs.YtldfejbmdonaoaaGreatDoor.Sp
open Go.RowKit YtldfejbmdonaoaaGreatDoorW.PrintWords YtldfejbmdonaoaaGreatDoorW.PrintLast YtldfejbmdonaoaaGreatDoorW.PrintMore
attribute [local go_sem] max2_int min2_int max_two min_two max_three min_three max_four min_four   -- for this text's walks alone
set_option linter.unusedVariables false
set_option linter.unusedSimpArgs false
def IsS45 (w0 W : World) (g : Nat) (f0 : ByteArray) (f1 : Int) (f2 : Bool) : Prop := W.heap[g]? = some (.cells #[.string f0, .int .i64 f1, .bool f2] 45 (0, 0)) ∧ w0.heap.size ≤ g
theorem IsS45.grown {w0 W : World} {g : Nat} {f0 : ByteArray} {f1 : Int} {f2 : Bool} {W1 : World} {row : Option Nat} (h : IsS45 w0 W g f0 f1 f2) (hw : W.grownBy W1 row) (hne : some g ≠ row) : IsS45 w0 W1 g f0 f1 f2 := by
  obtain ⟨hb, hg⟩ := h
  exact ⟨blk_grown hb hw hne, hg⟩
theorem IsS45.kept {w0 W : World} {g : Nat} {f0 : ByteArray} {f1 : Int} {f2 : Bool} {W1 : World} {S : Nat → Prop} (h : IsS45 w0 W g f0 f1 f2) (hk : Kept W W1 S) (hne : ¬ S g) : IsS45 w0 W1 g f0 f1 f2 := by
  obtain ⟨hb, hg⟩ := h
  exact ⟨blk_kept hb hk hne, hg⟩
theorem IsS45.below {w0 W : World} {g : Nat} {f0 : ByteArray} {f1 : Int} {f2 : Bool} {W1 : World} (h : IsS45 w0 W g f0 f1 f2) (hw : Below W.heap.size W W1) : IsS45 w0 W1 g f0 f1 f2 := h.grown (grown_of_below hw none) (by simp)
theorem IsS45.alloc {w0 W : World} {g : Nat} {f0 : ByteArray} {f1 : Int} {f2 : Bool} (h : IsS45 w0 W g f0 f1 f2) (o : Obj) : IsS45 w0 (W.alloc o) g f0 f1 f2 := h.below (below_alloc (Below.refl _ _) o)
theorem IsS45.drewN {w0 W : World} {g : Nat} {f0 : ByteArray} {f1 : Int} {f2 : Bool} (h : IsS45 w0 W g f0 f1 f2) (m : Nat) : IsS45 w0 (W.drewN m) g f0 f1 f2 := h
theorem IsS45.drew {w0 W : World} {g : Nat} {f0 : ByteArray} {f1 : Int} {f2 : Bool} (h : IsS45 w0 W g f0 f1 f2) : IsS45 w0 W.drew g f0 f1 f2 := h
theorem IsS45.at_ {w0 W : World} {g : Nat} {f0 : ByteArray} {f1 : Int} {f2 : Bool} {w' : World} {m : Nat} (hq : W.drewN m = w') (h : IsS45 w0 W g f0 f1 f2) : IsS45 w0 w' g f0 f1 f2 := by subst hq; exact IsS45.drewN h m
theorem IsS45.apart {w0 W : World} {g : Nat} {f0 : ByteArray} {f1 : Int} {f2 : Bool} {α : Type} {d : Kd α} {e : Nat} {base : Nat} {ok : Nat → Prop} {v : Value} {xs : List α} (h : IsS45 w0 W g f0 f1 f2) (ho : d.R e W base ok v xs) (ht : ∀ q, q ∈ e :: d.E → q ≠ 45) : d.R e W base (fun k => ok k ∧ k ≠ g) v xs := by
  obtain ⟨hb, hg⟩ := h
  exact Kd.R_types ho hb ht
theorem IsS45.own_ne {w0 W : World} {g : Nat} {f0 : ByteArray} {f1 : Int} {f2 : Bool} {α : Type} {d : Kd α} {e : Nat} {base : Nat} {ok : Nat → Prop} {v : Value} {xs : List α} (h : IsS45 w0 W g f0 f1 f2) (ho : d.R e W base ok v xs) (ht : e ≠ 45) : some g ≠ v.ownBlock := by
  obtain ⟨hb, hg⟩ := h
  exact Kd.R_ne ho hb ht
theorem IsS45.lt {w0 W : World} {g : Nat} {f0 : ByteArray} {f1 : Int} {f2 : Bool} (h : IsS45 w0 W g f0 f1 f2) : g < W.heap.size := by
  obtain ⟨hb, hg⟩ := h
  exact blk_lt hb
theorem IsS45.far {w0 W : World} {g : Nat} {f0 : ByteArray} {f1 : Int} {f2 : Bool} {p : Addr} (h : IsS45 w0 W g f0 f1 f2) (hne : g ≠ p.block) (u : Value) : IsS45 w0 (W.setCell p u) g f0 f1 f2 := by
  obtain ⟨hb, hg⟩ := h
  exact ⟨blk_far hb hne u, hg⟩
def spec_reading_take.f (s0_0 : ByteArray) (s0_1 : Int) (s0_2 : Bool) (a1 : Int) : Option (ByteArray × Int × Bool) := if s0_1 ≥ (s0_0.size : Int) then (some (s0_0, s0_1, true)) else (if 0 ≤ s0_1 then (if s0_1 < (s0_0.size : Int) then (if (bt s0_0 s0_1) = a1 then (some (s0_0, wrap64 (s0_1 + 1), s0_2)) else (some (s0_0, s0_1, true))) else (none)) else (none))
end Go.Proofs.YtldfejbmdonaoaaGreatDoor.Sp