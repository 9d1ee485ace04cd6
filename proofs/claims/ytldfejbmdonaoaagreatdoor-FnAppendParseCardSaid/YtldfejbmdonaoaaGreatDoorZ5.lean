/- Joined by a program of mine from texts of this claim: WMore, Bt. -/
import Derived.Test.YtldfejbmdonaoaaGreatDoorZ1
import Derived.Test.YtldfejbmdonaoaaGreatDoorZ2
import Derived.Test.YtldfejbmdonaoaaGreatDoorZ3
import Derived.Test.YtldfejbmdonaoaaGreatDoorZ4
namespace Go.Proofs.YtldfejbmdonaoaaGreatDoorW.PrintMore
open Go.RowKit YtldfejbmdonaoaaGreatDoorW.PrintWords
namespace Kd
open YtldfejbmdonaoaaGreatDoorW.PrintWords.Kd
end Kd
namespace Kd
open YtldfejbmdonaoaaGreatDoorW.PrintWords.Kd
section
variable {α : Type} {d : Kd α} {e base g N : Nat} {ok : Nat → Prop} {W w1 : World} {u v : Value} {xs : List α}
end
end Kd
theorem max2_int (k k' : IntKind) (x y : Int) : Builtin.max2 (.int k x) (.int k' y) = pure (.int k (if x < y then y else x)) := by simp only [Builtin.max2, gt_iff_lt]
theorem min2_int (k k' : IntKind) (x y : Int) : Builtin.min2 (.int k x) (.int k' y) = pure (.int k (if y < x then y else x)) := by simp only [Builtin.min2]
theorem max_two (ats : Array TypeId) (ty : TypeId) (a b : Value) : Builtin.max_ ats ty #[a, b] = (Builtin.max2 a b >>= fun s => pure s) := by simp only [Builtin.max_, List.foldlM_cons, List.foldlM_nil]
theorem min_two (ats : Array TypeId) (ty : TypeId) (a b : Value) : Builtin.min_ ats ty #[a, b] = (Builtin.min2 a b >>= fun s => pure s) := by simp only [Builtin.min_, List.foldlM_cons, List.foldlM_nil]
theorem max_three (ats : Array TypeId) (ty : TypeId) (a b c : Value) : Builtin.max_ ats ty #[a, b, c] = (Builtin.max2 a b >>= fun s => Builtin.max2 s c >>= fun s => pure s) := by simp only [Builtin.max_, List.foldlM_cons, List.foldlM_nil]
theorem min_three (ats : Array TypeId) (ty : TypeId) (a b c : Value) : Builtin.min_ ats ty #[a, b, c] = (Builtin.min2 a b >>= fun s => Builtin.min2 s c >>= fun s => pure s) := by simp only [Builtin.min_, List.foldlM_cons, List.foldlM_nil]
theorem max_four (ats : Array TypeId) (ty : TypeId) (a b c d : Value) : Builtin.max_ ats ty #[a, b, c, d] = (Builtin.max2 a b >>= fun s => Builtin.max2 s c >>= fun s => Builtin.max2 s d >>= fun s => pure s) := by simp only [Builtin.max_, List.foldlM_cons, List.foldlM_nil]
theorem min_four (ats : Array TypeId) (ty : TypeId) (a b c d : Value) : Builtin.min_ ats ty #[a, b, c, d] = (Builtin.min2 a b >>= fun s => Builtin.min2 s c >>= fun s => Builtin.min2 s d >>= fun s => pure s) := by simp only [Builtin.min_, List.foldlM_cons, List.foldlM_nil]
end Go.Proofs.YtldfejbmdonaoaaGreatDoorW.PrintMore
namespace Go.Proofs.YtldfejbmdonaoaaGreatDoorW.PrintWords
open Go.RowKit
section
variable {P : Program} {ops : Array Oper} {rest : List Oper} {o : Oper} {a : Act} {Q : Exit → Act → World → Prop} {W : World}
theorem gate_callee {f : FuncId} {as : Array Operand} {ts : Array TypeId} (_ho : o.op = .call { callee := .value (.func f), args := as, argTypes := ts }) (h : wpList P ops Q (o :: rest) a W) : wpList P ops Q (o :: rest) a W := h
end
namespace Kd
section
variable {α : Type} {d : Kd α} {e base : Nat} {ok : Nat → Prop} {W w1 : World} {v : Value} {xs : List α}
end
section
variable {α : Type} {d : Kd α} {e base g n cap : Nat} {ok oki okp : Nat → Prop} {W : World} {xs : List α} {i : Int} {c : List Value}
end
section
variable {α : Type} {d : Kd α} {e base b b' g N : Nat} {ok ok1 : Nat → Prop} {W W2 w1 : World} {u v : Value} {xs ys : List α} {S : Nat → Prop}
end
end Kd
end Go.Proofs.YtldfejbmdonaoaaGreatDoorW.PrintWords
namespace Go.Proofs.YtldfejbmdonaoaaGreatDoorW.PrintWords
open Go.RowKit
namespace Kd
section
variable {α β : Type} {d : Kd α} {e base base' n m c g N' lo hi : Nat} {ok ok' S : Nat → Prop} {w W w1 : World} {A : Option Addr} {ad : Addr} {u v v1 : Value} {xs : List α}
end
end Kd
end Go.Proofs.YtldfejbmdonaoaaGreatDoorW.PrintWords
namespace Go.Proofs.YtldfejbmdonaoaaGreatDoor.Bt
open Go.RowKit YtldfejbmdonaoaaGreatDoorW.PrintWords YtldfejbmdonaoaaGreatDoorW.PrintLast YtldfejbmdonaoaaGreatDoorW.PrintMore
theorem bt_in {s : ByteArray} {j : Nat} (h : j < s.size) : bt s (j : Int) = ((s[j]'h).toNat : Int) := by
  unfold bt
  simp [h]
theorem bt_out {s : ByteArray} {j : Nat} (h : s.size ≤ j) : bt s (j : Int) = 0 := by
  unfold bt
  simp [Nat.not_lt.mpr h]
theorem bt_append_left {a b : ByteArray} {j : Nat} (h : j < a.size) : bt (a ++ b) (j : Int) = bt a (j : Int) := by
  rw [bt_in h, bt_in (by rw [ByteArray.size_append]; omega), ByteArray.getElem_append_left h]
theorem bt_extract {s : ByteArray} {a b : Nat} (hb : b ≤ s.size) {j : Nat} (h : a + j < b) : bt (s.extract a b) (j : Int) = bt s ((a + j : Nat) : Int) := by
  have h1 : j < (s.extract a b).size := by rw [ByteArray.size_extract]; omega
  rw [bt_in h1, bt_in (by omega), ByteArray.getElem_extract]
theorem byte_of (x : Int) (h0 : 0 ≤ x) (h1 : x ≤ 255) : ((UInt8.ofNat x.toNat).toNat : Int) = x := by
  rw [UInt8.toNat_ofNat']
  omega
theorem bt_nums {l : List Int} {j : Nat} (h : j < l.length) (h0 : 0 ≤ l[j]) (h1 : l[j] ≤ 255) : bt (strOfNums l) (j : Int) = l[j] := by
  have hs : j < (strOfNums l).size := by rw [strOfNums_size]; exact h
  rw [bt_in hs]
  have : (strOfNums l)[j] = UInt8.ofNat (l[j]).toNat := by
    show (strOfNums l).data[j] = _
    simp [strOfNums]
  rw [this, byte_of _ h0 h1]
theorem ext_bt {a b : ByteArray} (hs : a.size = b.size) (h : ∀ j : Nat, j < a.size → bt a (j : Int) = bt b (j : Int)) : a = b := by
  refine ByteArray.ext_getElem hs fun i hi hi' => ?_
  have := h i hi
  rw [bt_in hi, bt_in hi'] at this
  exact UInt8.toNat_inj.mp (by omega)
end Go.Proofs.YtldfejbmdonaoaaGreatDoor.Bt