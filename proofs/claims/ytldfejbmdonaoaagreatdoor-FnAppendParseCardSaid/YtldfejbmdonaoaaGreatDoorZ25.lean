/- Joined by a program of mine from texts of this claim: Tr, Rd, Ul, Vs0. -/
import Derived.Test.YtldfejbmdonaoaaGreatDoorZ24
import Derived.RegionTactic
import Derived.BigRegion
import Derived.Test.YtldfejbmdonaoaaGreatDoorZ17
import Derived.Test.YtldfejbmdonaoaaGreatDoorZ22
import Derived.Test.YtldfejbmdonaoaaGreatDoorZ23
import Derived.Test.YtldfejbmdonaoaaGreatDoorProg
import Derived.Below
import Derived.Deep.Draws
import Derived.Deep.AppendLies
import Derived.Maps.AppendAt
import Derived.OwnWalk
import Derived.Laws.BytesArg
import Derived.Laws.MakeOwn
import Derived.Laws.OwnMore
import Derived.Deep.OwnRows
import Derived.Tactics
import Derived.Lib.ConvBytes
import Derived.Laws.Slices
import Derived.WalkKit
import Derived.KernelRfl
import Derived.RowKit3
import Derived.Deep.LoopGhost
import Derived.Deep.QuietTactic
import Derived.BigQuiet
import Derived.WideLaws
import Derived.Deep.DeepCutAuto
import Derived.Deep.CutBlock
import Derived.Deep.RegionHeld3
import Derived.Laws.Rows
import Derived.Lib.AppendStr
import Derived.ArgAppend
import Derived.Laws.IdiomCopy
import Derived.OrdersHeld
import Derived.Laws.BitsLemmas
import Derived.RowKit
import Derived.Test.YtldfejbmdonaoaaGreatDoorZ1
import Derived.Test.YtldfejbmdonaoaaGreatDoorZ2
import Derived.Test.YtldfejbmdonaoaaGreatDoorZ7
import Derived.Test.YtldfejbmdonaoaaGreatDoorZ8
import Derived.Test.YtldfejbmdonaoaaGreatDoorZ3
import Derived.Test.YtldfejbmdonaoaaGreatDoorZ4
import Derived.Test.YtldfejbmdonaoaaGreatDoorZ9
import Derived.Test.YtldfejbmdonaoaaGreatDoorZ5
namespace Go.Proofs.YtldfejbmdonaoaaGreatDoor.Tr
open Go.RowKit YtldfejbmdonaoaaGreatDoorW.PrintWords YtldfejbmdonaoaaGreatDoorW.PrintLast YtldfejbmdonaoaaGreatDoorW.PrintMore Tw Tf Tl Tt Sp
set_option linter.unusedVariables false
set_option linter.unusedSimpArgs false
def readF (k : Nat) (s : ByteArray) : Option (JT × Bool) :=
  (spec_reading_blank.f k s 0 false).bind fun q => (treeF k q.1 q.2.1 q.2.2).bind fun t => (spec_reading_blank.f k t.2.1 t.2.2.1 t.2.2.2).bind fun q2 =>
    some (t.1, !q2.2.2 && q2.2.1 == (s.size : Int))
def ReadPost (w : World) (T : JT) (ok : Bool) (e : Ending) (w' : World) : Prop :=
  ∃ kv iv, e = .returned (.tuple #[.agg #[.int .i64 T.kind, .string T.raw, .int .i64 T.place, .string T.str, .bool T.pairs, kv, iv], .bool ok]) ∧ TreeAt w' (fun q => w.heap.size ≤ q) (cells7 T.kind T.raw T.place T.str T.pairs kv iv) T ∧ Below w.heap.size w w'
structure RB (w wr : World) (g rb : Nat) (s : ByteArray) (i : Int) (b : Bool) : Prop where
  st : IsS45 w wr g s i b
  below : Below w.heap.size w wr
  res : wr.heap[rb]? = some (.cells #[.int .i64 0, .string ⟨#[]⟩, .int .i64 0, .string ⟨#[]⟩, .bool false, .slice none 0 0, .slice none 0 0] 25 (0, 0))
theorem RB.step {w wr w1 : World} {g rb : Nat} {s s1 : ByteArray} {i i1 : Int} {b b1 : Bool} (h : RB w wr g rb s i b) (hn : ¬ rb = g)
    (hi : IsS45 w w1 g s1 i1 b1) (hb : Below w.heap.size w w1) (hk : KeepBut wr w1 g none) : RB w w1 g rb s1 i1 b1 :=
  ⟨hi, hb, by rw [hk.2 rb (blk_lt h.res) hn (by simp)]; exact h.res⟩
theorem RB.done {w wr w6 : World} {g rb : Nat} {s : ByteArray} {i : Int} {b ok : Bool} {T : JT} {kv iv : Value} (h : RB w wr g rb s i b) (hr : rb = w.heap.size) (hg : g = w.heap.size + 1)
    (hT : TreeAt wr (fun q => g < q) (cells7 T.kind T.raw T.place T.str T.pairs kv iv) T) (hb : Below 0 wr w6) (hk : ∀ q, q ≠ rb → w6.heap[q]? = wr.heap[q]?) :
    ReadPost w T ok (.returned (.tuple #[.agg #[.int .i64 T.kind, .string T.raw, .int .i64 T.place, .string T.str, .bool T.pairs, kv, iv], .bool ok])) w6 := by
  refine ⟨kv, iv, rfl, hT.move (fun q hq _ => ⟨by omega, hk q (by omega)⟩), ?_⟩
  exact ⟨hb.os.trans h.below.os, hb.tape.trans h.below.tape, hb.output.trans h.below.output, Nat.le_trans h.below.size hb.size, fun q hq => (hk q (by omega)).trans (h.below.block q hq)⟩
end Go.Proofs.YtldfejbmdonaoaaGreatDoor.Tr
namespace Go.Proofs.YtldfejbmdonaoaaGreatDoor.Rd
open Go.RowKit YtldfejbmdonaoaaGreatDoorW.PrintWords YtldfejbmdonaoaaGreatDoorW.PrintLast YtldfejbmdonaoaaGreatDoorW.PrintMore Tw Tf Tp Te Tg Ti Tr Sp
set_option linter.unusedVariables false
set_option linter.unusedSimpArgs false
theorem read_is {s : ByteArray} (hs : (s.size : Int) ≤ 65536) {k : Nat} (hk : 600000 ≤ k) : ∃ T ok, readF k s = some (T, ok) ∧
    ∃ j b, treeF k s (runEnd ws s 0) false = some (T, s, j, b) ∧ runEnd ws s 0 ≤ j ∧ j ≤ (s.size : Int) ∧ ok = (!b && runEnd ws s j == (s.size : Int)) := by
  have hs' : (s.size : Int) ≤ 2147483647 := by omega
  have hb := runEnd_le (p := ws) (s := s) (i := 0) (by omega)
  obtain ⟨T, j, b, e, j1, j2, _⟩ := (all_read hs k).1 (runEnd ws s 0) false (by omega) hb.2 (by omega)
  refine ⟨T, !b && runEnd ws s j == (s.size : Int), ?_, j, b, e, j1, j2, rfl⟩
  unfold readF
  rw [blank_eq hs' (by omega) false (by omega)]
  simp only [Option.bind_some]
  rw [e]
  simp only [Option.bind_some]
  rw [blank_eq hs' (by omega) b (by omega)]
  rfl
end Go.Proofs.YtldfejbmdonaoaaGreatDoor.Rd
namespace Go.Proofs.YtldfejbmdonaoaaGreatDoor.Ul
open Go.RowKit YtldfejbmdonaoaaGreatDoorW.PrintWords YtldfejbmdonaoaaGreatDoorW.PrintLast YtldfejbmdonaoaaGreatDoorW.PrintMore Tw Tf Tp Te Tg Ti Tr Rd Vt Uu Ua Uw Sp
set_option linter.unusedVariables false
set_option linter.unusedSimpArgs false
set_option maxRecDepth 100000 in
set_option maxHeartbeats 8000000 in
theorem string_walk (s : ByteArray) (hs : (s.size : Int) ≤ 5000) (l : List Int) (hE : Enc s 0 l) (w : World) (hT : HexTab w) (hU : Lib.Utf8Tabs 1 2 w) :
    Calls Tryz.prog 18 #[.string s] w fun e w' => e = .returned (.string (strOfNums (34 :: l ++ [34]))) ∧ Below w.heap.size w w' := by
  have HA := Aside0.mk (append_walk s hs l hE w hT hU)
  clear hE hT hU hs
  obtain ⟨xs, hxs⟩ : ∃ xs, 34 :: l ++ [34] = xs := ⟨_, rfl⟩
  rw [hxs] at HA ⊢
  clear hxs
  go_enter Tryz.func18, Tryz.ntmps18
  go_wp2_with fail
  refine HA.out.mono ?_
  rintro e w1 ⟨v1, rfl, ho, hb⟩
  have hcv := own_string (P := Tryz.prog) Tryz.underlying53 Tryz.underlying5 Tryz.underlying9 ho
  have HB := Aside0.mk hb
  clear HA ho hb
  go_wp2_with fail
  go_ret
  exact ⟨rfl, HB.out⟩
theorem strOfNums_bytesOf (s : ByteArray) : strOfNums (bytesOf s) = s := by
  have hz : (strOfNums (bytesOf s)).size = s.size := by rw [strOfNums_size, bytesOf_length]
  refine Bt.ext_bt hz fun j hj => ?_
  have hj' : j < (bytesOf s).length := by rw [bytesOf_length]; omega
  have h := bytes_at s j (by omega)
  rw [List.getElem?_eq_getElem hj'] at h
  have h2 := Option.some.inj h
  rw [Bt.bt_nums hj' (by rw [h2]; exact (bt_range _ _).1) (by rw [h2]; exact (bt_range _ _).2), h2]
end Go.Proofs.YtldfejbmdonaoaaGreatDoor.Ul
namespace Go.Proofs.YtldfejbmdonaoaaGreatDoor.Vs
open Go.RowKit YtldfejbmdonaoaaGreatDoorW.PrintWords YtldfejbmdonaoaaGreatDoorW.PrintLast YtldfejbmdonaoaaGreatDoorW.PrintMore
attribute [local go_sem] max2_int min2_int max_two min_two max_three min_three max_four min_four   -- for this text's walks alone
set_option linter.unusedVariables false
set_option linter.unusedSimpArgs false
def errW : Option Int → Value
  | none => .nilIface
  | some c => .iface 0 (.int .i64 c)
theorem errW_none : errW none = .nilIface := rfl
theorem errW_some (c : Int) : errW (some c) = .iface 0 (.int .i64 c) := rfl
end Go.Proofs.YtldfejbmdonaoaaGreatDoor.Vs