/- Joined by a program of mine from texts of this claim: Gi, An, Ry, PFnExactLessx0, PFnExactLessx9, Wh. -/
import Derived.Test.YtldfejbmdonaoaaGreatDoorZB34
import Derived.Test.YtldfejbmdonaoaaGreatDoorZB43
import Derived.Test.YtldfejbmdonaoaaGreatDoorZB39
import Derived.Test.YtldfejbmdonaoaaGreatDoorProg
import Derived.Below
import Derived.Deep.Draws
import Derived.Deep.AppendLies
import Derived.Maps.AppendAt
import Derived.OwnWalk
import Derived.Laws.BytesArg
import Derived.Laws.MakeOwn
import Derived.Laws.OwnMore
import Derived.Deep.OwnRows
import Derived.Tactics
import Derived.Lib.ConvBytes
import Derived.Laws.Slices
import Derived.WalkKit
import Derived.KernelRfl
import Derived.RowKit3
import Derived.Deep.LoopGhost
import Derived.Deep.QuietTactic
import Derived.BigQuiet
import Derived.WideLaws
import Derived.Deep.DeepCutAuto
import Derived.Deep.CutBlock
import Derived.Deep.RegionHeld3
import Derived.Laws.Rows
import Derived.Lib.AppendStr
import Derived.ArgAppend
import Derived.Laws.IdiomCopy
import Derived.OrdersHeld
import Derived.Laws.BitsLemmas
import Derived.RowKit
import Derived.Test.YtldfejbmdonaoaaGreatDoorZB1
import Derived.Test.YtldfejbmdonaoaaGreatDoorZB2
import Derived.Test.YtldfejbmdonaoaaGreatDoorZB17
import Derived.Test.YtldfejbmdonaoaaGreatDoorZB28
namespace Go.Proofs.YtldfejbmdonaoaaGreatDoor.Gi
open Go.RowKit YtldfejbmdonaoaaGreatDoorW.PrintWords YtldfejbmdonaoaaGreatDoorW.PrintLast YtldfejbmdonaoaaGreatDoorW.PrintMore Tp Te Gp Gv At Pz Nx Gn
set_option linter.unusedVariables false
set_option linter.unusedSimpArgs false
set_option maxRecDepth 100000 in
set_option maxHeartbeats 8000000 in
theorem value_any (k : Int) (a : ByteArray) (hk : k ≠ 0 ∨ 0 < a.size) (b : ByteArray) (c : Nat) (d : Int) (A : Option Addr) (n m : Nat) (w : World) : Calls Tryz.prog 28 #[.agg #[.int .i64 k, .string a, .string b, .float .f64 c, .int .i64 d, .slice A n m]] w fun e w' => e = .returned (.agg #[.int .i64 k, .string a, .string b, .float .f64 c, .int .i64 d, .bool true]) ∧ Below w.heap.size w w' := by
  have HK := Aside0.mk hk
  clear hk
  go_enter Tryz.func28, Tryz.ntmps28
  go_wp2_with fail
  have hz : w.heap.size + 1 < ((w.alloc (.cells #[.int .i64 k, .string a, .string b, .float .f64 c, .int .i64 d, .slice A n m] 50)).alloc (.cells #[.int .i64 0, .string ⟨#[]⟩, .string ⟨#[]⟩, .float .f64 0, .int .i64 0, .bool false] 35)).heap.size := by simp
  have hp : ((w.alloc (.cells #[.int .i64 k, .string a, .string b, .float .f64 c, .int .i64 d, .slice A n m] 50)).alloc (.cells #[.int .i64 0, .string ⟨#[]⟩, .string ⟨#[]⟩, .float .f64 0, .int .i64 0, .bool false] 35)).heap[w.heap.size]? = some (.cells #[.int .i64 k, .string a, .string b, .float .f64 c, .int .i64 d, .slice A n m] 50 (0, 0)) := blk_alloc (heap_alloc_new w _) _
  have hr : ((w.alloc (.cells #[.int .i64 k, .string a, .string b, .float .f64 c, .int .i64 d, .slice A n m] 50)).alloc (.cells #[.int .i64 0, .string ⟨#[]⟩, .string ⟨#[]⟩, .float .f64 0, .int .i64 0, .bool false] 35)).heap[w.heap.size + 1]? = some (.cells #[.int .i64 0, .string ⟨#[]⟩, .string ⟨#[]⟩, .float .f64 0, .int .i64 0, .bool false] 35 (0, 0)) := by
    have := heap_alloc_new (w.alloc (.cells #[.int .i64 k, .string a, .string b, .float .f64 c, .int .i64 d, .slice A n m] 50)) (.cells #[.int .i64 0, .string ⟨#[]⟩, .string ⟨#[]⟩, .float .f64 0, .int .i64 0, .bool false] 35)
    simpa using this
  have hb : Below w.heap.size w ((w.alloc (.cells #[.int .i64 k, .string a, .string b, .float .f64 c, .int .i64 d, .slice A n m] 50)).alloc (.cells #[.int .i64 0, .string ⟨#[]⟩, .string ⟨#[]⟩, .float .f64 0, .int .i64 0, .bool false] 35)) := Below.alloc ((Below.refl _ _).alloc (by omega) _) (by simp) _
  obtain ⟨W1, hW1⟩ : ∃ W1, (w.alloc (.cells #[.int .i64 k, .string a, .string b, .float .f64 c, .int .i64 d, .slice A n m] 50)).alloc (.cells #[.int .i64 0, .string ⟨#[]⟩, .string ⟨#[]⟩, .float .f64 0, .int .i64 0, .bool false] 35) = W1 := ⟨_, rfl⟩
  rw [hW1] at hz hp hr hb ⊢
  have HB := Aside0.mk hb
  have HZ := Aside0.mk hz
  have p0 := (blk_cell hp 0).trans (rfl : _ = some (Value.int .i64 k))
  have p1 := (blk_cell hp 1).trans (rfl : _ = some (Value.string a))
  have p2 := (blk_cell hp 2).trans (rfl : _ = some (Value.string b))
  have p3 := (blk_cell hp 3).trans (rfl : _ = some (Value.float .f64 c))
  have p4 := (blk_cell hp 4).trans (rfl : _ = some (Value.int .i64 d))
  have p5 := (blk_cell hp 5).trans (rfl : _ = some (Value.slice A n m))
  have r0 := (blk_cell hr 0).trans (rfl : _ = some (Value.int .i64 0))
  have r1 := (blk_cell hr 1).trans (rfl : _ = some (Value.string ⟨#[]⟩))
  have r2 := (blk_cell hr 2).trans (rfl : _ = some (Value.string ⟨#[]⟩))
  have r3 := (blk_cell hr 3).trans (rfl : _ = some (Value.float .f64 0))
  have r4 := (blk_cell hr 4).trans (rfl : _ = some (Value.int .i64 0))
  have r5 := (blk_cell hr 5).trans (rfl : _ = some (Value.bool false))
  have g0 := blk_frozen hr 0
  have g1 := blk_frozen hr 1
  have g2 := blk_frozen hr 2
  have g3 := blk_frozen hr 3
  have g4 := blk_frozen hr 4
  have g5 := blk_frozen hr 5
  clear hz hp hr hb hW1
  go_region_held3 (fun w' => w'.cell? ⟨w.heap.size, 0, none⟩ = some (.int .i64 k) ∧ w'.cell? ⟨w.heap.size, 1, none⟩ = some (.string a) ∧ w'.cell? ⟨w.heap.size, 2, none⟩ = some (.string b) ∧ w'.cell? ⟨w.heap.size, 3, none⟩ = some (.float .f64 c) ∧ w'.cell? ⟨w.heap.size, 4, none⟩ = some (.int .i64 d) ∧ w'.cell? ⟨w.heap.size, 5, none⟩ = some (.slice A n m))
    (first
      | go_keep
      | exact ⟨cell_b hbe p0, cell_b hbe p1, cell_b hbe p2, cell_b hbe p3, cell_b hbe p4, cell_b hbe p5⟩
      | trace_state)
    ((go_at_call 43; refine (exists_any k a HK.out _ _ _ _ _).mono ?_; rintro e w5 ⟨rfl, hbe⟩; have x0 := cell_b hbe r0; have x1 := cell_b hbe r1; have x2 := cell_b hbe r2; have x3 := cell_b hbe r3; have x4 := cell_b hbe r4; have x5 := cell_b hbe r5; have y0 := frozen_b hbe r0 g0; have y1 := frozen_b hbe r1 g1; have y2 := frozen_b hbe r2 g2; have y3 := frozen_b hbe r3 g3; have y4 := frozen_b hbe r4 g4; have y5 := frozen_b hbe r5 g5))
  have HF := Aside0.mk (Below.trans (show Below w.heap.size w W1.drew from HB.out.drew) (show Below w.heap.size W1.drew w5 from hbe.mono (by have := HZ.out; show w.heap.size ≤ W1.heap.size; omega)))
  clear hbe
  go_wp2_with fail
  refine bodyPost_ret (v := .agg #[.int .i64 k, .string a, .string b, .float .f64 c, .int .i64 d, .bool true]) (by simp [results, Tryz.results28, go_sem, x0, x1, x2, x3, x4, x5]) rfl ?_
  refine ⟨rfl, ?_⟩
  exact (((((HF.out.setCell (by simp) _).setCell (by simp) _).setCell (by simp) _).setCell (by simp) _).setCell (by simp) _).setCell (by simp) _
end Go.Proofs.YtldfejbmdonaoaaGreatDoor.Gi
namespace Go.Proofs.YtldfejbmdonaoaaGreatDoor.An
open Go.RowKit YtldfejbmdonaoaaGreatDoorW.PrintWords YtldfejbmdonaoaaGreatDoorW.PrintLast YtldfejbmdonaoaaGreatDoorW.PrintMore Tw Tp Te At Pz Nx Gp Gv Gn Gi Ak Al Am PFnAppendParse
set_option linter.unusedVariables false
set_option linter.unusedSimpArgs false
def one (k : Int) (a : ByteArray) : JT := .mk k a 0 ⟨#[]⟩ false [] []
end Go.Proofs.YtldfejbmdonaoaaGreatDoor.An
namespace Go.Proofs.YtldfejbmdonaoaaGreatDoor.Ry
open Go.RowKit YtldfejbmdonaoaaGreatDoorW.PrintWords YtldfejbmdonaoaaGreatDoorW.PrintLast YtldfejbmdonaoaaGreatDoorW.PrintMore Tw Tf Tp Te Tg Ti Tr Rd Gp Gv At Pz Nx Gn Gd Sp
set_option linter.unusedVariables false
set_option linter.unusedSimpArgs false
structure WellRead (s : ByteArray) (T : JT) (j : Int) : Prop where
  size : (s.size : Int) ≤ 65536
  good : Gd.Good s (runEnd ws s 0) j T
  tree : ∃ k : Nat, 600000 ≤ k ∧ treeF (k + 1) s (runEnd ws s 0) false = some (T, s, j, false)
  str : T.kind = 3 → ∃ l, strR s (runEnd ws s 0 + 1) = some (l, T.pairs, j) ∧ T.str = strOfNums l
def ReadTold (s : ByteArray) (w : World) (e : Ending) (w' : World) : Prop :=
  ∃ (T : JT) (ok : Bool) (A5 : Option Addr) (n5 c5 : Nat) (A6 : Option Addr) (n6 c6 : Nat), e = .returned (.tuple #[.agg #[.int .i64 T.kind, .string T.raw, .int .i64 T.place, .string T.str, .bool T.pairs, .slice A5 n5 c5, .slice A6 n6 c6], .bool ok]) ∧
    TreeAt w' (fun q => w.heap.size ≤ q) (cells7 T.kind T.raw T.place T.str T.pairs (.slice A5 n5 c5) (.slice A6 n6 c6)) T ∧ (ok = true → ∃ j, WellRead s T j) ∧ Below w.heap.size w w'
theorem told_of {s : ByteArray} (hs : (s.size : Int) ≤ 65536) {k : Nat} (hk : 600000 ≤ k) {j : Int} {T : JT} (ht : treeF (k + 1) s (runEnd ws s 0) false = some (T, s, j, false)) (hj : runEnd ws s j = (s.size : Int)) (hj2 : j ≤ (s.size : Int)) : WellRead s T j := by
  refine ⟨hs, Gd.good_of hs hk ht hj hj2, ⟨k, hk, ht⟩, fun h3 => ?_⟩
  have hb := runEnd_le (p := ws) (s := s) (i := 0) (by omega)
  obtain ⟨_, hT⟩ := tree_inv hs hb.1 hb.2 (by omega) ht
  cases hT with
  | str l p h hr => exact ⟨l, hr, rfl⟩
  | word kind x hx _ _ => exact absurd h3 (by show ¬ kind = 3; omega)
  | list => exact absurd h3 (by show ¬ (5 : Int) = 3; decide)
  | num => exact absurd h3 (by show ¬ (2 : Int) = 3; decide)
theorem read_told (s : ByteArray) (w : World) : Calls Tryz.prog 7 #[.string s] w (ReadTold s w) := by
  by_cases c3 : 65536 < (s.size : Int)
  · refine (read_long s w c3).mono ?_
    rintro e w1 ⟨rfl, hb⟩
    refine ⟨.mk 0 ⟨#[]⟩ 0 ⟨#[]⟩ false [] [], false, none, 0, 0, none, 0, 0, rfl, ?_, fun h => absurd h (by decide), hb⟩
    exact .mk 0 ⟨#[]⟩ 0 ⟨#[]⟩ false _ _ [] [] (fun _ => []) ⟨none, 0, rfl, ⟨Nat.le_refl 0, Nat.zero_le _⟩, fun h => absurd h (by decide)⟩ ⟨none, 0, rfl, Nat.zero_le _, fun j h => absurd h (Nat.not_lt_zero j), fun h => absurd h (by decide)⟩ (fun j h => absurd h (Nat.not_lt_zero j))
  · obtain ⟨k, hk⟩ : ∃ k : Nat, 700000 ≤ k := ⟨700000, Nat.le_refl _⟩
    obtain ⟨T, ok, hread, j, b, ht, j1, j2, hok⟩ := read_is (s := s) (by omega) (k := k + 1) (by omega)
    refine (read_any (k + 1) s T ok w (by omega) hread).mono ?_
    rintro e w1 ⟨kv, iv, rfl, hTA, hb⟩
    obtain ⟨A5, n5, c5, A6, n6, c6, rfl, rfl⟩ : ∃ A5 n5 c5 A6 n6 c6, kv = .slice A5 n5 c5 ∧ iv = .slice A6 n6 c6 := Tl.tree_slices hTA
    refine ⟨T, ok, A5, n5, c5, A6, n6, c6, rfl, hTA, fun h => ?_, hb⟩
    subst h
    have hb0 : b = false := by
      cases b with
      | true => simp at hok
      | false => rfl
    subst hb0
    exact ⟨j, told_of (by omega) (by omega) ht (by simpa using hok) j2⟩
end Go.Proofs.YtldfejbmdonaoaaGreatDoor.Ry
namespace Go.Proofs.YtldfejbmdonaoaaGreatDoor.PFnExactLess
open Go.RowKit YtldfejbmdonaoaaGreatDoorW.PrintWords YtldfejbmdonaoaaGreatDoorW.PrintLast YtldfejbmdonaoaaGreatDoorW.PrintMore
attribute [local go_sem] max2_int min2_int max_two min_two max_three min_three max_four min_four   -- for this text's walks alone
set_option linter.unusedVariables false
set_option linter.unusedSimpArgs false
def errW : Option Int → Value
  | none => .nilIface
  | some c => .iface 105 (.int .i64 c)
theorem errW_none : errW none = .nilIface := rfl
theorem errW_some (c : Int) : errW (some c) = .iface 105 (.int .i64 c) := rfl
theorem info5 : (Tryz.prog.info? 5).map (fun i => (i.zero, i.size, i.bytes)) = some (some (.int .u8 0), 1, 1) := by kernel_rfl
end Go.Proofs.YtldfejbmdonaoaaGreatDoor.PFnExactLess
namespace Go.Proofs.YtldfejbmdonaoaaGreatDoor.PFnExactLess
open Go.RowKit YtldfejbmdonaoaaGreatDoorW.PrintWords YtldfejbmdonaoaaGreatDoorW.PrintLast YtldfejbmdonaoaaGreatDoorW.PrintMore
attribute [local go_sem] max2_int min2_int max_two min_two max_three min_three max_four min_four   -- for this text's walks alone
set_option linter.unusedVariables false
set_option linter.unusedSimpArgs false
end Go.Proofs.YtldfejbmdonaoaaGreatDoor.PFnExactLess
namespace Go.Proofs.YtldfejbmdonaoaaGreatDoor.Wh
open Go.RowKit YtldfejbmdonaoaaGreatDoorW.PrintWords YtldfejbmdonaoaaGreatDoorW.PrintLast YtldfejbmdonaoaaGreatDoorW.PrintMore Tp Fr Nx PFnExactLess
set_option linter.unusedVariables false
set_option linter.unusedSimpArgs false
structure Dgs (d : ByteArray) (n : Int) (k : Nat) : Prop where
  pos : 1 ≤ d.size
  le : d.size ≤ k
  all : ∀ j : Nat, j < d.size → 48 ≤ bt d j ∧ bt d j ≤ 57
  num : nv d 0 d.size = n
  top : d.size = 1 ∨ 49 ≤ bt d ((0 : Nat) : Int)
theorem nv_congr {s t : ByteArray} {a b : Int} : ∀ {k : Nat}, (∀ j : Nat, j < k → bt s (a + j) = bt t (b + j)) → nv s a k = nv t b k
  | 0, _ => rfl
  | k + 1, h => by
    simp only [nv]
    rw [nv_congr (k := k) (fun j hj => h j (by omega)), h k (Nat.lt_succ_self k)]
theorem one_dgs (n : Int) (h0 : 0 ≤ n) (h1 : n < 10) : Dgs (strOfNums ([(wrap64 (48 + n)) % 256] : List Int)) n 1 := by
  have e : wrap64 (48 + n) % 256 = 48 + n := by unfold wrap64; omega
  rw [e]
  have hb : bt (strOfNums [48 + n]) ((0 : Nat) : Int) = 48 + n := by
    have := Bt.bt_nums (l := [48 + n]) (j := 0) (by simp) (by simp; omega) (by simp; omega)
    simpa using this
  have hs : (strOfNums [48 + n]).size = 1 := by rw [strOfNums_size]; rfl
  refine ⟨by omega, by omega, ?_, ?_, .inl hs⟩
  · rw [hs]
    intro j hj
    obtain rfl : j = 0 := by omega
    rw [hb]
    omega
  · rw [hs]
    simp only [nv]
    rw [show (0 : Int) + ((0 : Nat) : Int) = ((0 : Nat) : Int) by rfl, hb]
    omega
theorem Dgs.snoc {t d : ByteArray} {n x : Int} {k : Nat} (h : Dgs t n k) (hn : 1 ≤ n) (hd : Dgs d x 1) : Dgs (t ++ d) (n * 10 + x) (k + 1) := by
  have hs : (t ++ d).size = t.size + 1 := by rw [ByteArray.size_append]; have := hd.pos; have := hd.le; omega
  have hd1 : d.size = 1 := by have := hd.pos; have := hd.le; omega
  have hl : bt (t ++ d) (t.size : Int) = bt d ((0 : Nat) : Int) := Bt.bt_append_right 0
  have hall := hd.all
  have hnum := hd.num
  rw [hd1] at hall hnum
  have hp := h.pos
  refine ⟨by omega, by have := h.le; omega, ?_, ?_, .inr ?_⟩
  · rw [hs]
    intro j hj
    by_cases c : j < t.size
    · rw [Bt.bt_append_left c]
      exact h.all j c
    · obtain rfl : j = t.size := by omega
      rw [hl]
      exact hall 0 (by omega)
  · rw [hs]
    simp only [nv]
    rw [nv_congr (t := t) (b := 0) (fun j hj => by rw [show (0 : Int) + (j : Int) = (j : Int) by omega]; exact Bt.bt_append_left hj), h.num, show (0 : Int) + (t.size : Int) = (t.size : Int) by omega, hl]
    simp only [nv] at hnum
    rw [show (0 : Int) + ((0 : Nat) : Int) = ((0 : Nat) : Int) by rfl] at hnum
    omega
  · rw [Bt.bt_append_left (by omega)]
    rcases h.top with ht | ht
    · have h1 := h.num
      rw [ht] at h1
      simp only [nv] at h1
      rw [show (0 : Int) + ((0 : Nat) : Int) = ((0 : Nat) : Int) by rfl] at h1
      omega
    · exact ht
structure NumT (s : ByteArray) (n : Int) : Prop where
  size : (s.size : Int) ≤ 19
  pos : 0 < (s.size : Int)
  is : ∃ j, IntStr s j ∧ nv s j ((s.size : Int) - j).toNat = (if n < 0 then -n else n) ∧ (j = 1 ↔ n < 0)
  good : numBad s 0 = false
  end_ : numEnd s 0 = (s.size : Int)
theorem all_run {s : ByteArray} : ∀ (k : Nat) (i : Int), ((s.size : Int) - i).toNat = k → i ≤ (s.size : Int) → (∀ x, i ≤ x → x < (s.size : Int) → dg (bt s x) = true) → runEnd dg s i = (s.size : Int)
  | 0, i, hk, hi, _ => by rw [runEnd_stop (.inl (by omega))]; omega
  | k + 1, i, hk, hi, h => by
    rw [runEnd_step (by omega) (h i (Int.le_refl _) (by omega))]
    exact all_run k (i + 1) (by omega) (by omega) (fun x h1 h2 => h x (by omega) h2)
theorem num_of {s : ByteArray} {i : Int} (hi : nSign s 0 = i) (h1 : i < (s.size : Int)) (hd : ∀ x, i ≤ x → x < (s.size : Int) → 48 ≤ bt s x ∧ bt s x ≤ 57) (ht : (s.size : Int) - i = 1 ∨ 49 ≤ bt s i) : numBad s 0 = false ∧ numEnd s 0 = (s.size : Int) := by
  have hg : ∀ x, i ≤ x → x < (s.size : Int) → dg (bt s x) = true := fun x h2 h3 => dg_iff.mpr (hd x h2 h3)
  have hn : nInt s i = (s.size : Int) := by
    unfold nInt
    by_cases c : bt s i = 48
    · rw [if_pos c]; omega
    · rw [if_neg c]; exact all_run _ i rfl (by omega) hg
  have hz : bt s (s.size : Int) = 0 := bt_out (Int.le_refl _)
  have hf : nFrac s (s.size : Int) = (s.size : Int) := by unfold nFrac; rw [hz, if_neg (by decide)]
  constructor
  · unfold numBad nFracB nExpB
    rw [hi, hn, hf, hz, hg i (Int.le_refl _) h1, show ((0 : Int) == 46) = false by decide, show isE 0 = false by decide]
    rfl
  · unfold numEnd nExp
    rw [hi, hn, hf, hz, if_neg (by decide)]
theorem pos_text {d : ByteArray} {n : Int} (h0 : 0 ≤ n) (D : Dgs d n 18) : NumT d n := by
  have hp := D.pos
  have hl := D.le
  have hd : ∀ x : Int, 0 ≤ x → x < (d.size : Int) → 48 ≤ bt d x ∧ bt d x ≤ 57 := fun x h1 h2 => by
    obtain ⟨y, rfl⟩ := Int.eq_ofNat_of_zero_le h1
    exact D.all y (by omega)
  have h00 := hd 0 (Int.le_refl _) (by omega)
  have hs : nSign d 0 = 0 := by unfold nSign; rw [if_neg (by omega)]
  obtain ⟨g1, g2⟩ := num_of hs (by omega) hd (by rcases D.top with h | h; exact .inl (by omega); exact .inr h)
  refine ⟨by omega, by omega, ⟨0, ⟨.inl ⟨rfl, by omega, by omega⟩, by omega, by omega, hd⟩, ?_, ?_⟩, g1, g2⟩
  · rw [show ((d.size : Int) - 0).toNat = d.size by omega, D.num, if_neg (by omega)]
  · constructor <;> intro h <;> omega
end Go.Proofs.YtldfejbmdonaoaaGreatDoor.Wh