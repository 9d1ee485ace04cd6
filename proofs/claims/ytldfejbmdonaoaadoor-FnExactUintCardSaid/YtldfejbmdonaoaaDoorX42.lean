/- Joined by a program of mine from texts of this claim: Gp, Gv. -/
import Derived.Test.YtldfejbmdonaoaaDoorX41
namespace Go.Proofs.YtldfejbmdonaoaaDoor.Gp
open Go.RowKit YtldfejbmdonaoaaDoorW.PrintWords YtldfejbmdonaoaaDoorW.PrintLast YtldfejbmdonaoaaDoorW.PrintMore Tp Te Ts
set_option linter.unusedVariables false
set_option linter.unusedSimpArgs false
set_option linter.unusedSectionVars false
@[go_sem] theorem run_store_float {P : Program} {w : World} {a : Addr} {m : Mode} (k : FloatKind) (x : _) : (store a (.float k x) m).run P w = stored P w a (.float k x) m := run_store P w a _ m rfl
section
variable {s v : ByteArray} {a : Int} (h0 : 0 ≤ a) (hb : ∀ x, 0 ≤ x → bt v x = bt s (a + x)) (hz : (v.size : Int) = (s.size : Int) - a)
include h0 hb hz
end
theorem tail_bt {s : ByteArray} {a : Int} (h0 : 0 ≤ a) (ha : a ≤ (s.size : Int)) : ∀ x, 0 ≤ x → bt (s.extract a.toNat s.size) x = bt s (a + x) := by
  intro x hx
  by_cases c : a + x < (s.size : Int)
  · have h := Ub.sub_bt (s := s) h0 (Int.le_refl (s.size : Int)) hx c
    rw [Int.toNat_natCast] at h
    exact h
  · rw [Tp.bt_out (s := s) (by omega), Tp.bt_out (by rw [ByteArray.size_extract]; omega)]
theorem tail_size {s : ByteArray} {a : Int} (h0 : 0 ≤ a) (ha : a ≤ (s.size : Int)) : ((s.extract a.toNat s.size).size : Int) = (s.size : Int) - a := by
  rw [ByteArray.size_extract]; omega
theorem tail_cut {u : ByteArray} {i j : Int} (h0 : 0 ≤ i) (h1 : i ≤ j) (h2 : j ≤ (u.size : Int)) : (u.extract i.toNat u.size).extract 0 (j - i).toNat = u.extract i.toNat j.toNat := by
  rw [ByteArray.extract_extract, show min (i.toNat + (j - i).toNat) u.size = j.toNat by omega]
  rfl
set_option maxRecDepth 100000 in
set_option maxHeartbeats 8000000 in
theorem exists_walk (k : Int) (hk : k ≠ 0) (a b c d f : Value) (w : World) : Calls Tryd.prog 30 #[.agg #[.int .i64 k, a, b, c, d, f]] w fun e w' => e = .returned (.bool true) ∧ Below w.heap.size w w' := by
  have d0 : (k = 0) = False := eq_false hk
  have d1 : (k != 0) = true := bne_iff_ne.mpr hk
  have HB := Aside0.mk ((Below.refl w.heap.size w).alloc (Nat.le_refl _) (Obj.cells #[.int .i64 k, a, b, c, d, f] 51))
  clear hk
  go_enter Tryd.func30, Tryd.ntmps30
  go_wp2
  go_ret
  exact ⟨rfl, HB.out⟩
end Go.Proofs.YtldfejbmdonaoaaDoor.Gp
namespace Go.Proofs.YtldfejbmdonaoaaDoor.Gv
open Go.RowKit YtldfejbmdonaoaaDoorW.PrintWords YtldfejbmdonaoaaDoorW.PrintLast YtldfejbmdonaoaaDoorW.PrintMore Tp Te Gp
set_option linter.unusedVariables false
set_option linter.unusedSimpArgs false
end Go.Proofs.YtldfejbmdonaoaaDoor.Gv