/- spec.Read: what it says with fuel enough, and of a text that is too long. -/
import Derived.Test.YteehmhakcdaljaaDoorTr
import Derived.Test.YteehmhakcdaljaaDoorTi
namespace Go.Proofs.YteehmhakcdaljaaDoor.Rd
open Go.RowKit Go.Proofs.YteehmhakcdaljaaDoorW.PrintWords Go.Proofs.YteehmhakcdaljaaDoorW.PrintLast Go.Proofs.YteehmhakcdaljaaDoorW.PrintMore Go.Proofs.YteehmhakcdaljaaDoor.Tw Go.Proofs.YteehmhakcdaljaaDoor.Tf Go.Proofs.YteehmhakcdaljaaDoor.Tp Go.Proofs.YteehmhakcdaljaaDoor.Te Go.Proofs.YteehmhakcdaljaaDoor.Tg Go.Proofs.YteehmhakcdaljaaDoor.Ti Go.Proofs.YteehmhakcdaljaaDoor.Tr Go.Proofs.YteehmhakcdaljaaDoor.Sp
set_option linter.unusedVariables false
set_option linter.unusedSimpArgs false

/-- What spec.Read says, with fuel enough. -/
theorem read_is {s : ByteArray} (hs : (s.size : Int) ≤ 65536) {k : Nat} (hk : 600000 ≤ k) : ∃ T ok, readF k s = some (T, ok) ∧
    ∃ j b, treeF k s (runEnd ws s 0) false = some (T, s, j, b) ∧ runEnd ws s 0 ≤ j ∧ j ≤ (s.size : Int) ∧ ok = (!b && runEnd ws s j == (s.size : Int)) := by
  have hs' : (s.size : Int) ≤ 2147483647 := by omega
  have hb := runEnd_le (p := ws) (s := s) (i := 0) (by omega)
  obtain ⟨T, j, b, e, j1, j2, _⟩ := (all_read hs k).1 (runEnd ws s 0) false (by omega) hb.2 (by omega)
  refine ⟨T, !b && runEnd ws s j == (s.size : Int), ?_, j, b, e, j1, j2, rfl⟩
  unfold readF
  rw [blank_eq hs' (by omega) false (by omega)]
  simp only [Option.bind_some]
  rw [e]
  simp only [Option.bind_some]
  rw [blank_eq hs' (by omega) b (by omega)]
  rfl

set_option maxRecDepth 100000 in
set_option maxHeartbeats 8000000 in
/-- spec.Read on a text that is too long. -/
theorem read_long (s : ByteArray) (w : World) (hs : 65536 < (s.size : Int)) :
    Calls Tryd.prog 5 #[.string s] w fun e w' => e = .returned (.tuple #[.agg #[.int .i64 0, .string ⟨#[]⟩, .int .i64 0, .string ⟨#[]⟩, .bool false, .slice none 0 0, .slice none 0 0], .bool false]) ∧ Below w.heap.size w w' := by
  have hy := heap_alloc_new w (.cells #[.int .i64 0, .string ⟨#[]⟩, .int .i64 0, .string ⟨#[]⟩, .bool false, .slice none 0 0, .slice none 0 0] 26)
  have r0 := (blk_cell hy 0).trans (rfl : _ = some (Value.int .i64 0))
  have r1 := (blk_cell hy 1).trans (rfl : _ = some (Value.string ⟨#[]⟩))
  have r2 := (blk_cell hy 2).trans (rfl : _ = some (Value.int .i64 0))
  have r3 := (blk_cell hy 3).trans (rfl : _ = some (Value.string ⟨#[]⟩))
  have r4 := (blk_cell hy 4).trans (rfl : _ = some (Value.bool false))
  have r5 := (blk_cell hy 5).trans (rfl : _ = some (Value.slice none 0 0))
  have r6 := (blk_cell hy 6).trans (rfl : _ = some (Value.slice none 0 0))
  go_enter Tryd.func5, Tryd.ntmps5
  go_wp2_with fail
  refine bodyPost_ret (v := .tuple #[.agg #[.int .i64 0, .string ⟨#[]⟩, .int .i64 0, .string ⟨#[]⟩, .bool false, .slice none 0 0, .slice none 0 0], .bool false]) (by simp [results, Tryd.results5, go_sem, r0, r1, r2, r3, r4, r5, r6]) rfl ?_
  exact ⟨rfl, below_alloc (Below.refl _ _) _⟩
end Go.Proofs.YteehmhakcdaljaaDoor.Rd
