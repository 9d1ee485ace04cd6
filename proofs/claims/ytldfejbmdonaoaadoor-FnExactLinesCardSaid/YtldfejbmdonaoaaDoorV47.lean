/- Joined by a program of mine from texts of this claim: Lc. -/
import Derived.Test.YtldfejbmdonaoaaDoorV45
import Derived.OneCell
import Derived.Great.BuildSlice
namespace Go.Proofs.YtldfejbmdonaoaaDoor.Lc
open Go.RowKit YtldfejbmdonaoaaDoorW.PrintWords YtldfejbmdonaoaaDoorW.PrintLast YtldfejbmdonaoaaDoorW.PrintMore Tp Te At Pz Gp Gv Gn Sn Lv
set_option linter.unusedVariables false
set_option linter.unusedSimpArgs false
theorem info_str : (Tryd.prog.info? 9).map (fun i => (i.zero, i.size, i.bytes)) = some (some (.string ⟨#[]⟩), 1, 16) := by kernel_rfl
theorem build_str (a : ByteArray) (W : World) : (Instr.buildSlice 22 1 #[(0, .string a)]).run Tryd.prog W = .ok (.slice (some ⟨W.heap.size, 0, none⟩) 1 1) (W.alloc (.cells #[.string a] 9)) := by
  obtain ⟨i0, hi0, hz0, hz1, hz2⟩ := info_parts info_str
  exact run_buildSlice W 22 9 1 _ _ i0 _ Tryd.underlying22 hi0 hz0 (by rw [hz1]; decide) (by rw [hz1]; decide) (by rw [hz1]; kernel_rfl)
structure OutSt (B ob : Nat) (v : Value) (L : List ByteArray) (W : World) : Prop where
  box : W.heap[ob]? = some (.cells #[v] 22 (0, 0))
  own : W.ownsRow B 9 1 v L.length (L.map Value.string)
  lo : B ≤ ob
theorem own_apart {W : World} {B n : Nat} {v : Value} {xs : List Value} {e : TypeId} {s : Nat} (h : W.ownsRow B e s v n xs) {g : Nat} {cs : Array Value} {t : TypeId} (hb : W.heap[g]? = some (.cells cs t (0, 0))) (hne : t ≠ e) : some g ≠ v.ownBlock := by
  intro he
  rcases h.2 with hn | ⟨q, cap, cur, hv, hg, hh, _⟩
  · obtain ⟨h1, _⟩ := hn
    subst h1
    exact absurd he (by simp [Value.ownBlock])
  · subst hv
    have hq : g = q := by simpa [Value.ownBlock] using he
    subst hq
    rw [hb] at hh
    exact hne (by simpa using (Option.some.inj hh |> fun h => (Obj.cells.inj h).2.1))
set_option maxRecDepth 100000 in
set_option maxHeartbeats 8000000 in
theorem line_walk (w0 : World) (B ob : Nat) (v : Value) (L : List ByteArray) (hlen : L.length ≤ 70000) (k : Int) (a b : ByteArray) (c : Nat) (d : Int) (w : World) (hO : OutSt B ob v L w) (hB : Below B w0 w) (hBw : B ≤ w.heap.size) :
    Calls Tryd.prog 24 #[.agg #[.int .i64 k, .string a, .string b, .float .f64 c, .int .i64 d, .slice none 0 0], .pointer (some ⟨ob, 0, none⟩)] w fun e w' => e = .returned (.bool true) ∧ ∃ v', OutSt B ob v' (L ++ [a]) w' ∧ Below B w0 w' ∧ w.heap.size ≤ w'.heap.size ∧ ∀ g cs, g ≠ ob → w.heap[g]? = some (.cells cs 51 (0, 0)) → w'.heap[g]? = some (.cells cs 51 (0, 0)) := by
  obtain ⟨A, cc, rfl⟩ := own_slice hO.own
  have HO := Aside0.mk hO
  have HB := Aside0.mk (And.intro hB hBw)
  have HL := Aside0.mk hlen
  have hbox := blk_alloc hO.box (.cells #[.int .i64 k, .string a, .string b, .float .f64 c, .int .i64 d, .slice none 0 0] 51)
  have HP := Aside0.mk (heap_alloc_new w (.cells #[.int .i64 k, .string a, .string b, .float .f64 c, .int .i64 d, .slice none 0 0] 51))
  obtain ⟨W1, hW1⟩ : ∃ W1, w.alloc (.cells #[.int .i64 k, .string a, .string b, .float .f64 c, .int .i64 d, .slice none 0 0] 51) = W1 := ⟨_, rfl⟩
  have HW1 := Aside0.mk (show Below B w0 W1 ∧ W1.heap.size = w.heap.size + 1 ∧ W1.ownsRow B 9 1 (.slice A L.length cc) L.length (L.map Value.string) ∧ ∀ g o, w.heap[g]? = some o → W1.heap[g]? = some o from ⟨by rw [← hW1]; exact hB.alloc hBw _, by rw [← hW1]; simp, by rw [← hW1]; exact hO.own.alloc _, fun g o h => by rw [← hW1]; exact blk_alloc h _⟩)
  have HBX := Aside0.mk hbox
  have b0 := (blk_cell hbox 0).trans (rfl : _ = some (Value.slice A L.length cc))
  have p1 := (blk_cell HP.out 1).trans (rfl : _ = some (Value.string a))
  rw [hW1] at b0 p1 HBX HP
  have hbs := fun W => build_str a W
  clear hO hB hBw hlen hbox
  go_enter Tryd.func24, Tryd.ntmps24
  have HOW := Aside0.mk (show W1.ownsRow B 9 1 (.slice A L.length cc) (L.map Value.string).length (L.map Value.string) by rw [List.length_map]; exact HW1.out.2.2.1)
  go_wp2_with (at_builtin; refine print_append (w0 := w0) B rfl (.tmp 4) (.tmp 7) 22 9 (.string ⟨#[]⟩) 16 rfl Tryd.underlying22 info_str rfl (by decide) (.slice A L.length cc) (L.map Value.string) (.string a) rfl rfl rfl HOW.out HW1.out.1 (by have := HW1.out.2.1; have := HB.out.2; omega) (by have := HL.out; simp; omega) ?_; intro v1 w6 ho1 hB6 hg6 hat6; have hx6 := blk_grown HBX.out hg6 (own_apart HW1.out.2.2.1 HBX.out (by decide)); have HX6 := Aside0.mk (And.intro hx6 (And.intro ho1 (And.intro hB6 hg6))); have z0 := (blk_cell hx6 0).trans (rfl : _ = some (Value.slice A L.length cc)); have fz0 := blk_frozen hx6 0; obtain ⟨A1, m1, n1, e1⟩ := Tl.own_slice3 ho1; subst e1; clear hx6 ho1 hB6 hg6 hat6)
  go_ret
  obtain ⟨h1, h2, h3, h4⟩ := HX6.out
  have ne := own_apart h2 h1 (by decide)
  refine ⟨rfl, _, ⟨one_setCell h1, ?_, HO.out.lo⟩, h3.setCell (by have := HO.out.lo; simpa using this) _, ?_, ?_⟩
  · refine ownsRow_setCell_other ?_ (fun h => ne h.symm) _
    have e1 : (L ++ [a]).length = (L.map Value.string ++ [Value.string a]).length := by simp
    have e2 : (L ++ [a]).map Value.string = L.map Value.string ++ [Value.string a] := by simp
    rw [e1, e2]
    exact h2
  · have e5 := h4.size
    have e6 := HW1.out.2.1
    simp only [World.setCell, Array.size_modify]
    omega
  · intro g cs hgo hg
    have g1 := HW1.out.2.2.2 g _ hg
    exact blk_far (blk_grown g1 h4 (own_apart HW1.out.2.2.1 g1 (by decide))) (by simpa using hgo) _
end Go.Proofs.YtldfejbmdonaoaaDoor.Lc