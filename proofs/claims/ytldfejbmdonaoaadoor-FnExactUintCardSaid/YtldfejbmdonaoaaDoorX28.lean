/- Joined by a program of mine from texts of this claim: Pz. -/
import Derived.Test.YtldfejbmdonaoaaDoorX27
namespace Go.Proofs.YtldfejbmdonaoaaDoor.Pz
open Go.RowKit YtldfejbmdonaoaaDoorW.PrintWords YtldfejbmdonaoaaDoorW.PrintLast YtldfejbmdonaoaaDoorW.PrintMore At
set_option linter.unusedVariables false
set_option linter.unusedSimpArgs false
structure ErrVars (W : World) (lim : Nat) : Prop where
  mk :: (out : 1 < lim ∧ 2 < lim ∧ (∃ t p, W.cell? ⟨1, 0, none⟩ = some (.iface t p)) ∧ (∃ t p, W.cell? ⟨2, 0, none⟩ = some (.iface t p)))
theorem ErrVars.below {W W' : World} {lim : Nat} (h : ErrVars W lim) (hb : Below lim W W') : ErrVars W' lim := by
  obtain ⟨h1, h2, ⟨t, p, h3⟩, ⟨t', p', h4⟩⟩ := h.out
  exact ⟨h1, h2, ⟨t, p, by rw [hb.cell (p := ⟨_, 0, none⟩) h1]; exact h3⟩, ⟨t', p', by rw [hb.cell (p := ⟨_, 0, none⟩) h2]; exact h4⟩⟩
theorem ErrVars.mono {W : World} {lim lim' : Nat} (h : ErrVars W lim) (hl : lim ≤ lim') : ErrVars W lim' := by
  obtain ⟨h1, h2, r⟩ := h.out
  exact ⟨by omega, by omega, r⟩
set_option maxRecDepth 100000 in
set_option maxHeartbeats 4000000 in
theorem prefix_walk (s : ByteArray) (w : World) (hN : NumS s) (hT : Tabs w w.heap.size) :
    Calls Tryd.prog 57 #[.string s, .int .i64 64] w (AtPost s w) := by
  have HA := Aside0.mk (atof64_walk s w hN hT)
  clear hN hT
  go_enter Tryd.func57, Tryd.ntmps57
  go_wp2_with fail
  refine HA.out.mono ?_
  rintro e w1 ⟨x, n, er, rfl, her, hb⟩
  have HE := Aside0.mk her
  have HB := Aside0.mk hb
  clear her hb
  go_wp2
  go_ret3
  exact ⟨x, n, er, rfl, HE.out, HB.out⟩
def FlPost (s : ByteArray) (w : World) (e : Ending) (w' : World) : Prop := ∃ (x : Nat) (er : Value), e = .returned (.tuple #[.float .f64 x, er]) ∧ (ErrW er ∧ ExactV s x (s.size : Int) er) ∧ Below w.heap.size w w'
set_option maxRecDepth 100000 in
set_option maxHeartbeats 4000000 in
theorem inner_walk (s : ByteArray) (w : World) (hN : NumS s) (hT : Tabs w w.heap.size) :
    Calls Tryd.prog 45 #[.string s, .int .i64 64] w (FlPost s w) := by
  have HA := Aside0.mk (prefix_walk s w hN hT)
  clear hN hT
  go_enter Tryd.func45, Tryd.ntmps45
  go_wp2_with fail
  refine HA.out.mono ?_
  rintro e w1 ⟨x, n, er, rfl, her, hb⟩
  have HE := Aside0.mk her
  have HB := Aside0.mk hb
  clear her hb
  by_cases hn : n = (s.size : Int)
  · have d1 : (n != (s.size : Int)) = false := bne_eq_false_iff_eq.mpr hn
    clear hn
    go_wp2
    go_ret2
    exact ⟨x, er, rfl, ⟨HE.out.1, fun j hj h1 h2 => ⟨(HE.out.2.1 j hj h1 h2).1, rfl, (HE.out.2.1 j hj h1 h2).2.2⟩, fun j hj h1 h2 => ⟨(HE.out.2.2 j hj h1 h2).1, rfl, (HE.out.2.2 j hj h1 h2).2.2⟩⟩, HB.out⟩
  · have d1 : (n != (s.size : Int)) = true := bne_iff_ne.mpr hn
    have HNN := Aside0.mk hn
    clear hn
    go_wp2
    go_ret2
    exact ⟨_, _, rfl, ⟨.inr (.inr rfl), fun j hj h1 h2 => absurd (HE.out.2.1 j hj h1 h2).2.1 HNN.out, fun j hj h1 h2 => absurd (HE.out.2.2 j hj h1 h2).2.1 HNN.out⟩, HB.out⟩
def PFPost (s : ByteArray) (w : World) (e : Ending) (w' : World) : Prop := ∃ (x : Nat) (er : Value), e = .returned (.tuple #[.float .f64 x, er]) ∧ ExactX s x ∧ Below w.heap.size w w'
set_option maxRecDepth 100000 in
set_option maxHeartbeats 4000000 in
theorem float_walk (s : ByteArray) (w : World) (hN : NumS s) (hT : Tabs w w.heap.size) (hV : ErrVars w w.heap.size) :
    Calls Tryd.prog 34 #[.string s, .int .i64 64] w (PFPost s w) := by
  have HA := Aside0.mk (inner_walk s w hN hT)
  have HS := Aside0.mk (show s.size ≤ 281474976710656 by have := hN.size; omega)
  have HV := Aside0.mk hV
  clear hN hT hV
  go_enter Tryd.func34, Tryd.ntmps34
  go_wp2_with fail
  refine HA.out.mono ?_
  rintro e w1 ⟨x, er, rfl, ⟨her, hexv⟩, hb⟩
  have HEX := Aside0.mk (show ExactX s x from ⟨fun j hj h1 h2 => (hexv.1 j hj h1 h2).1, fun j hj h1 h2 => (hexv.2 j hj h1 h2).1⟩)
  have HB := Aside0.mk hb
  obtain ⟨_, _, ⟨t1, p1, hv1⟩, ⟨t2, p2, hv2⟩⟩ := (HV.out.below hb).out
  have HV1 := Aside0.mk hv1
  have HV2 := Aside0.mk hv2
  clear hb hv1 hv2 hexv
  rcases her with rfl | rfl | rfl
  · go_wp2
    go_ret2
    exact ⟨x, _, rfl, HEX.out, HB.out⟩
  · go_wp2_with fail
    refine (Sw.strconv_toError_range _ s _ _ _ w1 HS.out HV2.out (.inr ⟨_, _, rfl⟩)).mono ?_
    rintro e w2 ⟨N, rfl, _, _, hb⟩
    have HB2 := Aside0.mk (below_then HB.out HB.out.size hb)
    clear hb
    go_wp2
    go_ret2
    exact ⟨x, _, rfl, HEX.out, HB2.out⟩
  · go_wp2_with fail
    refine (Sw.strconv_toError_syntax _ s _ _ _ w1 HS.out HV1.out (.inr ⟨_, _, rfl⟩)).mono ?_
    rintro e w2 ⟨N, rfl, _, _, hb⟩
    have HB2 := Aside0.mk (below_then HB.out HB.out.size hb)
    clear hb
    go_wp2
    go_ret2
    exact ⟨x, _, rfl, HEX.out, HB2.out⟩
end Go.Proofs.YtldfejbmdonaoaaDoor.Pz