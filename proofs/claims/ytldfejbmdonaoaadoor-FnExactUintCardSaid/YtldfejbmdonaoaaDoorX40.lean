/- Joined by a program of mine from texts of this claim: Ub. -/
import Derived.Test.YtldfejbmdonaoaaDoorX38
import Derived.Test.YtldfejbmdonaoaaDoorX10
namespace Go.Proofs.YtldfejbmdonaoaaDoor.Ub
open Go.RowKit YtldfejbmdonaoaaDoorW.PrintWords YtldfejbmdonaoaaDoorW.PrintLast YtldfejbmdonaoaaDoorW.PrintMore Tp Te
set_option linter.unusedVariables false
set_option linter.unusedSimpArgs false
inductive BodyW (u : ByteArray) : Int → Prop where
  | nil {i : Int} (h : i = (u.size : Int)) : BodyW u i
  | plain {i : Int} (h0 : i < (u.size : Int)) (h : 32 ≤ bt u i ∧ bt u i ≠ 92) (t : BodyW u (i + 1)) : BodyW u i
  | short {i : Int} (h : bt u i = 92) (he : esc (bt u (i + 1)) = true) (t : BodyW u (i + 2)) : BodyW u i
  | uni {i : Int} (h : bt u i = 92) (hu : bt u (i + 1) = 117) (hh : hex4 u (i + 2) = true) (t : BodyW u (i + 6)) : BodyW u i
inductive BodyP (u : ByteArray) : Int → List Int → Prop where
  | nil {i : Int} (h : i = (u.size : Int)) : BodyP u i []
  | plain {i : Int} {l : List Int} (h0 : i < (u.size : Int)) (h : 32 ≤ bt u i ∧ bt u i ≠ 92) (t : BodyP u (i + 1) l) : BodyP u i (bt u i :: l)
  | short {i : Int} {l : List Int} (h : bt u i = 92) (he : esc (bt u (i + 1)) = true) (t : BodyP u (i + 2) l) : BodyP u i (escV (bt u (i + 1)) :: l)
  | uni {i : Int} {l : List Int} (h : bt u i = 92) (hu : bt u (i + 1) = 117) (hh : hex4 u (i + 2) = true) (hn : hexV u (i + 2) < 55296 ∨ 57343 < hexV u (i + 2)) (t : BodyP u (i + 6) l) : BodyP u i (runeL (hexV u (i + 2)) ++ l)
  | pair {i : Int} {l : List Int} (h : bt u i = 92) (hu : bt u (i + 1) = 117) (hh : hex4 u (i + 2) = true) (hn : 55296 ≤ hexV u (i + 2) ∧ hexV u (i + 2) < 56320) (h6 : bt u (i + 6) = 92) (h7 : bt u (i + 7) = 117) (h8 : hex4 u (i + 8) = true)
      (hm : 56320 ≤ hexV u (i + 8) ∧ hexV u (i + 8) ≤ 57343) (t : BodyP u (i + 12) l) : BodyP u i (runeL (65536 + (hexV u (i + 2) - 55296) * 1024 + (hexV u (i + 8) - 56320)) ++ l)
section
variable {s : ByteArray} {a e : Int} (h0 : 0 ≤ a) (he : e ≤ (s.size : Int))
include h0 he
theorem sub_bt {x : Int} (h1 : 0 ≤ x) (h2 : a + x < e) : bt (s.extract a.toNat e.toNat) x = bt s (a + x) := by
  have h := Bt.bt_extract (s := s) (a := a.toNat) (b := e.toNat) (by omega) (j := x.toNat) (by omega)
  rw [show ((x.toNat : Nat) : Int) = x by omega, show ((a.toNat + x.toNat : Nat) : Int) = a + x by omega] at h
  exact h
end
end Go.Proofs.YtldfejbmdonaoaaDoor.Ub