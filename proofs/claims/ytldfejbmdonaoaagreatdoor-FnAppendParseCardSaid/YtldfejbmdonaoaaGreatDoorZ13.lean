/- Joined by a program of mine from texts of this claim: Sp9, Sp10, Tf. -/
import Derived.Test.YtldfejbmdonaoaaGreatDoorZ9
import Derived.Test.YtldfejbmdonaoaaGreatDoorZ11
import Derived.Test.YtldfejbmdonaoaaGreatDoorZ12
import Derived.Test.YtldfejbmdonaoaaGreatDoorZ6
namespace Go.Proofs.YtldfejbmdonaoaaGreatDoor.Sp
open Go.RowKit YtldfejbmdonaoaaGreatDoorW.PrintWords YtldfejbmdonaoaaGreatDoorW.PrintLast YtldfejbmdonaoaaGreatDoorW.PrintMore
attribute [local go_sem] max2_int min2_int max_two min_two max_three min_three max_four min_four   -- for this text's walks alone
set_option linter.unusedVariables false
set_option linter.unusedSimpArgs false
mutual
def spec_reading_number.j0 : Nat → ByteArray → Int → Bool → Option (ByteArray × Int × Bool)
  | 0, _, _, _ => none
  | k + 1, x1000, x1001, x1002 => (spec_reading_next.f x1000 x1001 x1002).bind fun bt171 => (if bt171.1 = 48 then (spec_reading_number.j1 k bt171.2.1 (wrap64 (bt171.2.2.1 + 1)) bt171.2.2.2) else ((spec_reading_digits.f k bt171.2.1 bt171.2.2.1 bt171.2.2.2).bind fun bt175 => (spec_reading_number.j1 k bt175.1 bt175.2.1 bt175.2.2)))
def spec_reading_number.j1 : Nat → ByteArray → Int → Bool → Option (ByteArray × Int × Bool)
  | 0, _, _, _ => none
  | k + 1, x1000, x1001, x1002 => (spec_reading_next.f x1000 x1001 x1002).bind fun bt178 => (if bt178.1 = 46 then ((spec_reading_digits.f k bt178.2.1 (wrap64 (bt178.2.2.1 + 1)) bt178.2.2.2).bind fun bt182 => (spec_reading_number.j2 k bt182.1 bt182.2.1 bt182.2.2)) else (spec_reading_number.j2 k bt178.2.1 bt178.2.2.1 bt178.2.2.2))
def spec_reading_number.j2 : Nat → ByteArray → Int → Bool → Option (ByteArray × Int × Bool)
  | 0, _, _, _ => none
  | k + 1, x1000, x1001, x1002 => (spec_reading_next.f x1000 x1001 x1002).bind fun bt185 => (if bt185.1 = 101 then (spec_reading_number.j3 k true bt185.2.1 bt185.2.2.1 bt185.2.2.2) else ((spec_reading_next.f bt185.2.1 bt185.2.2.1 bt185.2.2.2).bind fun bt189 => (spec_reading_number.j3 k (bt189.1 == 69) bt189.2.1 bt189.2.2.1 bt189.2.2.2)))
def spec_reading_number.j3 : Nat → Bool → ByteArray → Int → Bool → Option (ByteArray × Int × Bool)
  | 0, _, _, _, _ => none
  | k + 1, x43, x1000, x1001, x1002 => if x43 = true then ((spec_reading_next.f x1000 (wrap64 (x1001 + 1)) x1002).bind fun bt193 => (if bt193.1 = 43 then ((spec_reading_digits.f k bt193.2.1 (wrap64 (bt193.2.2.1 + 1)) bt193.2.2.2).bind fun bt197 => (some (bt197.1, bt197.2.1, bt197.2.2))) else ((spec_reading_next.f bt193.2.1 bt193.2.2.1 bt193.2.2.2).bind fun bt200 => (if bt200.1 = 45 then ((spec_reading_digits.f k bt200.2.1 (wrap64 (bt200.2.2.1 + 1)) bt200.2.2.2).bind fun bt204 => (some (bt204.1, bt204.2.1, bt204.2.2))) else ((spec_reading_digits.f k bt200.2.1 bt200.2.2.1 bt200.2.2.2).bind fun bt207 => (some (bt207.1, bt207.2.1, bt207.2.2))))))) else (some (x1000, x1001, x1002))
end
def spec_reading_number.f (k : Nat) (s0_0 : ByteArray) (s0_1 : Int) (s0_2 : Bool) : Option (ByteArray × Int × Bool) := (spec_reading_next.f s0_0 s0_1 s0_2).bind fun bt167 => (if bt167.1 = 45 then (spec_reading_number.j0 k bt167.2.1 (wrap64 (bt167.2.2.1 + 1)) bt167.2.2.2) else (spec_reading_number.j0 k bt167.2.1 bt167.2.2.1 bt167.2.2.2))
end Go.Proofs.YtldfejbmdonaoaaGreatDoor.Sp
namespace Go.Proofs.YtldfejbmdonaoaaGreatDoor.Sp
open Go.RowKit YtldfejbmdonaoaaGreatDoorW.PrintWords YtldfejbmdonaoaaGreatDoorW.PrintLast YtldfejbmdonaoaaGreatDoorW.PrintMore
attribute [local go_sem] max2_int min2_int max_two min_two max_three min_three max_four min_four   -- for this text's walks alone
set_option linter.unusedVariables false
set_option linter.unusedSimpArgs false
def spec_reading_blank.l0 : Nat → ByteArray → Int → Bool → Option (ByteArray × Int × Bool)
  | 0, _, _, _ => none
  | k + 1, x1000, x1001, x1002 => if x1001 < (x1000.size : Int) then (if 0 ≤ x1001 then (if (bt x1000 x1001) = 32 then (spec_reading_blank.l0 k x1000 (wrap64 (x1001 + 1)) x1002) else (if (bt x1000 x1001) = 9 then (spec_reading_blank.l0 k x1000 (wrap64 (x1001 + 1)) x1002) else (if (bt x1000 x1001) = 10 then (spec_reading_blank.l0 k x1000 (wrap64 (x1001 + 1)) x1002) else (if (bt x1000 x1001) = 13 then (spec_reading_blank.l0 k x1000 (wrap64 (x1001 + 1)) x1002) else (some (x1000, x1001, x1002)))))) else (none)) else (some (x1000, x1001, x1002))
def spec_reading_blank.f (k : Nat) (s0_0 : ByteArray) (s0_1 : Int) (s0_2 : Bool) : Option (ByteArray × Int × Bool) := spec_reading_blank.l0 k s0_0 s0_1 s0_2
end Go.Proofs.YtldfejbmdonaoaaGreatDoor.Sp
namespace Go.Proofs.YtldfejbmdonaoaaGreatDoor.Tf
open Go.RowKit YtldfejbmdonaoaaGreatDoorW.PrintWords YtldfejbmdonaoaaGreatDoorW.PrintLast YtldfejbmdonaoaaGreatDoorW.PrintMore Tw Sp
def finF (kind : Int) (str : ByteArray) (pairs : Bool) (K : List ByteArray) (I : List JT) (i0 : Int) (s : ByteArray) (i : Int) (b : Bool) : Option (JT × ByteArray × Int × Bool) :=
  if b = true then some (.mk kind (⟨#[]⟩ : ByteArray) i0 str pairs K I, s, i, b)
  else if 0 ≤ i0 then (if i0 ≤ i then (if i ≤ (s.size : Int) then some (.mk kind (s.extract i0.toNat i.toNat) i0 str pairs K I, s, i, b) else none) else none) else none
mutual
def treeF : Nat → ByteArray → Int → Bool → Option (JT × ByteArray × Int × Bool)
  | 0, _, _, _ => none
  | k + 1, s, i, b => (spec_reading_next.f s i b).bind fun q =>
    if q.1 = 34 then (spec_reading_text.f k q.2.1 q.2.2.1 q.2.2.2).bind fun t => finF 3 t.1 t.2.1 [] [] i t.2.2.1 t.2.2.2.1 t.2.2.2.2
    else if q.1 = 116 then (spec_reading_word.f k q.2.1 q.2.2.1 q.2.2.2 (⟨#[116, 114, 117, 101]⟩ : ByteArray)).bind fun t => finF 4 (⟨#[]⟩ : ByteArray) true [] [] i t.1 t.2.1 t.2.2
    else if q.1 = 102 then (spec_reading_word.f k q.2.1 q.2.2.1 q.2.2.2 (⟨#[102, 97, 108, 115, 101]⟩ : ByteArray)).bind fun t => finF 1 (⟨#[]⟩ : ByteArray) true [] [] i t.1 t.2.1 t.2.2
    else if q.1 = 110 then (spec_reading_word.f k q.2.1 q.2.2.1 q.2.2.2 (⟨#[110, 117, 108, 108]⟩ : ByteArray)).bind fun t => finF 0 (⟨#[]⟩ : ByteArray) true [] [] i t.1 t.2.1 t.2.2
    else if q.1 = 123 then (listF k q.2.1 q.2.2.1 q.2.2.2 125 true).bind fun t => finF 5 (⟨#[]⟩ : ByteArray) t.2.2.1 t.1 t.2.1 i t.2.2.2.1 t.2.2.2.2.1 t.2.2.2.2.2
    else if q.1 = 91 then (listF k q.2.1 q.2.2.1 q.2.2.2 93 false).bind fun t => finF 5 (⟨#[]⟩ : ByteArray) t.2.2.1 t.1 t.2.1 i t.2.2.2.1 t.2.2.2.2.1 t.2.2.2.2.2
    else (spec_reading_number.f k q.2.1 q.2.2.1 q.2.2.2).bind fun t => finF 2 (⟨#[]⟩ : ByteArray) true [] [] i t.1 t.2.1 t.2.2
def listF : Nat → ByteArray → Int → Bool → Int → Bool → Option (List ByteArray × List JT × Bool × ByteArray × Int × Bool)
  | 0, _, _, _, _, _ => none
  | k + 1, s, i, b, e, ks => (spec_reading_blank.f k s (wrap64 (i + 1)) b).bind fun q => (spec_reading_next.f q.1 q.2.1 q.2.2).bind fun c =>
    if c.1 = e then some ([], [], true, c.2.1, wrap64 (c.2.2.1 + 1), c.2.2.2) else loopF k c.2.1 c.2.2.1 c.2.2.2 e ks [] [] true
def loopF : Nat → ByteArray → Int → Bool → Int → Bool → List ByteArray → List JT → Bool → Option (List ByteArray × List JT × Bool × ByteArray × Int × Bool)
  | 0, _, _, _, _, _, _, _, _ => none
  | k + 1, s, i, b, e, ks, K, I, P =>
    if b = true then (spec_reading_take.f s i b e).bind fun q => some (K, I, P, q.1, q.2.1, q.2.2)
    else if K.length < 1000000 then
      (if ks = true then (spec_reading_text.f k s i b).bind fun t => (spec_reading_blank.f k t.2.2.1 t.2.2.2.1 t.2.2.2.2).bind fun q1 => (spec_reading_take.f q1.1 q1.2.1 q1.2.2 58).bind fun q2 => (spec_reading_blank.f k q2.1 q2.2.1 q2.2.2).bind fun q3 =>
        itemF k q3.1 q3.2.1 q3.2.2 e ks (K ++ [t.1]) I (P && t.2.1)
      else itemF k s i b e ks K I P)
    else none
def itemF : Nat → ByteArray → Int → Bool → Int → Bool → List ByteArray → List JT → Bool → Option (List ByteArray × List JT × Bool × ByteArray × Int × Bool)
  | 0, _, _, _, _, _, _, _, _ => none
  | k + 1, s, i, b, e, ks, K, I, P =>
    if I.length < 1000000 then
      (treeF k s i b).bind fun t => (spec_reading_blank.f k t.2.1 t.2.2.1 t.2.2.2).bind fun q => (spec_reading_next.f q.1 q.2.1 q.2.2).bind fun c =>
        if c.1 = 44 then (spec_reading_blank.f k c.2.1 (wrap64 (c.2.2.1 + 1)) c.2.2.2).bind fun q2 => loopF k q2.1 q2.2.1 q2.2.2 e ks K (I ++ [t.1]) (P && t.1.pairs)
        else (spec_reading_take.f c.2.1 c.2.2.1 c.2.2.2 e).bind fun q2 => some (K, I ++ [t.1], P && t.1.pairs, q2.1, q2.2.1, q2.2.2)
    else none
end
end Go.Proofs.YtldfejbmdonaoaaGreatDoor.Tf