/- Joined by a program of mine from texts of this claim: Tf. -/
import Derived.Test.YtldfejbmdonaoaaDoorZ18
import Derived.Test.YtldfejbmdonaoaaDoorZ19
import Derived.Test.YtldfejbmdonaoaaDoorZ25
import Derived.Test.YtldfejbmdonaoaaDoorZ26
import Derived.Test.YtldfejbmdonaoaaDoorZ28
import Derived.Test.YtldfejbmdonaoaaDoorZ29
namespace Go.Proofs.YtldfejbmdonaoaaDoor.Tf
open Go.RowKit YtldfejbmdonaoaaDoorW.PrintWords YtldfejbmdonaoaaDoorW.PrintLast YtldfejbmdonaoaaDoorW.PrintMore Tw Sp
def finF (kind : Int) (str : ByteArray) (pairs : Bool) (K : List ByteArray) (I : List JT) (i0 : Int) (s : ByteArray) (i : Int) (b : Bool) : Option (JT × ByteArray × Int × Bool) :=
  if b = true then some (.mk kind (⟨#[]⟩ : ByteArray) i0 str pairs K I, s, i, b)
  else if 0 ≤ i0 then (if i0 ≤ i then (if i ≤ (s.size : Int) then some (.mk kind (s.extract i0.toNat i.toNat) i0 str pairs K I, s, i, b) else none) else none) else none
mutual
def treeF : Nat → ByteArray → Int → Bool → Option (JT × ByteArray × Int × Bool)
  | 0, _, _, _ => none
  | k + 1, s, i, b => (spec_reading_next.f s i b).bind fun q =>
    if q.1 = 34 then (spec_reading_text.f k q.2.1 q.2.2.1 q.2.2.2).bind fun t => finF 3 t.1 t.2.1 [] [] i t.2.2.1 t.2.2.2.1 t.2.2.2.2
    else if q.1 = 116 then (spec_reading_word.f k q.2.1 q.2.2.1 q.2.2.2 (⟨#[116, 114, 117, 101]⟩ : ByteArray)).bind fun t => finF 4 (⟨#[]⟩ : ByteArray) true [] [] i t.1 t.2.1 t.2.2
    else if q.1 = 102 then (spec_reading_word.f k q.2.1 q.2.2.1 q.2.2.2 (⟨#[102, 97, 108, 115, 101]⟩ : ByteArray)).bind fun t => finF 1 (⟨#[]⟩ : ByteArray) true [] [] i t.1 t.2.1 t.2.2
    else if q.1 = 110 then (spec_reading_word.f k q.2.1 q.2.2.1 q.2.2.2 (⟨#[110, 117, 108, 108]⟩ : ByteArray)).bind fun t => finF 0 (⟨#[]⟩ : ByteArray) true [] [] i t.1 t.2.1 t.2.2
    else if q.1 = 123 then (listF k q.2.1 q.2.2.1 q.2.2.2 125 true).bind fun t => finF 5 (⟨#[]⟩ : ByteArray) t.2.2.1 t.1 t.2.1 i t.2.2.2.1 t.2.2.2.2.1 t.2.2.2.2.2
    else if q.1 = 91 then (listF k q.2.1 q.2.2.1 q.2.2.2 93 false).bind fun t => finF 5 (⟨#[]⟩ : ByteArray) t.2.2.1 t.1 t.2.1 i t.2.2.2.1 t.2.2.2.2.1 t.2.2.2.2.2
    else (spec_reading_number.f k q.2.1 q.2.2.1 q.2.2.2).bind fun t => finF 2 (⟨#[]⟩ : ByteArray) true [] [] i t.1 t.2.1 t.2.2
def listF : Nat → ByteArray → Int → Bool → Int → Bool → Option (List ByteArray × List JT × Bool × ByteArray × Int × Bool)
  | 0, _, _, _, _, _ => none
  | k + 1, s, i, b, e, ks => (spec_reading_blank.f k s (wrap64 (i + 1)) b).bind fun q => (spec_reading_next.f q.1 q.2.1 q.2.2).bind fun c =>
    if c.1 = e then some ([], [], true, c.2.1, wrap64 (c.2.2.1 + 1), c.2.2.2) else loopF k c.2.1 c.2.2.1 c.2.2.2 e ks [] [] true
def loopF : Nat → ByteArray → Int → Bool → Int → Bool → List ByteArray → List JT → Bool → Option (List ByteArray × List JT × Bool × ByteArray × Int × Bool)
  | 0, _, _, _, _, _, _, _, _ => none
  | k + 1, s, i, b, e, ks, K, I, P =>
    if b = true then (spec_reading_take.f s i b e).bind fun q => some (K, I, P, q.1, q.2.1, q.2.2)
    else if K.length < 1000000 then
      (if ks = true then (spec_reading_text.f k s i b).bind fun t => (spec_reading_blank.f k t.2.2.1 t.2.2.2.1 t.2.2.2.2).bind fun q1 => (spec_reading_take.f q1.1 q1.2.1 q1.2.2 58).bind fun q2 => (spec_reading_blank.f k q2.1 q2.2.1 q2.2.2).bind fun q3 =>
        itemF k q3.1 q3.2.1 q3.2.2 e ks (K ++ [t.1]) I (P && t.2.1)
      else itemF k s i b e ks K I P)
    else none
def itemF : Nat → ByteArray → Int → Bool → Int → Bool → List ByteArray → List JT → Bool → Option (List ByteArray × List JT × Bool × ByteArray × Int × Bool)
  | 0, _, _, _, _, _, _, _, _ => none
  | k + 1, s, i, b, e, ks, K, I, P =>
    if I.length < 1000000 then
      (treeF k s i b).bind fun t => (spec_reading_blank.f k t.2.1 t.2.2.1 t.2.2.2).bind fun q => (spec_reading_next.f q.1 q.2.1 q.2.2).bind fun c =>
        if c.1 = 44 then (spec_reading_blank.f k c.2.1 (wrap64 (c.2.2.1 + 1)) c.2.2.2).bind fun q2 => loopF k q2.1 q2.2.1 q2.2.2 e ks K (I ++ [t.1]) (P && t.1.pairs)
        else (spec_reading_take.f c.2.1 c.2.2.1 c.2.2.2 e).bind fun q2 => some (K, I ++ [t.1], P && t.1.pairs, q2.1, q2.2.1, q2.2.2)
    else none
end
end Go.Proofs.YtldfejbmdonaoaaDoor.Tf