/- Joined by a program of mine from texts of this claim: Ry, Lv. -/
import Derived.Test.YtldfejbmdonaoaaDoorV40
import Derived.Test.YtldfejbmdonaoaaDoorV41
import Derived.Test.YtldfejbmdonaoaaDoorV16
namespace Go.Proofs.YtldfejbmdonaoaaDoor.Ry
open Go.RowKit YtldfejbmdonaoaaDoorW.PrintWords YtldfejbmdonaoaaDoorW.PrintLast YtldfejbmdonaoaaDoorW.PrintMore Tw Tf Tp Te Tg Ti Tr Rd Gp Gv At Pz Nx Gn Gd Sp
set_option linter.unusedVariables false
set_option linter.unusedSimpArgs false
structure WellRead (s : ByteArray) (T : JT) (j : Int) : Prop where
  size : (s.size : Int) ≤ 65536
  good : Gd.Good s (runEnd ws s 0) j T
  tree : ∃ k : Nat, 600000 ≤ k ∧ treeF (k + 1) s (runEnd ws s 0) false = some (T, s, j, false)
  str : T.kind = 3 → ∃ l, strR s (runEnd ws s 0 + 1) = some (l, T.pairs, j) ∧ T.str = strOfNums l
def ReadTold (s : ByteArray) (w : World) (e : Ending) (w' : World) : Prop :=
  ∃ (T : JT) (ok : Bool) (A5 : Option Addr) (n5 c5 : Nat) (A6 : Option Addr) (n6 c6 : Nat), e = .returned (.tuple #[.agg #[.int .i64 T.kind, .string T.raw, .int .i64 T.place, .string T.str, .bool T.pairs, .slice A5 n5 c5, .slice A6 n6 c6], .bool ok]) ∧
    TreeAt w' (fun q => w.heap.size ≤ q) (cells7 T.kind T.raw T.place T.str T.pairs (.slice A5 n5 c5) (.slice A6 n6 c6)) T ∧ (ok = true → ∃ j, WellRead s T j) ∧ Below w.heap.size w w'
theorem told_of {s : ByteArray} (hs : (s.size : Int) ≤ 65536) {k : Nat} (hk : 600000 ≤ k) {j : Int} {T : JT} (ht : treeF (k + 1) s (runEnd ws s 0) false = some (T, s, j, false)) (hj : runEnd ws s j = (s.size : Int)) (hj2 : j ≤ (s.size : Int)) : WellRead s T j := by
  refine ⟨hs, Gd.good_of hs hk ht hj hj2, ⟨k, hk, ht⟩, fun h3 => ?_⟩
  have hb := runEnd_le (p := ws) (s := s) (i := 0) (by omega)
  obtain ⟨_, hT⟩ := tree_inv hs hb.1 hb.2 (by omega) ht
  cases hT with
  | str l p h hr => exact ⟨l, hr, rfl⟩
  | word kind x hx _ _ => exact absurd h3 (by show ¬ kind = 3; omega)
  | list => exact absurd h3 (by show ¬ (5 : Int) = 3; decide)
  | num => exact absurd h3 (by show ¬ (2 : Int) = 3; decide)
theorem read_told (s : ByteArray) (w : World) : Calls Tryd.prog 7 #[.string s] w (ReadTold s w) := by
  by_cases c3 : 65536 < (s.size : Int)
  · refine (read_long s w c3).mono ?_
    rintro e w1 ⟨rfl, hb⟩
    refine ⟨.mk 0 ⟨#[]⟩ 0 ⟨#[]⟩ false [] [], false, none, 0, 0, none, 0, 0, rfl, ?_, fun h => absurd h (by decide), hb⟩
    exact .mk 0 ⟨#[]⟩ 0 ⟨#[]⟩ false _ _ [] [] (fun _ => []) ⟨none, 0, rfl, ⟨Nat.le_refl 0, Nat.zero_le _⟩, fun h => absurd h (by decide)⟩ ⟨none, 0, rfl, Nat.zero_le _, fun j h => absurd h (Nat.not_lt_zero j), fun h => absurd h (by decide)⟩ (fun j h => absurd h (Nat.not_lt_zero j))
  · obtain ⟨k, hk⟩ : ∃ k : Nat, 700000 ≤ k := ⟨700000, Nat.le_refl _⟩
    obtain ⟨T, ok, hread, j, b, ht, j1, j2, hok⟩ := read_is (s := s) (by omega) (k := k + 1) (by omega)
    refine (read_any (k + 1) s T ok w (by omega) hread).mono ?_
    rintro e w1 ⟨kv, iv, rfl, hTA, hb⟩
    obtain ⟨A5, n5, c5, A6, n6, c6, rfl, rfl⟩ : ∃ A5 n5 c5 A6 n6 c6, kv = .slice A5 n5 c5 ∧ iv = .slice A6 n6 c6 := Tl.tree_slices hTA
    refine ⟨T, ok, A5, n5, c5, A6, n6, c6, rfl, hTA, fun h => ?_, hb⟩
    subst h
    have hb0 : b = false := by
      cases b with
      | true => simp at hok
      | false => rfl
    subst hb0
    exact ⟨j, told_of (by omega) (by omega) ht (by simpa using hok) j2⟩
end Go.Proofs.YtldfejbmdonaoaaDoor.Ry
namespace Go.Proofs.YtldfejbmdonaoaaDoor.Lv
open Go.RowKit YtldfejbmdonaoaaDoorW.PrintWords YtldfejbmdonaoaaDoorW.PrintLast YtldfejbmdonaoaaDoorW.PrintMore Tw Tf Tp Te Ub At Nx Gn Gd Ry Sn
set_option linter.unusedVariables false
set_option linter.unusedSimpArgs false
def Dig (c : Int) : Prop := c = 45 ∨ c = 48 ∨ c = 49 ∨ c = 50 ∨ c = 51 ∨ c = 52 ∨ c = 53 ∨ c = 54 ∨ c = 55 ∨ c = 56 ∨ c = 57
structure ListAt (u : ByteArray) (p n : Int) : Prop where
  c : bt u p = 123 ∨ bt u p = 91
  run : Run u n (p + 1) 1
structure StrAt (u : ByteArray) (p n : Int) : Prop where
  c : bt u p = 34
  end_ : StrEnd u (p + 1) (n - 1)
  body : BodyW ((u.extract p.toNat n.toNat).extract 1 (n - p - 1).toNat) 0
structure WordAt (u : ByteArray) (p n : Int) : Prop where
  c : bt u p = 116 ∨ bt u p = 102 ∨ bt u p = 110 ∧ bt u (p + 1) = 117 ∧ p + 1 < n
  go : ∀ x, p + 1 ≤ x → x < n → 97 ≤ bt u x ∧ bt u x ≤ 122
  stop : n < (u.size : Int) → ¬ (97 ≤ bt u n ∧ bt u n ≤ 122)
structure NumAt (u : ByteArray) (p n : Int) : Prop where
  c : Dig (bt u p)
  go : ∀ x, p + 1 ≤ x → x < n → ¬ stopc (bt u x)
  stop : n < (u.size : Int) → stopc (bt u n)
  num : NumS (u.extract p.toNat n.toNat)
structure ValAt (u : ByteArray) (p n : Int) : Prop where
  lo : 0 ≤ p
  lt : p + 1 ≤ n
  hi : n ≤ (u.size : Int)
  short : n - p ≤ 65536
  is : ListAt u p n ∨ StrAt u p n ∨ WordAt u p n ∨ NumAt u p n
theorem in_ext {u s : ByteArray} {o : Int} (hw : In u s o) {a b : Int} (h0 : 0 ≤ a) (h1 : b ≤ (s.size : Int)) : u.extract (o + a).toNat (o + b).toNat = s.extract a.toNat b.toNat := by
  have hlo := hw.lo
  have hhi := hw.hi
  refine Bt.ext_bt (by rw [ByteArray.size_extract, ByteArray.size_extract]; omega) fun j hj => ?_
  rw [ByteArray.size_extract] at hj
  have e1 := Bt.bt_extract (s := u) (a := (o + a).toNat) (b := (o + b).toNat) (by omega) (j := j) (by omega)
  have e2 := Bt.bt_extract (s := s) (a := a.toNat) (b := b.toNat) (by omega) (j := j) (by omega)
  rw [e1, e2]
  have e3 := hw.at_ ((a.toNat + j : Nat) : Int) (by omega) (by omega)
  rw [show (((o + a).toNat + j : Nat) : Int) = o + ((a.toNat + j : Nat) : Int) by omega]
  exact e3
structure Held (u s : ByteArray) (o : Int) (T : JT) (p n : Int) : Prop where
  val : ValAt u p n
  raw : T.raw = u.extract p.toNat n.toNat
  lo : o ≤ p
  hi : n ≤ o + (s.size : Int)
  lead : ∀ x, o ≤ x → x < p → bt u x ≤ 32
  tail : ∀ x, n ≤ x → x < o + (s.size : Int) → bt u x ≤ 32
set_option maxHeartbeats 1000000 in
theorem held_of {u s : ByteArray} {o j : Int} {T : JT} (hw : In u s o) (hr : WellRead s T j) (hend : o + (s.size : Int) < (u.size : Int) → bt u (o + (s.size : Int)) ≤ 32) : Held u s o T (o + runEnd ws s 0) (o + j) := by
  obtain ⟨hs, hg, ⟨k, hk, ht⟩, hstr⟩ := hr
  have hlo := hw.lo
  have hhi := hw.hi
  obtain ⟨i, hi⟩ : ∃ i, runEnd ws s 0 = i := ⟨_, rfl⟩
  rw [hi] at hg ht hstr ⊢
  have l0 := hg.lead.lo
  have l1 := hg.lead.lt
  have l2 := hg.lo
  have l3 := hg.hi
  have hrest : ∀ x, j ≤ x → x < (s.size : Int) → bt u (o + x) ≤ 32 := fun x h1 h2 => by
    rw [hw.at_ x (by omega) h2]
    exact (ws_cases (hg.rest x h1 h2)).2
  have hnx : o + j < (u.size : Int) → bt u (o + j) ≤ 32 := fun h => by
    by_cases c : j < (s.size : Int)
    · exact hrest j (Int.le_refl _) c
    · rw [show o + j = o + (s.size : Int) by omega]
      exact hend (by omega)
  have hraw : u.extract (o + i).toNat (o + j).toNat = s.extract i.toNat j.toNat := in_ext hw l0 l3
  refine ⟨⟨by omega, by omega, by omega, by omega, ?_⟩, by rw [hraw]; exact hg.raw, by omega, by omega, fun x h1 h2 => ?_, fun x h1 h2 => ?_⟩
  · rcases hg.is with ⟨_, hq, l, p, hR⟩ | ⟨n, hn, hnj⟩
    · have hle : i + 1 + 1 ≤ j ∧ j ≤ (s.size : Int) := strR_le _ _ hR
      refine .inr (.inl ⟨by rw [hw.at_ i l0 l1]; exact hq, ?_, ?_⟩)
      · have h := StrEnd.shift hw (strEnd_of (by omega) (by rw [show i + 1 - 1 = i by omega]; exact hq) hR)
        rw [show o + (i + 1) = o + i + 1 by omega, show o + (j - 1) = o + j - 1 by omega] at h
        exact h
      · rw [hraw, ByteArray.extract_extract, show o + j - (o + i) - 1 = j - i - 1 by omega]
        have h := (body_of _ (i + 1) hR (i + 1) (by omega) (Int.le_refl _)).1
        rw [show i + 1 - (i + 1) = 0 by omega] at h
        rw [show i.toNat + 1 = (i + 1).toNat by omega, show min (i.toNat + (j - i - 1).toNat) j.toNat = (j - 1).toNat by omega]
        exact h
    · have hnj2 : n = j ∨ (bt s i = 123 ∨ bt s i = 91) := by
        rcases hnj with h | h
        · exact .inl h
        by_cases hj : j = (s.size : Int)
        · exact .inl (by omega)
        have hwj := hg.rest j (Int.le_refl _) (by omega)
        rcases hn with ⟨_, hc, _⟩ | ⟨_, hb, h2, _⟩ | ⟨_, _, hmid, _⟩
        · exact .inr hc
        · have h3 := num_bytes (s := s) (i := i) (x := j) (by omega) (by omega)
          have h5 := Tm.ws_iff.mp hwj
          unfold numc at h3
          omega
        · have h3 := hmid j (by omega) (by omega)
          have h5 := Tm.ws_iff.mp hwj
          omega
      rcases hn with ⟨_, hc, _⟩ | ⟨_, hb, h2, hst⟩ | ⟨hc, _, hmid, hst⟩
      · refine .inl ⟨by rw [hw.at_ i l0 l1]; exact hc, ?_⟩
        have h := Run.shift hw (list_run hs (J := j) l0 l1 (by omega) rfl hc ht)
        rw [show o + (i + 1) = o + i + 1 by omega] at h
        exact h
      · have hd := first_dig (c := bt s i) (by
          have h2 := (num_gt hb).2
          unfold nSign at h2
          by_cases h : bt s i = 45
          · exact .inr h
          · rw [if_neg h] at h2; exact .inl h2)
        have hj : n = j := hnj2.resolve_right (by omega)
        refine .inr (.inr (.inr ⟨by rw [hw.at_ i l0 l1]; exact hd, fun x h1 h3 => ?_, fun h => .inl (hnx h), ?_⟩))
        · obtain ⟨y, rfl⟩ : ∃ y, x = o + y := ⟨x - o, by omega⟩
          rw [hw.at_ y (by omega) (by omega)]
          exact numc_go (num_bytes (s := s) (i := i) (x := y) (by omega) (by omega))
        · rw [hraw, ← hj, h2]
          exact (num_text (s := s) (i := i) l0 (by omega) hb (by omega)).1
      · have hj : n = j := hnj2.resolve_right (by omega)
        refine .inr (.inr (.inl ⟨?_, fun x h1 h3 => ?_, fun h => by have := hnx h; omega⟩))
        · rw [hw.at_ i l0 l1]
          rcases hc with ⟨_, h, _⟩ | ⟨_, h, _⟩ | ⟨_, h, h4, h5⟩
          · exact .inl h
          · exact .inr (.inl h)
          · refine .inr (.inr ⟨h, ?_, by omega⟩)
            rw [show o + i + 1 = o + (i + 1) by omega, hw.at_ (i + 1) (by omega) (by omega)]
            exact h5
        · obtain ⟨y, rfl⟩ : ∃ y, x = o + y := ⟨x - o, by omega⟩
          rw [hw.at_ y (by omega) (by omega)]
          exact hmid y (by omega) (by omega)
  · obtain ⟨y, rfl⟩ : ∃ y, x = o + y := ⟨x - o, by omega⟩
    rw [hw.at_ y (by omega) (by omega)]
    exact (hg.lead.blank y (by omega) (by omega)).1
  · obtain ⟨y, rfl⟩ : ∃ y, x = o + y := ⟨x - o, by omega⟩
    exact hrest y (by omega) (by omega)
def lines (a b : ByteArray) : ByteArray := a ++ (⟨#[10]⟩ : ByteArray) ++ b
theorem lines_size (a b : ByteArray) : (lines a b).size = a.size + 1 + b.size := by
  unfold lines
  rw [ByteArray.size_append, ByteArray.size_append]
  rfl
theorem lines_first (a b : ByteArray) : In (lines a b) a 0 := by
  refine ⟨Int.le_refl _, by rw [lines_size]; omega, fun p h0 h1 => ?_⟩
  obtain ⟨q, rfl⟩ : ∃ q : Nat, p = q := ⟨p.toNat, by omega⟩
  rw [Int.zero_add]
  unfold lines
  rw [Bt.bt_append_left (by rw [ByteArray.size_append]; omega), Bt.bt_append_left (by omega)]
theorem lines_second (a b : ByteArray) : In (lines a b) b ((a.size : Int) + 1) := by
  refine ⟨by omega, by rw [lines_size]; omega, fun p h0 h1 => ?_⟩
  obtain ⟨q, rfl⟩ : ∃ q : Nat, p = q := ⟨p.toNat, by omega⟩
  have h := Bt.bt_append_right (a := a ++ (⟨#[10]⟩ : ByteArray)) (b := b) q
  rw [← h]
  unfold lines
  congr 1
  rw [ByteArray.size_append]
  show (a.size : Int) + 1 + (q : Int) = ((a.size + 1 + q : Nat) : Int)
  omega
theorem lines_break (a b : ByteArray) : bt (lines a b) (a.size : Int) = 10 := by
  unfold lines
  rw [Bt.bt_append_left (by rw [ByteArray.size_append]; show a.size < a.size + 1; omega)]
  have h := Bt.bt_append_right (a := a) (b := (⟨#[10]⟩ : ByteArray)) 0
  rw [show ((a.size + 0 : Nat) : Int) = (a.size : Int) by omega] at h
  rw [h]
  decide
structure Lead2 (u : ByteArray) (i p n : Int) : Prop where
  size : (u.size : Int) ≤ 200000
  lo : 0 ≤ i
  le : i ≤ p
  lt : p + 1 ≤ n
  hi : n ≤ (u.size : Int)
  short : n - p ≤ 65536
  blank : ∀ x, i ≤ x → x < p → bt u x ≤ 32
inductive Vals (u : ByteArray) : Int → List ByteArray → Prop where
  | nil {i : Int} (h0 : 0 ≤ i) (h1 : i ≤ (u.size : Int)) (h : ∀ x, i ≤ x → x < (u.size : Int) → bt u x ≤ 32) : Vals u i []
  | cons {i p n : Int} {l : List ByteArray} (hL : Lead2 u i p n) (hv : ValAt u p n) (t : Vals u n l) : Vals u i (u.extract p.toNat n.toNat :: l)
theorem vals_lines {a b : ByteArray} {x y : JT} {j k : Int} (ha : WellRead a x j) (hb : WellRead b y k) : Vals (lines a b) 0 [x.raw, y.raw] := by
  have sa := ha.size
  have sb := hb.size
  have sl := lines_size a b
  have h1 := held_of (lines_first a b) ha (fun _ => by rw [Int.zero_add, lines_break]; decide)
  have h2 := held_of (lines_second a b) hb (fun h => by rw [sl] at h; omega)
  have v1 := h1.val
  have v2 := h2.val
  have l1 := h1.lo
  have l2 := h2.lo
  have e1 := h1.hi
  have e2 := h2.hi
  rw [h1.raw, h2.raw]
  refine .cons ⟨by rw [sl]; omega, Int.le_refl _, l1, v1.lt, v1.hi, v1.short, h1.lead⟩ v1 (.cons ⟨by rw [sl]; omega, by have := v1.lo; have := v1.lt; omega, by omega, v2.lt, v2.hi, v2.short, fun x g1 g2 => ?_⟩ v2 (.nil (by have := v2.lo; have := v2.lt; omega) v2.hi fun x g1 g2 => ?_))
  · by_cases c1 : x < (a.size : Int)
    · exact h1.tail x g1 (by omega)
    by_cases c2 : x = (a.size : Int)
    · rw [c2, lines_break]; decide
    · exact h2.lead x (by omega) g2
  · exact h2.tail x g1 (by rw [sl] at g2; omega)
end Go.Proofs.YtldfejbmdonaoaaDoor.Lv