/- Joined by a program of mine from texts of this claim: Uu. -/
import Derived.Test.YtldfejbmdonaoaaGreatDoorZ17
import Derived.Test.YtldfejbmdonaoaaGreatDoorZ5
import Derived.Test.YtldfejbmdonaoaaGreatDoorZ18
import Derived.Lib.DecodeN
import Derived.Shelf.Unicode.DecodeSlow
namespace Go.Proofs.YtldfejbmdonaoaaGreatDoor.Uu
open Go.RowKit YtldfejbmdonaoaaGreatDoorW.PrintWords YtldfejbmdonaoaaGreatDoorW.PrintLast YtldfejbmdonaoaaGreatDoorW.PrintMore Tw Tf Tp Te Tg Ti Sp
set_option linter.unusedVariables false
set_option linter.unusedSimpArgs false
def CharAt (s : ByteArray) (i r n : Int) : Prop :=
  (n = 1 ∧ r = bt s i ∧ bt s i < 128) ∨
  (n = 2 ∧ r = (bt s i - 192) * 64 + (bt s (i + 1) - 128) ∧ 192 ≤ bt s i ∧ bt s i < 224 ∧ 128 ≤ bt s (i + 1) ∧ bt s (i + 1) < 192 ∧ 128 ≤ r) ∨
  (n = 3 ∧ r = ((bt s i - 224) * 64 + (bt s (i + 1) - 128)) * 64 + (bt s (i + 2) - 128) ∧ 224 ≤ bt s i ∧ bt s i < 240 ∧ 128 ≤ bt s (i + 1) ∧ bt s (i + 1) < 192 ∧ 128 ≤ bt s (i + 2) ∧ bt s (i + 2) < 192 ∧ 2048 ≤ r ∧ (r < 55296 ∨ 57343 < r)) ∨
  (n = 4 ∧ r = (((bt s i - 240) * 64 + (bt s (i + 1) - 128)) * 64 + (bt s (i + 2) - 128)) * 64 + (bt s (i + 3) - 128) ∧ 240 ≤ bt s i ∧ bt s i < 248 ∧ 128 ≤ bt s (i + 1) ∧ bt s (i + 1) < 192 ∧ 128 ≤ bt s (i + 2) ∧ bt s (i + 2) < 192 ∧ 128 ≤ bt s (i + 3) ∧ bt s (i + 3) < 192 ∧ 65536 ≤ r ∧ r ≤ 1114111)
inductive Chars (s : ByteArray) : Int → Prop where
  | nil {i : Int} (h : i = (s.size : Int)) : Chars s i
  | cons {i : Int} (r n : Int) (h0 : i < (s.size : Int)) (h : CharAt s i r n) (h1 : i + n ≤ (s.size : Int)) (t : Chars s (i + n)) : Chars s i
theorem CharAt.pos {s : ByteArray} {i r n : Int} (h : CharAt s i r n) : 1 ≤ n ∧ n ≤ 4 := by
  rcases h with h | h | h | h <;> omega
theorem tail_is {s : ByteArray} (hs : (s.size : Int) ≤ 2147483647) {i : Int} (h0 : 0 ≤ i) (ih : ∀ j, i < j → j ≤ (s.size : Int) → ∃ k r, spec_UTF8.l0 k s j = some r ∧ (r = true → Chars s j)) (size : Int) (h1 : 1 ≤ size) (h2 : size ≤ 4) (hz : i + size ≤ (s.size : Int)) :
    ∀ (m : Nat) (n p : Int), m = (size - p).toNat → 1 ≤ p → p ≤ size → 0 ≤ n → n < 8 * 64 ^ (p.toNat) →
    ∃ k r, spec_UTF8.l1 k s i n size p = some r ∧ (r = true → ∃ N, (∀ q, p ≤ q → q < size → 128 ≤ bt s (i + q) ∧ bt s (i + q) < 192) ∧
      (p = size → N = n) ∧ (p + 1 = size → N = n * 64 + (bt s (i + p) - 128)) ∧ (p + 2 = size → N = (n * 64 + (bt s (i + p) - 128)) * 64 + (bt s (i + p + 1) - 128)) ∧
      (p + 3 = size → N = ((n * 64 + (bt s (i + p) - 128)) * 64 + (bt s (i + p + 1) - 128)) * 64 + (bt s (i + p + 2) - 128)) ∧
      N ≤ 1114111 ∧ (N < 55296 ∨ 57343 < N) ∧ strOfNums (runeL N) = s.extract i.toNat (i + size).toNat ∧ Chars s (i + size)) := by
  intro m
  induction m with
  | zero =>
    intro n p hm hp1 hp2 hn0 hn1
    obtain rfl : p = size := by omega
    have hpw : (64 : Int) ^ (p.toNat) ≤ 64 ^ 4 := by
      have h1 : (64 : Nat) ^ p.toNat ≤ 64 ^ 4 := Nat.pow_le_pow_right (by omega) (by omega)
      exact_mod_cast h1
    have e1 : wrap64 (i + p) = i + p := w64 (by omega)
    by_cases c1 : n > 1114111
    · refine ⟨1, false, ?_, fun h => absurd h (by decide)⟩
      rw [spec_UTF8.l1, if_neg (by omega), if_pos c1]
    by_cases c2 : n ≥ 55296 ∧ n ≤ 57343
    · refine ⟨1, false, ?_, fun h => absurd h (by decide)⟩
      rw [spec_UTF8.l1, if_neg (by omega), if_neg c1, if_pos c2.1, if_pos c2.2]
    have hr : spec_Rune.f n = some (strOfNums (runeL n)) := rune_eq hn0 (by omega)
    have go : ∃ k r, ((spec_Rune.f n).bind fun t113 => (if 0 ≤ i then (if i ≤ (wrap64 (i + p)) then (if (wrap64 (i + p)) ≤ (s.size : Int) then (if t113.toList = (s.extract (i : Int).toNat ((wrap64 (i + p)) : Int).toNat).toList then (spec_UTF8.l0 k s (wrap64 (i + p))) else (some false)) else (none)) else (none)) else (none))) = some r ∧ (r = true → strOfNums (runeL n) = s.extract i.toNat (i + p).toNat ∧ Chars s (i + p)) := by
      obtain ⟨k, r, hk, hc⟩ := ih (i + p) (by omega) hz
      rw [hr]
      simp only [Option.bind_some]
      rw [e1]
      by_cases c3 : (strOfNums (runeL n)).toList = (s.extract i.toNat (i + p).toNat).toList
      · refine ⟨k, r, ?_, fun h => ⟨?_, hc h⟩⟩
        · rw [if_pos h0, if_pos (by omega), if_pos hz, if_pos c3]
          exact hk
        · have := congrArg ByteArray.mk (congrArg List.toArray c3)
          rw [ByteArray.ext_iff]
          rw [Lib.toList_data, Lib.toList_data] at c3
          exact Array.toList_inj.mp c3
      · refine ⟨0, false, ?_, fun h => absurd h (by decide)⟩
        rw [if_pos h0, if_pos (by omega), if_pos hz, if_neg c3]
    obtain ⟨k, r, hk, hc⟩ := go
    refine ⟨k + 1, r, ?_, fun h => ⟨n, fun q _ _ => by omega, fun _ => rfl, fun _ => by omega, fun _ => by omega, fun _ => by omega, by omega, by omega, (hc h).1, (hc h).2⟩⟩
    rw [spec_UTF8.l1, if_neg (by omega), if_neg c1]
    by_cases c4 : n ≥ 55296
    · rw [if_pos c4, if_neg (by omega)]
      exact hk
    · rw [if_neg c4]
      exact hk
  | succ m ihm =>
    intro n p hm hp1 hp2 hn0 hn1
    have hpw : (64 : Int) ^ (p.toNat) ≤ 64 ^ 3 := by
      have h1 : (64 : Nat) ^ p.toNat ≤ 64 ^ 3 := Nat.pow_le_pow_right (by omega) (by omega)
      exact_mod_cast h1
    have hb := bt_range s (i + p)
    have e1 : wrap64 (i + p) = i + p := w64 (by omega)
    have e2 : wrap64 (bt s (i + p)) = bt s (i + p) := w64 (by omega)
    by_cases c1 : bt s (i + p) < 128
    · refine ⟨1, false, ?_, fun h => absurd h (by decide)⟩
      rw [spec_UTF8.l1, if_pos (by omega), e1, if_pos (by omega), if_pos (by omega), e2, if_pos c1]
    by_cases c2 : bt s (i + p) ≥ 192
    · refine ⟨1, false, ?_, fun h => absurd h (by decide)⟩
      rw [spec_UTF8.l1, if_pos (by omega), e1, if_pos (by omega), if_pos (by omega), e2, if_neg c1, if_pos c2]
    have hst : (64 : Int) ^ ((p + 1).toNat) = 64 ^ (p.toNat) * 64 := by
      rw [show (p + 1).toNat = p.toNat + 1 by omega, Int.pow_succ]
    obtain ⟨k, r, hk, hc⟩ := ihm (n * 64 + (bt s (i + p) - 128)) (p + 1) (by omega) (by omega) (by omega) (by omega) (by rw [hst]; omega)
    refine ⟨k + 1, r, ?_, fun h => ?_⟩
    · rw [spec_UTF8.l1, if_pos (by omega), e1, if_pos (by omega), if_pos (by omega), e2, if_neg c1, if_neg c2, w64 (n := n * 64) (by omega), w64 (n := n * 64 + bt s (i + p)) (by omega), w64 (n := n * 64 + bt s (i + p) - 128) (by omega), w64 (n := p + 1) (by omega),
        show n * 64 + bt s (i + p) - 128 = n * 64 + (bt s (i + p) - 128) by omega]
      exact hk
    · obtain ⟨N, g1, g2, g3, g4, _, g6, g7, g8, g9⟩ := hc h
      refine ⟨N, fun q a1 a2 => ?_, fun e => by omega, fun e => g2 e, fun e => ?_, fun e => ?_, g6, g7, g8, g9⟩
      · by_cases e : q = p
        · subst e; omega
        · exact g1 q (by omega) a2
      · rw [g3 (by omega), show i + (p + 1) = i + p + 1 by omega]
      · rw [g4 (by omega), show i + (p + 1) = i + p + 1 by omega, show i + p + 1 + 1 = i + p + 2 by omega]
theorem ext_size {s : ByteArray} {i n : Int} (h0 : 0 ≤ i) (h1 : 0 ≤ n) (h2 : i + n ≤ (s.size : Int)) : (s.extract i.toNat (i + n).toNat).size = n.toNat := by
  rw [ByteArray.size_extract]
  omega
theorem runeL_size {N : Int} : (strOfNums (runeL N)).size = if N < 128 then 1 else if N < 2048 then 2 else if N < 65536 then 3 else 4 := by
  unfold runeL
  repeat' split
  all_goals rfl
theorem utf8_from {s : ByteArray} (hs : (s.size : Int) ≤ 2147483647) : ∀ (m : Nat) (i : Int), m = ((s.size : Int) - i).toNat → 0 ≤ i → i ≤ (s.size : Int) → ∃ k r, spec_UTF8.l0 k s i = some r ∧ (r = true → Chars s i) := by
  intro m
  induction m using Nat.strongRecOn with
  | _ m ih =>
    intro i hm h0 h1
    by_cases hlt : i < (s.size : Int)
    · have ih' : ∀ j, i < j → j ≤ (s.size : Int) → ∃ k r, spec_UTF8.l0 k s j = some r ∧ (r = true → Chars s j) := fun j a1 a2 => ih _ (by omega) j rfl (by omega) a2
      have hb := bt_range s i
      have e0 : wrap64 (bt s i) = bt s i := w64 (by omega)
      have part : ∀ (n size : Int), 1 ≤ size → size ≤ 4 → 0 ≤ n → n < 512 → (∀ N, strOfNums (runeL N) = s.extract i.toNat (i + size).toNat → i + size ≤ (s.size : Int) → Chars s (i + size) → (∀ q, 1 ≤ q → q < size → 128 ≤ bt s (i + q) ∧ bt s (i + q) < 192) →
          (1 = size → N = n) → (2 = size → N = n * 64 + (bt s (i + 1) - 128)) → (3 = size → N = (n * 64 + (bt s (i + 1) - 128)) * 64 + (bt s (i + 2) - 128)) → (4 = size → N = ((n * 64 + (bt s (i + 1) - 128)) * 64 + (bt s (i + 2) - 128)) * 64 + (bt s (i + 3) - 128)) → N ≤ 1114111 → (N < 55296 ∨ 57343 < N) → CharAt s i N size) →
          ∃ k r, spec_UTF8.j4 k s i n size = some r ∧ (r = true → Chars s i) := by
        intro n size a1 a2 a3 a4 hC
        have e1 : wrap64 (i + size) = i + size := w64 (by omega)
        by_cases c : i + size > (s.size : Int)
        · refine ⟨1, false, ?_, fun h => absurd h (by decide)⟩
          rw [spec_UTF8.j4, e1, if_pos c]
        · obtain ⟨k, r, hk, hc⟩ := tail_is hs h0 ih' size a1 a2 (by omega) _ n 1 rfl (Int.le_refl _) a1 a3 (by simpa using a4)
          refine ⟨k + 1, r, ?_, fun h => ?_⟩
          · rw [spec_UTF8.j4, e1, if_neg c]
            exact hk
          · obtain ⟨N, g1, g2, g3, g4, g5, g6, g7, g8, g9⟩ := hc h
            refine .cons N size hlt (hC N g8 (by omega) g9 g1 (fun e => g2 e) (fun e => g3 (by omega)) (fun e => ?_) (fun e => ?_) g6 g7) (by omega) g9
            · rw [g4 (by omega), show i + 1 + 1 = i + 2 by omega]
            · rw [g5 (by omega), show i + 1 + 1 = i + 2 by omega, show i + 1 + 2 = i + 3 by omega]
      have one : bt s i < 128 → ∃ k r, spec_UTF8.j4 k s i (bt s i) 1 = some r ∧ (r = true → Chars s i) := fun c => part (bt s i) 1 (by omega) (by omega) (by omega) (by omega) (fun N g8 gz g9 g1 g2 _ _ _ g6 g7 => .inl ⟨rfl, g2 rfl, c⟩)
      have two : 192 ≤ bt s i → bt s i < 224 → ∃ k r, spec_UTF8.j4 k s i (bt s i - 192) 2 = some r ∧ (r = true → Chars s i) := fun c c' => part (bt s i - 192) 2 (by omega) (by omega) (by omega) (by omega) (fun N g8 gz g9 g1 _ g3 _ _ g6 g7 => by
        have hsz := congrArg ByteArray.size g8
        rw [runeL_size, ext_size h0 (by omega) gz] at hsz
        have d1 := g1 1 (by omega) (by omega)
        refine .inr (.inl ⟨rfl, g3 rfl, by omega, by omega, d1.1, d1.2, ?_⟩)
        by_cases c1 : N < 128
        · rw [if_pos c1] at hsz; exact absurd hsz (by decide)
        · omega)
      have three : 224 ≤ bt s i → bt s i < 240 → ∃ k r, spec_UTF8.j4 k s i (bt s i - 224) 3 = some r ∧ (r = true → Chars s i) := fun c c' => part (bt s i - 224) 3 (by omega) (by omega) (by omega) (by omega) (fun N g8 gz g9 g1 _ _ g4 _ g6 g7 => by
        have hsz := congrArg ByteArray.size g8
        rw [runeL_size, ext_size h0 (by omega) gz] at hsz
        have d1 := g1 1 (by omega) (by omega)
        have d2 := g1 2 (by omega) (by omega)
        refine .inr (.inr (.inl ⟨rfl, g4 rfl, by omega, by omega, d1.1, d1.2, d2.1, d2.2, ?_, g7⟩))
        by_cases c1 : N < 128
        · rw [if_pos c1] at hsz; exact absurd hsz (by decide)
        · by_cases c2 : N < 2048
          · rw [if_neg c1, if_pos c2] at hsz; exact absurd hsz (by decide)
          · omega)
      have low : ¬ (bt s i ≥ 240 ∧ bt s i < 248) → ∃ k r, (if bt s i ≥ 224 then (spec_UTF8.j2 k s i (bt s i) 1 (decide (bt s i < 240))) else (spec_UTF8.j2 k s i (bt s i) 1 false)) = some r ∧ (r = true → Chars s i) := by
        intro hn
        by_cases c224 : bt s i ≥ 224
        · by_cases c240 : bt s i < 240
          · obtain ⟨k, r, hk, hc⟩ := three c224 c240
            refine ⟨k + 1, r, ?_, hc⟩
            rw [if_pos c224, decide_eq_true c240, spec_UTF8.j2, if_pos rfl, w64 (n := bt s i - 224) (by omega)]
            exact hk
          · refine ⟨2, false, ?_, fun h => absurd h (by decide)⟩
            rw [if_pos c224, decide_eq_false c240, spec_UTF8.j2, if_neg (by decide), if_pos (by omega), decide_eq_false (by omega), spec_UTF8.j3, if_neg (by decide), if_pos (by omega)]
        · by_cases c192 : bt s i ≥ 192
          · obtain ⟨k, r, hk, hc⟩ := two c192 (by omega)
            refine ⟨k + 2, r, ?_, hc⟩
            rw [if_neg c224, spec_UTF8.j2, if_neg (by decide), if_pos c192, decide_eq_true (by omega), spec_UTF8.j3, if_pos rfl, w64 (n := bt s i - 192) (by omega)]
            exact hk
          · by_cases c128 : bt s i ≥ 128
            · refine ⟨2, false, ?_, fun h => absurd h (by decide)⟩
              rw [if_neg c224, spec_UTF8.j2, if_neg (by decide), if_neg c192, spec_UTF8.j3, if_neg (by decide), if_pos c128]
            · obtain ⟨k, r, hk, hc⟩ := one (by omega)
              refine ⟨k + 2, r, ?_, hc⟩
              rw [if_neg c224, spec_UTF8.j2, if_neg (by decide), if_neg c192, spec_UTF8.j3, if_neg (by decide), if_neg c128]
              exact hk
      by_cases c240 : bt s i ≥ 240
      · by_cases c248 : bt s i < 248
        · obtain ⟨k, r, hk, hc⟩ := part (bt s i - 240) 4 (by omega) (by omega) (by omega) (by omega) (fun N g8 gz g9 g1 _ _ _ g5 g6 g7 => by
            have hsz := congrArg ByteArray.size g8
            rw [runeL_size, ext_size h0 (by omega) gz] at hsz
            have d1 := g1 1 (by omega) (by omega)
            have d2 := g1 2 (by omega) (by omega)
            have d3 := g1 3 (by omega) (by omega)
            have hN := g5 rfl
            refine .inr (.inr (.inr ⟨rfl, hN, by omega, by omega, d1.1, d1.2, d2.1, d2.2, d3.1, d3.2, ?_, g6⟩))
            by_cases c1 : N < 128
            · rw [if_pos c1] at hsz; exact absurd hsz (by decide)
            · by_cases c2 : N < 2048
              · rw [if_neg c1, if_pos c2] at hsz; exact absurd hsz (by decide)
              · by_cases c3 : N < 65536
                · rw [if_neg c1, if_neg c2, if_pos c3] at hsz; exact absurd hsz (by decide)
                · omega)
          refine ⟨k + 2, r, ?_, hc⟩
          rw [spec_UTF8.l0, if_pos hlt, if_pos h0, e0, if_pos c240, decide_eq_true c248, spec_UTF8.j1, if_pos rfl, w64 (n := bt s i - 240) (by omega)]
          exact hk
        · obtain ⟨k, r, hk, hc⟩ := low (by omega)
          refine ⟨k + 2, r, ?_, hc⟩
          rw [spec_UTF8.l0, if_pos hlt, if_pos h0, e0, if_pos c240, decide_eq_false c248, spec_UTF8.j1, if_neg (by decide)]
          exact hk
      · obtain ⟨k, r, hk, hc⟩ := low (by omega)
        refine ⟨k + 2, r, ?_, hc⟩
        rw [spec_UTF8.l0, if_pos hlt, if_pos h0, e0, if_neg c240, spec_UTF8.j1, if_neg (by decide)]
        exact hk
    · refine ⟨1, true, ?_, fun _ => .nil (by omega)⟩
      rw [spec_UTF8.l0, if_neg hlt]
theorem utf8_is {s : ByteArray} (hs : (s.size : Int) ≤ 2147483647) : ∃ k r, spec_UTF8.f k s = some r ∧ (r = true → Chars s 0) := utf8_from hs _ 0 rfl (Int.le_refl _) (by omega)
theorem get_bt (s : ByteArray) (q : Nat) : (((s.get! q).toNat : Nat) : Int) = bt s q := by
  unfold bt
  by_cases h : q < s.size
  · rw [dif_pos (by simpa using h), Utf8W.get!_of_lt s q h]
    rfl
  · rw [dif_neg (by simpa using h)]
    have : s.get! q = default := by
      have h2 : ¬ q < s.data.size := h
      unfold ByteArray.get!
      exact getElem!_neg _ _ h2
    rw [this]
    rfl
theorem get_ext {s : ByteArray} {i : Int} (h0 : 0 ≤ i) (q : Nat) : ((s.extract i.toNat s.size).get! q).toNat = (bt s (i + q)).toNat := by
  have h := get_bt (s.extract i.toNat s.size) q
  have h2 : bt (s.extract i.toNat s.size) q = bt s (i + q) := by
    by_cases c : i.toNat + q < s.size
    · rw [Bt.bt_extract (Nat.le_refl _) c]
      congr 1
      omega
    · rw [Tp.bt_out (s := s) (by omega), Bt.bt_out (by rw [ByteArray.size_extract]; omega)]
  rw [h2] at h
  omega
theorem decode_char {s : ByteArray} {i r n : Int} (h0 : 0 ≤ i) (h : CharAt s i r n) (h1 : i + n ≤ (s.size : Int)) : Lib.decodeGo (s.extract i.toNat s.size) = (r.toNat, n.toNat) := by
  have hb0 := bt_range s i
  have hz : (s.extract i.toNat s.size).size = s.size - i.toNat := by rw [ByteArray.size_extract]; omega
  have hp := h.pos
  have g0 : ((s.extract i.toNat s.size).get! 0).toNat = (bt s i).toNat := by rw [get_ext h0, Int.natCast_zero, Int.add_zero]
  have g1 : ((s.extract i.toNat s.size).get! (0 + 1)).toNat = (bt s (i + 1)).toNat := get_ext h0 1
  have g2 : ((s.extract i.toNat s.size).get! (0 + 2)).toNat = (bt s (i + 2)).toNat := get_ext h0 2
  have g3 : ((s.extract i.toNat s.size).get! (0 + 3)).toNat = (bt s (i + 3)).toNat := get_ext h0 3
  unfold Lib.decodeGo
  rw [if_neg (by omega), Lib.decode_at, hz, g0, g1, g2, g3]
  clear g0 g1 g2 g3 hz
  unfold CharAt at h
  generalize bt s i = c0 at *
  generalize bt s (i + 1) = c1 at *
  generalize bt s (i + 2) = c2 at *
  generalize bt s (i + 3) = c3 at *
  unfold Lib.decodeN
  rcases h with ⟨rfl, rfl, h⟩ | ⟨rfl, rfl, h⟩ | ⟨rfl, rfl, h⟩ | ⟨rfl, rfl, h⟩
  · rw [if_pos (by omega)]; rfl
  · obtain ⟨d0, rfl⟩ : ∃ d : Nat, c0 = (d : Int) := ⟨c0.toNat, by omega⟩
    obtain ⟨d1, rfl⟩ : ∃ d : Nat, c1 = (d : Int) := ⟨c1.toNat, by omega⟩
    rw [if_neg (by omega), if_pos (by omega), if_pos (by omega)]
    refine Prod.ext ?_ rfl
    show _ % 32 * 64 + _ = _
    omega
  · obtain ⟨d0, rfl⟩ : ∃ d : Nat, c0 = (d : Int) := ⟨c0.toNat, by omega⟩
    obtain ⟨d1, rfl⟩ : ∃ d : Nat, c1 = (d : Int) := ⟨c1.toNat, by omega⟩
    obtain ⟨d2, rfl⟩ : ∃ d : Nat, c2 = (d : Int) := ⟨c2.toNat, by omega⟩
    rw [if_neg (by omega), if_neg (by omega), if_pos (by omega), if_pos (by omega)]
    refine Prod.ext ?_ rfl
    show _ % 16 * 4096 + _ + _ = _
    omega
  · obtain ⟨d0, rfl⟩ : ∃ d : Nat, c0 = (d : Int) := ⟨c0.toNat, by omega⟩
    obtain ⟨d1, rfl⟩ : ∃ d : Nat, c1 = (d : Int) := ⟨c1.toNat, by omega⟩
    obtain ⟨d2, rfl⟩ : ∃ d : Nat, c2 = (d : Int) := ⟨c2.toNat, by omega⟩
    obtain ⟨d3, rfl⟩ : ∃ d : Nat, c3 = (d : Int) := ⟨c3.toNat, by omega⟩
    rw [if_neg (by omega), if_neg (by omega), if_neg (by omega), if_pos (by omega), if_pos (by omega)]
    refine Prod.ext ?_ rfl
    show _ % 8 * 262144 + _ + _ + _ = _
    omega
end Go.Proofs.YtldfejbmdonaoaaGreatDoor.Uu