/- Joined by a program of mine from texts of this claim: Ua. -/
import Derived.Test.YtldfejbmdonaoaaGreatDoorZ19
namespace Go.Proofs.YtldfejbmdonaoaaGreatDoor.Ua
open Go.RowKit YtldfejbmdonaoaaGreatDoorW.PrintWords YtldfejbmdonaoaaGreatDoorW.PrintLast YtldfejbmdonaoaaGreatDoorW.PrintMore Tw Tf Tp Te Tg Ti Uu Sp
set_option linter.unusedVariables false
set_option linter.unusedSimpArgs false
def hxc (x : Int) : Int := if x < 10 then 48 + x else 87 + x
def piece (s : ByteArray) (i r n : Int) : List Int :=
  if bt s i < 32 then
    (if bt s i = 8 then [92, 98] else if bt s i = 12 then [92, 102] else if bt s i = 10 then [92, 110] else if bt s i = 13 then [92, 114] else if bt s i = 9 then [92, 116]
     else [92, 117, 48, 48, hxc (bt s i / 16), hxc (bt s i % 16)])
  else if bt s i = 62 ∨ bt s i = 60 ∨ bt s i = 38 then [92, 117, 48, 48, hxc (bt s i / 16), hxc (bt s i % 16)]
  else if bt s i = 92 then [92, 92]
  else if bt s i = 34 then [92, 34]
  else if bt s i > 127 then (if r = 8232 ∨ r = 8233 then [92, 117, 50, 48, 50, hxc (r % 16)] else ((bytesOf s).drop i.toNat).take n.toNat)
  else [bt s i]
inductive Enc (s : ByteArray) : Int → List Int → Prop where
  | nil {i : Int} (h : i = (s.size : Int)) : Enc s i []
  | cons {i : Int} (r n : Int) (l : List Int) (h0 : i < (s.size : Int)) (h : CharAt s i r n) (h1 : i + n ≤ (s.size : Int)) (t : Enc s (i + n) l) : Enc s i (piece s i r n ++ l)
theorem enc_of {s : ByteArray} {i : Int} (h : Chars s i) : ∃ l, Enc s i l := by
  induction h with
  | nil h => exact ⟨[], .nil h⟩
  | cons r n h0 h h1 _ ih =>
    obtain ⟨l, hl⟩ := ih
    exact ⟨_, .cons r n l h0 h h1 hl⟩
theorem hxc_is {x : Int} (h0 : 0 ≤ x) (h1 : x ≤ 15) : hx (hxc x) = true ∧ hv (hxc x) = x ∧ 0 ≤ hxc x ∧ hxc x ≤ 255 := by
  have : x = 0 ∨ x = 1 ∨ x = 2 ∨ x = 3 ∨ x = 4 ∨ x = 5 ∨ x = 6 ∨ x = 7 ∨ x = 8 ∨ x = 9 ∨ x = 10 ∨ x = 11 ∨ x = 12 ∨ x = 13 ∨ x = 14 ∨ x = 15 := by omega
  rcases this with rfl | rfl | rfl | rfl | rfl | rfl | rfl | rfl | rfl | rfl | rfl | rfl | rfl | rfl | rfl | rfl <;> decide
def Here (o : ByteArray) (p : Int) (l : List Int) : Prop := ∀ q : Nat, q < l.length → bt o (p + q) = l.getD q 0
theorem Here.head {o : ByteArray} {p x : Int} {l : List Int} (h : Here o p (x :: l)) : bt o p = x := by
  have := h 0 (by simp)
  rwa [Int.natCast_zero, Int.add_zero] at this
theorem Here.tail {o : ByteArray} {p x : Int} {l : List Int} (h : Here o p (x :: l)) : Here o (p + 1) l := by
  intro q hq
  have := h (q + 1) (by simp; omega)
  rw [show p + 1 + (q : Int) = p + ((q + 1 : Nat) : Int) by omega, this]
  rfl
theorem Here.left {o : ByteArray} {p : Int} {a l : List Int} (h : Here o p (a ++ l)) : Here o p a := by
  intro q hq
  rw [h q (by rw [List.length_append]; omega)]
  simp [List.getD_eq_getElem?_getD, List.getElem?_append_left hq]
theorem Here.right {o : ByteArray} {p : Int} {a l : List Int} (h : Here o p (a ++ l)) : Here o (p + a.length) l := by
  intro q hq
  have := h (a.length + q) (by rw [List.length_append]; omega)
  rw [show p + (a.length : Int) + (q : Int) = p + ((a.length + q : Nat) : Int) by omega, this]
  simp [List.getD_eq_getElem?_getD, List.getElem?_append_right]
theorem here_all {l : List Int} (h : ∀ x ∈ l, 0 ≤ x ∧ x ≤ 255) : Here (strOfNums l) 0 l := by
  intro q hq
  rw [Int.zero_add, Bt.bt_nums hq (h _ (List.getElem_mem hq)).1 (h _ (List.getElem_mem hq)).2]
  simp [List.getD_eq_getElem?_getD, List.getElem?_eq_getElem hq]
section
variable {o : ByteArray}
theorem str_any {p : Int} (n : Nat) (hn : ((o.size : Int) - p).toNat < n) : textR o n p = strR o p := textR_fuel _ _ p hn (by omega)
theorem str_plain {p x : Int} (hb : bt o p = x) (hx : 32 ≤ x ∧ x ≠ 34 ∧ x ≠ 92) : strR o p = (strR o (p + 1)).bind fun r => some (x :: r.1, r.2.1, r.2.2) := by
  have hlt := lt_of_bt (s := o) (i := p) (by omega)
  unfold strR
  rw [textR, hb, if_neg (by omega), if_neg hx.2.1, if_neg hx.2.2, str_any _ (by omega)]
  rfl
theorem read_plain : ∀ (a : List Int) (p : Int), (∀ x ∈ a, 32 ≤ x ∧ x ≠ 34 ∧ x ≠ 92) → Here o p a → strR o p = (strR o (p + a.length)).bind fun r => some (a ++ r.1, r.2.1, r.2.2) := by
  intro a
  induction a with
  | nil =>
    intro p _ _
    simp only [List.length_nil, Int.natCast_zero, Int.add_zero, List.nil_append]
    cases strR o p <;> rfl
  | cons x a ih =>
    intro p ha hh
    rw [str_plain hh.head (ha x List.mem_cons_self), ih (p + 1) (fun y hy => ha y (List.mem_cons_of_mem _ hy)) hh.tail]
    have e2 : p + 1 + (a.length : Int) = p + ((x :: a).length : Int) := by simp; omega
    rw [e2]
    cases strR o (p + ((x :: a).length : Int)) <;> rfl
theorem read_esc {p : Int} {l : List Int} {b : Bool} {j : Int} (h : bt o p = 92) (he : escR o (p + 1) = some (l, b, j)) : strR o p = (strR o j).bind fun r => some (l ++ r.1, b && r.2.1, r.2.2) := by
  have hlt := lt_of_bt (s := o) (i := p) (by omega)
  have hj := escR_le he
  rw [strR, textR, if_neg (by omega), if_neg (by omega), if_pos h, he]
  simp only [Option.bind_some]
  rw [str_any _ (by omega)]
theorem esc_short {p c : Int} (h : bt o p = c) (hc : esc c = true) (hu : c ≠ 117) : escR o p = some ([escV c], true, p + 1) := by
  unfold escR
  rw [h, if_neg hu, if_pos hc]
theorem esc_hex {p a b c d : Int} (h : Here o p [117, a, b, c, d]) (ha : hx a = true) (hb : hx b = true) (hc : hx c = true) (hd : hx d = true) (hv : ((hv a * 16 + hv b) * 16 + hv c) * 16 + hv d < 55296) :
    escR o p = some (runeL (((Te.hv a * 16 + Te.hv b) * 16 + Te.hv c) * 16 + Te.hv d), true, p + 5) := by
  have e0 := h.head
  have e1 := h.tail.head
  have e2 := h.tail.tail.head
  have e3 := h.tail.tail.tail.head
  have e4 := h.tail.tail.tail.tail.head
  rw [show p + 1 + 1 = p + 2 by omega] at e2
  rw [show p + 1 + 1 + 1 = p + 3 by omega] at e3
  rw [show p + 1 + 1 + 1 + 1 = p + 4 by omega] at e4
  have hh : hex4 o (p + 1) = true := by
    unfold hex4
    rw [show p + 1 + 1 = p + 2 by omega, show p + 1 + 2 = p + 3 by omega, show p + 1 + 3 = p + 4 by omega, e1, e2, e3, e4, ha, hb, hc, hd]
    rfl
  have hV : hexV o (p + 1) = ((Te.hv a * 16 + Te.hv b) * 16 + Te.hv c) * 16 + Te.hv d := by
    unfold hexV
    rw [show p + 1 + 1 = p + 2 by omega, show p + 1 + 2 = p + 3 by omega, show p + 1 + 3 = p + 4 by omega, e1, e2, e3, e4]
  unfold escR
  rw [e0, if_pos rfl, if_pos hh, hV, if_pos (.inl hv)]
end
theorem runeL_small {n : Int} (h0 : 0 ≤ n) (h1 : n < 128) : runeL n = [n] := by
  unfold runeL
  rw [if_pos h1]
  congr 1
  omega
def cbytes (s : ByteArray) (i n : Int) : List Int := ((bytesOf s).drop i.toNat).take n.toNat
theorem bytes_at (s : ByteArray) (q : Nat) (h : q < s.size) : (bytesOf s)[q]? = some (bt s q) := by
  have hl : q < (bytesOf s).length := by rw [bytesOf_length]; exact h
  rw [List.getElem?_eq_getElem hl]
  have := rd_bytesOf s (q : Int)
  unfold rd at this
  rw [Int.toNat_natCast, List.getD_eq_getElem?_getD, List.getElem?_eq_getElem hl] at this
  rw [← this]
  rfl
theorem cbytes_is {s : ByteArray} {i n : Int} (h0 : 0 ≤ i) (hn : 0 ≤ n) (h1 : i + n ≤ (s.size : Int)) : cbytes s i n = (List.range n.toNat).map fun (q : Nat) => bt s (i + (q : Int)) := by
  unfold cbytes
  apply List.ext_getElem?
  intro q
  by_cases h : q < n.toNat
  · rw [List.getElem?_take_of_lt h, List.getElem?_drop, bytes_at s (i.toNat + q) (by omega)]
    simp [h]
    congr 1
    omega
  · rw [List.getElem?_eq_none (by rw [List.length_take]; omega), List.getElem?_eq_none (by simp; omega)]
theorem read_piece {s o : ByteArray} {i r n : Int} (h0 : 0 ≤ i) (h : CharAt s i r n) (h1 : i + n ≤ (s.size : Int)) (p : Int) (hh : Here o p (piece s i r n)) :
    strR o p = (strR o (p + (piece s i r n).length)).bind fun r' => some (cbytes s i n ++ r'.1, r'.2.1, r'.2.2) := by
  have hb := bt_range s i
  have hp := h.pos
  have hc1 : bt s i < 128 → cbytes s i n = [bt s i] := by
    intro hlt
    have : n = 1 := by rcases h with h | h | h | h <;> omega
    rw [cbytes_is h0 (by omega) h1, this]
    show [bt s (i + ((0 : Nat) : Int))] = _
    rw [Int.natCast_zero, Int.add_zero]
  have short : ∀ c : Int, esc c = true → c ≠ 117 → escV c = bt s i → bt s i < 128 → piece s i r n = [92, c] → strR o p = (strR o (p + (piece s i r n).length)).bind fun r' => some (cbytes s i n ++ r'.1, r'.2.1, r'.2.2) := by
    intro c hc hu hv hlt e
    rw [e] at hh ⊢
    rw [read_esc hh.head (esc_short hh.tail.head hc hu), hv, hc1 hlt, show p + 1 + 1 = p + (([92, c] : List Int).length : Int) by simp; omega]
    cases strR o (p + (([92, c] : List Int).length : Int)) <;> simp
  have hex : ∀ a b c d : Int, hx a = true → hx b = true → hx c = true → hx d = true → ((hv a * 16 + hv b) * 16 + hv c) * 16 + hv d < 55296 → runeL (((hv a * 16 + hv b) * 16 + hv c) * 16 + hv d) = cbytes s i n → piece s i r n = [92, 117, a, b, c, d] →
      strR o p = (strR o (p + (piece s i r n).length)).bind fun r' => some (cbytes s i n ++ r'.1, r'.2.1, r'.2.2) := by
    intro a b c d ha hb hc hd hv hr e
    rw [e] at hh ⊢
    rw [read_esc hh.head (esc_hex hh.tail ha hb hc hd hv), hr, show p + 1 + 5 = p + (([92, 117, a, b, c, d] : List Int).length : Int) by simp; omega]
    cases strR o (p + (([92, 117, a, b, c, d] : List Int).length : Int)) <;> simp
  have hex2 : bt s i < 128 → piece s i r n = [92, 117, 48, 48, hxc (bt s i / 16), hxc (bt s i % 16)] → strR o p = (strR o (p + (piece s i r n).length)).bind fun r' => some (cbytes s i n ++ r'.1, r'.2.1, r'.2.2) := by
    intro hlt e
    obtain ⟨a1, a2, _⟩ := hxc_is (x := bt s i / 16) (by omega) (by omega)
    obtain ⟨b1, b2, _⟩ := hxc_is (x := bt s i % 16) (by omega) (by omega)
    have z1 : hx 48 = true := by decide
    have z2 : hv 48 = 0 := by decide
    refine hex 48 48 _ _ z1 z1 a1 b1 ?_ ?_ e
    · rw [a2, b2, z2]; omega
    · rw [a2, b2, z2, hc1 hlt, show ((0 * 16 + 0) * 16 + bt s i / 16) * 16 + bt s i % 16 = bt s i by omega]
      exact runeL_small (by omega) hlt
  have plain : (∀ x ∈ cbytes s i n, 32 ≤ x ∧ x ≠ 34 ∧ x ≠ 92) → piece s i r n = cbytes s i n → strR o p = (strR o (p + (piece s i r n).length)).bind fun r' => some (cbytes s i n ++ r'.1, r'.2.1, r'.2.2) := by
    intro hx e
    rw [e] at hh ⊢
    exact read_plain _ _ hx hh
  by_cases c1 : bt s i < 32
  · by_cases d1 : bt s i = 8
    · exact short 98 (by decide) (by decide) (by rw [d1]; decide) (by omega) (by unfold piece; rw [if_pos c1, if_pos d1])
    by_cases d2 : bt s i = 12
    · exact short 102 (by decide) (by decide) (by rw [d2]; decide) (by omega) (by unfold piece; rw [if_pos c1, if_neg d1, if_pos d2])
    by_cases d3 : bt s i = 10
    · exact short 110 (by decide) (by decide) (by rw [d3]; decide) (by omega) (by unfold piece; rw [if_pos c1, if_neg d1, if_neg d2, if_pos d3])
    by_cases d4 : bt s i = 13
    · exact short 114 (by decide) (by decide) (by rw [d4]; decide) (by omega) (by unfold piece; rw [if_pos c1, if_neg d1, if_neg d2, if_neg d3, if_pos d4])
    by_cases d5 : bt s i = 9
    · exact short 116 (by decide) (by decide) (by rw [d5]; decide) (by omega) (by unfold piece; rw [if_pos c1, if_neg d1, if_neg d2, if_neg d3, if_neg d4, if_pos d5])
    · exact hex2 (by omega) (by unfold piece; rw [if_pos c1, if_neg d1, if_neg d2, if_neg d3, if_neg d4, if_neg d5])
  by_cases c2 : bt s i = 62 ∨ bt s i = 60 ∨ bt s i = 38
  · exact hex2 (by omega) (by unfold piece; rw [if_neg c1, if_pos c2])
  by_cases c3 : bt s i = 92
  · exact short 92 (by decide) (by decide) (by rw [c3]; decide) (by omega) (by unfold piece; rw [if_neg c1, if_neg c2, if_pos c3])
  by_cases c4 : bt s i = 34
  · exact short 34 (by decide) (by decide) (by rw [c4]; decide) (by omega) (by unfold piece; rw [if_neg c1, if_neg c2, if_neg c3, if_pos c4])
  by_cases c5 : bt s i > 127
  · have hpl : ¬ (r = 8232 ∨ r = 8233) → piece s i r n = cbytes s i n := fun hn => by unfold piece; rw [if_neg c1, if_neg c2, if_neg c3, if_neg c4, if_pos c5, if_neg hn]; rfl
    by_cases c6 : r = 8232 ∨ r = 8233
    · have h3 : n = 3 ∧ bt s i = 226 ∧ bt s (i + 1) = 128 ∧ bt s (i + 2) = r - 8064 := by
        rcases h with h | h | h | h <;> omega
      have hcb : cbytes s i n = [226, 128, r - 8064] := by
        rw [cbytes_is h0 (by omega) h1, h3.1]
        show [bt s (i + ((0 : Nat) : Int)), bt s (i + ((1 : Nat) : Int)), bt s (i + ((2 : Nat) : Int))] = _
        rw [Int.natCast_zero, Int.add_zero, h3.2.1]
        show [226, bt s (i + 1), bt s (i + 2)] = _
        rw [h3.2.2.1, h3.2.2.2]
      refine hex 50 48 50 (hxc (r % 16)) (by decide) (by decide) (by decide) (by rcases c6 with rfl | rfl <;> decide) (by rcases c6 with rfl | rfl <;> decide) ?_ (by unfold piece; rw [if_neg c1, if_neg c2, if_neg c3, if_neg c4, if_pos c5, if_pos c6])
      rw [hcb]
      rcases c6 with rfl | rfl <;> decide
    · refine plain ?_ (hpl c6)
      rw [cbytes_is h0 (by omega) h1]
      intro x hx
      obtain ⟨q, hq, rfl⟩ := List.mem_map.mp hx
      have hq' := List.mem_range.mp hq
      have : bt s (i + (q : Int)) ≥ 128 := by
        by_cases q0 : q = 0
        · rw [q0, Int.natCast_zero, Int.add_zero]; omega
        by_cases q1 : q = 1
        · rw [q1]; show bt s (i + 1) ≥ 128; rcases h with h | h | h | h <;> omega
        by_cases q2 : q = 2
        · rw [q2]; show bt s (i + 2) ≥ 128; rcases h with h | h | h | h <;> omega
        by_cases q3 : q = 3
        · rw [q3]; show bt s (i + 3) ≥ 128; rcases h with h | h | h | h <;> omega
        · omega
      omega
  · refine plain ?_ ?_
    · rw [hc1 (by omega)]
      intro x hx
      rw [List.mem_singleton.mp hx]
      exact ⟨by omega, c4, c3⟩
    · rw [hc1 (by omega)]
      unfold piece
      rw [if_neg c1, if_neg c2, if_neg c3, if_neg c4, if_neg c5]
theorem cbytes_step {s : ByteArray} {i n : Int} (h0 : 0 ≤ i) (hn : 0 ≤ n) (h1 : i + n ≤ (s.size : Int)) : cbytes s i n ++ (bytesOf s).drop (i + n).toNat = (bytesOf s).drop i.toNat := by
  unfold cbytes
  rw [show (i + n).toNat = i.toNat + n.toNat by omega, ← List.drop_drop, List.take_append_drop]
theorem read_back {s o : ByteArray} : ∀ {i : Int} {l : List Int}, Enc s i l → 0 ≤ i → ∀ p, Here o p (l ++ [34]) → strR o p = some ((bytesOf s).drop i.toNat, true, p + l.length + 1) := by
  intro i l h
  induction h with
  | @nil i h =>
    intro h0 p hh
    have hb := Here.head (l := []) hh
    unfold strR
    rw [textR, if_neg (by omega), if_pos hb]
    rw [List.drop_eq_nil_of_le (by rw [bytesOf_length]; omega)]
    simp
  | @cons i r n l hlt h h1 _ ih =>
    intro h0 p hh
    rw [List.append_assoc] at hh
    have hp := h.pos
    rw [read_piece h0 h h1 p hh.left, ih (by omega) _ hh.right]
    simp only [Option.bind_some]
    rw [cbytes_step h0 (by omega) h1]
    congr 3
    rw [List.length_append]
    omega
theorem piece_bytes {s : ByteArray} {i r n : Int} (h0 : 0 ≤ i) (h : CharAt s i r n) (h1 : i + n ≤ (s.size : Int)) : (∀ x ∈ piece s i r n, 0 ≤ x ∧ x ≤ 255) ∧ (piece s i r n).length ≤ 6 * n.toNat := by
  have hb := bt_range s i
  have hp := h.pos
  have h16 := hxc_is (x := bt s i / 16) (by omega) (by omega)
  have h1r := hxc_is (x := bt s i % 16) (by omega) (by omega)
  have hcb : ∀ x ∈ cbytes s i n, 0 ≤ x ∧ x ≤ 255 := by
    rw [cbytes_is h0 (by omega) h1]
    intro x hx
    obtain ⟨q, _, rfl⟩ := List.mem_map.mp hx
    exact bt_range _ _
  have hcl : (cbytes s i n).length ≤ n.toNat := by unfold cbytes; rw [List.length_take]; omega
  unfold piece
  repeat' split
  all_goals first
    | exact ⟨hcb, Nat.le_trans hcl (by omega)⟩
    | (refine ⟨fun x hx => ?_, by simp; omega⟩
       simp only [List.mem_cons, List.not_mem_nil, or_false] at hx
       have hr : ∀ c, c = 8232 ∨ c = 8233 → 0 ≤ hxc (c % 16) ∧ hxc (c % 16) ≤ 255 := by rintro c (rfl | rfl) <;> decide
       first | omega | (rename_i hc; have := hr r hc; omega))
theorem enc_bytes {s : ByteArray} {i : Int} {l : List Int} (h : Enc s i l) : 0 ≤ i → (∀ x ∈ l, 0 ≤ x ∧ x ≤ 255) ∧ l.length ≤ 6 * ((s.size : Int) - i).toNat := by
  induction h with
  | nil _ => exact fun _ => ⟨fun x hx => by simp at hx, by simp⟩
  | cons r n l hlt h h1 _ ih =>
    intro h0
    have hp := h.pos
    obtain ⟨a1, a2⟩ := ih (by omega)
    obtain ⟨b1, b2⟩ := piece_bytes h0 h h1
    refine ⟨fun x hx => ?_, by rw [List.length_append]; omega⟩
    rcases List.mem_append.mp hx with hx | hx
    · exact b1 x hx
    · exact a1 x hx
end Go.Proofs.YtldfejbmdonaoaaGreatDoor.Ua