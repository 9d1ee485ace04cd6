/- Joined by a program of mine from texts of this claim: Wh, Pn. -/
import Derived.Test.YtldfejbmdonaoaaGreatDoorL34
import Derived.Test.YtldfejbmdonaoaaGreatDoorL47
import Derived.Test.YtldfejbmdonaoaaGreatDoorL46
namespace Go.Proofs.YtldfejbmdonaoaaGreatDoor.Wh
open Go.RowKit YtldfejbmdonaoaaGreatDoorW.PrintWords YtldfejbmdonaoaaGreatDoorW.PrintLast YtldfejbmdonaoaaGreatDoorW.PrintMore Tp Fr Nx PFnExactLess
set_option linter.unusedVariables false
set_option linter.unusedSimpArgs false
structure Dgs (d : ByteArray) (n : Int) (k : Nat) : Prop where
  pos : 1 ≤ d.size
  le : d.size ≤ k
  all : ∀ j : Nat, j < d.size → 48 ≤ bt d j ∧ bt d j ≤ 57
  num : nv d 0 d.size = n
  top : d.size = 1 ∨ 49 ≤ bt d ((0 : Nat) : Int)
theorem nv_congr {s t : ByteArray} {a b : Int} : ∀ {k : Nat}, (∀ j : Nat, j < k → bt s (a + j) = bt t (b + j)) → nv s a k = nv t b k
  | 0, _ => rfl
  | k + 1, h => by
    simp only [nv]
    rw [nv_congr (k := k) (fun j hj => h j (by omega)), h k (Nat.lt_succ_self k)]
theorem one_dgs (n : Int) (h0 : 0 ≤ n) (h1 : n < 10) : Dgs (strOfNums ([(wrap64 (48 + n)) % 256] : List Int)) n 1 := by
  have e : wrap64 (48 + n) % 256 = 48 + n := by unfold wrap64; omega
  rw [e]
  have hb : bt (strOfNums [48 + n]) ((0 : Nat) : Int) = 48 + n := by
    have := Bt.bt_nums (l := [48 + n]) (j := 0) (by simp) (by simp; omega) (by simp; omega)
    simpa using this
  have hs : (strOfNums [48 + n]).size = 1 := by rw [strOfNums_size]; rfl
  refine ⟨by omega, by omega, ?_, ?_, .inl hs⟩
  · rw [hs]
    intro j hj
    obtain rfl : j = 0 := by omega
    rw [hb]
    omega
  · rw [hs]
    simp only [nv]
    rw [show (0 : Int) + ((0 : Nat) : Int) = ((0 : Nat) : Int) by rfl, hb]
    omega
theorem Dgs.snoc {t d : ByteArray} {n x : Int} {k : Nat} (h : Dgs t n k) (hn : 1 ≤ n) (hd : Dgs d x 1) : Dgs (t ++ d) (n * 10 + x) (k + 1) := by
  have hs : (t ++ d).size = t.size + 1 := by rw [ByteArray.size_append]; have := hd.pos; have := hd.le; omega
  have hd1 : d.size = 1 := by have := hd.pos; have := hd.le; omega
  have hl : bt (t ++ d) (t.size : Int) = bt d ((0 : Nat) : Int) := Bt.bt_append_right 0
  have hall := hd.all
  have hnum := hd.num
  rw [hd1] at hall hnum
  have hp := h.pos
  refine ⟨by omega, by have := h.le; omega, ?_, ?_, .inr ?_⟩
  · rw [hs]
    intro j hj
    by_cases c : j < t.size
    · rw [Bt.bt_append_left c]
      exact h.all j c
    · obtain rfl : j = t.size := by omega
      rw [hl]
      exact hall 0 (by omega)
  · rw [hs]
    simp only [nv]
    rw [nv_congr (t := t) (b := 0) (fun j hj => by rw [show (0 : Int) + (j : Int) = (j : Int) by omega]; exact Bt.bt_append_left hj), h.num, show (0 : Int) + (t.size : Int) = (t.size : Int) by omega, hl]
    simp only [nv] at hnum
    rw [show (0 : Int) + ((0 : Nat) : Int) = ((0 : Nat) : Int) by rfl] at hnum
    omega
  · rw [Bt.bt_append_left (by omega)]
    rcases h.top with ht | ht
    · have h1 := h.num
      rw [ht] at h1
      simp only [nv] at h1
      rw [show (0 : Int) + ((0 : Nat) : Int) = ((0 : Nat) : Int) by rfl] at h1
      omega
    · exact ht
theorem dec_dgs (m : Nat) (hm : m ≤ 30) : ∀ n : Int, 0 ≤ n → n < 10 ^ (m + 1) → n ≤ 9223372036854775807 → ∃ d, spec_Dec.f (m + 1) n = some d ∧ Dgs d n (m + 1) := by
  induction m with
  | zero =>
    intro n h0 h1 _
    have h1' : n < 10 := by simpa using h1
    exact ⟨_, by simp only [spec_Dec.f]; rw [if_pos h1'], one_dgs n h0 h1'⟩
  | succ m ih =>
    intro n h0 h1 h2
    by_cases h10 : n < 10
    · have D := one_dgs n h0 h10
      exact ⟨_, by simp only [spec_Dec.f]; rw [if_pos h10], ⟨D.pos, by have := D.le; omega, D.all, D.num, D.top⟩⟩
    · have e1 : Int.tdiv n 10 = n / 10 := Int.tdiv_eq_ediv_of_nonneg h0
      have e2 : Int.tmod n 10 = n % 10 := Int.tmod_eq_emod_of_nonneg h0
      have e3 : wrap64 (n / 10) = n / 10 := by unfold wrap64; omega
      have hlt : n / 10 < 10 ^ (m + 1) := by
        rw [Int.pow_succ] at h1
        omega
      obtain ⟨t, ht, D⟩ := ih (by omega) (n / 10) (by omega) hlt (by omega)
      have O := one_dgs (n % 10) (by omega) (by omega)
      have S := D.snoc (by omega) O
      have hz := D.le
      refine ⟨t ++ strOfNums [wrap64 (48 + n % 10) % 256], ?_, ?_⟩
      · simp only [spec_Dec.f]
        rw [if_neg h10, e1, e3]
        simp only [spec_Dec.f] at ht
        rw [ht]
        simp only [Option.bind_some, e2]
        rw [if_pos (by rw [strOfNums_size]; simp; omega)]
      · have e : n / 10 * 10 + n % 10 = n := by omega
        rw [e] at S
        exact S
structure NumT (s : ByteArray) (n : Int) : Prop where
  size : (s.size : Int) ≤ 19
  pos : 0 < (s.size : Int)
  is : ∃ j, IntStr s j ∧ nv s j ((s.size : Int) - j).toNat = (if n < 0 then -n else n) ∧ (j = 1 ↔ n < 0)
  good : numBad s 0 = false
  end_ : numEnd s 0 = (s.size : Int)
theorem all_run {s : ByteArray} : ∀ (k : Nat) (i : Int), ((s.size : Int) - i).toNat = k → i ≤ (s.size : Int) → (∀ x, i ≤ x → x < (s.size : Int) → dg (bt s x) = true) → runEnd dg s i = (s.size : Int)
  | 0, i, hk, hi, _ => by rw [runEnd_stop (.inl (by omega))]; omega
  | k + 1, i, hk, hi, h => by
    rw [runEnd_step (by omega) (h i (Int.le_refl _) (by omega))]
    exact all_run k (i + 1) (by omega) (by omega) (fun x h1 h2 => h x (by omega) h2)
theorem num_of {s : ByteArray} {i : Int} (hi : nSign s 0 = i) (h1 : i < (s.size : Int)) (hd : ∀ x, i ≤ x → x < (s.size : Int) → 48 ≤ bt s x ∧ bt s x ≤ 57) (ht : (s.size : Int) - i = 1 ∨ 49 ≤ bt s i) : numBad s 0 = false ∧ numEnd s 0 = (s.size : Int) := by
  have hg : ∀ x, i ≤ x → x < (s.size : Int) → dg (bt s x) = true := fun x h2 h3 => dg_iff.mpr (hd x h2 h3)
  have hn : nInt s i = (s.size : Int) := by
    unfold nInt
    by_cases c : bt s i = 48
    · rw [if_pos c]; omega
    · rw [if_neg c]; exact all_run _ i rfl (by omega) hg
  have hz : bt s (s.size : Int) = 0 := bt_out (Int.le_refl _)
  have hf : nFrac s (s.size : Int) = (s.size : Int) := by unfold nFrac; rw [hz, if_neg (by decide)]
  constructor
  · unfold numBad nFracB nExpB
    rw [hi, hn, hf, hz, hg i (Int.le_refl _) h1, show ((0 : Int) == 46) = false by decide, show isE 0 = false by decide]
    rfl
  · unfold numEnd nExp
    rw [hi, hn, hf, hz, if_neg (by decide)]
theorem pos_text {d : ByteArray} {n : Int} (h0 : 0 ≤ n) (D : Dgs d n 18) : NumT d n := by
  have hp := D.pos
  have hl := D.le
  have hd : ∀ x : Int, 0 ≤ x → x < (d.size : Int) → 48 ≤ bt d x ∧ bt d x ≤ 57 := fun x h1 h2 => by
    obtain ⟨y, rfl⟩ := Int.eq_ofNat_of_zero_le h1
    exact D.all y (by omega)
  have h00 := hd 0 (Int.le_refl _) (by omega)
  have hs : nSign d 0 = 0 := by unfold nSign; rw [if_neg (by omega)]
  obtain ⟨g1, g2⟩ := num_of hs (by omega) hd (by rcases D.top with h | h; exact .inl (by omega); exact .inr h)
  refine ⟨by omega, by omega, ⟨0, ⟨.inl ⟨rfl, by omega, by omega⟩, by omega, by omega, hd⟩, ?_, ?_⟩, g1, g2⟩
  · rw [show ((d.size : Int) - 0).toNat = d.size by omega, D.num, if_neg (by omega)]
  · constructor <;> intro h <;> omega
theorem neg_text {d : ByteArray} {n : Int} (h0 : n < 0) (D : Dgs d (-n) 18) : NumT ((⟨#[45]⟩ : ByteArray) ++ d) n := by
  have hp := D.pos
  have hl := D.le
  have hz : ((⟨#[45]⟩ : ByteArray) ++ d).size = d.size + 1 := by rw [ByteArray.size_append]; show 1 + d.size = _; omega
  have h45 : bt ((⟨#[45]⟩ : ByteArray) ++ d) 0 = 45 := by
    have := Bt.bt_append_left (a := (⟨#[45]⟩ : ByteArray)) (b := d) (j := 0) (by decide)
    exact this.trans (by decide)
  have hb : ∀ y : Nat, bt ((⟨#[45]⟩ : ByteArray) ++ d) ((1 + y : Nat) : Int) = bt d (y : Int) := fun y => Bt.bt_append_right (a := (⟨#[45]⟩ : ByteArray)) (b := d) y
  obtain ⟨s, hs⟩ : ∃ s, (⟨#[45]⟩ : ByteArray) ++ d = s := ⟨_, rfl⟩
  rw [hs] at hz h45 hb ⊢
  have hd : ∀ x : Int, 1 ≤ x → x < (s.size : Int) → 48 ≤ bt s x ∧ bt s x ≤ 57 := fun x h1 h2 => by
    obtain ⟨y, rfl⟩ := Int.eq_ofNat_of_zero_le (show 0 ≤ x - 1 by omega) |>.imp fun y hy => show x = ((1 + y : Nat) : Int) by omega
    rw [hb]
    exact D.all y (by omega)
  have hsg : nSign s 0 = 1 := by unfold nSign; rw [if_pos h45]; rfl
  obtain ⟨g1, g2⟩ := num_of hsg (by omega) hd (by rcases D.top with h | h; exact .inl (by omega); exact .inr (by have := hb 0; rw [show ((1 + 0 : Nat) : Int) = 1 by rfl] at this; omega))
  refine ⟨by omega, by omega, ⟨1, ⟨.inr ⟨rfl, h45⟩, by omega, by omega, hd⟩, ?_, ?_⟩, g1, g2⟩
  · rw [show ((s.size : Int) - 1).toNat = d.size by omega, if_pos h0, ← D.num]
    exact nv_congr fun j hj => by rw [show (1 : Int) + (j : Int) = ((1 + j : Nat) : Int) by omega, hb, show (0 : Int) + (j : Int) = (j : Int) by omega]
  · constructor <;> intro h <;> omega
theorem whole_text (n : Int) (h0 : -1000000000000000000 < n) (h1 : n < 1000000000000000000) : ∃ s, spec_Whole.f 18 n = some s ∧ NumT s n := by
  by_cases hn : n < 0
  · obtain ⟨d, hd, D⟩ := dec_dgs 17 (by omega) (-n) (by omega) (by omega) (by omega)
    refine ⟨(⟨#[45]⟩ : ByteArray) ++ d, ?_, neg_text hn D⟩
    unfold spec_Whole.f
    have e : wrap64 (-n) = -n := by unfold wrap64; omega
    rw [if_pos hn, e, hd]
    simp only [Option.bind_some]
    rw [if_pos (by have := D.le; omega)]
  · obtain ⟨d, hd, D⟩ := dec_dgs 17 (by omega) n (by omega) (by omega) (by omega)
    refine ⟨d, ?_, pos_text (by omega) D⟩
    unfold spec_Whole.f
    rw [if_neg hn, hd]
    rfl
end Go.Proofs.YtldfejbmdonaoaaGreatDoor.Wh
namespace Go.Proofs.YtldfejbmdonaoaaGreatDoor.Pn
open Go.RowKit YtldfejbmdonaoaaGreatDoorW.PrintWords YtldfejbmdonaoaaGreatDoorW.PrintLast YtldfejbmdonaoaaGreatDoorW.PrintMore Tp Fr At Pz Nx Gp Gv Gn Gi Wh PFnExactLess
set_option linter.unusedVariables false
set_option linter.unusedSimpArgs false
theorem lead_of {s : ByteArray} {n : Int} (h : NumT s n) : Lead s 0 := ⟨by have := h.size; omega, Int.le_refl _, h.pos, fun q h1 h2 => by omega⟩
theorem shape_of {s : ByteArray} {n : Int} (h : NumT s n) : Shape s 0 2 (s.size : Int) := .inr (.inl ⟨rfl, h.good, h.end_.symm, fun h => by omega⟩)
theorem self_of (s : ByteArray) : s.extract (Int.toNat 0) ((s.size : Int)).toNat = s := by rw [Int.toNat_natCast]; exact Bt.extract_whole s
theorem x_of {s : ByteArray} {n : Int} (h : NumT s n) (hn : n.natAbs < 9007199254740992) {x : Nat} (hx : ExactX s x) : x = floatOfInt .f64 n := by
  obtain ⟨j, hj, hv, hs⟩ := h.is
  have h2 := hx.1 j hj (by rw [hv]; split <;> omega) (fun e => by rw [hv, if_pos (hs.mp e)]; have := hs.mp e; omega)
  rw [h2, hv]
  by_cases c : n < 0
  · rw [if_pos (hs.mpr c), if_pos c, Int.neg_neg]
  · rw [if_neg (fun e => c (hs.mp e)), if_neg c]
theorem parse_num (s : ByteArray) (n : Int) (h : NumT s n) (hn : n.natAbs < 9007199254740992) (w : World) (hT : Tabs w w.heap.size) (hV : ErrVars w w.heap.size) :
    Calls Tryz.prog 24 #[.string s] w fun e w' => e = .returned (.agg #[.int .i64 2, .string s, .string ⟨#[]⟩, .float .f64 (floatOfInt .f64 n), .int .i64 0, .slice none 0 0]) ∧ Below w.heap.size w w' := by
  refine (parse_other s 0 2 s.size (lead_of h) (shape_of h) w hT hV).mono ?_
  rintro e w' ⟨x, rfl, hx, hb⟩
  rw [self_of] at hx ⊢
  rw [x_of h hn (hx rfl)]
  exact ⟨rfl, hb⟩
end Go.Proofs.YtldfejbmdonaoaaGreatDoor.Pn