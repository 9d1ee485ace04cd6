/- Joined by a program of mine from texts of this claim: Dm, Dw. -/
import Derived.Test.YtldfejbmdonaoaaGreatDoorProg
import Derived.Test.YtldfejbmdonaoaaGreatDoorZB2
import Derived.Deep.QuietTactic
import Derived.BigQuiet
import Derived.IntWalk
import Derived.WalkMore
namespace Go.Proofs.YtldfejbmdonaoaaGreatDoor.Dm
set_option linter.unusedVariables false
def V (f : Nat → Int) : Nat → Int
  | 0 => 0
  | n + 1 => V f n * 10 + (f n - 48)
def S (f : Nat → Int) (r : Nat) : Nat → Int
  | 0 => 0
  | m + 1 => (f r - 48) * 10 ^ m + S f (r + 1) m
def Digs (f : Nat → Int) (n : Nat) : Prop := ∀ i, i < n → 48 ≤ f i ∧ f i ≤ 57
theorem p10 (n : Nat) : (0 : Int) < 10 ^ n := Int.pow_pos (by decide)
theorem p2 (n : Nat) : (0 : Int) < 2 ^ n := Int.pow_pos (by decide)
theorem Digs.mono {f : Nat → Int} {n m : Nat} (h : Digs f n) (hm : m ≤ n) : Digs f m := fun i hi => h i (by omega)
theorem V_bd {f : Nat → Int} : ∀ {n : Nat}, Digs f n → 0 ≤ V f n ∧ V f n < 10 ^ n
  | 0, _ => by simp [V]
  | n + 1, h => by
    have h1 := V_bd (h.mono (Nat.le_succ n))
    have h2 := h n (Nat.lt_succ_self n)
    simp only [V]
    rw [Int.pow_succ]
    omega
theorem V_lo {f : Nat → Int} : ∀ {n : Nat}, Digs f (n + 1) → 49 ≤ f 0 → 10 ^ n ≤ V f (n + 1)
  | 0, _, h0 => by simp [V]; omega
  | n + 1, h, h0 => by
    have h1 := V_lo (h.mono (Nat.le_succ _)) h0
    have h2 := h (n + 1) (Nat.lt_succ_self _)
    rw [V, Int.pow_succ]
    omega
theorem V_split {f : Nat → Int} (r : Nat) : ∀ m, V f (r + m) = V f r * 10 ^ m + S f r m := by
  intro m
  induction m generalizing r with
  | zero => simp [S]
  | succ m ih =>
    have h := ih (r + 1)
    rw [show r + (m + 1) = r + 1 + m by omega, h, S, V, Int.pow_succ, Int.add_mul, Int.mul_assoc, Int.mul_comm 10 (10 ^ m), Int.add_assoc]
theorem V_eq_S (f : Nat → Int) (n : Nat) : V f n = S f 0 n := by
  have := V_split (f := f) 0 n
  simpa [V] using this
theorem S_bd {f : Nat → Int} : ∀ {m r : Nat}, Digs f (r + m) → 0 ≤ S f r m ∧ S f r m < 10 ^ m
  | 0, r, _ => by simp [S]
  | m + 1, r, h => by
    have h1 := S_bd (m := m) (r := r + 1) (by rw [show r + 1 + m = r + (m + 1) by omega]; exact h)
    have h2 := h r (by omega)
    rw [S, Int.pow_succ]
    have hp := p10 m
    have a1 : 0 ≤ (f r - 48) * 10 ^ m := Int.mul_nonneg (by omega) (by omega)
    have a2 : (f r - 48) * 10 ^ m ≤ 9 * 10 ^ m := Int.mul_le_mul_of_nonneg_right (by omega) (by omega)
    omega
def carry (f : Nat → Int) (k r m : Nat) : Int := S f r m * 2 ^ k / 10 ^ m
theorem carry_zero (f : Nat → Int) (k r : Nat) : carry f k r 0 = 0 := by simp [carry, S]
theorem carry_mid (f : Nat → Int) (k r m : Nat) : carry f k (r + 1) m + (f r - 48) * 2 ^ k = S f r (m + 1) * 2 ^ k / 10 ^ m := by
  unfold carry
  rw [S, Int.add_mul, Int.mul_assoc, Int.mul_comm (10 ^ m) (2 ^ k), ← Int.mul_assoc, Int.add_comm ((f r - 48) * 2 ^ k * 10 ^ m), Int.add_mul_ediv_right _ _ (Int.ne_of_gt (p10 m))]
theorem carry_step (f : Nat → Int) (k r m : Nat) : (carry f k (r + 1) m + (f r - 48) * 2 ^ k) / 10 = carry f k r (m + 1) := by
  rw [carry_mid, Int.ediv_ediv_of_nonneg (Int.le_of_lt (p10 m)), ← Int.pow_succ]
  rfl
theorem carry_bd {f : Nat → Int} {k r m : Nat} (h : Digs f (r + m)) : 0 ≤ carry f k r m ∧ carry f k r m < 2 ^ k := by
  have h1 := S_bd h
  have hp := p2 k
  have hq := p10 m
  constructor
  · exact Int.ediv_nonneg (Int.mul_nonneg h1.1 (Int.le_of_lt hp)) (Int.le_of_lt hq)
  · refine Int.ediv_lt_of_lt_mul hq ?_
    rw [Int.mul_comm (2 ^ k)]
    exact Int.mul_lt_mul_of_pos_right h1.2 hp
theorem div_in {x a b : Int} (hb : 0 < b) (h0 : a * b ≤ x) : a ≤ x / b := (Int.le_ediv_iff_mul_le hb).mpr h0
theorem div_lt {x a b : Int} (hb : 0 < b) (h0 : x < a * b) : x / b < a := Int.ediv_lt_of_lt_mul hb h0
theorem pow_le {a b : Nat} (h : a ≤ b) : (10 : Int) ^ a ≤ 10 ^ b := by
  obtain ⟨c, rfl⟩ : ∃ c, b = a + c := ⟨b - a, by omega⟩
  rw [Int.pow_add]
  have h1 : (10 : Int) ^ a * 1 ≤ 10 ^ a * 10 ^ c := Int.mul_le_mul_of_nonneg_left (by have := p10 c; omega) (Int.le_of_lt (p10 a))
  omega
structure Cheat (k : Nat) (delta : Nat) (C : Int) (m : Nat) : Prop where
  pos : 1 ≤ delta
  num : C = 5 ^ k
  len : m + delta = k + 1
  lo : (10 : Int) ^ (delta - 1) ≤ 2 ^ k
  hi : (2 : Int) ^ k < 10 ^ delta
theorem five_two (k : Nat) : (5 : Int) ^ k * 2 ^ k = 10 ^ k := by
  rw [← Int.mul_pow]; rfl
theorem shifted {k delta m nd : Nat} {C D : Int} (hc : Cheat k delta C m) (h0 : 0 ≤ D) (hlo : 10 ^ (nd - 1) ≤ D) (h1 : 1 ≤ nd) (hhi : D < 10 ^ nd) :
    (D * 10 ^ m < C * 10 ^ nd → D * 2 ^ k < 10 ^ (nd + (delta - 1)) ∧ 10 ^ (nd + (delta - 1) - 1) ≤ D * 2 ^ k) ∧
    (C * 10 ^ nd ≤ D * 10 ^ m → D * 2 ^ k < 10 ^ (nd + delta) ∧ 10 ^ (nd + delta - 1) ≤ D * 2 ^ k) := by
  have hp2 := p2 k
  have hpm := p10 m
  have e1 : C * 10 ^ nd * 2 ^ k = 10 ^ (nd + (delta - 1)) * 10 ^ m := by
    rw [hc.num, Int.mul_assoc, Int.mul_comm (10 ^ nd), ← Int.mul_assoc, five_two, ← Int.pow_add, ← Int.pow_add]
    congr 1
    have := hc.len
    have := hc.pos
    omega
  have e2 : D * 10 ^ m * 2 ^ k = D * 2 ^ k * 10 ^ m := by rw [Int.mul_assoc, Int.mul_comm (10 ^ m), ← Int.mul_assoc]
  constructor
  · intro h
    constructor
    · have h2 := Int.mul_lt_mul_of_pos_right h hp2
      rw [e1, e2] at h2
      exact Int.lt_of_mul_lt_mul_right h2 (Int.le_of_lt hpm)
    · have h3 : (10 : Int) ^ (nd - 1) * 10 ^ (delta - 1) ≤ D * 2 ^ k := Int.mul_le_mul hlo hc.lo (Int.le_of_lt (p10 _)) h0
      rw [← Int.pow_add] at h3
      rw [show nd + (delta - 1) - 1 = nd - 1 + (delta - 1) by omega]
      exact h3
  · intro h
    constructor
    · rw [Int.pow_add]
      have a1 : D * 2 ^ k < 10 ^ nd * 2 ^ k := Int.mul_lt_mul_of_pos_right hhi hp2
      have a2 : (10 : Int) ^ nd * 2 ^ k ≤ 10 ^ nd * 10 ^ delta := Int.mul_le_mul_of_nonneg_left (Int.le_of_lt hc.hi) (Int.le_of_lt (p10 _))
      omega
    · have h2 := Int.mul_le_mul_of_nonneg_right h (Int.le_of_lt hp2)
      rw [e1, e2] at h2
      have := hc.pos
      rw [show nd + delta - 1 = nd + (delta - 1) by omega]
      exact Int.le_of_mul_le_mul_right h2 hpm
theorem cmp_same {f g : Nat → Int} {i : Nat} (h : ∀ j, j < i → f j = g j) : V f i = V g i := by
  induction i with
  | zero => rfl
  | succ i ih => rw [V, V, ih fun j hj => h j (by omega), h i (by omega)]
theorem scale_lt {a b : Int} {n m i : Nat} {x y : Int} (hi : i ≤ n) (hj : i ≤ m) (hab : a + 1 ≤ b) (hx : x < (a + 1) * 10 ^ (n - i)) (hy : b * 10 ^ (m - i) ≤ y) : x * 10 ^ m < y * 10 ^ n := by
  have e1 : (10 : Int) ^ n = 10 ^ (n - i) * 10 ^ i := by rw [← Int.pow_add]; congr 1; omega
  have e2 : (10 : Int) ^ m = 10 ^ (m - i) * 10 ^ i := by rw [← Int.pow_add]; congr 1; omega
  have h1 : x * 10 ^ m < (a + 1) * 10 ^ (n - i) * 10 ^ m := Int.mul_lt_mul_of_pos_right hx (p10 m)
  have h2 : b * 10 ^ (m - i) * 10 ^ n ≤ y * 10 ^ n := Int.mul_le_mul_of_nonneg_right hy (Int.le_of_lt (p10 n))
  have h3 : (a + 1) * 10 ^ (n - i) * 10 ^ m ≤ b * 10 ^ (m - i) * 10 ^ n := by
    have e3 : (a + 1) * 10 ^ (n - i) * 10 ^ m = (a + 1) * (10 ^ (n - i) * 10 ^ m) := Int.mul_assoc _ _ _
    have e4 : b * 10 ^ (m - i) * 10 ^ n = b * (10 ^ (n - i) * 10 ^ m) := by
      rw [e1, e2, Int.mul_assoc]
      congr 1
      rw [Int.mul_left_comm]
    rw [e3, e4]
    exact Int.mul_le_mul_of_nonneg_right hab (Int.le_of_lt (Int.mul_pos (p10 _) (p10 _)))
  omega
theorem V_head {f : Nat → Int} {i n : Nat} (h : Digs f n) (hi : i ≤ n) : V f i * 10 ^ (n - i) ≤ V f n ∧ V f n < (V f i + 1) * 10 ^ (n - i) := by
  have e := V_split (f := f) i (n - i)
  have b := S_bd (f := f) (r := i) (m := n - i) (by rw [show i + (n - i) = n by omega]; exact h)
  rw [show i + (n - i) = n by omega] at e
  rw [e, Int.add_mul]
  omega
theorem cmp_lt {f g : Nat → Int} {i n m : Nat} (hf : Digs f n) (hg : Digs g m) (hi : i < n) (hj : i < m) (h : ∀ j, j < i → f j = g j) (hlt : f i < g i) : V f n * 10 ^ m < V g m * 10 ^ n := by
  have e := cmp_same h
  refine scale_lt (a := V f (i + 1)) (b := V g (i + 1)) (i := i + 1) hi hj ?_ (V_head hf hi).2 (V_head hg hj).1
  rw [V, V, e]
  omega
theorem cmp_front {f g : Nat → Int} {n m : Nat} (hf : Digs f n) (hm : m ≤ n) (h : ∀ j, j < m → f j = g j) : V g m * 10 ^ n ≤ V f n * 10 ^ m := by
  rw [← cmp_same h, show (10 : Int) ^ n = 10 ^ (n - m) * 10 ^ m by rw [← Int.pow_add]; congr 1; omega, ← Int.mul_assoc]
  exact Int.mul_le_mul_of_nonneg_right (V_head hf hm).1 (Int.le_of_lt (p10 m))
theorem cmp_short {f g : Nat → Int} {n m : Nat} (hg : Digs g m) (hm : n < m) (h : ∀ j, j < n → f j = g j) (hl : 49 ≤ g (m - 1)) : V f n * 10 ^ m < V g m * 10 ^ n := by
  rw [cmp_same h, show (10 : Int) ^ m = 10 ^ (m - n) * 10 ^ n by rw [← Int.pow_add]; congr 1; omega, ← Int.mul_assoc]
  refine Int.mul_lt_mul_of_pos_right ?_ (p10 n)
  obtain ⟨k, rfl⟩ : ∃ k, m = n + (k + 1) := ⟨m - n - 1, by omega⟩
  rw [show n + (k + 1) - n = k + 1 by omega]
  have b := (V_head (f := g) (i := n) (n := n + k) (hg.mono (by omega)) (by omega)).1
  rw [show n + k - n = k by omega] at b
  rw [show n + (k + 1) = n + k + 1 by omega, V, Int.pow_succ, ← Int.mul_assoc]
  rw [show n + (k + 1) - 1 = n + k by omega] at hl
  omega
theorem right_step {n : Int} {k j : Nat} (h0 : 0 ≤ n) (hj : j < k) (hd : (2 : Int) ^ j ∣ n) : (2 : Int) ^ (j + 1) ∣ n % 2 ^ k * 10 := by
  have h1 : (2 : Int) ^ j ∣ n % 2 ^ k := by
    have e : (2 : Int) ^ j ∣ 2 ^ k := by
      obtain ⟨c, rfl⟩ : ∃ c, k = j + c := ⟨k - j, by omega⟩
      exact ⟨2 ^ c, by rw [← Int.pow_add]⟩
    exact (Int.dvd_emod_sub_self (m := 2 ^ k) (x := n)).elim fun q hq => by
      have : n % 2 ^ k = n + 2 ^ k * q := by omega
      rw [this]
      exact Int.dvd_add hd (Int.dvd_trans e ⟨q, rfl⟩)
  obtain ⟨q, hq⟩ := h1
  exact ⟨q * 5, by rw [hq, Int.pow_succ]; simp only [Int.mul_assoc]; congr 1; omega⟩
theorem right_last {n : Int} {k : Nat} (hd : (2 : Int) ^ k ∣ n) : n % 2 ^ k * 10 = 0 := by
  rw [Int.emod_eq_zero_of_dvd hd]; rfl
theorem right_bd {n : Int} (k : Nat) : 0 ≤ n % 2 ^ k ∧ n % 2 ^ k < 2 ^ k := ⟨Int.emod_nonneg _ (Int.ne_of_gt (p2 k)), Int.emod_lt_of_pos _ (p2 k)⟩
end Go.Proofs.YtldfejbmdonaoaaGreatDoor.Dm
namespace Go.Proofs.YtldfejbmdonaoaaGreatDoor.Dw
open Go.RowKit YtldfejbmdonaoaaGreatDoorW.PrintWords YtldfejbmdonaoaaGreatDoorW.PrintLast YtldfejbmdonaoaaGreatDoorW.PrintMore Dm
set_option linter.unusedVariables false
set_option linter.unusedSimpArgs false
structure Dc (w : World) (b : Nat) (f : Nat → Int) (nd dp : Int) (ng tr : Bool) : Prop where
  mk :: (cells : ∃ cs : Array Value, w.heap[b]? = some (.cells cs 138 (0, 0)) ∧ cs.size = 804 ∧ (∀ i, i < 800 → cs[i]? = some (.int .u8 (f i))) ∧ cs[800]? = some (.int .i64 nd) ∧ cs[801]? = some (.int .i64 dp) ∧ cs[802]? = some (.bool ng) ∧ cs[803]? = some (.bool tr))
def upd (f : Nat → Int) (i : Nat) (x : Int) : Nat → Int := fun j => if j = i then x else f j
theorem upd_same (f : Nat → Int) (i : Nat) (x : Int) : upd f i x i = x := if_pos rfl
theorem upd_ne (f : Nat → Int) {i j : Nat} (h : j ≠ i) (x : Int) : upd f i x j = f j := if_neg h
section
variable {w w1 : World} {b : Nat} {f : Nat → Int} {nd dp : Int} {ng tr : Bool}
theorem Dc.at (h : Dc w b f nd dp ng tr) {i : Nat} (hi : i < 800) : w.cell? ⟨b, i, none⟩ = some (.int .u8 (f i)) := by
  obtain ⟨cs, hb, hz, hd, _⟩ := h.cells
  exact (blk_cell hb i).trans (hd i hi)
theorem Dc.cnd (h : Dc w b f nd dp ng tr) : w.cell? ⟨b, 800, none⟩ = some (.int .i64 nd) := by
  obtain ⟨cs, hb, hz, hd, h0, _⟩ := h.cells
  exact (blk_cell hb _).trans h0
theorem Dc.cdp (h : Dc w b f nd dp ng tr) : w.cell? ⟨b, 801, none⟩ = some (.int .i64 dp) := by
  obtain ⟨cs, hb, hz, hd, h0, h1, _⟩ := h.cells
  exact (blk_cell hb _).trans h1
theorem Dc.cng (h : Dc w b f nd dp ng tr) : w.cell? ⟨b, 802, none⟩ = some (.bool ng) := by
  obtain ⟨cs, hb, hz, hd, h0, h1, h2, _⟩ := h.cells
  exact (blk_cell hb _).trans h2
theorem Dc.ctr (h : Dc w b f nd dp ng tr) : w.cell? ⟨b, 803, none⟩ = some (.bool tr) := by
  obtain ⟨cs, hb, hz, hd, h0, h1, h2, h3⟩ := h.cells
  exact (blk_cell hb _).trans h3
theorem Dc.fr (h : Dc w b f nd dp ng tr) (i : Nat) : w.frozen? ⟨b, i, none⟩ = false := by
  obtain ⟨cs, hb, _⟩ := h.cells
  exact blk_frozen hb i
theorem Dc.lt (h : Dc w b f nd dp ng tr) : b < w.heap.size := by
  obtain ⟨cs, hb, _⟩ := h.cells
  exact blk_lt hb
theorem Dc.put (h : Dc w b f nd dp ng tr) {i : Nat} (hi : i < 800) (x : Int) : Dc (w.setCell ⟨b, i, none⟩ (.int .u8 x)) b (upd f i x) nd dp ng tr := by
  obtain ⟨cs, hb, hz, hd, h0, h1, h2, h3⟩ := h.cells
  refine ⟨_, blk_set hb i _, by simpa using hz, fun j hj => ?_, ?_, ?_, ?_, ?_⟩
  · by_cases e : j = i
    · subst e
      rw [upd_same, Array.getElem?_setIfInBounds_self_of_lt (by omega)]
    · rw [upd_ne f e, Array.getElem?_setIfInBounds_ne (Ne.symm e)]
      exact hd j hj
  all_goals rw [Array.getElem?_setIfInBounds_ne (by omega)]; assumption
theorem Dc.putNd (h : Dc w b f nd dp ng tr) (x : Int) : Dc (w.setCell ⟨b, 800, none⟩ (.int .i64 x)) b f x dp ng tr := by
  obtain ⟨cs, hb, hz, hd, h0, h1, h2, h3⟩ := h.cells
  refine ⟨_, blk_set hb _ _, by simpa using hz, fun j hj => ?_, Array.getElem?_setIfInBounds_self_of_lt (by omega), ?_, ?_, ?_⟩
  · rw [Array.getElem?_setIfInBounds_ne (by omega)]; exact hd j hj
  all_goals rw [Array.getElem?_setIfInBounds_ne (by omega)]; assumption
theorem Dc.putDp (h : Dc w b f nd dp ng tr) (x : Int) : Dc (w.setCell ⟨b, 801, none⟩ (.int .i64 x)) b f nd x ng tr := by
  obtain ⟨cs, hb, hz, hd, h0, h1, h2, h3⟩ := h.cells
  refine ⟨_, blk_set hb _ _, by simpa using hz, fun j hj => ?_, ?_, Array.getElem?_setIfInBounds_self_of_lt (by omega), ?_, ?_⟩
  · rw [Array.getElem?_setIfInBounds_ne (by omega)]; exact hd j hj
  all_goals rw [Array.getElem?_setIfInBounds_ne (by omega)]; assumption
theorem Dc.putNg (h : Dc w b f nd dp ng tr) (x : Bool) : Dc (w.setCell ⟨b, 802, none⟩ (.bool x)) b f nd dp x tr := by
  obtain ⟨cs, hb, hz, hd, h0, h1, h2, h3⟩ := h.cells
  refine ⟨_, blk_set hb _ _, by simpa using hz, fun j hj => ?_, ?_, ?_, Array.getElem?_setIfInBounds_self_of_lt (by omega), ?_⟩
  · rw [Array.getElem?_setIfInBounds_ne (by omega)]; exact hd j hj
  all_goals rw [Array.getElem?_setIfInBounds_ne (by omega)]; assumption
theorem Dc.putTr (h : Dc w b f nd dp ng tr) (x : Bool) : Dc (w.setCell ⟨b, 803, none⟩ (.bool x)) b f nd dp ng x := by
  obtain ⟨cs, hb, hz, hd, h0, h1, h2, h3⟩ := h.cells
  refine ⟨_, blk_set hb _ _, by simpa using hz, fun j hj => ?_, ?_, ?_, ?_, Array.getElem?_setIfInBounds_self_of_lt (by omega)⟩
  · rw [Array.getElem?_setIfInBounds_ne (by omega)]; exact hd j hj
  all_goals rw [Array.getElem?_setIfInBounds_ne (by omega)]; assumption
theorem Dc.same (h : Dc w b f nd dp ng tr) (e : w1.heap[b]? = w.heap[b]?) : Dc w1 b f nd dp ng tr := by
  obtain ⟨cs, hb, r⟩ := h.cells
  exact ⟨⟨cs, e.trans hb, r⟩⟩
theorem Dc.drewN (h : Dc w b f nd dp ng tr) (n : Nat) : Dc (w.drewN n) b f nd dp ng tr := h.same rfl
theorem Dc.drew (h : Dc w b f nd dp ng tr) : Dc w.drew b f nd dp ng tr := h.same rfl
end
structure Trimmed (w0 w' : World) (b : Nat) (f : Nat → Int) (nd dp : Int) (ng tr : Bool) : Prop where
  mk :: (out : ∃ nd' dp', Dc w' b f nd' dp' ng tr ∧ 0 ≤ nd' ∧ nd' ≤ nd ∧ (1 ≤ nd → f 0 ≠ 48 → 1 ≤ nd' ∧ dp' = dp) ∧ Below b w0 w')
set_option maxRecDepth 100000 in
set_option maxHeartbeats 4000000 in
theorem trim_walk (w : World) (b : Nat) (f : Nat → Int) (nd dp : Int) (ng tr : Bool) (h : Dc w b f nd dp ng tr) (h0 : 0 ≤ nd) (h1 : nd ≤ 800) :
    Calls Tryz.prog 130 #[.pointer (some ⟨b, 0, none⟩)] w fun e w' => e = .returned (.tuple #[]) ∧ Trimmed w w' b f nd dp ng tr := by
  have HD0 := Aside0.mk h
  have HN0 := Aside0.mk (And.intro h0 h1)
  clear h h0 h1
  go_enter Tryz.func130, Tryz.ntmps130
  go_wp2
  go_loopg [] 801 (fun kq wr => ∃ n : Int, Aside0 (Dc wr b f n dp ng tr ∧ 0 ≤ n ∧ n ≤ nd ∧ n < kq ∧ (1 ≤ nd → f 0 ≠ 48 → 1 ≤ n) ∧ Below b w wr))
  case atStart => exact ⟨nd, ⟨HD0.out, HN0.out.1, Int.le_refl _, by have := HN0.out; omega, fun h _ => h, Below.refl _ _⟩⟩
  case round =>
    obtain ⟨n, HR⟩ := hrel
    have c0 := HR.out.1.cnd
    have c1 := HR.out.1.cdp
    have f0 := HR.out.1.fr 800
    have f1 := HR.out.1.fr 801
    by_cases hz : n = 0
    · have d1 : decide (n > 0) = false := decide_eq_false (by omega)
      have d2 : (n == 0) = true := beq_iff_eq.mpr hz
      have HZ := Aside0.mk hz
      clear hz
      go_wp2
      repeat (go_quiet (fail); try go_wp2)
      first | go_end0 | ((try simp only [Exit.inBlock, Exit.then]); refine bodyPost_ret (results_none rfl _ _ _) rfl ?_)
      refine ⟨rfl, ⟨n, 0, ((HR.out.1.drewN _).putDp 0), HR.out.2.1, HR.out.2.2.1, fun h1 h2 => ?_, ?_⟩⟩
      · have := HR.out.2.2.2.2.1 h1 h2; have := HZ.out; omega
      · exact (pw_below_drewN HR.out.2.2.2.2.2 _).setCell (by simp) _
    · have p1 : 1 ≤ n := by have := HR.out; omega
      have p2 : n ≤ 800 := by have := HR.out; have := HN0.out; omega
      have d1 : decide (n > 0) = true := decide_eq_true (by omega)
      have d2 : (n == 0) = false := beq_eq_false_iff_ne.mpr hz
      have c3 := HR.out.1.at (i := n.toNat - 1) (by omega)
      have f3 := HR.out.1.fr (n.toNat - 1)
      clear hz
      by_cases hc : f (n.toNat - 1) = 48
      · have d3 : (f (n.toNat - 1) == 48) = true := beq_iff_eq.mpr hc
        have HC := Aside0.mk hc
        clear hc
        go_wp2
        repeat (go_quiet (fail); try go_wp2)
        go_roundg (gk - 1)
        case measure => have := HR.out; omega
        case rel =>
          refine ⟨n - 1, ⟨(HR.out.1.drewN _).putNd _, by omega, by have := HR.out; omega, by have := HR.out; omega, fun h1 h2 => ?_, (pw_below_drewN HR.out.2.2.2.2.2 _).setCell (by simp) _⟩⟩
          rcases Int.lt_or_le 1 n with h | h
          · omega
          · obtain rfl : n = 1 := by omega
            exact absurd HC.out h2
      · have d3 : (f (n.toNat - 1) == 48) = false := beq_eq_false_iff_ne.mpr hc
        clear hc
        go_wp2
        repeat (go_quiet (fail); try go_wp2)
        first | go_end0 | ((try simp only [Exit.inBlock, Exit.then]); refine bodyPost_ret (results_none rfl _ _ _) rfl ?_)
        exact ⟨rfl, ⟨n, dp, HR.out.1.drewN _, by omega, HR.out.2.2.1, fun h1 h2 => ⟨by omega, rfl⟩, pw_below_drewN HR.out.2.2.2.2.2 _⟩⟩
end Go.Proofs.YtldfejbmdonaoaaGreatDoor.Dw