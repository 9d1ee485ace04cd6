/- Joined by a program of mine from texts of this claim: Uq. -/
import Derived.Test.YtldfejbmdonaoaaDoorV16
import Derived.Test.YtldfejbmdonaoaaDoorV17
import Derived.Laws.MakeOwn
import Derived.Deep.QuietTactic
import Derived.BigQuiet
import Derived.RegionTactic
import Derived.BigRegion
namespace Go.Proofs.YtldfejbmdonaoaaDoor.Uq
open Go.RowKit YtldfejbmdonaoaaDoorW.PrintWords YtldfejbmdonaoaaDoorW.PrintLast YtldfejbmdonaoaaDoorW.PrintMore Tp Te Ub Ru
set_option linter.unusedVariables false
set_option linter.unusedSimpArgs false
theorem info5 : (Tryd.prog.info? 5).map (fun i => (i.zero, i.size, i.bytes)) = some (some (.int .u8 0), 1, 1) := by kernel_rfl
theorem app_lit {P : Program} {ops : Array Oper} {rest : List Oper} {o : Oper} {a : Act} {Q : Exit → Act → World → Prop} {w0 W : World} (B : Nat) (hgd : o.guard = none) (s x : Operand) (t e : TypeId)
    (ho : o.op = .call { callee := .builtin .append, args := #[s, x], argTypes := #[t, t] })
    (ht : P.underlying t = some (.slice e)) (hinfo : (P.info? e).map (fun i => (i.zero, i.size, i.bytes)) = some (some (.int .u8 0), 1, 1))
    (v : Value) (xs ys : List Int) (hs : a.eval s = v) (hx : a.eval x = .slice (some ⟨W.heap.size, 0, none⟩) ys.length ys.length)
    (HO : W.ownsRow B e 1 v xs.length (nums .u8 xs)) (HB : Below B w0 W) (hB : B ≤ W.heap.size) (hl : xs.length + ys.length ≤ 140737488355328)
    (h : ∀ v1 w1, w1.ownsRow B e 1 v1 (xs ++ ys).length (nums .u8 (xs ++ ys)) → Below B w0 w1 → B ≤ w1.heap.size → wpList P ops Q rest (a.put o.dst v1) w1) :
    wpList P ops Q (o :: rest) a (W.alloc (.cells (nums .u8 ys).toArray e)) := by
  refine print_append_row (w0 := w0) (W := W.alloc (.cells (nums .u8 ys).toArray e)) B hgd s x t e .u8 1 ho ht hinfo (by decide) v xs ys (some ⟨W.heap.size, 0, none⟩) ys.length ys.length hs hx (HO.alloc _) ?_ (HB.alloc hB _) (by simp; omega) (by omega) ?_
  · refine ⟨rfl, by omega, fun hp => ⟨_, rfl, fun j hj => ?_⟩⟩
    rw [add_plain, cell_of_row _ _ _ _ _ _ (heap_alloc_new W _)]
    simp [nums, List.getElem?_eq_getElem hj, List.getD_eq_getElem?_getD]
  · intro v1 w1 h1 h2 h3 h4
    exact h v1 w1 h1 h2 (by have := h3.size; simp at this; omega)
def St (B : Nat) (w0 w : World) (v : Value) (xs : List Int) : Prop := w.ownsRow B 5 1 v xs.length (nums .u8 xs) ∧ Below B w0 w ∧ B ≤ w.heap.size
def over : List Int → Nat → List Int → List Int
  | xs, _, [] => xs
  | xs, o, y :: ys => over (xs.set o y) (o + 1) ys
theorem over_app : ∀ (ys a b : List Int), ys.length ≤ b.length → over (a ++ b) a.length ys = a ++ (ys ++ b.drop ys.length) := by
  intro ys
  induction ys with
  | nil => intro a b _; simp [over]
  | cons y ys ih =>
    intro a b h
    cases b with
    | nil => simp at h
    | cons b0 b =>
      have e : (a ++ b0 :: b).set a.length y = (a ++ [y]) ++ b := by simp
      rw [over, e]
      have := ih (a ++ [y]) b (by simp at h; omega)
      rw [List.length_append, List.length_singleton] at this
      rw [this]
      simp
theorem own_over {base g n cap : Nat} {e : TypeId} {k : IntKind} : ∀ (ys : List Int) (o : Nat) (xs : List Int) (W : World), W.ownsRow base e 1 (.slice (some ⟨g, 0, none⟩) n cap) n (nums k xs) →
    (W.setCells g o (nums k ys)).ownsRow base e 1 (.slice (some ⟨g, 0, none⟩) n cap) n (nums k (over xs o ys)) ∧ W.grownBy (W.setCells g o (nums k ys)) (some g) := by
  intro ys
  induction ys with
  | nil => intro o xs W h; exact ⟨h, World.grownBy.refl W _⟩
  | cons y ys ih =>
    intro o xs W h
    have h1 := own_store h (o : Int) y
    rw [Int.toNat_natCast] at h1
    obtain ⟨h2, h3⟩ := ih (o + 1) (xs.set o y) _ h1.1
    exact ⟨h2, World.grownBy.trans h1.2 h3⟩
theorem own_take {base g n m cap : Nat} {e : TypeId} {k : IntKind} {xs : List Int} {W : World} (h : W.ownsRow base e 1 (.slice (some ⟨g, 0, none⟩) n cap) n (nums k xs)) (hm : m ≤ n) :
    W.ownsRow base e 1 (.slice (some ⟨g, 0, none⟩) m cap) m (nums k (xs.take m)) := by
  have hl : xs.length = n := by have := h.1; simp [nums] at this; exact this
  refine ⟨by simp [nums]; omega, ?_⟩
  rcases h.2 with ⟨h', _⟩ | ⟨g', cap', cur, h', hg, hh, hnc, hcm, hsz, htk⟩
  · cases h'
  · injection h' with h1 h2 h3
    injection h1 with h1
    injection h1 with h1 _ _
    subst h1 h3
    refine .inr ⟨g, cap, cur, rfl, hg, hh, by omega, hcm, hsz, ?_⟩
    simp only [Nat.mul_one] at htk ⊢
    have : nums k (xs.take m) = (nums k xs).take m := by simp [nums, List.map_take]
    rw [this, ← htk, List.take_take, Nat.min_eq_left hm]
theorem own_free {base g n cap : Nat} {e : TypeId} {k : IntKind} {xs : List Int} {W : World} (h : W.ownsRow base e 1 (.slice (some ⟨g, 0, none⟩) n cap) n (nums k xs)) (j : Nat) (hj : j < n) :
    (W.cell? ⟨g, j, none⟩).isSome = true ∧ W.frozen? ⟨g, j, none⟩ = false := by
  have := own_at h (j : Int) (by omega) (by omega)
  rw [Int.toNat_natCast] at this
  exact ⟨by rw [this.1]; rfl, this.2⟩
theorem enc_len (r : Int) : (Lib.encodeRuneZ r).length ≤ 4 := by
  unfold Lib.encodeRuneZ
  repeat' split
  all_goals simp
theorem enc_row {B g L cap : Nat} {w0 W : World} {xs : List Int} (hL : xs.length = L) (ho : W.ownsRow B 5 1 (.slice (some ⟨g, 0, none⟩) (L + 8) cap) (L + 8) (nums .u8 (xs ++ [0, 0, 0, 0, 0, 0, 0, 0]))) (hb : Below B w0 W) (hB : B ≤ W.heap.size)
    (r : Int) (hlo : -2147483648 ≤ r) (hhi : r ≤ 2147483647) (c : Nat) :
    Calls Tryd.prog 56 #[.slice (some ⟨g, L, none⟩) 8 c, .int .i32 r] W fun e w' => e = .returned (.int .i64 (((Lib.encodeRuneZ r).length : Nat) : Int)) ∧ St B w0 w' (.slice (some ⟨g, 0, none⟩) (L + (Lib.encodeRuneZ r).length) cap) (xs ++ Lib.encodeRuneZ r) := by
  have hk : (Lib.encodeRuneZ r).length ≤ 4 := enc_len r
  have hcl : (Lib.runeCells r).length = (Lib.encodeRuneZ r).length := by simp [Lib.runeCells]
  refine (Sh.utf8_EncodeRune g L 8 c r hlo hhi W (by omega) (fun j hj => (own_free ho (L + j) (by omega)).1) (fun j hj => (own_free ho (L + j) (by omega)).2)).mono ?_
  rintro e w' ⟨rfl, rfl⟩
  have hn : Lib.runeCells r = nums .u8 (Lib.encodeRuneZ r) := rfl
  obtain ⟨h1, h2⟩ := own_over (Lib.encodeRuneZ r) L _ W ho
  have h3 := own_take (m := L + (Lib.encodeRuneZ r).length) h1 (by omega)
  have e1 : over (xs ++ [0, 0, 0, 0, 0, 0, 0, 0]) L (Lib.encodeRuneZ r) = xs ++ (Lib.encodeRuneZ r ++ ([0, 0, 0, 0, 0, 0, 0, 0] : List Int).drop (Lib.encodeRuneZ r).length) := by
    rw [← hL]
    exact over_app _ _ _ (by simp; omega)
  have e2 : (xs ++ (Lib.encodeRuneZ r ++ ([0, 0, 0, 0, 0, 0, 0, 0] : List Int).drop (Lib.encodeRuneZ r).length)).take (L + (Lib.encodeRuneZ r).length) = xs ++ Lib.encodeRuneZ r := by
    rw [← List.append_assoc, List.take_left' (by rw [List.length_append]; omega)]
  rw [e1, e2] at h3
  rw [hcl, hn]
  refine ⟨rfl, ?_, hb.grown h2 hB (fun k hk => by
    obtain rfl : g = k := by injection hk
    exact own_base ho g rfl), Nat.le_trans hB h2.size⟩
  rw [List.length_append, hL]
  exact h3
theorem enc_runeL {n : Int} (h0 : 0 ≤ n) (h1 : n ≤ 1114111) (hs : n < 55296 ∨ 57343 < n) : Lib.encodeRuneZ n = runeL n := by
  unfold Lib.encodeRuneZ runeL
  by_cases c1 : n < 128
  · rw [if_pos (by omega), if_pos c1]; congr 1; omega
  · rw [if_neg (by omega), if_neg c1]
    by_cases c2 : n < 2048
    · rw [if_pos (by omega), if_pos c2]
      congr 1
      · omega
      · congr 1; omega
    · rw [if_neg (by omega), if_neg c2]
      by_cases c3 : n < 65536
      · rw [if_pos (by omega), if_pos c3]
        congr 1
        · omega
        · congr 1
          · omega
          · congr 1; omega
      · rw [if_neg (by omega), if_pos (by omega), if_neg c3]
        congr 1
        · omega
        · congr 1
          · omega
          · congr 1
            · omega
            · congr 1; omega
theorem ext_hex {u : ByteArray} {a : Int} (h0 : 0 ≤ a) (h : hex4 u a = true) : hex4 (u.extract a.toNat u.size) 0 = true ∧ hexV (u.extract a.toNat u.size) 0 = hexV u a := by
  have hl := hex4_lt h
  have := sub_hex (s := u) (e := (u.size : Int)) h0 (Int.le_refl _) (x := 0) (Int.le_refl _) (by omega)
  rw [Int.toNat_natCast, Int.add_zero] at this
  exact ⟨this.1.trans h, this.2⟩
set_option maxRecDepth 100000 in
theorem surr_walk (r : Int) (w : World) : Calls Tryd.prog 54 #[.int .i32 r] w fun e w' => e = .returned (.bool (decide (55296 ≤ r) && decide (r < 57344))) ∧ w = w' := by
  by_cases h1 : 55296 ≤ r
  · have d1 : decide (55296 ≤ r) = true := decide_eq_true h1
    go_enter Tryd.func54, Tryd.ntmps54
    go_wp2
    go_ret
    exact ⟨by simp [h1], rfl⟩
  · have d1 : decide (55296 ≤ r) = false := decide_eq_false h1
    go_enter Tryd.func54, Tryd.ntmps54
    go_wp2
    go_ret
    exact ⟨by simp [h1], rfl⟩
def dec16 (r m : Int) : Int := if 55296 ≤ r ∧ r < 56320 ∧ 56320 ≤ m ∧ m < 57344 then 65536 + (r - 55296) * 1024 + (m - 56320) else 65533
theorem i32_or10 {x y : Int} (hx₀ : 0 ≤ x) (hx : x % 1024 = 0) (hx₁ : x < 2147483648) (h₀ : 0 ≤ y) (h₁ : y < 1024) : bits .or .i32 x y = x + y :=
  bits_join .i32 31 (by decide) wraps_i32 10 x y hx₀ hx hx₁ h₀ h₁ (by omega)
set_option maxRecDepth 100000 in
theorem dec_walk (r m : Int) (w : World) (hr : 55296 ≤ r ∧ r ≤ 57343) (hm : 0 ≤ m ∧ m ≤ 65535) : Calls Tryd.prog 55 #[.int .i32 r, .int .i32 m] w fun e w' => e = .returned (.int .i32 (dec16 r m)) ∧ w = w' := by
  have d1 : decide (55296 ≤ r) = true := decide_eq_true hr.1
  by_cases h1 : r < 56320
  · have d2 : decide (r < 56320) = true := decide_eq_true h1
    by_cases h2 : 56320 ≤ m
    · have d3 : decide (56320 ≤ m) = true := decide_eq_true h2
      by_cases h3 : m < 57344
      · have d4 : decide (m < 57344) = true := decide_eq_true h3
        have e : dec16 r m = (r - 55296) * 1024 + (m - 56320) + 65536 := by unfold dec16; rw [if_pos ⟨hr.1, h1, h2, h3⟩]; omega
        have ho : bits .or .i32 ((r - 55296) * 1024) (m - 56320) = (r - 55296) * 1024 + (m - 56320) := i32_or10 (by omega) (by omega) (by omega) (by omega) (by omega)
        rw [e]
        clear e
        obtain ⟨hr1, hr2⟩ := hr
        go_enter Tryd.func55, Tryd.ntmps55
        go_wp2
        go_ret
        exact ⟨rfl, rfl⟩
      · have d4 : decide (m < 57344) = false := decide_eq_false h3
        have e : dec16 r m = 65533 := by unfold dec16; rw [if_neg (fun h => h3 h.2.2.2)]
        rw [e]
        clear e
        go_enter Tryd.func55, Tryd.ntmps55
        go_wp2
        go_ret
        exact ⟨rfl, rfl⟩
    · have d3 : decide (56320 ≤ m) = false := decide_eq_false h2
      have e : dec16 r m = 65533 := by unfold dec16; rw [if_neg (fun h => h2 h.2.2.1)]
      rw [e]
      clear e
      go_enter Tryd.func55, Tryd.ntmps55
      go_wp2
      go_ret
      exact ⟨rfl, rfl⟩
  · have d2 : decide (r < 56320) = false := decide_eq_false h1
    have e : dec16 r m = 65533 := by unfold dec16; rw [if_neg (fun h => h1 h.2.1)]
    rw [e]
    clear e
    go_enter Tryd.func55, Tryd.ntmps55
    go_wp2
    go_ret
    exact ⟨rfl, rfl⟩
theorem dec16_bd {r m : Int} : 0 ≤ dec16 r m ∧ dec16 r m ≤ 1114111 ∧ (dec16 r m < 55296 ∨ 57343 < dec16 r m) := by
  unfold dec16
  split <;> omega
def UnPost (u : ByteArray) (w : World) (e : Ending) (w' : World) : Prop := ∃ o, e = .returned (.string o) ∧ (∀ l, BodyP u 0 l → o = strOfNums l) ∧ Below w.heap.size w w'
theorem p_plain {u : ByteArray} {i : Int} (h : bt u i ≠ 92) (hlt : i < (u.size : Int)) {l' : List Int} (hp : BodyP u i l') : ∃ l2, BodyP u (i + 1) l2 ∧ l' = [bt u i] ++ l2 := by
  cases hp with
  | nil e => omega
  | plain _ _ t => exact ⟨_, t, rfl⟩
  | short h' _ _ => exact absurd h' h
  | uni h' _ _ _ _ => exact absurd h' h
  | pair h' _ _ _ _ _ _ _ _ => exact absurd h' h
theorem p_short {u : ByteArray} {i : Int} (h : bt u i = 92) (he : esc (bt u (i + 1)) = true) {l' : List Int} (hp : BodyP u i l') : ∃ l2, BodyP u (i + 2) l2 ∧ l' = [escV (bt u (i + 1))] ++ l2 := by
  have hlt := lt_of_bt (s := u) (i := i) (by omega)
  cases hp with
  | nil e => omega
  | plain _ h' _ => exact absurd h h'.2
  | short _ _ t => exact ⟨_, t, rfl⟩
  | uni _ hu _ _ _ => rw [hu] at he; exact absurd he (by decide)
  | pair _ hu _ _ _ _ _ _ _ => rw [hu] at he; exact absurd he (by decide)
theorem p_uni {u : ByteArray} {i : Int} (h : bt u i = 92) (hu : bt u (i + 1) = 117) (hn : ¬ (55296 ≤ hexV u (i + 2) ∧ hexV u (i + 2) < 57344)) {l' : List Int} (hp : BodyP u i l') : ∃ l2, BodyP u (i + 6) l2 ∧ l' = runeL (hexV u (i + 2)) ++ l2 := by
  have hlt := lt_of_bt (s := u) (i := i) (by omega)
  cases hp with
  | nil e => omega
  | plain _ h' _ => exact absurd h h'.2
  | short _ he _ => rw [hu] at he; exact absurd he (by decide)
  | uni _ _ _ _ t => exact ⟨_, t, rfl⟩
  | pair _ _ _ hn' _ _ _ _ _ => omega
theorem p_pair {u : ByteArray} {i : Int} (h : bt u i = 92) (hu : bt u (i + 1) = 117) (hn : 55296 ≤ hexV u (i + 2) ∧ hexV u (i + 2) < 57344) {l' : List Int} (hp : BodyP u i l') :
    ∃ l2, BodyP u (i + 12) l2 ∧ l' = Lib.encodeRuneZ (dec16 (hexV u (i + 2)) (hexV u (i + 8))) ++ l2 := by
  have hlt := lt_of_bt (s := u) (i := i) (by omega)
  cases hp with
  | nil e => omega
  | plain _ h' _ => exact absurd h h'.2
  | short _ he _ => rw [hu] at he; exact absurd he (by decide)
  | uni _ _ _ hn' _ => omega
  | pair _ _ _ hn' _ _ _ hm t =>
    refine ⟨_, t, ?_⟩
    have e : dec16 (hexV u (i + 2)) (hexV u (i + 8)) = 65536 + (hexV u (i + 2) - 55296) * 1024 + (hexV u (i + 8) - 56320) := by unfold dec16; rw [if_pos (by omega)]
    rw [e, enc_runeL (by omega) (by omega) (by omega)]
theorem p_lone {u : ByteArray} {i : Int} {P : Prop} (h : bt u i = 92) (hu : bt u (i + 1) = 117) (hn : 55296 ≤ hexV u (i + 2) ∧ hexV u (i + 2) < 57344) (hc : ¬ (i + 12 ≤ (u.size : Int) ∧ bt u (i + 6) = 92 ∧ bt u (i + 7) = 117)) {l' : List Int} (hp : BodyP u i l') : P := by
  have hlt := lt_of_bt (s := u) (i := i) (by omega)
  cases hp with
  | nil e => omega
  | plain _ h' _ => exact absurd h h'.2
  | short _ he _ => rw [hu] at he; exact absurd he (by decide)
  | uni _ _ _ hn' _ => omega
  | pair _ _ _ _ h6 h7 h8 _ _ => exact absurd ⟨by have := hex4_lt h8; omega, h6, h7⟩ hc
theorem w_next {u : ByteArray} {i : Int} (h : bt u i = 92) (hu : bt u (i + 1) = 117) (hp : BodyW u i) : hex4 u (i + 2) = true ∧ BodyW u (i + 6) := by
  have hlt := lt_of_bt (s := u) (i := i) (by omega)
  cases hp with
  | nil e => omega
  | plain _ h' _ => exact absurd h h'.2
  | short _ he _ => rw [hu] at he; exact absurd he (by decide)
  | uni _ _ hh t => exact ⟨hh, t⟩
theorem St.below {B : Nat} {w0 W W' : World} {v : Value} {xs : List Int} (h : St B w0 W v xs) (hb : Below W.heap.size W W') : St B w0 W' v xs :=
  ⟨own_move h.1 (fun k hk => hb.block k (h.1.lt k hk).2), below_then h.2.1 h.2.2 hb, Nat.le_trans h.2.2 hb.size⟩
theorem own_form8 {W : World} {B L : Nat} {v : Value} {zs : List Int} (h : W.ownsRow B 5 1 v (L + 8) (nums .u8 zs)) : ∃ g cap, v = .slice (some ⟨g, 0, none⟩) (L + 8) cap ∧ L + 8 ≤ cap := by
  rcases h.2 with ⟨_, h'⟩ | ⟨g, cap, cur, rfl, hg, hh, hnc, _⟩
  · omega
  · exact ⟨g, cap, rfl, hnc⟩
set_option maxRecDepth 100000 in
set_option maxHeartbeats 8000000 in
theorem unescape_walk (u : ByteArray) (hs : (u.size : Int) ≤ 70000) (hW : BodyW u 0) (w : World) : Calls Tryd.prog 44 #[.string u] w (UnPost u w) := by
  have HW := Aside0.mk hW
  have HS := Aside0.mk hs
  obtain ⟨i5, hi0, hz0, hz1, hz2⟩ := info_parts info5
  have hmk : ∀ W : World, (Instr.makeSlice 54 (.int .i64 0) (.int .i64 (u.size : Int))).run Tryd.prog W = .ok (.slice (some ⟨W.heap.size, 0, none⟩) 0 u.size) (W.alloc (.cells (madeCells #[Value.int .u8 0] u.size) 5)) := fun W => by
    have h := run_make (P := Tryd.prog) W 54 5 i5 (.int .u8 0) Tryd.underlying54 hi0 hz0 .i64 .i64 0 (u.size : Int) (by omega) (by omega) (by rw [hz2]; omega) (by omega)
    rw [hz1, Int.toNat_natCast, Nat.mul_one] at h
    exact h
  obtain ⟨B, hB⟩ : ∃ B, w.heap.size = B := ⟨_, rfl⟩
  have HS0 : Aside0 (St B w (w.alloc (.cells (madeCells #[Value.int .u8 0] u.size) 5)) (.slice (some ⟨B, 0, none⟩) 0 u.size) []) := ⟨by
    have h := World.ownsRow_made (base := B) (e := 5) (size := 1) w (madeCells #[Value.int .u8 0] u.size) u.size (by omega) (by simp only [maxLen]; omega) (by simp [madeCells])
    rw [hB] at h
    exact ⟨h, (Below.refl B w).alloc (by omega) _, by simp; omega⟩⟩
  have HBB := Aside0.mk hB
  clear hW hs hi0 hz0 hz1 hz2
  go_enter Tryd.func44, Tryd.ntmps44
  go_wp2
  obtain ⟨W1, hW1⟩ : ∃ W1, w.alloc (.cells (madeCells #[Value.int .u8 0] u.size) 5) = W1 := ⟨_, rfl⟩
  first | rw [hB] | skip
  rw [hW1] at HS0 ⊢
  clear hW1 hmk hB
  go_loopg [3, 4] u.size (fun kq x3 x4 wr => ∃ (i : Int) (xs : List Int), x4 = .int .i64 i ∧ Aside0 (0 ≤ i ∧ i ≤ (u.size : Int) ∧ (kq : Int) = (u.size : Int) - i) ∧ Aside0 (BodyW u i ∧ ∀ l, BodyP u 0 l → ∃ l', BodyP u i l' ∧ l = xs ++ l') ∧ Aside0 ((xs.length : Int) ≤ i) ∧ Aside0 (St B w wr x3 xs))
  case atStart => exact ⟨0, [], rfl, ⟨by omega⟩, ⟨HW.out, fun l hl => ⟨l, hl, rfl⟩⟩, ⟨by simp⟩, HS0⟩
  case round =>
    clear HS0 HW
    obtain ⟨i, xs, rfl, HI, HBP, HLen, HO0⟩ := hrel
    have p1 : (0 : Int) ≤ i := HI.out.1
    have p4 : i ≤ 70000 := by have := HI.out; have := HS.out; omega
    by_cases hlt : i < (u.size : Int)
    · have c1 : decide (i < (u.size : Int)) = true := decide_eq_true hlt
      have hx2 := bt_at u i
      have q1 : (i < (u.size : Int)) = True := eq_true hlt
      have HP := Aside0.mk HBP.out.2
      have hW := HBP.out.1
      have HLen' : Aside0 (xs.length ≤ 70000) := ⟨by have := HLen.out; omega⟩
      clear HBP
      cases hW with
      | nil h => exact absurd h (by omega)
      | plain _ h t =>
        have HT := Aside0.mk t
        have HH := Aside0.mk h
        have HM : Aside0 (i + 1 ≤ (u.size : Int) ∧ i < i + 1) := ⟨by omega⟩
        have HYL : Aside0 (([bt u i] : List Int).length = 1) := ⟨rfl⟩
        have HIN := Aside0.mk (fun l' (hp : BodyP u i l') => p_plain h.2 hlt hp)
        have d32 : decide (bt u i < 32) = false := decide_eq_false (by omega)
        have f92 : (bt u i == 92) = false := beq_eq_false_iff_ne.mpr h.2
        clear h t hlt
        go_wp2_with (at_builtin; refine app_lit B rfl (.tmp 16) (.tmp 20) 54 5 rfl Tryd.underlying54 info5 u3 (xs) [bt u i] rfl rfl HO0.out.1 HO0.out.2.1 HO0.out.2.2 (by have := HLen'.out; first | omega | (simp; done) | (simp; omega)) ?_; intro v1 w1 ho hb hB1; have HO1 := Aside0.mk (show St B w w1 v1 (xs ++ [bt u i]) from ⟨ho, hb, hB1⟩); clear ho hb hB1)
        go_roundg ((u.size : Int) - (i + 1)).toNat
        case measure => have := HI.out; have := HM.out; omega
        case rel => exact ⟨(i + 1), xs ++ [bt u i], (by first | rfl | (congr 1; omega)), ⟨by have := HI.out; have := HM.out; omega⟩, ⟨HT.out, fun l hl => by obtain ⟨l', h1, h2⟩ := HP.out l hl; obtain ⟨l2, h3, h4⟩ := HIN.out _ h1; exact ⟨l2, h3, by rw [h2, h4]; simp⟩⟩, ⟨by have h := HLen.out; have h2 := HM.out; rw [List.length_append]; simp; omega⟩, HO1⟩
      | short h he t =>
        have hl1 := lt_of_bt (s := u) (i := i + 1) (by intro e; rw [e] at he; exact absurd he (by decide))
        have HT := Aside0.mk t
        have HM : Aside0 (i + 2 ≤ (u.size : Int) ∧ i < i + 2) := ⟨by omega⟩
        have HYL : Aside0 (([escV (bt u (i + 1))] : List Int).length = 1) := ⟨rfl⟩
        have HIN := Aside0.mk (fun l' (hp : BodyP u i l') => p_short h he hp)
        have hx3 := bt_at u (i + 1)
        have q2 : (i + 1 < (u.size : Int)) = True := eq_true hl1
        have q3 : decide ((u.size : Int) ≤ i + 1) = false := decide_eq_false (by omega)
        have q0 : (0 ≤ i + 1) = True := eq_true (by omega)
        have hc : bt u (i + 1) = 92 ∨ bt u (i + 1) = 47 ∨ bt u (i + 1) = 98 ∨ bt u (i + 1) = 102 ∨ bt u (i + 1) = 110 ∨ bt u (i + 1) = 114 ∨ bt u (i + 1) = 116 ∨ bt u (i + 1) = 34 := by
          simp only [esc, Bool.or_eq_true, beq_iff_eq] at he
          omega
        rw [h] at hx2
        clear h he t hlt hl1
        rcases hc with hc | hc | hc | hc | hc | hc | hc | hc
        · rw [hc] at hx3
          have HIN2 := Aside0.mk (show ∀ l', BodyP u i l' → ∃ l2, BodyP u (i + 2) l2 ∧ l' = [92] ++ l2 from fun l' hp => by have h := HIN.out l' hp; rw [hc] at h; exact h)
          clear hc HIN
          go_wp2_with (at_builtin; refine app_lit B rfl (.tmp 49) (.tmp 50) 54 5 rfl Tryd.underlying54 info5 u3 (xs) [92] rfl rfl HO0.out.1 HO0.out.2.1 HO0.out.2.2 (by have := HLen'.out; first | omega | (simp; done) | (simp; omega)) ?_; intro v1 w1 ho hb hB1; have HO1 := Aside0.mk (show St B w w1 v1 (xs ++ [92]) from ⟨ho, hb, hB1⟩); clear ho hb hB1)
          go_roundg ((u.size : Int) - (i + 2)).toNat
          case measure => have := HI.out; have := HM.out; omega
          case rel => exact ⟨(i + 2), xs ++ [92], (by first | rfl | (congr 1; omega)), ⟨by have := HI.out; have := HM.out; omega⟩, ⟨HT.out, fun l hl => by obtain ⟨l', h1, h2⟩ := HP.out l hl; obtain ⟨l2, h3, h4⟩ := HIN2.out _ h1; exact ⟨l2, h3, by rw [h2, h4]; simp⟩⟩, ⟨by have h := HLen.out; have h2 := HM.out; rw [List.length_append]; simp; omega⟩, HO1⟩
        · rw [hc] at hx3
          have HIN2 := Aside0.mk (show ∀ l', BodyP u i l' → ∃ l2, BodyP u (i + 2) l2 ∧ l' = [47] ++ l2 from fun l' hp => by have h := HIN.out l' hp; rw [hc] at h; exact h)
          clear hc HIN
          go_wp2_with (at_builtin; refine app_lit B rfl (.tmp 54) (.tmp 55) 54 5 rfl Tryd.underlying54 info5 u3 (xs) [47] rfl rfl HO0.out.1 HO0.out.2.1 HO0.out.2.2 (by have := HLen'.out; first | omega | (simp; done) | (simp; omega)) ?_; intro v1 w1 ho hb hB1; have HO1 := Aside0.mk (show St B w w1 v1 (xs ++ [47]) from ⟨ho, hb, hB1⟩); clear ho hb hB1)
          go_roundg ((u.size : Int) - (i + 2)).toNat
          case measure => have := HI.out; have := HM.out; omega
          case rel => exact ⟨(i + 2), xs ++ [47], (by first | rfl | (congr 1; omega)), ⟨by have := HI.out; have := HM.out; omega⟩, ⟨HT.out, fun l hl => by obtain ⟨l', h1, h2⟩ := HP.out l hl; obtain ⟨l2, h3, h4⟩ := HIN2.out _ h1; exact ⟨l2, h3, by rw [h2, h4]; simp⟩⟩, ⟨by have h := HLen.out; have h2 := HM.out; rw [List.length_append]; simp; omega⟩, HO1⟩
        · rw [hc] at hx3
          have HIN2 := Aside0.mk (show ∀ l', BodyP u i l' → ∃ l2, BodyP u (i + 2) l2 ∧ l' = [8] ++ l2 from fun l' hp => by have h := HIN.out l' hp; rw [hc] at h; exact h)
          clear hc HIN
          go_wp2_with (at_builtin; refine app_lit B rfl (.tmp 59) (.tmp 60) 54 5 rfl Tryd.underlying54 info5 u3 (xs) [8] rfl rfl HO0.out.1 HO0.out.2.1 HO0.out.2.2 (by have := HLen'.out; first | omega | (simp; done) | (simp; omega)) ?_; intro v1 w1 ho hb hB1; have HO1 := Aside0.mk (show St B w w1 v1 (xs ++ [8]) from ⟨ho, hb, hB1⟩); clear ho hb hB1)
          go_roundg ((u.size : Int) - (i + 2)).toNat
          case measure => have := HI.out; have := HM.out; omega
          case rel => exact ⟨(i + 2), xs ++ [8], (by first | rfl | (congr 1; omega)), ⟨by have := HI.out; have := HM.out; omega⟩, ⟨HT.out, fun l hl => by obtain ⟨l', h1, h2⟩ := HP.out l hl; obtain ⟨l2, h3, h4⟩ := HIN2.out _ h1; exact ⟨l2, h3, by rw [h2, h4]; simp⟩⟩, ⟨by have h := HLen.out; have h2 := HM.out; rw [List.length_append]; simp; omega⟩, HO1⟩
        · rw [hc] at hx3
          have HIN2 := Aside0.mk (show ∀ l', BodyP u i l' → ∃ l2, BodyP u (i + 2) l2 ∧ l' = [12] ++ l2 from fun l' hp => by have h := HIN.out l' hp; rw [hc] at h; exact h)
          clear hc HIN
          go_wp2_with (at_builtin; refine app_lit B rfl (.tmp 64) (.tmp 65) 54 5 rfl Tryd.underlying54 info5 u3 (xs) [12] rfl rfl HO0.out.1 HO0.out.2.1 HO0.out.2.2 (by have := HLen'.out; first | omega | (simp; done) | (simp; omega)) ?_; intro v1 w1 ho hb hB1; have HO1 := Aside0.mk (show St B w w1 v1 (xs ++ [12]) from ⟨ho, hb, hB1⟩); clear ho hb hB1)
          go_roundg ((u.size : Int) - (i + 2)).toNat
          case measure => have := HI.out; have := HM.out; omega
          case rel => exact ⟨(i + 2), xs ++ [12], (by first | rfl | (congr 1; omega)), ⟨by have := HI.out; have := HM.out; omega⟩, ⟨HT.out, fun l hl => by obtain ⟨l', h1, h2⟩ := HP.out l hl; obtain ⟨l2, h3, h4⟩ := HIN2.out _ h1; exact ⟨l2, h3, by rw [h2, h4]; simp⟩⟩, ⟨by have h := HLen.out; have h2 := HM.out; rw [List.length_append]; simp; omega⟩, HO1⟩
        · rw [hc] at hx3
          have HIN2 := Aside0.mk (show ∀ l', BodyP u i l' → ∃ l2, BodyP u (i + 2) l2 ∧ l' = [10] ++ l2 from fun l' hp => by have h := HIN.out l' hp; rw [hc] at h; exact h)
          clear hc HIN
          go_wp2_with (at_builtin; refine app_lit B rfl (.tmp 69) (.tmp 70) 54 5 rfl Tryd.underlying54 info5 u3 (xs) [10] rfl rfl HO0.out.1 HO0.out.2.1 HO0.out.2.2 (by have := HLen'.out; first | omega | (simp; done) | (simp; omega)) ?_; intro v1 w1 ho hb hB1; have HO1 := Aside0.mk (show St B w w1 v1 (xs ++ [10]) from ⟨ho, hb, hB1⟩); clear ho hb hB1)
          go_roundg ((u.size : Int) - (i + 2)).toNat
          case measure => have := HI.out; have := HM.out; omega
          case rel => exact ⟨(i + 2), xs ++ [10], (by first | rfl | (congr 1; omega)), ⟨by have := HI.out; have := HM.out; omega⟩, ⟨HT.out, fun l hl => by obtain ⟨l', h1, h2⟩ := HP.out l hl; obtain ⟨l2, h3, h4⟩ := HIN2.out _ h1; exact ⟨l2, h3, by rw [h2, h4]; simp⟩⟩, ⟨by have h := HLen.out; have h2 := HM.out; rw [List.length_append]; simp; omega⟩, HO1⟩
        · rw [hc] at hx3
          have HIN2 := Aside0.mk (show ∀ l', BodyP u i l' → ∃ l2, BodyP u (i + 2) l2 ∧ l' = [13] ++ l2 from fun l' hp => by have h := HIN.out l' hp; rw [hc] at h; exact h)
          clear hc HIN
          go_wp2_with (at_builtin; refine app_lit B rfl (.tmp 74) (.tmp 75) 54 5 rfl Tryd.underlying54 info5 u3 (xs) [13] rfl rfl HO0.out.1 HO0.out.2.1 HO0.out.2.2 (by have := HLen'.out; first | omega | (simp; done) | (simp; omega)) ?_; intro v1 w1 ho hb hB1; have HO1 := Aside0.mk (show St B w w1 v1 (xs ++ [13]) from ⟨ho, hb, hB1⟩); clear ho hb hB1)
          go_roundg ((u.size : Int) - (i + 2)).toNat
          case measure => have := HI.out; have := HM.out; omega
          case rel => exact ⟨(i + 2), xs ++ [13], (by first | rfl | (congr 1; omega)), ⟨by have := HI.out; have := HM.out; omega⟩, ⟨HT.out, fun l hl => by obtain ⟨l', h1, h2⟩ := HP.out l hl; obtain ⟨l2, h3, h4⟩ := HIN2.out _ h1; exact ⟨l2, h3, by rw [h2, h4]; simp⟩⟩, ⟨by have h := HLen.out; have h2 := HM.out; rw [List.length_append]; simp; omega⟩, HO1⟩
        · rw [hc] at hx3
          have HIN2 := Aside0.mk (show ∀ l', BodyP u i l' → ∃ l2, BodyP u (i + 2) l2 ∧ l' = [9] ++ l2 from fun l' hp => by have h := HIN.out l' hp; rw [hc] at h; exact h)
          clear hc HIN
          go_wp2_with (at_builtin; refine app_lit B rfl (.tmp 79) (.tmp 80) 54 5 rfl Tryd.underlying54 info5 u3 (xs) [9] rfl rfl HO0.out.1 HO0.out.2.1 HO0.out.2.2 (by have := HLen'.out; first | omega | (simp; done) | (simp; omega)) ?_; intro v1 w1 ho hb hB1; have HO1 := Aside0.mk (show St B w w1 v1 (xs ++ [9]) from ⟨ho, hb, hB1⟩); clear ho hb hB1)
          go_roundg ((u.size : Int) - (i + 2)).toNat
          case measure => have := HI.out; have := HM.out; omega
          case rel => exact ⟨(i + 2), xs ++ [9], (by first | rfl | (congr 1; omega)), ⟨by have := HI.out; have := HM.out; omega⟩, ⟨HT.out, fun l hl => by obtain ⟨l', h1, h2⟩ := HP.out l hl; obtain ⟨l2, h3, h4⟩ := HIN2.out _ h1; exact ⟨l2, h3, by rw [h2, h4]; simp⟩⟩, ⟨by have h := HLen.out; have h2 := HM.out; rw [List.length_append]; simp; omega⟩, HO1⟩
        · rw [hc] at hx3
          have HIN2 := Aside0.mk (show ∀ l', BodyP u i l' → ∃ l2, BodyP u (i + 2) l2 ∧ l' = [34] ++ l2 from fun l' hp => by have h := HIN.out l' hp; rw [hc] at h; exact h)
          clear hc HIN
          go_wp2_with (at_builtin; refine app_lit B rfl (.tmp 84) (.tmp 85) 54 5 rfl Tryd.underlying54 info5 u3 (xs) [34] rfl rfl HO0.out.1 HO0.out.2.1 HO0.out.2.2 (by have := HLen'.out; first | omega | (simp; done) | (simp; omega)) ?_; intro v1 w1 ho hb hB1; have HO1 := Aside0.mk (show St B w w1 v1 (xs ++ [34]) from ⟨ho, hb, hB1⟩); clear ho hb hB1)
          go_roundg ((u.size : Int) - (i + 2)).toNat
          case measure => have := HI.out; have := HM.out; omega
          case rel => exact ⟨(i + 2), xs ++ [34], (by first | rfl | (congr 1; omega)), ⟨by have := HI.out; have := HM.out; omega⟩, ⟨HT.out, fun l hl => by obtain ⟨l', h1, h2⟩ := HP.out l hl; obtain ⟨l2, h3, h4⟩ := HIN2.out _ h1; exact ⟨l2, h3, by rw [h2, h4]; simp⟩⟩, ⟨by have h := HLen.out; have h2 := HM.out; rw [List.length_append]; simp; omega⟩, HO1⟩
      | uni h hu hh t =>
        have hl6 := hex4_lt hh
        have hv := hexV_bd hh
        obtain ⟨x1, x2⟩ := ext_hex (u := u) (a := i + 2) (by omega) hh
        have hr := fun W => runeit_walk (u.extract (i + 2).toNat u.size) W x1
        rw [x2] at hr
        have HR := Aside0.mk hr
        have HSU := Aside0.mk (surr_walk (hexV u (i + 2)))
        have HWT := Aside0.mk t
        have hx3 := bt_at u (i + 1)
        have q2 : (i + 1 < (u.size : Int)) = True := eq_true (by omega)
        have q3 : decide ((u.size : Int) ≤ i + 1) = false := decide_eq_false (by omega)
        have q0 : (0 ≤ i + 1) = True := eq_true (by omega)
        have q4 : decide ((u.size : Int) < i + 1 + 5) = false := decide_eq_false (by omega)
        have q5 : i + 1 + 1 ≤ (u.size : Int) := by omega
        have q6 : i + 6 ≤ (u.size : Int) := by omega
        have s1 : i + 1 + 1 = i + 2 := by omega
        have s2 : i + 1 + 5 = i + 6 := by omega
        rw [h] at hx2
        rw [hu] at hx3
        obtain ⟨r, hrr⟩ : ∃ r, hexV u (i + 2) = r := ⟨_, rfl⟩
        rw [hrr] at HR HSU hv
        have HRR := Aside0.mk hrr
        have HU := Aside0.mk (And.intro h hu)
        have HVV := Aside0.mk hv
        by_cases hS : 55296 ≤ r ∧ r < 57344
        · have hs0 : (decide (55296 ≤ r) && decide (r < 57344)) = true := by rw [decide_eq_true hS.1, decide_eq_true hS.2]; rfl
          rw [hs0] at HSU
          have hr1 : -2147483648 ≤ r := by omega
          have hr2 : r ≤ 2147483647 := by omega
          have k0 : (0 ≤ i + 6) = True := eq_true (by omega)
          have k1 : 0 ≤ i + 6 := by omega
          have hx6 := bt_at u (i + 6)
          have hx7 := bt_at u (i + 6 + 1)
          have k2 : 0 ≤ i + 6 + 1 := by omega
          have s3 : i + 6 + 1 = i + 7 := by omega
          have s4 : i + 6 + 2 = i + 8 := by omega
          by_cases hC : i + 12 ≤ (u.size : Int) ∧ bt u (i + 6) = 92 ∧ bt u (i + 7) = 117
          · obtain ⟨hC1, hC2, hC3⟩ := hC
            obtain ⟨hh8, hW12⟩ := w_next (i := i + 6) hC2 (by rw [s3]; exact hC3) t
            rw [s4] at hh8
            rw [show i + 6 + 6 = i + 12 by omega] at hW12
            have hv8 := hexV_bd hh8
            obtain ⟨y1, y2⟩ := ext_hex (u := u) (a := i + 8) (by omega) hh8
            have hrm := fun W => runeit_walk (u.extract (i + 8).toNat u.size) W y1
            rw [y2] at hrm
            obtain ⟨m, hmm⟩ : ∃ m, hexV u (i + 8) = m := ⟨_, rfl⟩
            rw [hmm] at hrm hv8
            have HMM := Aside0.mk hmm
            have HR2 := Aside0.mk hrm
            have HD := Aside0.mk (fun W => dec_walk r m W (by omega) hv8)
            have HT := Aside0.mk hW12
            have HM : Aside0 (i + 12 ≤ (u.size : Int) ∧ i < i + 12) := ⟨by omega⟩
            have HIN : Aside0 (∀ l', BodyP u i l' → ∃ l2, BodyP u (i + 12) l2 ∧ l' = Lib.encodeRuneZ (dec16 r m) ++ l2) := ⟨fun l' hp => by rw [← HRR.out, ← HMM.out]; exact p_pair h hu (by rw [HRR.out]; exact hS) hp⟩
            have hdb := dec16_bd (r := r) (m := m)
            obtain ⟨rd, hrd⟩ : ∃ rd, dec16 r m = rd := ⟨_, rfl⟩
            rw [hrd] at HD HIN hdb
            have hr1 : -2147483648 ≤ rd := by omega
            have hr2 : rd ≤ 2147483647 := by omega
            have g6 : i + 6 < (u.size : Int) := by omega
            have g7 : i + 6 + 1 < (u.size : Int) := by omega
            have g8 : i + 6 + 2 ≤ (u.size : Int) := by omega
            have g0 : decide (6 ≤ u.size - (i + 6).toNat) = true := decide_eq_true (by omega)
            have g9 : 6 ≤ u.size - (i + 6).toNat := by omega
            have g10 : (6 : Int) ≤ ((u.size - (i + 6).toNat : Nat) : Int) := by omega
            rw [hC2] at hx6
            rw [s3, hC3] at hx7
            clear hs0 hS hv hrr x1 x2 hr h hu hh t hlt hl6 hC1 hC2 hC3 hh8 hW12 hv8 y1 y2 hrm hmm hrd hdb
            go_wp2_with fail
            refine (HR.out _).mono ?_
            rintro e w1 ⟨rfl, hb1⟩
            have HO2 := Aside0.mk (HO0.out.below hb1)
            clear hb1 HR
            go_wp2_with fail
            refine (HSU.out _).mono ?_
            rintro e w2 ⟨rfl, rfl⟩
            clear HSU
            go_wp2_with fail
            refine (HR2.out _).mono ?_
            rintro e w3 ⟨rfl, hb3⟩
            have HO2 := Aside0.mk (HO2.out.below hb3)
            clear hb3 HR2
            go_wp2_with fail
            refine (HD.out _).mono ?_
            rintro e w4 ⟨rfl, rfl⟩
            clear HD
            go_upto_region 40 with ((at_builtin; refine app_lit B rfl (.tmp 132) (.tmp 133) 54 5 rfl Tryd.underlying54 info5 u3 (xs) [0, 0, 0, 0, 0, 0, 0, 0] rfl rfl HO2.out.1 HO2.out.2.1 HO2.out.2.2 (by have := HLen'.out; first | omega | (simp; done) | (simp; omega)) ?_; intro v3 w3 ho hb hB1))
            have hL8 : (xs ++ [0, 0, 0, 0, 0, 0, 0, 0]).length = xs.length + 8 := by simp
            rw [hL8] at ho
            obtain ⟨L, hL⟩ : ∃ L, xs.length = L := ⟨_, rfl⟩
            rw [hL] at ho
            obtain ⟨g, cap, rfl, hcap⟩ := own_form8 ho
            have HE := Aside0.mk (fun c => enc_row hL ho hb hB1 rd hr1 hr2 c)
            have hk4 := enc_len rd
            obtain ⟨kk, hkk⟩ : ∃ kk, (Lib.encodeRuneZ rd).length = kk := ⟨_, rfl⟩
            rw [hkk] at HE hk4
            have HKK := Aside0.mk hkk
            have z1 : (L : Int) + 8 - 8 = (L : Int) := by omega
            have z2 : L + 8 - L = 8 := by omega
            have z3 : ¬ (cap = L) := by omega
            have z4 : ((L : Int) + (kk : Int)).toNat = L + kk := by omega
            have z6 : (L : Int) + (kk : Int) ≤ (cap : Int) := by omega
            have z7 : (0 : Int) ≤ (L : Int) + (kk : Int) := by omega
            have z5 : L + kk ≤ cap := by omega
            have hL70 : L ≤ 70000 := by have := HLen'.out; omega
            have HL2 := Aside0.mk hL
            clear ho hb hB1 hL hL8 hkk
            go_wp2_with fail
            refine (HE.out _).mono ?_
            rintro e w4 ⟨rfl, hst⟩
            have HO4 := Aside0.mk hst
            clear hst HE
            go_wp2_with fail
            go_roundg ((u.size : Int) - (i + 12)).toNat
            case measure => have := HI.out; have := HM.out; omega
            case rel => exact ⟨(i + 12), xs ++ Lib.encodeRuneZ rd, (by first | rfl | (congr 1; omega)), ⟨by have := HI.out; have := HM.out; omega⟩, ⟨HT.out, fun l hl => by obtain ⟨l', h1, h2⟩ := HP.out l hl; obtain ⟨l2, h3, h4⟩ := HIN.out _ h1; exact ⟨l2, h3, by rw [h2, h4]; simp⟩⟩, ⟨by have h := HLen.out; have h2 := HM.out; have h9 := enc_len rd; rw [List.length_append]; omega⟩, HO4⟩
          · have HT := HWT
            have HM : Aside0 (i + 6 ≤ (u.size : Int) ∧ i < i + 6) := ⟨by omega⟩
            have HIN : Aside0 (∀ l', BodyP u i l' → ∃ l2, BodyP u (i + 6) l2 ∧ l' = Lib.encodeRuneZ r ++ l2) := ⟨fun l' hp => p_lone h hu (by rw [HRR.out]; exact hS) hC hp⟩
            have HCC := Aside0.mk hC
            by_cases e1 : i + 12 ≤ (u.size : Int)
            · have g6 : i + 6 < (u.size : Int) := by omega
              have g7 : i + 6 + 1 < (u.size : Int) := by omega
              have g0 : decide (6 ≤ u.size - (i + 6).toNat) = true := decide_eq_true (by omega)
              have g9 : 6 ≤ u.size - (i + 6).toNat := by omega
              have g10 : (6 : Int) ≤ ((u.size - (i + 6).toNat : Nat) : Int) := by omega
              by_cases e2 : bt u (i + 6) = 92
              · have e3 : (bt u (i + 7) == 117) = false := beq_eq_false_iff_ne.mpr (fun e3 => HCC.out ⟨e1, e2, e3⟩)
                rw [e2] at hx6
                rw [s3] at hx7
                clear hs0 hS hv hrr x1 x2 hr h hu hh t hlt hl6 hC e1 e2
                go_wp2_with fail
                refine (HR.out _).mono ?_
                rintro e w1 ⟨rfl, hb1⟩
                have HO2 := Aside0.mk (HO0.out.below hb1)
                clear hb1 HR
                go_wp2_with fail
                refine (HSU.out _).mono ?_
                rintro e w2 ⟨rfl, rfl⟩
                clear HSU
                go_upto_region 40 with ((at_builtin; refine app_lit B rfl (.tmp 132) (.tmp 133) 54 5 rfl Tryd.underlying54 info5 u3 (xs) [0, 0, 0, 0, 0, 0, 0, 0] rfl rfl HO2.out.1 HO2.out.2.1 HO2.out.2.2 (by have := HLen'.out; first | omega | (simp; done) | (simp; omega)) ?_; intro v3 w3 ho hb hB1))
                have hL8 : (xs ++ [0, 0, 0, 0, 0, 0, 0, 0]).length = xs.length + 8 := by simp
                rw [hL8] at ho
                obtain ⟨L, hL⟩ : ∃ L, xs.length = L := ⟨_, rfl⟩
                rw [hL] at ho
                obtain ⟨g, cap, rfl, hcap⟩ := own_form8 ho
                have HE := Aside0.mk (fun c => enc_row hL ho hb hB1 r hr1 hr2 c)
                have hk4 := enc_len r
                obtain ⟨kk, hkk⟩ : ∃ kk, (Lib.encodeRuneZ r).length = kk := ⟨_, rfl⟩
                rw [hkk] at HE hk4
                have HKK := Aside0.mk hkk
                have z1 : (L : Int) + 8 - 8 = (L : Int) := by omega
                have z2 : L + 8 - L = 8 := by omega
                have z3 : ¬ (cap = L) := by omega
                have z4 : ((L : Int) + (kk : Int)).toNat = L + kk := by omega
                have z6 : (L : Int) + (kk : Int) ≤ (cap : Int) := by omega
                have z7 : (0 : Int) ≤ (L : Int) + (kk : Int) := by omega
                have z5 : L + kk ≤ cap := by omega
                have hL70 : L ≤ 70000 := by have := HLen'.out; omega
                have HL2 := Aside0.mk hL
                clear ho hb hB1 hL hL8 hkk
                go_wp2_with fail
                refine (HE.out _).mono ?_
                rintro e w4 ⟨rfl, hst⟩
                have HO4 := Aside0.mk hst
                clear hst HE
                go_wp2_with fail
                go_roundg ((u.size : Int) - (i + 6)).toNat
                case measure => have := HI.out; have := HM.out; omega
                case rel => exact ⟨(i + 6), xs ++ Lib.encodeRuneZ r, (by first | rfl | (congr 1; omega)), ⟨by have := HI.out; have := HM.out; omega⟩, ⟨HT.out, fun l hl => by obtain ⟨l', h1, h2⟩ := HP.out l hl; obtain ⟨l2, h3, h4⟩ := HIN.out _ h1; exact ⟨l2, h3, by rw [h2, h4]; simp⟩⟩, ⟨by have h := HLen.out; have h2 := HM.out; have h9 := enc_len r; rw [List.length_append]; omega⟩, HO4⟩
              · have e3 : (bt u (i + 6) == 92) = false := beq_eq_false_iff_ne.mpr e2
                clear hs0 hS hv hrr x1 x2 hr h hu hh t hlt hl6 hC e1 e2
                go_wp2_with fail
                refine (HR.out _).mono ?_
                rintro e w1 ⟨rfl, hb1⟩
                have HO2 := Aside0.mk (HO0.out.below hb1)
                clear hb1 HR
                go_wp2_with fail
                refine (HSU.out _).mono ?_
                rintro e w2 ⟨rfl, rfl⟩
                clear HSU
                go_upto_region 40 with ((at_builtin; refine app_lit B rfl (.tmp 132) (.tmp 133) 54 5 rfl Tryd.underlying54 info5 u3 (xs) [0, 0, 0, 0, 0, 0, 0, 0] rfl rfl HO2.out.1 HO2.out.2.1 HO2.out.2.2 (by have := HLen'.out; first | omega | (simp; done) | (simp; omega)) ?_; intro v3 w3 ho hb hB1))
                have hL8 : (xs ++ [0, 0, 0, 0, 0, 0, 0, 0]).length = xs.length + 8 := by simp
                rw [hL8] at ho
                obtain ⟨L, hL⟩ : ∃ L, xs.length = L := ⟨_, rfl⟩
                rw [hL] at ho
                obtain ⟨g, cap, rfl, hcap⟩ := own_form8 ho
                have HE := Aside0.mk (fun c => enc_row hL ho hb hB1 r hr1 hr2 c)
                have hk4 := enc_len r
                obtain ⟨kk, hkk⟩ : ∃ kk, (Lib.encodeRuneZ r).length = kk := ⟨_, rfl⟩
                rw [hkk] at HE hk4
                have HKK := Aside0.mk hkk
                have z1 : (L : Int) + 8 - 8 = (L : Int) := by omega
                have z2 : L + 8 - L = 8 := by omega
                have z3 : ¬ (cap = L) := by omega
                have z4 : ((L : Int) + (kk : Int)).toNat = L + kk := by omega
                have z6 : (L : Int) + (kk : Int) ≤ (cap : Int) := by omega
                have z7 : (0 : Int) ≤ (L : Int) + (kk : Int) := by omega
                have z5 : L + kk ≤ cap := by omega
                have hL70 : L ≤ 70000 := by have := HLen'.out; omega
                have HL2 := Aside0.mk hL
                clear ho hb hB1 hL hL8 hkk
                go_wp2_with fail
                refine (HE.out _).mono ?_
                rintro e w4 ⟨rfl, hst⟩
                have HO4 := Aside0.mk hst
                clear hst HE
                go_wp2_with fail
                go_roundg ((u.size : Int) - (i + 6)).toNat
                case measure => have := HI.out; have := HM.out; omega
                case rel => exact ⟨(i + 6), xs ++ Lib.encodeRuneZ r, (by first | rfl | (congr 1; omega)), ⟨by have := HI.out; have := HM.out; omega⟩, ⟨HT.out, fun l hl => by obtain ⟨l', h1, h2⟩ := HP.out l hl; obtain ⟨l2, h3, h4⟩ := HIN.out _ h1; exact ⟨l2, h3, by rw [h2, h4]; simp⟩⟩, ⟨by have h := HLen.out; have h2 := HM.out; have h9 := enc_len r; rw [List.length_append]; omega⟩, HO4⟩
            · have g0 : decide (6 ≤ u.size - (i + 6).toNat) = false := decide_eq_false (by omega)
              have g9 : ¬ (6 ≤ u.size - (i + 6).toNat) := by omega
              have g10 : ¬ ((6 : Int) ≤ ((u.size - (i + 6).toNat : Nat) : Int)) := by omega
              clear hs0 hS hv hrr x1 x2 hr h hu hh t hlt hl6 hC e1
              go_wp2_with fail
              refine (HR.out _).mono ?_
              rintro e w1 ⟨rfl, hb1⟩
              have HO2 := Aside0.mk (HO0.out.below hb1)
              clear hb1 HR
              go_wp2_with fail
              refine (HSU.out _).mono ?_
              rintro e w2 ⟨rfl, rfl⟩
              clear HSU
              go_upto_region 40 with ((at_builtin; refine app_lit B rfl (.tmp 132) (.tmp 133) 54 5 rfl Tryd.underlying54 info5 u3 (xs) [0, 0, 0, 0, 0, 0, 0, 0] rfl rfl HO2.out.1 HO2.out.2.1 HO2.out.2.2 (by have := HLen'.out; first | omega | (simp; done) | (simp; omega)) ?_; intro v3 w3 ho hb hB1))
              have hL8 : (xs ++ [0, 0, 0, 0, 0, 0, 0, 0]).length = xs.length + 8 := by simp
              rw [hL8] at ho
              obtain ⟨L, hL⟩ : ∃ L, xs.length = L := ⟨_, rfl⟩
              rw [hL] at ho
              obtain ⟨g, cap, rfl, hcap⟩ := own_form8 ho
              have HE := Aside0.mk (fun c => enc_row hL ho hb hB1 r hr1 hr2 c)
              have hk4 := enc_len r
              obtain ⟨kk, hkk⟩ : ∃ kk, (Lib.encodeRuneZ r).length = kk := ⟨_, rfl⟩
              rw [hkk] at HE hk4
              have HKK := Aside0.mk hkk
              have z1 : (L : Int) + 8 - 8 = (L : Int) := by omega
              have z2 : L + 8 - L = 8 := by omega
              have z3 : ¬ (cap = L) := by omega
              have z4 : ((L : Int) + (kk : Int)).toNat = L + kk := by omega
              have z6 : (L : Int) + (kk : Int) ≤ (cap : Int) := by omega
              have z7 : (0 : Int) ≤ (L : Int) + (kk : Int) := by omega
              have z5 : L + kk ≤ cap := by omega
              have hL70 : L ≤ 70000 := by have := HLen'.out; omega
              have HL2 := Aside0.mk hL
              clear ho hb hB1 hL hL8 hkk
              go_wp2_with fail
              refine (HE.out _).mono ?_
              rintro e w4 ⟨rfl, hst⟩
              have HO4 := Aside0.mk hst
              clear hst HE
              go_wp2_with fail
              go_roundg ((u.size : Int) - (i + 6)).toNat
              case measure => have := HI.out; have := HM.out; omega
              case rel => exact ⟨(i + 6), xs ++ Lib.encodeRuneZ r, (by first | rfl | (congr 1; omega)), ⟨by have := HI.out; have := HM.out; omega⟩, ⟨HT.out, fun l hl => by obtain ⟨l', h1, h2⟩ := HP.out l hl; obtain ⟨l2, h3, h4⟩ := HIN.out _ h1; exact ⟨l2, h3, by rw [h2, h4]; simp⟩⟩, ⟨by have h := HLen.out; have h2 := HM.out; have h9 := enc_len r; rw [List.length_append]; omega⟩, HO4⟩
        · have hs0 : (decide (55296 ≤ r) && decide (r < 57344)) = false := by
            rw [Bool.and_eq_false_iff]
            by_cases h1 : 55296 ≤ r
            · exact .inr (decide_eq_false (fun h2 => hS ⟨h1, h2⟩))
            · exact .inl (decide_eq_false h1)
          rw [hs0] at HSU
          have HT := HWT
          have HM : Aside0 (i + 6 ≤ (u.size : Int) ∧ i < i + 6) := ⟨by omega⟩
          have HEN := Aside0.mk (enc_runeL hv.1 (by omega) (by omega))
          have HIN : Aside0 (∀ l', BodyP u i l' → ∃ l2, BodyP u (i + 6) l2 ∧ l' = Lib.encodeRuneZ r ++ l2) := ⟨fun l' hp => by rw [HEN.out, ← HRR.out]; exact p_uni h hu (by rw [HRR.out]; exact hS) hp⟩
          have hr1 : -2147483648 ≤ r := by omega
          have hr2 : r ≤ 2147483647 := by omega
          clear hs0 hS hv hrr x1 x2 hr h hu hh t hlt hl6
          go_wp2_with fail
          refine (HR.out _).mono ?_
          rintro e w1 ⟨rfl, hb1⟩
          have HO2 := Aside0.mk (HO0.out.below hb1)
          clear hb1 HR
          go_wp2_with fail
          refine (HSU.out _).mono ?_
          rintro e w2 ⟨rfl, rfl⟩
          clear HSU
          go_upto_region 40 with ((at_builtin; refine app_lit B rfl (.tmp 132) (.tmp 133) 54 5 rfl Tryd.underlying54 info5 u3 (xs) [0, 0, 0, 0, 0, 0, 0, 0] rfl rfl HO2.out.1 HO2.out.2.1 HO2.out.2.2 (by have := HLen'.out; first | omega | (simp; done) | (simp; omega)) ?_; intro v3 w3 ho hb hB1))
          have hL8 : (xs ++ [0, 0, 0, 0, 0, 0, 0, 0]).length = xs.length + 8 := by simp
          rw [hL8] at ho
          obtain ⟨L, hL⟩ : ∃ L, xs.length = L := ⟨_, rfl⟩
          rw [hL] at ho
          obtain ⟨g, cap, rfl, hcap⟩ := own_form8 ho
          have HE := Aside0.mk (fun c => enc_row hL ho hb hB1 r hr1 hr2 c)
          have hk4 := enc_len r
          obtain ⟨kk, hkk⟩ : ∃ kk, (Lib.encodeRuneZ r).length = kk := ⟨_, rfl⟩
          rw [hkk] at HE hk4
          have HKK := Aside0.mk hkk
          have z1 : (L : Int) + 8 - 8 = (L : Int) := by omega
          have z2 : L + 8 - L = 8 := by omega
          have z3 : ¬ (cap = L) := by omega
          have z4 : ((L : Int) + (kk : Int)).toNat = L + kk := by omega
          have z6 : (L : Int) + (kk : Int) ≤ (cap : Int) := by omega
          have z7 : (0 : Int) ≤ (L : Int) + (kk : Int) := by omega
          have z5 : L + kk ≤ cap := by omega
          have hL70 : L ≤ 70000 := by have := HLen'.out; omega
          have HL2 := Aside0.mk hL
          clear ho hb hB1 hL hL8 hkk
          go_wp2_with fail
          refine (HE.out _).mono ?_
          rintro e w4 ⟨rfl, hst⟩
          have HO4 := Aside0.mk hst
          clear hst HE
          go_wp2_with fail
          go_roundg ((u.size : Int) - (i + 6)).toNat
          case measure => have := HI.out; have := HM.out; omega
          case rel => exact ⟨(i + 6), xs ++ Lib.encodeRuneZ r, (by first | rfl | (congr 1; omega)), ⟨by have := HI.out; have := HM.out; omega⟩, ⟨HT.out, fun l hl => by obtain ⟨l', h1, h2⟩ := HP.out l hl; obtain ⟨l2, h3, h4⟩ := HIN.out _ h1; exact ⟨l2, h3, by rw [h2, h4]; simp⟩⟩, ⟨by have h := HLen.out; have h2 := HM.out; have h9 := enc_len r; rw [List.length_append]; omega⟩, HO4⟩
    · have c1 : decide (i < (u.size : Int)) = false := decide_eq_false hlt
      have hcv := own_string (P := Tryd.prog) Tryd.underlying54 Tryd.underlying5 Tryd.underlying9 HO0.out.1
      have HF : Aside0 (∀ l, BodyP u 0 l → strOfNums xs = strOfNums l) := ⟨fun l hl => by
        obtain ⟨l', h1, h2⟩ := HBP.out.2 l hl
        cases h1 with
        | nil _ => rw [h2, List.append_nil]
        | plain h0 _ _ => exact absurd h0 hlt
        | short h _ _ => exact absurd (lt_of_bt (s := u) (i := i) (by omega)) hlt
        | uni h _ _ _ _ => exact absurd (lt_of_bt (s := u) (i := i) (by omega)) hlt
        | pair h _ _ _ _ _ _ _ _ => exact absurd (lt_of_bt (s := u) (i := i) (by omega)) hlt⟩
      clear hlt HBP
      go_wp2
      go_ret
      exact ⟨_, rfl, HF.out, by rw [HBB.out]; exact HO0.out.2.1⟩
end Go.Proofs.YtldfejbmdonaoaaDoor.Uq