/- Joined by a program of mine from texts of this claim: Lq. -/
import Derived.Test.YtldfejbmdonaoaaDoorV42
import Derived.Test.YtldfejbmdonaoaaDoorV43
import Derived.Test.YtldfejbmdonaoaaDoorV25
import Derived.ScopeJumps
namespace Go.Proofs.YtldfejbmdonaoaaDoor.Lq
open Go.RowKit YtldfejbmdonaoaaDoorW.PrintWords YtldfejbmdonaoaaDoorW.PrintLast YtldfejbmdonaoaaDoorW.PrintMore Tp Te Ts Sn
set_option linter.unusedVariables false
set_option linter.unusedSimpArgs false
def ExitJ (J : Nat → Act → World → Prop) (Q : Exit → Act → World → Prop) : Exit → Act → World → Prop
  | .goto l, a, w => J l a w
  | e, a, w => Q e a w
theorem exitJ_mono {J J' : Nat → Act → World → Prop} {Q : Exit → Act → World → Prop} (h : ∀ l a w, J l a w → J' l a w) (e : Exit) (a : Act) (w : World) (he : ExitJ J Q e a w) : ExitJ J' Q e a w := by
  cases e <;> first | exact he | exact h _ _ _ he
theorem j_goto {J : Nat → Act → World → Prop} {Q Q1 : Exit → Act → World → Prop} {l : Nat} {a : Act} {w : World} (h : ExitJ J Q = Q1) (hj : J l a w) : Q1 (.goto l) a w := by subst h; exact hj
theorem j_other {J : Nat → Act → World → Prop} {Q Q1 : Exit → Act → World → Prop} {e : Exit} {a : Act} {w : World} (h : ExitJ J Q = Q1) (he : ∀ l, e ≠ .goto l) (hq : Q e a w) : Q1 e a w := by
  subst h
  cases e <;> first | exact hq | exact absurd rfl (he _)
theorem wp_scope_j {P : Program} {a : Act} {w : World} {Q : Exit → Act → World → Prop} {c : Code} (J : Nat → Nat → Act → World → Prop) (r : Nat → Code) (hf : ∀ l k a w, J l k a w → findLabel c l = some (r l))
    (pass : ∀ l k a w, J l k a w → (r l).wp P (ExitJ (fun l' a' w' => ∃ k', k' < k ∧ J l' k' a' w') Q) a w)
    (first : c.wp P (ExitJ (fun l a w => ∃ k, J l k a w) Q) a w) : (Code.scope c).wp P Q a w := by
  intro b k cs
  have key : ∀ (n l : Nat) a w, J l n a w → ∃ e a' w', Q e a' w' ∧ Arrives P (lone (b.at a (.code (r l) :: .inScope c :: k)) cs w) b k cs e a' w' := by
    intro n
    induction n using Nat.strongRecOn with
    | ind n ih =>
      intro l a w hJ
      obtain ⟨e, a₁, w₁, hq, harr⟩ := pass l n a w hJ b (.inScope c :: k) cs
      cases e with
      | normal => exact ⟨.normal, a₁, w₁, hq, Steps.trans harr (.one step_inScope)⟩
      | exit id => exact ⟨.exit id, a₁, w₁, hq, fun k' hk => harr k' (by simp [exitTo, hk])⟩
      | goto l' =>
        obtain ⟨n', hn, hJ'⟩ := hq
        obtain ⟨e₂, a₂, w₂, hq₂, harr₂⟩ := ih n' hn l' a₁ w₁ hJ'
        have hg : gotoIn l' (.inScope c :: k) = some (.code (r l') :: .inScope c :: k) := by simp [gotoIn, hf _ _ _ _ hJ']
        exact ⟨e₂, a₂, w₂, hq₂, .of_steps (harr _ hg) harr₂⟩
      | ret => exact ⟨_, a₁, w₁, hq, harr⟩
      | panic ch => exact ⟨_, a₁, w₁, hq, harr⟩
      | outgrown => exact ⟨_, a₁, w₁, hq, harr⟩
  obtain ⟨e, a₁, w₁, hq, harr⟩ := first b (.inScope c :: k) cs
  cases e with
  | normal => exact ⟨.normal, a₁, w₁, hq, .head step_scope (Steps.trans harr (.one step_inScope))⟩
  | exit id => exact ⟨.exit id, a₁, w₁, hq, fun k' hk => .head step_scope (harr k' (by simp [exitTo, hk]))⟩
  | goto l' =>
    obtain ⟨n', hJ'⟩ := hq
    have hg : gotoIn l' (.inScope c :: k) = some (.code (r l') :: .inScope c :: k) := by simp [gotoIn, hf _ _ _ _ hJ']
    obtain ⟨e₂, a₂, w₂, hq₂, harr₂⟩ := key n' l' a₁ w₁ hJ'
    exact ⟨e₂, a₂, w₂, hq₂, .of_steps (.head step_scope (harr _ hg)) harr₂⟩
  | ret => exact ⟨_, a₁, w₁, hq, .of_steps (.one step_scope) harr⟩
  | panic ch => exact ⟨_, a₁, w₁, hq, .of_steps (.one step_scope) harr⟩
  | outgrown => exact ⟨_, a₁, w₁, hq, .of_steps (.one step_scope) harr⟩
theorem wp_scope_0 {P : Program} {a : Act} {w : World} {Q : Exit → Act → World → Prop} {c X : Code} (J0 : Act → World → Prop) (h0 : findLabel c 0 = some (.seq .skip X))
    (pass : ∀ a w, J0 a w → X.wp P (ExitJ (fun _ _ _ => False) Q) a w)
    (first : (∀ a w, J0 a w → X.wp P (ExitJ (fun l a w => ∃ _ : Nat, l = 0 ∧ J0 a w) Q) a w) → c.wp P (ExitJ (fun l a w => ∃ _ : Nat, l = 0 ∧ J0 a w) Q) a w) : (Code.scope c).wp P Q a w :=
  wp_scope_j (fun l _ a w => l = 0 ∧ J0 a w) (fun _ => .seq .skip X) (fun l k a w h => by rw [h.1]; exact h0)
    (fun l k a w h => wp_seq (wp_skip (Code.wp_mono (exitJ_mono fun _ _ _ h => h.elim) (pass a w h.2))))
    (first fun a w h => Code.wp_mono (exitJ_mono fun _ _ _ h => h.elim) (pass a w h))
def J123 (J1 J2 J3 : Nat → Act → World → Prop) (l k : Nat) (a : Act) (w : World) : Prop := l = 1 ∧ J1 k a w ∨ l = 2 ∧ J2 k a w ∨ l = 3 ∧ J3 k a w
theorem wp_scope_3 {P : Program} {a : Act} {w : World} {Q : Exit → Act → World → Prop} {c X1 X2 X3 : Code} (J1 J2 J3 : Nat → Act → World → Prop) (h1 : findLabel c 1 = some (.seq .skip X1)) (h2 : findLabel c 2 = some (.seq .skip X2)) (h3 : findLabel c 3 = some (.seq .skip X3))
    (p3 : ∀ k a w, J3 k a w → X3.wp P (ExitJ (fun l a w => ∃ k', k' < k ∧ J123 J1 J2 J3 l k' a w) Q) a w)
    (p1 : ∀ k, (∀ a w, J3 k a w → X3.wp P (ExitJ (fun l a w => ∃ k', k' < k ∧ J123 J1 J2 J3 l k' a w) Q) a w) → ∀ a w, J1 k a w → X1.wp P (ExitJ (fun l a w => ∃ k', k' < k ∧ J123 J1 J2 J3 l k' a w) Q) a w)
    (p2 : ∀ k a w, J2 k a w → X2.wp P (ExitJ (fun l a w => ∃ k', k' < k ∧ J123 J1 J2 J3 l k' a w) Q) a w)
    (first : (∀ k a w, J2 k a w → X2.wp P (ExitJ (fun l a w => ∃ k, J123 J1 J2 J3 l k a w) Q) a w) → c.wp P (ExitJ (fun l a w => ∃ k, J123 J1 J2 J3 l k a w) Q) a w) : (Code.scope c).wp P Q a w := by
  refine wp_scope_j (J123 J1 J2 J3) (fun l => if l = 1 then .seq .skip X1 else if l = 2 then .seq .skip X2 else .seq .skip X3) ?_ ?_ (first fun k a w h => Code.wp_mono (exitJ_mono fun l a w h => ⟨h.choose, h.choose_spec.2⟩) (p2 k a w h))
  · rintro l k a w (⟨rfl, _⟩ | ⟨rfl, _⟩ | ⟨rfl, _⟩)
    · exact h1
    · exact h2
    · exact h3
  · rintro l k a w (⟨rfl, h⟩ | ⟨rfl, h⟩ | ⟨rfl, h⟩)
    · exact wp_seq (wp_skip (p1 k (p3 k) a w h))
    · exact wp_seq (wp_skip (p2 k a w h))
    · exact wp_seq (wp_skip (p3 k a w h))
def VTab (w : World) : Prop := ∀ j : Nat, j < 256 → w.cell? ⟨0, j, none⟩ = some (.int .u8 (vch (j : Int)))
theorem VTab.at {w : World} (h : VTab w) {x : Int} (h0 : 0 ≤ x) (h1 : x < 256) : w.cell? ⟨0, x.toNat, none⟩ = some (.int .u8 (vch x)) := by
  have := h x.toNat (by omega)
  rwa [show ((x.toNat : Nat) : Int) = x by omega] at this
theorem vch_in (c : Int) : vch c = 0 ∨ vch c = 1 ∨ vch c = 2 ∨ vch c = 3 := by
  unfold vch
  split
  · exact .inr (.inr (.inl rfl))
  · split
    · exact .inr (.inr (.inr rfl))
    · split
      · exact .inr (.inl rfl)
      · exact .inl rfl
theorem vch_34 {c : Int} : vch c = 2 ↔ c = 34 := by
  unfold vch
  constructor
  · intro h
    split at h
    · assumption
    · split at h
      · exact absurd h (by decide)
      · split at h <;> exact absurd h (by decide)
  · intro h
    rw [if_pos h]
section
variable {u : ByteArray} {J i d : Int}
theorem Run.size (h : Run u J i d) : i < (u.size : Int) ∧ 0 ≤ i := by
  cases h with
  | dull h0 hlt _ _ => exact ⟨hlt, h0⟩
  | str h he _ => exact ⟨lt_of_bt (by rw [h]; decide), by have := he.lo; omega⟩
  | opens h0 h _ _ => exact ⟨vch_lt (u := u) (by rw [h]; decide), h0⟩
  | closes h0 h _ _ => exact ⟨vch_lt (u := u) (by rw [h]; decide), h0⟩
  | done h0 h _ => exact ⟨vch_lt (u := u) (by rw [h]; decide), h0⟩
theorem Run.zero (h : Run u J i d) (h0 : vch (bt u i) = 0) : Run u J (i + 1) d := by
  cases h with
  | dull _ _ _ hr => exact hr
  | str h _ _ => rw [vch_34.mpr h] at h0; exact absurd h0 (by decide)
  | opens _ h _ _ => rw [h] at h0; exact absurd h0 (by decide)
  | closes _ h _ _ => rw [h] at h0; exact absurd h0 (by decide)
  | done _ h _ => rw [h] at h0; exact absurd h0 (by decide)
theorem Run.two (h : Run u J i d) (h0 : vch (bt u i) = 2) : ∃ e, StrEnd u (i + 1) e ∧ Run u J (e + 1) d := by
  cases h with
  | dull _ _ h _ => rw [h] at h0; exact absurd h0 (by decide)
  | str h he hr => exact ⟨_, he, hr⟩
  | opens _ h _ _ => rw [h] at h0; exact absurd h0 (by decide)
  | closes _ h _ _ => rw [h] at h0; exact absurd h0 (by decide)
  | done _ h _ => rw [h] at h0; exact absurd h0 (by decide)
theorem Run.three (h : Run u J i d) (h0 : vch (bt u i) = 3) : (1 ≤ d ∧ d ≤ 1000000) ∧ Run u J (i + 1) (d + 1) := by
  cases h with
  | dull _ _ h _ => rw [h] at h0; exact absurd h0 (by decide)
  | str h _ _ => rw [vch_34.mpr h] at h0; exact absurd h0 (by decide)
  | opens _ h hd hr => exact ⟨hd, hr⟩
  | closes _ h _ _ => rw [h] at h0; exact absurd h0 (by decide)
  | done _ h _ => rw [h] at h0; exact absurd h0 (by decide)
theorem Run.one (h : Run u J i d) (h0 : vch (bt u i) = 1) : (2 ≤ d ∧ d ≤ 1000000 ∧ Run u J (i + 1) (d - 1)) ∨ (d = 1 ∧ J = i + 1) := by
  cases h with
  | dull _ _ h _ => rw [h] at h0; exact absurd h0 (by decide)
  | str h _ _ => rw [vch_34.mpr h] at h0; exact absurd h0 (by decide)
  | opens _ h _ _ => rw [h] at h0; exact absurd h0 (by decide)
  | closes _ h hd hr => exact .inl ⟨hd.1, hd.2, hr⟩
  | done _ h hj => exact .inr ⟨rfl, hj⟩
end
theorem list_form (l : List Value) (n : Nat) (h : l.length = n) : l = (List.range n).map fun j => l.getD j undef := by
  apply List.ext_getElem?
  intro j
  rw [List.getElem?_map]
  by_cases hj : j < n
  · rw [List.getElem?_range hj, List.getElem?_eq_getElem (by omega)]
    simp [List.getD_eq_getElem?_getD, List.getElem?_eq_getElem (show j < l.length by omega)]
  · rw [List.getElem?_eq_none (by omega), List.getElem?_eq_none (by simp; omega)]
    rfl
structure FrA (u : ByteArray) (i x d c : Int) (a : Act) : Prop where
  ds : a.defers = []
  sz : a.tmps.toList.length = 230
  h0 : a.tmps.toList.getD 0 undef = .string u
  h1 : a.tmps.toList.getD 1 undef = .int .i64 x
  h6 : a.tmps.toList.getD 6 undef = .int .i64 i
  h7 : a.tmps.toList.getD 7 undef = .int .i64 d
  h8 : a.tmps.toList.getD 8 undef = .int .u8 c
  h2 : a.tmps.toList.getD 2 undef = undef
  h3 : a.tmps.toList.getD 3 undef = undef
  h14 : a.tmps.toList.getD 14 undef = .int .i64 i
  h15 : a.tmps.toList.getD 15 undef = .int .i64 i
  h16 : a.tmps.toList.getD 16 undef = .int .i64 (i + 1)
  h226 : a.tmps.toList.getD 226 undef = undef
  h227 : a.tmps.toList.getD 227 undef = undef
  h228 : a.tmps.toList.getD 228 undef = undef
  h229 : a.tmps.toList.getD 229 undef = undef
set_option maxRecDepth 100000 in
theorem FrA.form {u : ByteArray} {i x d c : Int} {a : Act} (h : FrA u i x d c a) : ∃ V : Nat → Value, a = { tmps := #[.string u, .int .i64 x, undef, undef, V 4, V 5, .int .i64 i, .int .i64 d, .int .u8 c, V 9, V 10, V 11, V 12, V 13, .int .i64 i, .int .i64 i, .int .i64 (i + 1), V 17, V 18, V 19, V 20, V 21, V 22, V 23, V 24, V 25, V 26, V 27, V 28, V 29, V 30, V 31, V 32, V 33, V 34, V 35, V 36, V 37, V 38, V 39, V 40, V 41, V 42, V 43, V 44, V 45, V 46, V 47, V 48, V 49, V 50, V 51, V 52, V 53, V 54, V 55, V 56, V 57, V 58, V 59, V 60, V 61, V 62, V 63, V 64, V 65, V 66, V 67, V 68, V 69, V 70, V 71, V 72, V 73, V 74, V 75, V 76, V 77, V 78, V 79, V 80, V 81, V 82, V 83, V 84, V 85, V 86, V 87, V 88, V 89, V 90, V 91, V 92, V 93, V 94, V 95, V 96, V 97, V 98, V 99, V 100, V 101, V 102, V 103, V 104, V 105, V 106, V 107, V 108, V 109, V 110, V 111, V 112, V 113, V 114, V 115, V 116, V 117, V 118, V 119, V 120, V 121, V 122, V 123, V 124, V 125, V 126, V 127, V 128, V 129, V 130, V 131, V 132, V 133, V 134, V 135, V 136, V 137, V 138, V 139, V 140, V 141, V 142, V 143, V 144, V 145, V 146, V 147, V 148, V 149, V 150, V 151, V 152, V 153, V 154, V 155, V 156, V 157, V 158, V 159, V 160, V 161, V 162, V 163, V 164, V 165, V 166, V 167, V 168, V 169, V 170, V 171, V 172, V 173, V 174, V 175, V 176, V 177, V 178, V 179, V 180, V 181, V 182, V 183, V 184, V 185, V 186, V 187, V 188, V 189, V 190, V 191, V 192, V 193, V 194, V 195, V 196, V 197, V 198, V 199, V 200, V 201, V 202, V 203, V 204, V 205, V 206, V 207, V 208, V 209, V 210, V 211, V 212, V 213, V 214, V 215, V 216, V 217, V 218, V 219, V 220, V 221, V 222, V 223, V 224, V 225, undef, undef, undef, undef], defers := [] } := by
  obtain ⟨⟨l⟩, ds⟩ := a
  obtain ⟨rfl, hs, h0, h1, h6, h7, h8, h2, h3, h14, h15, h16, h226, h227, h228, h229⟩ := h
  have e := list_form l 230 hs
  refine ⟨fun j => l.getD j undef, ?_⟩
  dsimp only at h0 h1 h6 h7 h8 h2 h3 h14 h15 h16 h226 h227 h228 h229 ⊢
  have e2 : (List.range 230).map (fun j => l.getD j undef) = [l.getD 0 undef, l.getD 1 undef, l.getD 2 undef, l.getD 3 undef, l.getD 4 undef, l.getD 5 undef, l.getD 6 undef, l.getD 7 undef, l.getD 8 undef, l.getD 9 undef, l.getD 10 undef, l.getD 11 undef, l.getD 12 undef, l.getD 13 undef, l.getD 14 undef, l.getD 15 undef, l.getD 16 undef, l.getD 17 undef, l.getD 18 undef, l.getD 19 undef, l.getD 20 undef, l.getD 21 undef, l.getD 22 undef, l.getD 23 undef, l.getD 24 undef, l.getD 25 undef, l.getD 26 undef, l.getD 27 undef, l.getD 28 undef, l.getD 29 undef, l.getD 30 undef, l.getD 31 undef, l.getD 32 undef, l.getD 33 undef, l.getD 34 undef, l.getD 35 undef, l.getD 36 undef, l.getD 37 undef, l.getD 38 undef, l.getD 39 undef, l.getD 40 undef, l.getD 41 undef, l.getD 42 undef, l.getD 43 undef, l.getD 44 undef, l.getD 45 undef, l.getD 46 undef, l.getD 47 undef, l.getD 48 undef, l.getD 49 undef, l.getD 50 undef, l.getD 51 undef, l.getD 52 undef, l.getD 53 undef, l.getD 54 undef, l.getD 55 undef, l.getD 56 undef, l.getD 57 undef, l.getD 58 undef, l.getD 59 undef, l.getD 60 undef, l.getD 61 undef, l.getD 62 undef, l.getD 63 undef, l.getD 64 undef, l.getD 65 undef, l.getD 66 undef, l.getD 67 undef, l.getD 68 undef, l.getD 69 undef, l.getD 70 undef, l.getD 71 undef, l.getD 72 undef, l.getD 73 undef, l.getD 74 undef, l.getD 75 undef, l.getD 76 undef, l.getD 77 undef, l.getD 78 undef, l.getD 79 undef, l.getD 80 undef, l.getD 81 undef, l.getD 82 undef, l.getD 83 undef, l.getD 84 undef, l.getD 85 undef, l.getD 86 undef, l.getD 87 undef, l.getD 88 undef, l.getD 89 undef, l.getD 90 undef, l.getD 91 undef, l.getD 92 undef, l.getD 93 undef, l.getD 94 undef, l.getD 95 undef, l.getD 96 undef, l.getD 97 undef, l.getD 98 undef, l.getD 99 undef, l.getD 100 undef, l.getD 101 undef, l.getD 102 undef, l.getD 103 undef, l.getD 104 undef, l.getD 105 undef, l.getD 106 undef, l.getD 107 undef, l.getD 108 undef, l.getD 109 undef, l.getD 110 undef, l.getD 111 undef, l.getD 112 undef, l.getD 113 undef, l.getD 114 undef, l.getD 115 undef, l.getD 116 undef, l.getD 117 undef, l.getD 118 undef, l.getD 119 undef, l.getD 120 undef, l.getD 121 undef, l.getD 122 undef, l.getD 123 undef, l.getD 124 undef, l.getD 125 undef, l.getD 126 undef, l.getD 127 undef, l.getD 128 undef, l.getD 129 undef, l.getD 130 undef, l.getD 131 undef, l.getD 132 undef, l.getD 133 undef, l.getD 134 undef, l.getD 135 undef, l.getD 136 undef, l.getD 137 undef, l.getD 138 undef, l.getD 139 undef, l.getD 140 undef, l.getD 141 undef, l.getD 142 undef, l.getD 143 undef, l.getD 144 undef, l.getD 145 undef, l.getD 146 undef, l.getD 147 undef, l.getD 148 undef, l.getD 149 undef, l.getD 150 undef, l.getD 151 undef, l.getD 152 undef, l.getD 153 undef, l.getD 154 undef, l.getD 155 undef, l.getD 156 undef, l.getD 157 undef, l.getD 158 undef, l.getD 159 undef, l.getD 160 undef, l.getD 161 undef, l.getD 162 undef, l.getD 163 undef, l.getD 164 undef, l.getD 165 undef, l.getD 166 undef, l.getD 167 undef, l.getD 168 undef, l.getD 169 undef, l.getD 170 undef, l.getD 171 undef, l.getD 172 undef, l.getD 173 undef, l.getD 174 undef, l.getD 175 undef, l.getD 176 undef, l.getD 177 undef, l.getD 178 undef, l.getD 179 undef, l.getD 180 undef, l.getD 181 undef, l.getD 182 undef, l.getD 183 undef, l.getD 184 undef, l.getD 185 undef, l.getD 186 undef, l.getD 187 undef, l.getD 188 undef, l.getD 189 undef, l.getD 190 undef, l.getD 191 undef, l.getD 192 undef, l.getD 193 undef, l.getD 194 undef, l.getD 195 undef, l.getD 196 undef, l.getD 197 undef, l.getD 198 undef, l.getD 199 undef, l.getD 200 undef, l.getD 201 undef, l.getD 202 undef, l.getD 203 undef, l.getD 204 undef, l.getD 205 undef, l.getD 206 undef, l.getD 207 undef, l.getD 208 undef, l.getD 209 undef, l.getD 210 undef, l.getD 211 undef, l.getD 212 undef, l.getD 213 undef, l.getD 214 undef, l.getD 215 undef, l.getD 216 undef, l.getD 217 undef, l.getD 218 undef, l.getD 219 undef, l.getD 220 undef, l.getD 221 undef, l.getD 222 undef, l.getD 223 undef, l.getD 224 undef, l.getD 225 undef, l.getD 226 undef, l.getD 227 undef, l.getD 228 undef, l.getD 229 undef] := rfl
  have e3 := e.trans e2
  rw [h0, h1, h6, h7, h8, h2, h3, h14, h15, h16, h226, h227, h228, h229] at e3
  exact congrArg (fun l' => ({ tmps := ⟨l'⟩, defers := [] } : Act)) e3
structure FrB (u : ByteArray) (i x d c s2 : Int) (a : Act) : Prop where
  base : FrA u i x d c a
  h10 : a.tmps.toList.getD 10 undef = .int .i64 s2
set_option maxRecDepth 100000 in
theorem FrB.form {u : ByteArray} {i x d c s2 : Int} {a : Act} (h : FrB u i x d c s2 a) : ∃ V : Nat → Value, a = { tmps := #[.string u, .int .i64 x, undef, undef, V 4, V 5, .int .i64 i, .int .i64 d, .int .u8 c, V 9, .int .i64 s2, V 11, V 12, V 13, .int .i64 i, .int .i64 i, .int .i64 (i + 1), V 17, V 18, V 19, V 20, V 21, V 22, V 23, V 24, V 25, V 26, V 27, V 28, V 29, V 30, V 31, V 32, V 33, V 34, V 35, V 36, V 37, V 38, V 39, V 40, V 41, V 42, V 43, V 44, V 45, V 46, V 47, V 48, V 49, V 50, V 51, V 52, V 53, V 54, V 55, V 56, V 57, V 58, V 59, V 60, V 61, V 62, V 63, V 64, V 65, V 66, V 67, V 68, V 69, V 70, V 71, V 72, V 73, V 74, V 75, V 76, V 77, V 78, V 79, V 80, V 81, V 82, V 83, V 84, V 85, V 86, V 87, V 88, V 89, V 90, V 91, V 92, V 93, V 94, V 95, V 96, V 97, V 98, V 99, V 100, V 101, V 102, V 103, V 104, V 105, V 106, V 107, V 108, V 109, V 110, V 111, V 112, V 113, V 114, V 115, V 116, V 117, V 118, V 119, V 120, V 121, V 122, V 123, V 124, V 125, V 126, V 127, V 128, V 129, V 130, V 131, V 132, V 133, V 134, V 135, V 136, V 137, V 138, V 139, V 140, V 141, V 142, V 143, V 144, V 145, V 146, V 147, V 148, V 149, V 150, V 151, V 152, V 153, V 154, V 155, V 156, V 157, V 158, V 159, V 160, V 161, V 162, V 163, V 164, V 165, V 166, V 167, V 168, V 169, V 170, V 171, V 172, V 173, V 174, V 175, V 176, V 177, V 178, V 179, V 180, V 181, V 182, V 183, V 184, V 185, V 186, V 187, V 188, V 189, V 190, V 191, V 192, V 193, V 194, V 195, V 196, V 197, V 198, V 199, V 200, V 201, V 202, V 203, V 204, V 205, V 206, V 207, V 208, V 209, V 210, V 211, V 212, V 213, V 214, V 215, V 216, V 217, V 218, V 219, V 220, V 221, V 222, V 223, V 224, V 225, undef, undef, undef, undef], defers := [] } := by
  obtain ⟨hb, h10⟩ := h
  obtain ⟨V, rfl⟩ := hb.form
  have e : V 10 = .int .i64 s2 := h10
  exact ⟨V, by rw [e]⟩
def Lb2 (u : ByteArray) (i d s2 E : Int) (w : World) (k : Nat) (a : Act) (w' : World) : Prop :=
  w' = w ∧ ∃ x : Int, Aside0 (s2 ≤ x ∧ x ≤ E ∧ 4 * (E - x) + 3 ≤ (k : Int)) ∧ FrB u i x d 2 s2 a
def Lb1 (u : ByteArray) (i d s2 E : Int) (w : World) (k : Nat) (a : Act) (w' : World) : Prop :=
  w' = w ∧ ∃ x : Int, Aside0 (s2 ≤ x ∧ x ≤ E ∧ 4 * (E - x) + 2 ≤ (k : Int) ∧ bt u x = 34) ∧ FrB u i x d 2 s2 a
def Lb3 (u : ByteArray) (i d s2 E : Int) (w : World) (k : Nat) (a : Act) (w' : World) : Prop :=
  w' = w ∧ ∃ x : Int, Aside0 (s2 ≤ x ∧ x ≤ E ∧ 4 * (E - x) + 1 ≤ (k : Int)) ∧ FrB u i x d 2 s2 a
def Tok (u : ByteArray) (J i b : Int) (w : World) (a : Act) (w' : World) : Prop :=
  w' = w ∧ ∃ (x d c : Int), Aside0 (Run u J x d ∧ c = vch (bt u x) ∧ c ≠ 0 ∧ b ≤ x) ∧ FrA u i x d c a
set_option maxRecDepth 100000 in
set_option maxHeartbeats 8000000 in
theorem squash_walk (u : ByteArray) (i J : Int) (hs : (u.size : Int) ≤ 200000) (h0 : 0 ≤ i) (hR : Run u J (i + 1) 1) (w : World) (hT : VTab w) :
    Calls Tryd.prog 47 #[.string u, .int .i64 i] w (Lp.Part u i J w) := by
  have HS := Aside0.mk hs
  have HT := Aside0.mk hT
  have HR := Aside0.mk hR
  have i4 : i ≤ 200000 := by have := Run.size hR; omega
  clear hs hT hR
  go_enter Tryd.func47, Tryd.ntmps47
  go_wp2_with fail
  go_loopg [1, 7] u.size (fun kq x1 x7 wr => ∃ (x d : Int), x1 = .int .i64 x ∧ x7 = .int .i64 d ∧ Aside0 (Run u J x d ∧ i + 1 ≤ x ∧ (kq : Int) ≥ (u.size : Int) - x) ∧ wr = w)
  case atStart => exact ⟨i + 1, 1, rfl, rfl, ⟨HR.out, by omega, by omega⟩, rfl⟩
  case round =>
    obtain ⟨x, d, rfl, rfl, HX, hwr⟩ := hrel
    subst wr
    have p1 : (0 : Int) ≤ x := (Run.size HX.out.1).2
    have p2 := (Run.size HX.out.1).1
    have p4 : x ≤ 200000 := by have := HS.out; omega
    have q1 : (x < (u.size : Int)) = True := eq_true p2
    have q2 : decide (x < (u.size : Int)) = true := decide_eq_true p2
    go_wp2_with fail
    refine wp_scope_0 (Tok u J i x w) rfl ?pass ?first
    case pass =>
      clear p1 p2 p4 q1 q2
      rintro a w' ⟨hw', y, e, c, HF, hA⟩
      subst w'
      obtain ⟨V, rfl⟩ := hA.form
      clear hA
      have s1 := Run.size HF.out.1
      have r1 : (0 : Int) ≤ y := s1.2
      have r2 : y ≤ 200000 := by have := HS.out; omega
      have r3 := HS.out
      have r4 : i ≤ y + 1 := by have := HF.out; have := HX.out; omega
      have r5 : y + 1 ≤ (u.size : Int) := by omega
      clear s1
      generalize hQ : ExitJ _ _ = Q1
      have hc := vch_in (bt u y)
      rw [← HF.out.2.1] at hc
      rcases hc with hc | hc | hc | hc
      · exact absurd hc HF.out.2.2.1
      · subst hc
        have hv := Run.one HF.out.1 HF.out.2.1.symm
        rcases hv with ⟨hd1, hd2, hr⟩ | ⟨rfl, hJ⟩
        · have HD := Aside0.mk (And.intro hd1 hr)
          have d1 : (e + -1 == 0) = false := beq_eq_false_iff_ne.mpr (by omega)
          have d2 : (e - 1 == 0) = false := beq_eq_false_iff_ne.mpr (by omega)
          have d3 : 2 ≤ e := hd1
          clear hr hd1
          go_wp2_with fail
          refine j_other hQ (by intro l h; cases h) ?_
          clear hQ
          simp only [Exit.inBlock, Exit.then, reduceIte]
          go_wp2_with fail
          go_roundg ((u.size : Int) - (y + 1)).toNat
          case measure => have := HX.out; have := HF.out; have := Run.size HF.out.1; omega
          case rel => exact ⟨y + 1, e - 1, rfl, (by first | rfl | (congr 1; omega)), ⟨HD.out.2, by have := HF.out; have := HX.out; omega, by omega⟩, rfl⟩
        · subst hJ
          go_wp2_with fail
          go_quiet (fail)
          go_wp2_with fail
          refine j_other hQ (by intro l h; cases h) ?_
          clear hQ
          simp only [Exit.inBlock, Exit.then]
          go_ret2
          exact ⟨rfl, _, rfl⟩
      · subst hc
        obtain ⟨E, hE, hr⟩ := Run.two HF.out.1 HF.out.2.1.symm
        obtain ⟨s2, hs2⟩ : ∃ s2, s2 = y + 1 := ⟨_, rfl⟩
        rw [← hs2] at hE
        have HS2 := Aside0.mk hs2
        have HE := Aside0.mk hE
        have HRE := Aside0.mk hr
        clear hE hr hs2
        go_wp2_with fail
        refine wp_scope_3 (Lb1 u i e s2 E w) (Lb2 u i e s2 E w) (Lb3 u i e s2 E w) rfl rfl rfl ?q3 ?q1 ?q2 ?qf
        case qf =>
          intro hS
          have hs2 := HS2.out
          subst hs2
          generalize hQ2 : ExitJ _ _ = QQ at hS ⊢
          go_wp2_with fail
          refine wp_label ?_
          rename_i hK
          exact hK _ _ (hS (4 * (E - (y + 1)) + 3).toNat _ _ ⟨rfl, y + 1, ⟨by have := HE.out.le; omega⟩, ⟨⟨rfl, rfl, rfl, rfl, rfl, rfl, rfl, rfl, rfl, rfl, rfl, rfl, rfl, rfl, rfl, rfl⟩, rfl⟩⟩)
        case q1 =>
          intro k hS a w' hJ
          obtain ⟨hw', x, HX1, hA⟩ := hJ
          subst w'
          obtain ⟨V, rfl⟩ := hA.form
          clear hA
          generalize hQ2 : ExitJ _ _ = QQ at hS ⊢
          have x0 : (1 : Int) ≤ x := by have := HX1.out; have := HE.out.lo; omega
          have x1 : x ≤ 200000 := by have := HX1.out; have := HE.out.lt; omega
          have z1 : (0 ≤ x - 1) = True := eq_true (by omega)
          have z2 : (x - 1 < (u.size : Int)) = True := eq_true (by have := HX1.out; have := HE.out.lt; omega)
          have hx4 : ∀ h : x.toNat - 1 < u.size, ((u[x.toNat - 1]'h).toNat : Int) = bt u (x - 1) := fun h => by have h2 := bt_at u (x - 1); rw [show (x - 1).toNat = x.toNat - 1 by omega] at h2; exact h2 h
          have z3 : (1 ≤ x) = True := eq_true x0
          have z4 : ¬ (x < 1) := by omega
          by_cases cb : bt u (x - 1) = 92
          · have e4 : (bt u (x - 1) != 92) = false := by rw [cb]; rfl
            clear cb
            go_wp2_with fail
            refine wp_label ?_
            rename_i hK
            exact hK _ _ (hS _ _ ⟨rfl, x, ⟨by have := HX1.out; omega⟩, ⟨⟨rfl, rfl, rfl, rfl, rfl, rfl, rfl, rfl, rfl, rfl, rfl, rfl, rfl, rfl, rfl, rfl⟩, rfl⟩⟩)
          · have e4 : (bt u (x - 1) != 92) = true := bne_iff_ne.mpr cb
            have hxq : x = E := Decidable.byContradiction fun h => by
              have := HE.out.odd x HX1.out.1 (by have := HX1.out; omega) HX1.out.2.2.2
              rw [bsn_stop cb] at this
              omega
            subst hxq
            clear cb
            go_wp2_with fail
            refine j_other hQ2 (by intro l h; cases h) ?_
            clear hQ2
            simp only [Exit.inBlock, Exit.then, reduceIte]
            refine j_other hQ (by intro l h; cases h) ?_
            clear hQ
            simp only [Exit.inBlock, Exit.then, reduceIte]
            go_wp2_with fail
            go_roundg ((u.size : Int) - (x + 1)).toNat
            case measure => have := HX.out; have := HF.out; have := Run.size HF.out.1; have := HE.out.le; have := HE.out.lt; have := HS2.out; omega
            case rel => exact ⟨x + 1, e, rfl, rfl, ⟨HRE.out, by have := HF.out; have := HX.out; have := HE.out.le; have := HS2.out; omega, by omega⟩, rfl⟩
        case q2 =>
          intro k a w' hJ
          obtain ⟨hw', x, HX1, hA⟩ := hJ
          subst w'
          obtain ⟨V, rfl⟩ := hA.form
          clear hA
          generalize hQ2 : ExitJ _ _ = QQ
          go_wp2_with fail
          go_loopg [1, 11] u.size (fun kq x1 x11 wr => ∃ (z : Int), x1 = .int .i64 z ∧ Aside0 (x ≤ z ∧ z ≤ E ∧ (kq : Int) ≥ (u.size : Int) - z) ∧ wr = w)
          case atStart => exact ⟨x, rfl, ⟨by have := HX1.out; have := HE.out.lo; have := HE.out.lt; omega⟩, rfl⟩
          case round =>
            obtain ⟨z, rfl, HZ, hwr⟩ := hrel
            subst wr
            have z0 : (0 : Int) ≤ z := by have := HX1.out; have := HZ.out; have := HE.out.lo; omega
            have z1 : z ≤ 200000 := by have := HZ.out; have := HE.out.lt; omega
            by_cases h8 : z < (u.size : Int) - 8
            · have g0 : (z < (u.size : Int) - 8) = True := eq_true h8
              have g1 : decide (z < (u.size : Int) - 8) = true := decide_eq_true h8
              have g2 : (z + 8 ≤ (u.size : Int)) = True := eq_true (by omega)
              have g3 : (z ≤ (u.size : Int)) = True := eq_true (by omega)
              have g4 : (z ≤ z + 8) = True := eq_true (by omega)
              have g5 : (0 ≤ z + 8) = True := eq_true (by omega)
              have g6 : z + 8 ≤ 200000 := by omega
              obtain ⟨js, hjs⟩ : ∃ js, u.extract z.toNat (z + 8).toNat = js := ⟨_, rfl⟩
              have hjz : js.size = 8 := by rw [← hjs, ByteArray.size_extract]; omega
              have hjb : ∀ k : Nat, k < 8 → bt js (k : Int) = bt u (z + (k : Int)) := fun k hk => by
                rw [← hjs]
                obtain ⟨n, rfl⟩ : ∃ n : Nat, z = n := ⟨z.toNat, by omega⟩
                have := Bt.bt_extract (s := u) (a := n) (b := n + 8) (by omega) (j := k) (by omega)
                rw [show ((n : Int)).toNat = n by omega, show ((n : Int) + 8).toNat = n + 8 by omega, this]
                congr 1
              have v0 : ∀ h : 0 < js.size, ((js[0]'h).toNat : Int) = bt u z := fun h => (Bt.bt_in h).symm.trans ((hjb 0 (by decide)).trans (by rw [show z + ((0 : Nat) : Int) = z by omega]))
              have v1 : ∀ h : 1 < js.size, ((js[1]'h).toNat : Int) = bt u (z + 1) := fun h => (Bt.bt_in h).symm.trans (hjb 1 (by decide))
              have v2 : ∀ h : 2 < js.size, ((js[2]'h).toNat : Int) = bt u (z + 2) := fun h => (Bt.bt_in h).symm.trans (hjb 2 (by decide))
              have v3 : ∀ h : 3 < js.size, ((js[3]'h).toNat : Int) = bt u (z + 3) := fun h => (Bt.bt_in h).symm.trans (hjb 3 (by decide))
              have v4 : ∀ h : 4 < js.size, ((js[4]'h).toNat : Int) = bt u (z + 4) := fun h => (Bt.bt_in h).symm.trans (hjb 4 (by decide))
              have v5 : ∀ h : 5 < js.size, ((js[5]'h).toNat : Int) = bt u (z + 5) := fun h => (Bt.bt_in h).symm.trans (hjb 5 (by decide))
              have v6 : ∀ h : 6 < js.size, ((js[6]'h).toNat : Int) = bt u (z + 6) := fun h => (Bt.bt_in h).symm.trans (hjb 6 (by decide))
              have v7 : ∀ h : 7 < js.size, ((js[7]'h).toNat : Int) = bt u (z + 7) := fun h => (Bt.bt_in h).symm.trans (hjb 7 (by decide))
              clear h8 hjb
              have hE0 := HE.out.q
              have hZ0 := HZ.out
              by_cases y0 : bt u z = 34
              · have d0 : (bt u z == 34) = true := by rw [y0]; rfl
                have hle : z + 0 ≤ E := by omega
                have HL := Aside0.mk (And.intro hle y0)
                clear hle y0 hE0 hZ0
                go_wp2_with fail
                go_step3
                simp only [Exit.then, Exit.inBlock]
                refine j_goto hQ2 ?_
                exact ⟨(4 * (E - z) + 2).toNat, by have := HX1.out; have := HZ.out; have := HL.out.1; omega, .inl ⟨rfl, rfl, z, ⟨by have := HX1.out; have := HZ.out; omega, by have := HL.out.1; omega, by have := HL.out.1; omega, HL.out.2⟩, ⟨⟨rfl, rfl, rfl, rfl, rfl, rfl, rfl, rfl, rfl, rfl, rfl, rfl, rfl, rfl, rfl, rfl⟩, rfl⟩⟩⟩
              · have d0 : (bt u z == 34) = false := beq_eq_false_iff_ne.mpr y0
                have n0 : E ≠ z := fun e => y0 (by rw [← e]; exact hE0)
                clear y0
                by_cases y1 : bt u (z + 1) = 34
                · have d1 : (bt u (z + 1) == 34) = true := by rw [y1]; rfl
                  have hle : z + 1 ≤ E := by omega
                  have HL := Aside0.mk (And.intro hle y1)
                  clear hle y1 hE0 hZ0 n0
                  go_wp2_with fail
                  go_step3
                  simp only [Exit.then, Exit.inBlock]
                  refine j_goto hQ2 ?_
                  exact ⟨(4 * (E - (z + 1)) + 2).toNat, by have := HX1.out; have := HZ.out; have := HL.out.1; omega, .inl ⟨rfl, rfl, (z + 1), ⟨by have := HX1.out; have := HZ.out; omega, by have := HL.out.1; omega, by have := HL.out.1; omega, HL.out.2⟩, ⟨⟨rfl, rfl, rfl, rfl, rfl, rfl, rfl, rfl, rfl, rfl, rfl, rfl, rfl, rfl, rfl, rfl⟩, rfl⟩⟩⟩
                · have d1 : (bt u (z + 1) == 34) = false := beq_eq_false_iff_ne.mpr y1
                  have n1 : E ≠ (z + 1) := fun e => y1 (by rw [← e]; exact hE0)
                  clear y1
                  by_cases y2 : bt u (z + 2) = 34
                  · have d2 : (bt u (z + 2) == 34) = true := by rw [y2]; rfl
                    have hle : z + 2 ≤ E := by omega
                    have HL := Aside0.mk (And.intro hle y2)
                    clear hle y2 hE0 hZ0 n0 n1
                    go_wp2_with fail
                    go_step3
                    simp only [Exit.then, Exit.inBlock]
                    refine j_goto hQ2 ?_
                    exact ⟨(4 * (E - (z + 2)) + 2).toNat, by have := HX1.out; have := HZ.out; have := HL.out.1; omega, .inl ⟨rfl, rfl, (z + 2), ⟨by have := HX1.out; have := HZ.out; omega, by have := HL.out.1; omega, by have := HL.out.1; omega, HL.out.2⟩, ⟨⟨rfl, rfl, rfl, rfl, rfl, rfl, rfl, rfl, rfl, rfl, rfl, rfl, rfl, rfl, rfl, rfl⟩, rfl⟩⟩⟩
                  · have d2 : (bt u (z + 2) == 34) = false := beq_eq_false_iff_ne.mpr y2
                    have n2 : E ≠ (z + 2) := fun e => y2 (by rw [← e]; exact hE0)
                    clear y2
                    by_cases y3 : bt u (z + 3) = 34
                    · have d3 : (bt u (z + 3) == 34) = true := by rw [y3]; rfl
                      have hle : z + 3 ≤ E := by omega
                      have HL := Aside0.mk (And.intro hle y3)
                      clear hle y3 hE0 hZ0 n0 n1 n2
                      go_wp2_with fail
                      go_step3
                      simp only [Exit.then, Exit.inBlock]
                      refine j_goto hQ2 ?_
                      exact ⟨(4 * (E - (z + 3)) + 2).toNat, by have := HX1.out; have := HZ.out; have := HL.out.1; omega, .inl ⟨rfl, rfl, (z + 3), ⟨by have := HX1.out; have := HZ.out; omega, by have := HL.out.1; omega, by have := HL.out.1; omega, HL.out.2⟩, ⟨⟨rfl, rfl, rfl, rfl, rfl, rfl, rfl, rfl, rfl, rfl, rfl, rfl, rfl, rfl, rfl, rfl⟩, rfl⟩⟩⟩
                    · have d3 : (bt u (z + 3) == 34) = false := beq_eq_false_iff_ne.mpr y3
                      have n3 : E ≠ (z + 3) := fun e => y3 (by rw [← e]; exact hE0)
                      clear y3
                      by_cases y4 : bt u (z + 4) = 34
                      · have d4 : (bt u (z + 4) == 34) = true := by rw [y4]; rfl
                        have hle : z + 4 ≤ E := by omega
                        have HL := Aside0.mk (And.intro hle y4)
                        clear hle y4 hE0 hZ0 n0 n1 n2 n3
                        go_wp2_with fail
                        go_step3
                        simp only [Exit.then, Exit.inBlock]
                        refine j_goto hQ2 ?_
                        exact ⟨(4 * (E - (z + 4)) + 2).toNat, by have := HX1.out; have := HZ.out; have := HL.out.1; omega, .inl ⟨rfl, rfl, (z + 4), ⟨by have := HX1.out; have := HZ.out; omega, by have := HL.out.1; omega, by have := HL.out.1; omega, HL.out.2⟩, ⟨⟨rfl, rfl, rfl, rfl, rfl, rfl, rfl, rfl, rfl, rfl, rfl, rfl, rfl, rfl, rfl, rfl⟩, rfl⟩⟩⟩
                      · have d4 : (bt u (z + 4) == 34) = false := beq_eq_false_iff_ne.mpr y4
                        have n4 : E ≠ (z + 4) := fun e => y4 (by rw [← e]; exact hE0)
                        clear y4
                        by_cases y5 : bt u (z + 5) = 34
                        · have d5 : (bt u (z + 5) == 34) = true := by rw [y5]; rfl
                          have hle : z + 5 ≤ E := by omega
                          have HL := Aside0.mk (And.intro hle y5)
                          clear hle y5 hE0 hZ0 n0 n1 n2 n3 n4
                          go_wp2_with fail
                          go_step3
                          simp only [Exit.then, Exit.inBlock]
                          refine j_goto hQ2 ?_
                          exact ⟨(4 * (E - (z + 5)) + 2).toNat, by have := HX1.out; have := HZ.out; have := HL.out.1; omega, .inl ⟨rfl, rfl, (z + 5), ⟨by have := HX1.out; have := HZ.out; omega, by have := HL.out.1; omega, by have := HL.out.1; omega, HL.out.2⟩, ⟨⟨rfl, rfl, rfl, rfl, rfl, rfl, rfl, rfl, rfl, rfl, rfl, rfl, rfl, rfl, rfl, rfl⟩, rfl⟩⟩⟩
                        · have d5 : (bt u (z + 5) == 34) = false := beq_eq_false_iff_ne.mpr y5
                          have n5 : E ≠ (z + 5) := fun e => y5 (by rw [← e]; exact hE0)
                          clear y5
                          by_cases y6 : bt u (z + 6) = 34
                          · have d6 : (bt u (z + 6) == 34) = true := by rw [y6]; rfl
                            have hle : z + 6 ≤ E := by omega
                            have HL := Aside0.mk (And.intro hle y6)
                            clear hle y6 hE0 hZ0 n0 n1 n2 n3 n4 n5
                            go_wp2_with fail
                            go_step3
                            simp only [Exit.then, Exit.inBlock]
                            refine j_goto hQ2 ?_
                            exact ⟨(4 * (E - (z + 6)) + 2).toNat, by have := HX1.out; have := HZ.out; have := HL.out.1; omega, .inl ⟨rfl, rfl, (z + 6), ⟨by have := HX1.out; have := HZ.out; omega, by have := HL.out.1; omega, by have := HL.out.1; omega, HL.out.2⟩, ⟨⟨rfl, rfl, rfl, rfl, rfl, rfl, rfl, rfl, rfl, rfl, rfl, rfl, rfl, rfl, rfl, rfl⟩, rfl⟩⟩⟩
                          · have d6 : (bt u (z + 6) == 34) = false := beq_eq_false_iff_ne.mpr y6
                            have n6 : E ≠ (z + 6) := fun e => y6 (by rw [← e]; exact hE0)
                            clear y6
                            by_cases y7 : bt u (z + 7) = 34
                            · have d7 : (bt u (z + 7) == 34) = true := by rw [y7]; rfl
                              have hle : z + 7 ≤ E := by omega
                              have HL := Aside0.mk (And.intro hle y7)
                              clear hle y7 hE0 hZ0 n0 n1 n2 n3 n4 n5 n6
                              go_wp2_with fail
                              go_step3
                              simp only [Exit.then, Exit.inBlock]
                              refine j_goto hQ2 ?_
                              exact ⟨(4 * (E - (z + 7)) + 2).toNat, by have := HX1.out; have := HZ.out; have := HL.out.1; omega, .inl ⟨rfl, rfl, (z + 7), ⟨by have := HX1.out; have := HZ.out; omega, by have := HL.out.1; omega, by have := HL.out.1; omega, HL.out.2⟩, ⟨⟨rfl, rfl, rfl, rfl, rfl, rfl, rfl, rfl, rfl, rfl, rfl, rfl, rfl, rfl, rfl, rfl⟩, rfl⟩⟩⟩
                            · have d7 : (bt u (z + 7) == 34) = false := beq_eq_false_iff_ne.mpr y7
                              have n7 : E ≠ (z + 7) := fun e => y7 (by rw [← e]; exact hE0)
                              clear y7
                              have hle : z + 8 ≤ E := by omega
                              have HL := Aside0.mk hle
                              clear hle hE0 hZ0 n0 n1 n2 n3 n4 n5 n6 n7
                              go_wp2_with fail
                              go_roundg ((u.size : Int) - (z + 8)).toNat
                              case measure => have := HZ.out; have := HL.out; have := HE.out.lt; omega
                              case rel => exact ⟨z + 8, rfl, ⟨by have := HZ.out; have := HL.out; omega⟩, rfl⟩
            · have g0 : (z < (u.size : Int) - 8) = False := eq_false h8
              have g1 : decide (z < (u.size : Int) - 8) = false := decide_eq_false h8
              clear h8
              go_wp2_with fail
              go_step3
              simp only [Exit.then, Exit.inBlock]
              refine j_goto hQ2 ?_
              exact ⟨(4 * (E - z) + 1).toNat, by have := HX1.out; have := HZ.out; omega, .inr (.inr ⟨rfl, rfl, z, ⟨by have := HX1.out; have := HZ.out; omega⟩, ⟨⟨rfl, rfl, rfl, rfl, rfl, rfl, rfl, rfl, rfl, rfl, rfl, rfl, rfl, rfl, rfl, rfl⟩, rfl⟩⟩)⟩
        case q3 =>
          intro k a w' hJ
          obtain ⟨hw', x, HX1, hA⟩ := hJ
          subst w'
          obtain ⟨V, rfl⟩ := hA.form
          clear hA
          generalize hQ2 : ExitJ _ _ = QQ
          go_wp2_with fail
          go_loopg [1] u.size (fun kq x1 wr => ∃ (z : Int), x1 = .int .i64 z ∧ Aside0 (x ≤ z ∧ z ≤ E ∧ (kq : Int) ≥ (u.size : Int) - z) ∧ wr = w)
          case atStart => exact ⟨x, rfl, ⟨by have := HX1.out; have := HE.out.lo; have := HE.out.lt; omega⟩, rfl⟩
          case round =>
            obtain ⟨z, rfl, HZ, hwr⟩ := hrel
            subst wr
            have z0 : (1 : Int) ≤ z := by have := HX1.out; have := HZ.out; have := HE.out.lo; omega
            have z1 : z ≤ 200000 := by have := HZ.out; have := HE.out.lt; omega
            have hlz : z < (u.size : Int) := by have := HZ.out; have := HE.out.lt; omega
            have q1 : (z < (u.size : Int)) = True := eq_true hlz
            have q2 : decide (z < (u.size : Int)) = true := decide_eq_true hlz
            have hx3 := bt_at u z
            have HLZ := Aside0.mk hlz
            clear hlz
            by_cases c34 : bt u z = 34
            · have e3 : (bt u z != 34) = false := by rw [c34]; rfl
              have d2 : decide (92 < bt u z) = false := by rw [c34]; rfl
              have a1 : (0 ≤ z - 1) = True := eq_true (by omega)
              have a2 : (z - 1 < (u.size : Int)) = True := eq_true (by have := HLZ.out; omega)
              have hx4 : ∀ h : z.toNat - 1 < u.size, ((u[z.toNat - 1]'h).toNat : Int) = bt u (z - 1) := fun h => by have h2 := bt_at u (z - 1); rw [show (z - 1).toNat = z.toNat - 1 by omega] at h2; exact h2 h
              have a3 : ¬ (z < 1) := by omega
              by_cases cb : bt u (z - 1) = 92
              · have e4 : (bt u (z - 1) == 92) = true := by rw [cb]; rfl
                have hzs : s2 + 1 ≤ z := by
                  have h1 := HE.out.q0
                  have h2 : z - 1 ≠ s2 - 1 := fun h => by rw [← h, cb] at h1; exact absurd h1 (by decide)
                  have := HX1.out; have := HZ.out; omega
                have HZS := Aside0.mk hzs
                have HBS : Aside0 (bsn u (z - 1) = 1 + bsn u (z - 2)) := ⟨by
                  have h1 := bsn_step (u := u) (x := z - 1) (by have := HE.out.lo; omega) cb
                  rw [show z - 1 - 1 = z - 2 by omega] at h1
                  exact h1⟩
                have HC34 := Aside0.mk c34
                clear c34 cb hzs
                go_wp2_with fail
                clear hx3 hx4
                go_loopg [12, 13] u.size (fun kq x12 x13 wr3 => ∃ (n v : Int), x12 = .int .i64 n ∧ x13 = .int .i64 v ∧ Aside0 (s2 - 1 ≤ v ∧ v < z ∧ (kq : Int) ≥ v ∧ 0 ≤ n ∧ n + v ≤ z) ∧ Aside0 (n + bsn u v = bsn u (z - 2)) ∧ wr3 = w)
                case atStart => exact ⟨0, z - 2, rfl, rfl, ⟨by have := HZ.out; have := HLZ.out; have := HZS.out; omega⟩, ⟨by omega⟩, rfl⟩
                case round =>
                  obtain ⟨n, v, rfl, rfl, HV, HN, hwr⟩ := hrel
                  subst wr
                  have hx3 := bt_at u v
                  have hs1 := HE.out.lo
                  have w0 : (0 : Int) ≤ v := by have := HV.out; omega
                  have w1 : v ≤ 200000 := by have := HV.out; omega
                  have w2 : (0 : Int) ≤ n := by have := HV.out; omega
                  have w3 : n ≤ 200000 := by have := HV.out; omega
                  have w4 : (v < (u.size : Int)) = True := eq_true (by have := HV.out; have := HLZ.out; omega)
                  have w5 : s2 ≤ 200000 := by have := HV.out; omega
                  have fin : n = bsn u (z - 2) → (Int.tmod n 2 = 0 ∧ z ≠ E) ∨ (Int.tmod n 2 = 1 ∧ z = E) := fun hn => by
                    rw [Int.tmod_eq_emod_of_nonneg w2]
                    by_cases e : z = E
                    · have h1 := HE.out.even
                      rw [← e, HBS.out] at h1
                      exact .inr ⟨by omega, e⟩
                    · have h1 := HE.out.odd z (by have := HX1.out; have := HZ.out; omega) (by have := HZ.out; omega) HC34.out
                      rw [HBS.out] at h1
                      exact .inl ⟨by omega, e⟩
                  by_cases c93 : s2 - 1 < v
                  · have HC := Aside0.mk c93
                    have d3 : decide (s2 - 1 < v) = true := decide_eq_true c93
                    by_cases c94 : bt u v = 92
                    · have d4 : (bt u v != 92) = false := by rw [c94]; rfl
                      have HC94 := Aside0.mk c94
                      clear c93 c94 fin
                      go_wp2_with fail
                      go_roundg (v - 1).toNat
                      case measure => have := HV.out; have := HC.out; omega
                      case rel => exact ⟨n + 1, v - 1, (by first | rfl | (congr 1; omega)), (by first | rfl | (congr 1; omega)), ⟨by have := HV.out; have := HC.out; omega⟩, ⟨by rw [← HN.out, bsn_step (by have := HC.out; omega) HC94.out]; omega⟩, rfl⟩
                    · have d4 : (bt u v != 92) = true := bne_iff_ne.mpr c94
                      have hn : n = bsn u (z - 2) := by have h := HN.out; rw [bsn_stop c94] at h; omega
                      rcases fin hn with ⟨f1, hxq⟩ | ⟨f1, hxq⟩
                      · have HXQ := Aside0.mk hxq
                        clear c93 c94 fin hn hxq
                        go_wp2_with fail
                        go_step3
                        simp only [Exit.then, Exit.inBlock]
                        refine j_goto hQ2 ?_
                        exact ⟨(4 * (E - (z + 1)) + 3).toNat, by have := HX1.out; have := HZ.out; have := HXQ.out; omega, .inr (.inl ⟨rfl, rfl, z + 1, ⟨by have := HX1.out; have := HZ.out; have := HXQ.out; omega⟩, ⟨⟨rfl, rfl, rfl, rfl, rfl, rfl, rfl, rfl, rfl, rfl, rfl, rfl, rfl, rfl, rfl, rfl⟩, rfl⟩⟩)⟩
                      · subst hxq
                        clear c93 c94 fin hn
                        go_wp2_with fail
                        refine j_other hQ2 (by intro l h; cases h) ?_
                        clear hQ2
                        simp only [Exit.inBlock, Exit.then, reduceIte]
                        go_wp2_with fail
                        refine j_other hQ (by intro l h; cases h) ?_
                        clear hQ
                        simp only [Exit.inBlock, Exit.then, reduceIte]
                        go_wp2_with fail
                        go_roundg ((u.size : Int) - (z + 1)).toNat
                        case measure => have := HX.out; have := HF.out; have := Run.size HF.out.1; have := HE.out.le; have := HE.out.lt; have := HS2.out; omega
                        case rel => exact ⟨z + 1, e, rfl, rfl, ⟨HRE.out, by have := HF.out; have := HX.out; have := HE.out.le; have := HS2.out; omega, by omega⟩, rfl⟩
                  · have d3 : decide (s2 - 1 < v) = false := decide_eq_false c93
                    have hv : v = s2 - 1 := by have := HV.out; omega
                    have hn : n = bsn u (z - 2) := by have h := HN.out; rw [bsn_stop (by rw [hv, HE.out.q0]; decide)] at h; omega
                    rcases fin hn with ⟨f1, hxq⟩ | ⟨f1, hxq⟩
                    · have HXQ := Aside0.mk hxq
                      clear c93 fin hn hxq hv
                      go_wp2_with fail
                      go_step3
                      simp only [Exit.then, Exit.inBlock]
                      refine j_goto hQ2 ?_
                      exact ⟨(4 * (E - (z + 1)) + 3).toNat, by have := HX1.out; have := HZ.out; have := HXQ.out; omega, .inr (.inl ⟨rfl, rfl, z + 1, ⟨by have := HX1.out; have := HZ.out; have := HXQ.out; omega⟩, ⟨⟨rfl, rfl, rfl, rfl, rfl, rfl, rfl, rfl, rfl, rfl, rfl, rfl, rfl, rfl, rfl, rfl⟩, rfl⟩⟩)⟩
                    · subst hxq
                      clear c93 fin hn hv
                      go_wp2_with fail
                      refine j_other hQ2 (by intro l h; cases h) ?_
                      clear hQ2
                      simp only [Exit.inBlock, Exit.then, reduceIte]
                      go_wp2_with fail
                      refine j_other hQ (by intro l h; cases h) ?_
                      clear hQ
                      simp only [Exit.inBlock, Exit.then, reduceIte]
                      go_wp2_with fail
                      go_roundg ((u.size : Int) - (z + 1)).toNat
                      case measure => have := HX.out; have := HF.out; have := Run.size HF.out.1; have := HE.out.le; have := HE.out.lt; have := HS2.out; omega
                      case rel => exact ⟨z + 1, e, rfl, rfl, ⟨HRE.out, by have := HF.out; have := HX.out; have := HE.out.le; have := HS2.out; omega, by omega⟩, rfl⟩
              · have e4 : (bt u (z - 1) == 92) = false := beq_eq_false_iff_ne.mpr cb
                have hxq : z = E := Decidable.byContradiction fun h => by
                  have := HE.out.odd z (by have := HX1.out; have := HZ.out; omega) (by have := HZ.out; omega) c34
                  rw [bsn_stop cb] at this
                  omega
                subst hxq
                clear c34 cb
                go_wp2_with fail
                refine j_other hQ2 (by intro l h; cases h) ?_
                clear hQ2
                simp only [Exit.inBlock, Exit.then, reduceIte]
                go_wp2_with fail
                refine j_other hQ (by intro l h; cases h) ?_
                clear hQ
                simp only [Exit.inBlock, Exit.then, reduceIte]
                go_wp2_with fail
                go_roundg ((u.size : Int) - (z + 1)).toNat
                case measure => have := HX.out; have := HF.out; have := Run.size HF.out.1; have := HE.out.le; have := HE.out.lt; have := HS2.out; omega
                case rel => exact ⟨z + 1, e, rfl, rfl, ⟨HRE.out, by have := HF.out; have := HX.out; have := HE.out.le; have := HS2.out; omega, by omega⟩, rfl⟩
            · have e3 : (bt u z != 34) = true := bne_iff_ne.mpr c34
              have hn : z ≠ E := fun e => c34 (by rw [e]; exact HE.out.q)
              have HN := Aside0.mk hn
              clear hn
              by_cases c92 : 92 < bt u z
              · have d2 : decide (92 < bt u z) = true := decide_eq_true c92
                clear c34 c92
                go_wp2_with fail
                go_roundg ((u.size : Int) - (z + 1)).toNat
                case measure => have := HZ.out; have := HLZ.out; omega
                case rel => exact ⟨z + 1, rfl, ⟨by have := HZ.out; have := HN.out; omega⟩, rfl⟩
              · have d2 : decide (92 < bt u z) = false := decide_eq_false c92
                clear c34 c92
                go_wp2_with fail
                go_roundg ((u.size : Int) - (z + 1)).toNat
                case measure => have := HZ.out; have := HLZ.out; omega
                case rel => exact ⟨z + 1, rfl, ⟨by have := HZ.out; have := HN.out; omega⟩, rfl⟩
      · subst hc
        obtain ⟨⟨hd1, hd2⟩, hr⟩ := Run.three HF.out.1 HF.out.2.1.symm
        have HD := Aside0.mk hr
        have d1 : (e + 1 == 0) = false := beq_eq_false_iff_ne.mpr (by omega)
        clear hr
        go_wp2_with fail
        refine j_other hQ (by intro l h; cases h) ?_
        clear hQ
        simp only [Exit.inBlock, Exit.then, reduceIte]
        go_wp2_with fail
        go_roundg ((u.size : Int) - (y + 1)).toNat
        case measure => have := HX.out; have := HF.out; have := Run.size HF.out.1; omega
        case rel => exact ⟨y + 1, e + 1, rfl, (by first | rfl | (congr 1; omega)), ⟨HD.out, by have := HF.out; have := HX.out; omega, by omega⟩, rfl⟩
    case first =>
      intro hS
      generalize hQ : ExitJ _ _ = Q1 at hS ⊢
      go_wp2_with fail
      go_loopg [1, 8] u.size (fun kq x1 x8 wr => ∃ (y : Int), x1 = .int .i64 y ∧ Aside0 (Run u J y d ∧ x ≤ y ∧ (kq : Int) ≥ (u.size : Int) - y) ∧ wr = w)
      case atStart => exact ⟨x, rfl, ⟨HX.out.1, Int.le_refl _, by omega⟩, rfl⟩
      case round =>
        obtain ⟨y, rfl, HY, hwr⟩ := hrel
        subst wr
        have s1 := Run.size HY.out.1
        have r1 : (0 : Int) ≤ y := s1.2
        have r2 : y ≤ 200000 := by have := HS.out; omega
        have r3 := HS.out
        clear p1 p2 p4 q1 q2 s1
        by_cases h8 : y < (u.size : Int) - 8
        · have g0 : (y < (u.size : Int) - 8) = True := eq_true h8
          have g1 : decide (y < (u.size : Int) - 8) = true := decide_eq_true h8
          have g2 : (y + 8 ≤ (u.size : Int)) = True := eq_true (by omega)
          have g3 : (y ≤ (u.size : Int)) = True := eq_true (by omega)
          have g4 : (y ≤ y + 8) = True := eq_true (by omega)
          have g5 : (0 ≤ y + 8) = True := eq_true (by omega)
          have g6 : y + 8 ≤ 200000 := by omega
          obtain ⟨js, hjs⟩ : ∃ js, u.extract y.toNat (y + 8).toNat = js := ⟨_, rfl⟩
          have hjz : js.size = 8 := by rw [← hjs, ByteArray.size_extract]; omega
          have hjb : ∀ k : Nat, k < 8 → bt js (k : Int) = bt u (y + (k : Int)) := fun k hk => by
            rw [← hjs]
            obtain ⟨n, rfl⟩ : ∃ n : Nat, y = n := ⟨y.toNat, by omega⟩
            have := Bt.bt_extract (s := u) (a := n) (b := n + 8) (by omega) (j := k) (by omega)
            rw [show ((n : Int)).toNat = n by omega, show ((n : Int) + 8).toNat = n + 8 by omega, this]
            congr 1
          have v0 : ∀ h : 0 < js.size, ((js[0]'h).toNat : Int) = bt u y := fun h => (Bt.bt_in h).symm.trans ((hjb 0 (by decide)).trans (by rw [show y + ((0 : Nat) : Int) = y by omega]))
          have b0 := bt_range u y
          have l0 : 0 ≤ bt u y := b0.1
          have m0 : bt u y < 256 := by omega
          have t0 := HT.out.at l0 m0
          obtain ⟨c0, hc0⟩ : ∃ c, vch (bt u y) = c := ⟨_, rfl⟩
          rw [hc0] at t0
          have HC0 := Aside0.mk hc0
          have v1 : ∀ h : 1 < js.size, ((js[1]'h).toNat : Int) = bt u (y + 1) := fun h => (Bt.bt_in h).symm.trans (hjb 1 (by decide))
          have b1 := bt_range u (y + 1)
          have l1 : 0 ≤ bt u (y + 1) := b1.1
          have m1 : bt u (y + 1) < 256 := by omega
          have t1 := HT.out.at l1 m1
          obtain ⟨c1, hc1⟩ : ∃ c, vch (bt u (y + 1)) = c := ⟨_, rfl⟩
          rw [hc1] at t1
          have HC1 := Aside0.mk hc1
          have v2 : ∀ h : 2 < js.size, ((js[2]'h).toNat : Int) = bt u (y + 2) := fun h => (Bt.bt_in h).symm.trans (hjb 2 (by decide))
          have b2 := bt_range u (y + 2)
          have l2 : 0 ≤ bt u (y + 2) := b2.1
          have m2 : bt u (y + 2) < 256 := by omega
          have t2 := HT.out.at l2 m2
          obtain ⟨c2, hc2⟩ : ∃ c, vch (bt u (y + 2)) = c := ⟨_, rfl⟩
          rw [hc2] at t2
          have HC2 := Aside0.mk hc2
          have v3 : ∀ h : 3 < js.size, ((js[3]'h).toNat : Int) = bt u (y + 3) := fun h => (Bt.bt_in h).symm.trans (hjb 3 (by decide))
          have b3 := bt_range u (y + 3)
          have l3 : 0 ≤ bt u (y + 3) := b3.1
          have m3 : bt u (y + 3) < 256 := by omega
          have t3 := HT.out.at l3 m3
          obtain ⟨c3, hc3⟩ : ∃ c, vch (bt u (y + 3)) = c := ⟨_, rfl⟩
          rw [hc3] at t3
          have HC3 := Aside0.mk hc3
          have v4 : ∀ h : 4 < js.size, ((js[4]'h).toNat : Int) = bt u (y + 4) := fun h => (Bt.bt_in h).symm.trans (hjb 4 (by decide))
          have b4 := bt_range u (y + 4)
          have l4 : 0 ≤ bt u (y + 4) := b4.1
          have m4 : bt u (y + 4) < 256 := by omega
          have t4 := HT.out.at l4 m4
          obtain ⟨c4, hc4⟩ : ∃ c, vch (bt u (y + 4)) = c := ⟨_, rfl⟩
          rw [hc4] at t4
          have HC4 := Aside0.mk hc4
          have v5 : ∀ h : 5 < js.size, ((js[5]'h).toNat : Int) = bt u (y + 5) := fun h => (Bt.bt_in h).symm.trans (hjb 5 (by decide))
          have b5 := bt_range u (y + 5)
          have l5 : 0 ≤ bt u (y + 5) := b5.1
          have m5 : bt u (y + 5) < 256 := by omega
          have t5 := HT.out.at l5 m5
          obtain ⟨c5, hc5⟩ : ∃ c, vch (bt u (y + 5)) = c := ⟨_, rfl⟩
          rw [hc5] at t5
          have HC5 := Aside0.mk hc5
          have v6 : ∀ h : 6 < js.size, ((js[6]'h).toNat : Int) = bt u (y + 6) := fun h => (Bt.bt_in h).symm.trans (hjb 6 (by decide))
          have b6 := bt_range u (y + 6)
          have l6 : 0 ≤ bt u (y + 6) := b6.1
          have m6 : bt u (y + 6) < 256 := by omega
          have t6 := HT.out.at l6 m6
          obtain ⟨c6, hc6⟩ : ∃ c, vch (bt u (y + 6)) = c := ⟨_, rfl⟩
          rw [hc6] at t6
          have HC6 := Aside0.mk hc6
          have v7 : ∀ h : 7 < js.size, ((js[7]'h).toNat : Int) = bt u (y + 7) := fun h => (Bt.bt_in h).symm.trans (hjb 7 (by decide))
          have b7 := bt_range u (y + 7)
          have l7 : 0 ≤ bt u (y + 7) := b7.1
          have m7 : bt u (y + 7) < 256 := by omega
          have t7 := HT.out.at l7 m7
          obtain ⟨c7, hc7⟩ : ∃ c, vch (bt u (y + 7)) = c := ⟨_, rfl⟩
          rw [hc7] at t7
          have HC7 := Aside0.mk hc7
          have HR0 := HY.out.1
          skip
          replace HR0 := Aside0.mk HR0
          clear h8 hjb b0 hc0 b1 hc1 b2 hc2 b3 hc3 b4 hc4 b5 hc5 b6 hc6 b7 hc7
          by_cases z0 : c0 ≠ 0
          · have d0 : (c0 == 0) = false := beq_eq_false_iff_ne.mpr z0
            have e0 : (c0 != 0) = true := bne_iff_ne.mpr z0
            have HZ := Aside0.mk z0
            clear z0
            go_wp2_with fail
            go_step3
            simp only [Exit.then, Exit.inBlock]
            refine j_goto hQ ?_
            exact ⟨0, rfl, rfl, y, d, c0, ⟨HR0.out, HC0.out.symm, HZ.out, by have := HY.out; have := HX.out; omega⟩, ⟨rfl, rfl, rfl, rfl, rfl, rfl, rfl, rfl, rfl, rfl, rfl, rfl, rfl, rfl, rfl, rfl⟩⟩
          · obtain rfl : c0 = 0 := by simpa using z0
            have HR1 := Aside0.mk (Run.zero HR0.out HC0.out)
            skip
            clear z0
            by_cases z1 : c1 ≠ 0
            · have d1 : (c1 == 0) = false := beq_eq_false_iff_ne.mpr z1
              have e1 : (c1 != 0) = true := bne_iff_ne.mpr z1
              have HZ := Aside0.mk z1
              clear z1
              go_wp2_with fail
              go_step3
              simp only [Exit.then, Exit.inBlock]
              refine j_goto hQ ?_
              exact ⟨0, rfl, rfl, y + 1, d, c1, ⟨HR1.out, HC1.out.symm, HZ.out, by have := HY.out; have := HX.out; omega⟩, ⟨rfl, rfl, rfl, rfl, rfl, rfl, rfl, rfl, rfl, rfl, rfl, rfl, rfl, rfl, rfl, rfl⟩⟩
            · obtain rfl : c1 = 0 := by simpa using z1
              have HR2 := Aside0.mk (Run.zero HR1.out HC1.out)
              rw [show y + 1 + 1 = y + 2 by omega] at HR2
              clear z1
              by_cases z2 : c2 ≠ 0
              · have d2 : (c2 == 0) = false := beq_eq_false_iff_ne.mpr z2
                have e2 : (c2 != 0) = true := bne_iff_ne.mpr z2
                have HZ := Aside0.mk z2
                clear z2
                go_wp2_with fail
                go_step3
                simp only [Exit.then, Exit.inBlock]
                refine j_goto hQ ?_
                exact ⟨0, rfl, rfl, y + 2, d, c2, ⟨HR2.out, HC2.out.symm, HZ.out, by have := HY.out; have := HX.out; omega⟩, ⟨rfl, rfl, rfl, rfl, rfl, rfl, rfl, rfl, rfl, rfl, rfl, rfl, rfl, rfl, rfl, rfl⟩⟩
              · obtain rfl : c2 = 0 := by simpa using z2
                have HR3 := Aside0.mk (Run.zero HR2.out HC2.out)
                rw [show y + 2 + 1 = y + 3 by omega] at HR3
                clear z2
                by_cases z3 : c3 ≠ 0
                · have d3 : (c3 == 0) = false := beq_eq_false_iff_ne.mpr z3
                  have e3 : (c3 != 0) = true := bne_iff_ne.mpr z3
                  have HZ := Aside0.mk z3
                  clear z3
                  go_wp2_with fail
                  go_step3
                  simp only [Exit.then, Exit.inBlock]
                  refine j_goto hQ ?_
                  exact ⟨0, rfl, rfl, y + 3, d, c3, ⟨HR3.out, HC3.out.symm, HZ.out, by have := HY.out; have := HX.out; omega⟩, ⟨rfl, rfl, rfl, rfl, rfl, rfl, rfl, rfl, rfl, rfl, rfl, rfl, rfl, rfl, rfl, rfl⟩⟩
                · obtain rfl : c3 = 0 := by simpa using z3
                  have HR4 := Aside0.mk (Run.zero HR3.out HC3.out)
                  rw [show y + 3 + 1 = y + 4 by omega] at HR4
                  clear z3
                  by_cases z4 : c4 ≠ 0
                  · have d4 : (c4 == 0) = false := beq_eq_false_iff_ne.mpr z4
                    have e4 : (c4 != 0) = true := bne_iff_ne.mpr z4
                    have HZ := Aside0.mk z4
                    clear z4
                    go_wp2_with fail
                    go_step3
                    simp only [Exit.then, Exit.inBlock]
                    refine j_goto hQ ?_
                    exact ⟨0, rfl, rfl, y + 4, d, c4, ⟨HR4.out, HC4.out.symm, HZ.out, by have := HY.out; have := HX.out; omega⟩, ⟨rfl, rfl, rfl, rfl, rfl, rfl, rfl, rfl, rfl, rfl, rfl, rfl, rfl, rfl, rfl, rfl⟩⟩
                  · obtain rfl : c4 = 0 := by simpa using z4
                    have HR5 := Aside0.mk (Run.zero HR4.out HC4.out)
                    rw [show y + 4 + 1 = y + 5 by omega] at HR5
                    clear z4
                    by_cases z5 : c5 ≠ 0
                    · have d5 : (c5 == 0) = false := beq_eq_false_iff_ne.mpr z5
                      have e5 : (c5 != 0) = true := bne_iff_ne.mpr z5
                      have HZ := Aside0.mk z5
                      clear z5
                      go_wp2_with fail
                      go_step3
                      simp only [Exit.then, Exit.inBlock]
                      refine j_goto hQ ?_
                      exact ⟨0, rfl, rfl, y + 5, d, c5, ⟨HR5.out, HC5.out.symm, HZ.out, by have := HY.out; have := HX.out; omega⟩, ⟨rfl, rfl, rfl, rfl, rfl, rfl, rfl, rfl, rfl, rfl, rfl, rfl, rfl, rfl, rfl, rfl⟩⟩
                    · obtain rfl : c5 = 0 := by simpa using z5
                      have HR6 := Aside0.mk (Run.zero HR5.out HC5.out)
                      rw [show y + 5 + 1 = y + 6 by omega] at HR6
                      clear z5
                      by_cases z6 : c6 ≠ 0
                      · have d6 : (c6 == 0) = false := beq_eq_false_iff_ne.mpr z6
                        have e6 : (c6 != 0) = true := bne_iff_ne.mpr z6
                        have HZ := Aside0.mk z6
                        clear z6
                        go_wp2_with fail
                        go_step3
                        simp only [Exit.then, Exit.inBlock]
                        refine j_goto hQ ?_
                        exact ⟨0, rfl, rfl, y + 6, d, c6, ⟨HR6.out, HC6.out.symm, HZ.out, by have := HY.out; have := HX.out; omega⟩, ⟨rfl, rfl, rfl, rfl, rfl, rfl, rfl, rfl, rfl, rfl, rfl, rfl, rfl, rfl, rfl, rfl⟩⟩
                      · obtain rfl : c6 = 0 := by simpa using z6
                        have HR7 := Aside0.mk (Run.zero HR6.out HC6.out)
                        rw [show y + 6 + 1 = y + 7 by omega] at HR7
                        clear z6
                        by_cases z7 : c7 ≠ 0
                        · have d7 : (c7 == 0) = false := beq_eq_false_iff_ne.mpr z7
                          have e7 : (c7 != 0) = true := bne_iff_ne.mpr z7
                          have HZ := Aside0.mk z7
                          clear z7
                          go_wp2_with fail
                          go_step3
                          simp only [Exit.then, Exit.inBlock]
                          refine j_goto hQ ?_
                          exact ⟨0, rfl, rfl, y + 7, d, c7, ⟨HR7.out, HC7.out.symm, HZ.out, by have := HY.out; have := HX.out; omega⟩, ⟨rfl, rfl, rfl, rfl, rfl, rfl, rfl, rfl, rfl, rfl, rfl, rfl, rfl, rfl, rfl, rfl⟩⟩
                        · obtain rfl : c7 = 0 := by simpa using z7
                          have HR8 := Aside0.mk (Run.zero HR7.out HC7.out)
                          rw [show y + 7 + 1 = y + 8 by omega] at HR8
                          clear z7
                          go_wp2_with fail
                          go_roundg ((u.size : Int) - (y + 8)).toNat
                          case measure => have := HY.out; have := Run.size HR8.out; omega
                          case rel => exact ⟨y + 8, rfl, ⟨HR8.out, by have := HY.out; omega, by omega⟩, rfl⟩
        · have d1 : (y < (u.size : Int) - 8) = False := eq_false h8
          have d2 : decide (y < (u.size : Int) - 8) = false := decide_eq_false h8
          have hx2 := bt_at u y
          have b := bt_range u y
          have b0 : 0 ≤ bt u y := b.1
          have b1 : bt u y < 256 := by omega
          have t0 := HT.out.at b0 b1
          clear b
          obtain ⟨c, hc⟩ : ∃ c, vch (bt u y) = c := ⟨_, rfl⟩
          rw [hc] at t0
          have q1 : (y < (u.size : Int)) = True := eq_true (Run.size HY.out.1).1
          have q2 : decide (y < (u.size : Int)) = true := decide_eq_true (Run.size HY.out.1).1
          have HC := Aside0.mk hc
          clear h8 hc
          by_cases hc0 : c = 0
          · subst hc0
            go_wp2_with fail
            refine j_other hQ (by intro l h; cases h) ?_
            clear hQ hS
            simp only [Exit.inBlock, Exit.then, reduceIte]
            go_wp2_with fail
            go_roundg ((u.size : Int) - (y + 1)).toNat
            case measure => have := HX.out; have := HY.out; have := Run.size HY.out.1; omega
            case rel => exact ⟨y + 1, d, rfl, rfl, ⟨Run.zero HY.out.1 HC.out, by have := HY.out; have := HX.out; omega, by omega⟩, rfl⟩
          · have d3 : (c == 0) = false := beq_eq_false_iff_ne.mpr hc0
            have HC0 := Aside0.mk hc0
            clear hc0
            go_wp2_with fail
            refine wp_label ?_
            rename_i hK
            exact hK _ _ (hS _ _ ⟨rfl, y, d, c, ⟨HY.out.1, HC.out.symm, HC0.out, by have := HY.out; have := HX.out; omega⟩, ⟨rfl, rfl, rfl, rfl, rfl, rfl, rfl, rfl, rfl, rfl, rfl, rfl, rfl, rfl, rfl, rfl⟩⟩)
end Go.Proofs.YtldfejbmdonaoaaDoor.Lq