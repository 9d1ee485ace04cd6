/- Joined by a program of mine from texts of this claim: At. -/
import Derived.Test.YtldfejbmdonaoaaDoorV27
import Derived.Test.YtldfejbmdonaoaaDoorV28
import Derived.Test.YtldfejbmdonaoaaDoorV29
import Derived.Test.YtldfejbmdonaoaaDoorV32
namespace Go.Proofs.YtldfejbmdonaoaaDoor.At
open Go.RowKit YtldfejbmdonaoaaDoorW.PrintWords YtldfejbmdonaoaaDoorW.PrintLast YtldfejbmdonaoaaDoorW.PrintMore Df Dl De Fr Ax Pf Sc Px Py
set_option linter.unusedVariables false
set_option linter.unusedSimpArgs false
structure Tabs (W : World) (lim : Nat) : Prop where
  cheats : Cheats W lim
  pows : Pows W lim
  info : Info64 W lim
  p10 : P10 W lim
  fp10 : FP10 W lim
  opt : 4 < lim ∧ W.cell? ⟨4, 0, none⟩ = some (.bool true)
theorem Tabs.below {W W' : World} {lim : Nat} (h : Tabs W lim) (hb : Below lim W W') : Tabs W' lim :=
  ⟨h.cheats.below hb, h.pows.below hb, h.info.below hb, h.p10.below hb, h.fp10.below hb, h.opt.1, by rw [hb.cell (p := ⟨_, 0, none⟩) h.opt.1]; exact h.opt.2⟩
theorem Cheats.mono {W : World} {lim lim' : Nat} (h : Cheats W lim) (hl : lim ≤ lim') : Cheats W lim' := by
  obtain ⟨hg, B, o, hB, r⟩ := h.out
  exact ⟨by omega, B, o, by omega, r⟩
theorem Tabs.mono {W : World} {lim lim' : Nat} (h : Tabs W lim) (hl : lim ≤ lim') : Tabs W lim' := by
  obtain ⟨⟨a1, B1, o1, b1, r1⟩, ⟨a2, B2, o2, b2, r2⟩, ⟨a3, r3⟩, ⟨a4, r4⟩, ⟨a5, B5, o5, b5, r5⟩, a6, r6⟩ := h
  exact ⟨⟨by omega, B1, o1, by omega, r1⟩, ⟨by omega, B2, o2, by omega, r2⟩, ⟨by omega, r3⟩, ⟨by omega, r4⟩, ⟨by omega, B5, o5, by omega, r5⟩, by omega, r6⟩
structure NumS (s : ByteArray) : Prop where
  size : (s.size : Int) ≤ 70000
  num : ∃ i, Num0 s i
  us : ∀ x, bt s x ≠ 95
  ex : ∀ x, (bits BinOp.or IntKind.u8 (bt s x) 32 == 120) = false
def ErrW (e : Value) : Prop := e = .nilIface ∨ e = .iface 96 (.int .i64 1) ∨ e = .iface 96 (.int .i64 2)
def Big (x : Nat) : Prop := 4845873199050653696 ≤ x ∧ x < 9218868437227405312
def ExactX (s : ByteArray) (x : Nat) : Prop := (∀ j, IntStr s j → nv s j ((s.size : Int) - j).toNat < 9007199254740992 → (j = 1 → 0 < nv s j ((s.size : Int) - j).toNat) → x = floatOfInt .f64 (if j = 1 then -(nv s j ((s.size : Int) - j).toNat) else nv s j ((s.size : Int) - j).toNat)) ∧ (∀ j, IntStr s j → j = 0 → 9007199254740992 ≤ nv s j ((s.size : Int) - j).toNat → Big x)
def ExactV (s : ByteArray) (x : Nat) (n : Int) (er : Value) : Prop := (∀ j, IntStr s j → nv s j ((s.size : Int) - j).toNat < 9007199254740992 → (j = 1 → 0 < nv s j ((s.size : Int) - j).toNat) →
  x = floatOfInt .f64 (if j = 1 then -(nv s j ((s.size : Int) - j).toNat) else nv s j ((s.size : Int) - j).toNat) ∧ n = (s.size : Int) ∧ er = .nilIface) ∧ (∀ j, IntStr s j → j = 0 → 9007199254740992 ≤ nv s j ((s.size : Int) - j).toNat → Big x ∧ n = (s.size : Int) ∧ er = .nilIface)
def AtPost (s : ByteArray) (w : World) (e : Ending) (w' : World) : Prop := ∃ (x : Nat) (n : Int) (er : Value), e = .returned (.tuple #[.float .f64 x, .int .i64 n, er]) ∧ (ErrW er ∧ ExactV s x n er) ∧ Below w.heap.size w w'
theorem ExactV.no {s : ByteArray} {x : Nat} {n : Int} {er : Value} (h : ∀ j, ¬ IntStr s j) : ExactV s x n er := ⟨fun j hj => absurd hj (h j), fun j hj => absurd hj (h j)⟩
theorem fl_is {d : Int} {ng : Bool} {j : Int} (h1 : d < 9007199254740992) (h2 : j = 1 → 0 < d) (hn : ng = true ↔ j = 1) : fl d ng = floatOfInt .f64 (if j = 1 then -d else d) := by
  cases ng with
  | true =>
    have hj := hn.mp rfl
    rw [if_pos hj, ← fl_pos, Fw.neg_whole (h2 hj) h1]
  | false =>
    have hj : ¬ j = 1 := fun h => by have := hn.mpr h; exact absurd this (by decide)
    rw [if_neg hj, ← fl_neg]
theorem ErrV.w {e : Value} (h : ErrV e) : ErrW e := h.imp id .inl
theorem below_then' {B C : Nat} {w w1 w2 : World} (h : Below B w w1) (hB : B ≤ C) (k : Below C w1 w2) : Below B w w2 := h.trans (k.mono hB)
theorem zeros_at (n : Nat) (z a b c d : Value) (cs : Array Value) (h : cs = (List.replicate n z ++ [a, b, c, d]).toArray) :
    cs.size = n + 4 ∧ (∀ i, i < n → cs[i]? = some z) ∧ cs[n]? = some a ∧ cs[n + 1]? = some b ∧ cs[n + 2]? = some c ∧ cs[n + 3]? = some d := by
  subst h
  refine ⟨by simp, fun i hi => ?_, ?_, ?_, ?_, ?_⟩
  · rw [List.getElem?_toArray, List.getElem?_append_left (by simpa using hi)]
    simp [hi]
  all_goals rw [List.getElem?_toArray, List.getElem?_append_right (by simp)]; simp
theorem zero_dec : Tryd.zeroCells128 = (List.replicate 800 (Value.int .u8 0) ++ [Value.int .i64 0, Value.int .i64 0, Value.bool false, Value.bool false]).toArray := by kernel_rfl
theorem dec_new (w : World) : DecOk (w.alloc (Obj.cells Tryd.zeroCells128 128)) (w.alloc (Obj.cells Tryd.zeroCells128 128)) w.heap.size := by
  obtain ⟨h0, h1, h2, h3, h4, h5⟩ := zeros_at 800 _ _ _ _ _ _ zero_dec
  exact ⟨fun _ => 0, 0, 0, false, false, ⟨⟨_, blk_new _ _, h0, h1, h2, h3, h4, h5⟩⟩, by omega, by omega, fun i hi => absurd hi (by simp), fun h => by omega, Below.refl _ _⟩
theorem dec_self {w0 w : World} {b : Nat} (h : DecOk w0 w b) : DecOk w w b := by
  obtain ⟨f, nd, dp, ng, tr, h1, h2, h3, h4, h5, _⟩ := h.out
  exact ⟨f, nd, dp, ng, tr, h1, h2, h3, h4, h5, Below.refl _ _⟩
theorem sub_ne {s : ByteArray} (h : ∀ x, bt s x ≠ 95) (k : Nat) : ∀ x, bt (s.extract 0 k) x ≠ 95 := by
  intro x
  unfold bt
  split
  · rename_i hx
    rw [ByteArray.size_extract] at hx
    rw [ByteArray.getElem_extract]
    have h2 := h x
    unfold bt at h2
    rw [dif_pos (by omega)] at h2
    simp only [Nat.zero_add]
    exact h2
  · decide
set_option maxRecDepth 100000 in
set_option maxHeartbeats 4000000 in
theorem atof64_walk (s : ByteArray) (w : World) (hN : NumS s) (hT : Tabs w w.heap.size) :
    Calls Tryd.prog 65 #[.string s] w (AtPost s w) := by
  have HN := Aside0.mk hN
  have HT := Aside0.mk hT
  have HB := Aside0.mk (Below.refl w.heap.size w)
  have hz : 0 < s.size := by obtain ⟨i, hi⟩ := hN.num; have := hi.lt; rcases hi.sign with h | h <;> omega
  have HZ := Aside0.mk hz
  clear hN hT hz
  have hfb := frombits_run
  go_enter Tryd.func65, Tryd.ntmps65
  go_wp2_with fail
  obtain ⟨i0, hi0⟩ := HN.out.num
  have HI := Aside0.mk hi0
  clear hi0
  refine (special_walk s _ i0 HI.out HN.out.size).mono ?_
  rintro e w1 ⟨rfl, hd⟩
  have HB1 := Aside0.mk (show Below w.heap.size w w1 from by obtain ⟨m, rfl⟩ := hd.out; exact pw_below_drewN HB.out _)
  clear hd
  go_wp2_with fail
  refine (read_walk s _ HZ.out HN.out.size HN.out.us HN.out.ex).mono ?_
  rintro e w2 ⟨man, exp, ng, tc, i, ok, rfl, hR, hd⟩
  have HB2 := Aside0.mk (show Below w.heap.size w w2 from by obtain ⟨m, rfl⟩ := hd.out; exact pw_below_drewN HB1.out _)
  have HR := Aside0.mk hR
  clear hd hR
  have ho := (HT.out.below HB2.out).opt.2
  cases ok with
  | false =>
    go_wp2
    go_ret3
    exact ⟨_, _, _, rfl, ⟨.inr (.inr rfl), .no fun j hj => absurd (HR.out.exact_ j hj).1 (by decide)⟩, HB2.out⟩
  | true =>
    by_cases hm : man = 0
    · have d1 : (man == 0) = true := beq_iff_eq.mpr hm
      have HM := Aside0.mk hm
      clear hm
      go_wp2_with (go_at_call 79; refine (bool2u_walk _ _).mono ?_; rintro e w3 ⟨rfl, rfl⟩)
      go_ret3
      refine ⟨_, _, _, rfl, ⟨.inl rfl, fun j hj h1 h2 => ?_, fun j hj _ h3 => by have := (HR.out.exact_ j hj).2.2.1; have := HM.out; omega⟩, HB2.out⟩
      obtain ⟨_, hi, hman, _, _, hng⟩ := HR.out.exact_ j hj
      have hj0 : ¬ j = 1 := fun h => by have := h2 h; have := HM.out; omega
      have hg : ng = false := by
        cases ng with
        | true => exact absurd (hng.mp rfl) hj0
        | false => rfl
      subst hg
      refine ⟨?_, hi, rfl⟩
      rw [if_neg hj0, ← hman, HM.out]
      decide
    have d1 : (man == 0) = false := beq_eq_false_iff_ne.mpr hm
    clear hm
    by_cases he1 : exp > 310
    · have d2 : decide (exp > 310) = true := decide_eq_true he1
      have HNI := Aside0.mk (show ∀ j, ¬ IntStr s j from fun j hj => by have := (HR.out.exact_ j hj).2.2.2.1; omega)
      clear he1
      go_wp2_with (go_at_call 79; refine (bool2u_walk _ _).mono ?_; rintro e w3 ⟨rfl, rfl⟩)
      go_ret3
      exact ⟨_, _, _, rfl, ⟨.inr (.inl rfl), .no HNI.out⟩, HB2.out⟩
    have d2 : decide (exp > 310) = false := decide_eq_false he1
    by_cases he2 : exp < -345
    · have d3 : decide (exp < -345) = true := decide_eq_true he2
      have HNI := Aside0.mk (show ∀ j, ¬ IntStr s j from fun j hj => by have := (HR.out.exact_ j hj).2.2.2.1; omega)
      clear he1 he2
      go_wp2_with (go_at_call 79; refine (bool2u_walk _ _).mono ?_; rintro e w3 ⟨rfl, rfl⟩)
      go_ret3
      exact ⟨_, _, _, rfl, ⟨.inl rfl, .no HNI.out⟩, HB2.out⟩
    have d3 : decide (exp < -345) = false := decide_eq_false he2
    have HE := Aside0.mk (And.intro (Int.not_lt.mp he2) (Int.not_lt.mp he1))
    clear he1 he2
    have pi0 : 0 ≤ i := HR.out.i0
    have pi1 : (i ≤ (s.size : Int)) = True := eq_true HR.out.i1
    have HT2 := Aside0.mk ((HT.out.below HB2.out).mono HB2.out.size)
    cases tc with
    | false =>
      have HX := Aside0.mk (exact_walk w2 man exp ng HR.out.m0 HR.out.m1 HT2.out.info HT2.out.fp10)
      go_wp2_with (go_at_call 79; refine (bool2u_walk _ _).mono ?_; rintro e w3 ⟨rfl, rfl⟩)
      refine HX.out.mono ?_
      rintro e w4 ⟨x4, ok4, rfl, hx4, hy4, hd4⟩
      have HX4 := Aside0.mk (And.intro hx4 hy4)
      have HB4 := Aside0.mk (show Below w.heap.size w w4 from by obtain ⟨m, rfl⟩ := hd4.out; exact pw_below_drewN HB2.out _)
      clear hd4 hx4 hy4
      cases ok4 with
      | true =>
        go_wp2
        go_ret3
        refine ⟨_, _, _, rfl, ⟨.inl rfl, fun j hj h1 h2 => ?_, fun j hj _ h3 => by have := (HR.out.exact_ j hj).2.2.1; have := HX4.out.2 (by simp); omega⟩, HB4.out⟩
        obtain ⟨_, hi, hman, he, _, hng⟩ := HR.out.exact_ j hj
        refine ⟨?_, hi, rfl⟩
        rw [(HX4.out.1 he (HX4.out.2 (by simp))).2, ← hman]
        rw [← hman] at h1 h2
        exact fl_is h1 h2 hng
      | false =>
        by_cases hw : exp = 0 ∧ 4503599627370496 ≤ man ∧ man < 9007199254740992
        · have HW := Aside0.mk hw.2
          obtain rfl := hw.1
          clear hw
          cases ng
          all_goals
            go_wp2_with fail
            refine (parse64_exact w4 man _ ((HT.out.below HB4.out).mono HB4.out.size).p10 (by first | exact .inl (by decide) | exact .inr (by decide)) HW.out.1 HW.out.2).mono ?_
            rintro e w5 ⟨rfl, hb5⟩
            have HB5 := Aside0.mk (below_then HB4.out HB4.out.size hb5)
            clear hb5
            go_wp2
            go_ret3
            refine ⟨_, _, _, rfl, ⟨.inl rfl, fun j hj h1 h2 => ?_, fun j hj _ h3 => by have := (HR.out.exact_ j hj).2.2.1; have := HW.out; omega⟩, HB5.out⟩
            obtain ⟨_, hi, hman, _, _, hng⟩ := HR.out.exact_ j hj
            refine ⟨?_, hi, rfl⟩
            rw [← hman]
            first
              | (rw [if_neg (fun h => absurd (hng.mpr h) (by decide))]; exact x_pos HW.out.1 HW.out.2)
              | (rw [if_pos (hng.mp rfl)]; exact x_neg HW.out.1 HW.out.2)
        · have HNI := Aside0.mk (show ∀ j, IntStr s j → ¬ nv s j ((s.size : Int) - j).toNat < 9007199254740992 from fun j hj h1 => by
            obtain ⟨_, _, hman, he, _, _⟩ := HR.out.exact_ j hj
            have h3 : ¬ man < 4503599627370496 := fun h => absurd (HX4.out.1 he h).1 (by decide)
            exact hw ⟨he, by omega, by omega⟩)
          clear hw
          by_cases hw2 : exp = 0 ∧ ng = false ∧ 9007199254740992 ≤ man ∧ man < 1000000000000000000
          · have HW := Aside0.mk hw2.2.2
            obtain rfl := hw2.1
            obtain rfl := hw2.2.1
            clear hw2
            go_wp2_with fail
            refine (parse64_big w4 man ((HT.out.below HB4.out).mono HB4.out.size).p10 HW.out.1 HW.out.2).mono ?_
            rintro e w5 ⟨x5, rfl, hx5, hb5⟩
            have HX5 := Aside0.mk hx5
            have HB5 := Aside0.mk (below_then HB4.out HB4.out.size hb5)
            clear hb5 hx5
            go_wp2
            go_ret3
            exact ⟨_, _, _, rfl, ⟨.inl rfl, fun j hj h1 => absurd h1 (by have := HNI.out j hj; omega), fun j hj _ _ => ⟨HX5.out, (HR.out.exact_ j hj).2.1, rfl⟩⟩, HB5.out⟩
          · have HN2 := Aside0.mk (show ∀ j, IntStr s j → j = 0 → ¬ 9007199254740992 ≤ nv s j ((s.size : Int) - j).toNat from fun j hj h0 h1 => by
              obtain ⟨_, _, hman, he, _, hng⟩ := HR.out.exact_ j hj
              have hng2 : ng = false := by
                cases ng with
                | true => have := hng.mp rfl; omega
                | false => rfl
              have hbd := nv_bd (s := s) (i := j) (n := ((s.size : Int) - j).toNat) (fun x hx hy => hj.digs x hx (by have := hj.lt; omega))
              have hp := p18 (n := ((s.size : Int) - j).toNat) (by have := hj.le; omega)
              exact hw2 ⟨he, hng2, by omega, by omega⟩)
            clear hw2
            go_wp2_with fail
            refine (parse64_walk w4 man exp _ ((HT.out.below HB4.out).mono HB4.out.size).p10 HR.out.m0 HR.out.m1 HE.out.1 HE.out.2).mono ?_
            rintro e w5 ⟨x5, er5, rfl, her5, hb5⟩
            have HER := Aside0.mk her5
            have HB5 := Aside0.mk (below_then HB4.out HB4.out.size hb5)
            clear her5 hb5
            go_wp2
            go_ret3
            exact ⟨_, _, _, rfl, ⟨ErrV.w HER.out, fun j hj h1 => absurd h1 (by have := HNI.out j hj; omega), fun j hj h0 h1 => absurd h1 (by have := HN2.out j hj h0; omega)⟩, HB5.out⟩
    | true =>
      have HNI := Aside0.mk (show ∀ j, ¬ IntStr s j from fun j hj => absurd (HR.out.exact_ j hj).2.2.2.2.1 (by decide))
      go_wp2_with (go_at_call 79; refine (bool2u_walk _ _).mono ?_; rintro e w3 ⟨rfl, rfl⟩)
      refine (parse64_walk w2 man exp _ HT2.out.p10 HR.out.m0 HR.out.m1 HE.out.1 HE.out.2).mono ?_
      rintro e w5 ⟨x5, er5, rfl, her5, hb5⟩
      have HER := Aside0.mk her5
      have HB5 := Aside0.mk (below_then HB2.out HB2.out.size hb5)
      clear her5 hb5
      go_wp2_with fail
      refine (parse64_walk w5 _ exp _ ((HT.out.below HB5.out).mono HB5.out.size).p10 (Dt.u64_nonneg _).1 (Dt.u64_nonneg _).2 HE.out.1 HE.out.2).mono ?_
      rintro e w6 ⟨x6, er6, rfl, her6, hb6⟩
      have HB6 := Aside0.mk (below_then HB5.out HB5.out.size hb6)
      clear her6 hb6
      go_wp2_with fail
      · go_ret3
        exact ⟨_, _, _, rfl, ⟨ErrV.w HER.out, .no HNI.out⟩, HB6.out⟩
      · have hdec := dec_new w6
        have HBA := Aside0.mk (show Below w.heap.size w (w6.alloc (Obj.cells Tryd.zeroCells128 128)) from HB6.out.alloc HB6.out.size _)
        have hsz : ((s.extract 0 i.toNat).size : Int) = i := by rw [ByteArray.size_extract]; have := HR.out.i1; have := HR.out.i0; omega
        refine (set_walk _ w6.heap.size hdec (s.extract 0 i.toNat) (by have := HR.out.one rfl; omega) (by have := HN.out.size; have := HR.out.i1; omega) (sub_ne HN.out.us _)).mono ?_
        rintro e w7 ⟨ok7, rfl, hdec7⟩
        have HD7 := Aside0.mk hdec7
        have HB7 := Aside0.mk (show Below w.heap.size w w7 from by obtain ⟨_, _, _, _, _, _, _, _, _, _, hb⟩ := hdec7.out; exact below_then' HBA.out HB6.out.size hb)
        clear hdec hdec7 hsz
        cases ok7 with
        | false =>
          go_wp2
          go_ret3
          exact ⟨_, _, _, rfl, ⟨.inr (.inr rfl), .no HNI.out⟩, HB7.out⟩
        | true =>
          have HT7 := Aside0.mk (((HT.out.below HB7.out).mono HB6.out.size))
          go_wp2_with fail
          refine (bits_any w7 w6.heap.size (dec_self HD7.out) HT7.out.cheats HT7.out.pows HT7.out.info).mono ?_
          rintro e w8 ⟨u, o, rfl, hb8⟩
          have HB8 := Aside0.mk (below_then' HB7.out HB6.out.size hb8)
          clear hb8
          cases o
          all_goals
            go_wp2
            go_ret3
            exact ⟨_, _, _, rfl, ⟨(by first | exact .inl rfl | exact .inr (.inl rfl)), .no HNI.out⟩, HB8.out⟩
end Go.Proofs.YtldfejbmdonaoaaDoor.At