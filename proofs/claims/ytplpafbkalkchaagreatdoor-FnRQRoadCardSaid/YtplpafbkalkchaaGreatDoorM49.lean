/-
  Parts of the proof (PB2, PB3).
-/
import Derived.Test.YtplpafbkalkchaaGreatDoorM32
import Derived.Test.YtplpafbkalkchaaGreatDoorM47
import Derived.Test.YtplpafbkalkchaaGreatDoorM48
import Derived.Deep.CutRange
set_option linter.unusedSimpArgs false
set_option linter.unusedVariables false

namespace Go.Proofs.YtplpafbkalkchaaGreatDoor
open Go.RowKit

theorem fl_add {x r : Nat} {y : Nat} (h : floatBits .add .f64 x y = some r) (t : TypeId) (w : World) : (binOp .add t (.float .f64 x) (.float .f64 y)).run Tryz.prog w = .ok (.float .f64 r) w := run_float_arith w .add t .f64 x y r h
theorem fl_quo {x r : Nat} {y : Nat} (h : floatBits .quo .f64 x y = some r) (t : TypeId) (w : World) : (binOp .quo t (.float .f64 x) (.float .f64 y)).run Tryz.prog w = .ok (.float .f64 r) w := run_float_arith w .quo t .f64 x y r h
theorem fl_mul {x r : Nat} {y : Nat} (h : floatBits .mul .f64 x y = some r) (t : TypeId) (w : World) : (binOp .mul t (.float .f64 x) (.float .f64 y)).run Tryz.prog w = .ok (.float .f64 r) w := run_float_arith w .mul t .f64 x y r h
theorem fl_int {r : Nat} {n : Int} (h : floatToIntVal .f64 r .i64 = some n) (w : World) : (convert 167 3 (.float .f64 r)).run Tryz.prog w = .ok (.int .i64 n) w :=
  run_convert_float_int w 167 3 .f64 .i64 r n (by rw [Tryz.underlying167]; rfl) Tryz.underlying3 h
theorem int_fl (n : Nat) (X : Int) (hX : X = (n : Int)) (w : World) : (convert 3 167 (.int .i64 X)).run Tryz.prog w = .ok (.float .f64 (flt n)) w := by
  subst hX
  exact run_convert_int_float w 3 167 .i64 .f64 (n : Int) (by rw [Tryz.underlying3]; rfl) Tryz.underlying167

set_option maxRecDepth 100000 in
theorem round_ok (n : Nat) (hn : n < 46) (w : World) : Calls Tryz.prog 82 #[.float .f64 (flt n)] w fun e w' => e = .returned (.int .i64 (n : Int)) ∧ w = w' := by
  obtain ⟨r, e1, e2⟩ := fltC hn
  have g := fltG hn
  have r1 : ∀ (t : TypeId) (w : World), (binOp .add t (.float .f64 (flt n)) (.float .f64 4602678819172646912)).run Tryz.prog w = .ok (.float .f64 r) w := fun t w => fl_add e1 t w
  have r2 := fun w => fl_int e2 w
  clear e1 e2
  generalize flt n = x at *
  go_enter Tryz.func82, Tryz.ntmps82
  go_wp2
  go_ret
  exact ⟨rfl, rfl⟩

set_option maxRecDepth 100000 in
set_option maxHeartbeats 2000000 in
theorem modSize_ok (b c W H n mu lt tp lb : Nat) (P : Nat → Nat → Bool) (F : Nat → Nat → Int) (tb : Option Addr) (w : World) (h : BM w b c W H P) (s : Seen P W H n mu lt tp F) (hl : Blk w lb [.int .i64 (lt : Int), .int .i64 (tp : Int)] 3) :
    Calls Tryz.prog 81 #[.pointer tb, .slice (some ⟨lb, 0, none⟩) 2 2, .pointer (some ⟨b, 0, none⟩)] w fun e w' => e = .returned (.tuple #[.float .f64 (flt mu), .nilIface]) ∧ w = w' := by
  have hp := s.pos
  have hmu := s.shown.hmu
  have hmu2 := s.hmu
  have hx := s.shown.hW
  have hy := s.shown.hH
  have hW := s.hW
  have hH := s.hH
  have l0 := hl.cell (i := 0) rfl
  have l1 := hl.cell (i := 1) rfl
  have q1 : ∀ (t : TypeId) (w : World), (binOp .quo t (.float .f64 (flt (7 * mu))) (.float .f64 4619567317775286272)).run Tryz.prog w = .ok (.float .f64 (flt mu)) w := fun t w => fl_quo (fltA (by omega)) t w
  have e7 : flt (7 * mu) = floatOfInt .f64 ((lt : Int) + 7 * (mu : Int) - (lt : Int)) := by unfold flt; congr 1; omega
  rw [e7] at q1
  clear e7
  have HB := Lib.hid h
  have HS := Lib.hid s
  obtain ⟨nm, hnm⟩ : ∃ p, n * mu = p := ⟨_, rfl⟩
  rw [hnm] at hp hx hy
  clear h s hnm
  go_enter Tryz.func81, Tryz.ntmps81
  go_wp2_with fail
  refine (height_ok b c W H P w HB.out).mono ?_
  rintro e w1 ⟨rfl, rfl⟩
  go_wp2_with fail
  refine (width_ok b c W H P w HB.out).mono ?_
  rintro e w1 ⟨rfl, rfl⟩
  go_wp2_with fail
  go_loopw [10, 11, 12, 13] (fun s10 s11 s12 s13 wr => ∃ k : Nat, k ≤ 7 * mu ∧ s10 = .int .i64 ((lt + k : Nat) : Int) ∧ s11 = .int .i64 ((tp + k : Nat) : Int) ∧ s12 = .bool (colT ((k - 1) / mu)) ∧ s13 = .int .i64 (trT ((k - 1) / mu) : Int) ∧ wr = w) (fun s10 _ _ _ _ => lt + 7 * mu - (intOf s10).toNat)
  case atStart => exact ⟨0, by omega, by simp, by simp, by simp [colT], by simp [trT], rfl⟩
  case round =>
    obtain ⟨k, hk, rfl, rfl, rfl, rfl, rfl⟩ := hrel
    have hd1 : ((lt + k : Nat) : Int) < (W : Int) := by omega
    have hd2 : ((tp + k : Nat) : Int) < (H : Int) := by omega
    obtain ⟨b1, b2⟩ := before hmu hk
    obtain ⟨c1, c2, c3⟩ := col_step b1 b2
    obtain ⟨a0, ha0⟩ : ∃ a, (k - 1) / mu = a := ⟨_, rfl⟩
    obtain ⟨a1, ha1⟩ : ∃ a, k / mu = a := ⟨_, rfl⟩
    have hv : P (lt + k) (tp + k) = colT a1 := by rw [HS.out.line hk, ha1]
    have hnext : (k + 1 - 1) / mu = a1 := by rw [Nat.add_sub_cancel]; exact ha1
    have h7 : a1 = 7 ↔ k = 7 * mu := by
      constructor
      · intro e
        have := Nat.div_mul_le_self k mu
        rw [ha1, e] at this; omega
      · intro e; rw [← ha1, e, Nat.mul_div_cancel _ (by omega)]
    have h6 : k = 7 * mu → a0 = 6 := by
      intro e
      have h1 := Nat.div_lt_of_lt_mul (m := k - 1) (n := mu) (k := 7) (by rw [Nat.mul_comm]; omega)
      rw [ha0] at h1
      rw [ha0, ha1] at b2
      have := h7.2 e
      omega
    rw [ha0, ha1] at c1 c2 c3
    rw [ha0]
    rw [ha1] at b1
    obtain ⟨t0, ht0⟩ : ∃ t, colT a0 = t := ⟨_, rfl⟩
    obtain ⟨t1, ht1⟩ : ∃ t, colT a1 = t := ⟨_, rfl⟩
    obtain ⟨m0, hm0⟩ : ∃ t, trT a0 = t := ⟨_, rfl⟩
    obtain ⟨m1, hm1⟩ : ∃ t, trT a1 = t := ⟨_, rfl⟩
    have h75 : a1 = 7 → m1 = 5 := by rintro rfl; rw [← hm1]; rfl
    have h74 : a1 ≠ 7 → m1 < 5 := fun e => by rw [← hm1]; exact trT_lt (by omega)
    rw [ht0, ht1] at c2 c3
    rw [hm0, hm1] at c2 c3
    rw [ht1] at hv
    have cg := Lib.hid (bmGet_ok b c W H (lt + k) (tp + k) P wr HB.out (by omega) (by omega) (by omega) (by omega) _ _ rfl rfl t1 hv)
    have h66 : k = 7 * mu → t0 = true ∧ t1 = false := fun e => by
      rw [← ht0, ← ht1, h6 e, h7.2 e]; exact ⟨rfl, rfl⟩
    have NX := Lib.hid (show colT ((k + 1 - 1) / mu) = t1 ∧ trT ((k + 1 - 1) / mu) = m1 by rw [hnext]; exact ⟨ht1, hm1⟩)
    rw [ht0, hm0]
    clear hv c1 hnext ha0 ha1 ht0 ht1 hm0 hm1 b2 h6
    by_cases e : t0 = t1
    · have em := c2 e
      have hk7 : k < 7 * mu := by
        rcases Nat.lt_or_ge k (7 * mu) with q | q
        · exact q
        · obtain ⟨r1, r2⟩ := h66 (by omega)
          rw [r1, r2] at e; cases e
      clear c2 c3 h66 h75 h74 h7
      subst e
      subst em
      go_wp2_with (go_at_call 28; refine cg.out.mono ?_; rintro e w' ⟨rfl, rfl⟩)
      go_roundw
      case rel => exact ⟨k + 1, by omega, by go_num, by go_num, by rw [NX.out.1], by rw [NX.out.2], by simp⟩
      case measure => simp [intOf]; omega
    · obtain ⟨e1, e2⟩ := c3 e
      clear c2 c3
      subst e1
      by_cases hk7 : k = 7 * mu
      · obtain ⟨r1, r2⟩ := h66 hk7
        have hm5 := h75 (h7.2 hk7)
        have hm4 : m0 = 4 := by omega
        subst r1
        subst hm4
        clear h66 h75 h74 h7 e e2 hm5
        subst hk7
        have w1 : ((lt : Int) + 7 * (mu : Int) == (W : Int)) = false := beq_eq_false_iff_ne.2 (by omega)
        have w2 : ((tp : Int) + 7 * (mu : Int) == (H : Int)) = false := beq_eq_false_iff_ne.2 (by omega)
        go_wp2_with (go_at_call 28; refine cg.out.mono ?_; rintro e w' ⟨rfl, rfl⟩)
        go_ret2
        exact ⟨rfl, rfl⟩
      · have hm5 := h74 (fun h => hk7 (h7.1 h))
        have hne : ((m0 : Int) + 1 == 5) = false := beq_eq_false_iff_ne.2 (by omega)
        subst e2
        have hm4 : m0 < 4 := by omega
        clear h66 h75 h74 h7 e hm5
        cases t0
        · go_wp2_with (go_at_call 28; refine cg.out.mono ?_; rintro e w' ⟨rfl, rfl⟩)
          go_roundw
          case rel => exact ⟨k + 1, by omega, by go_num, by go_num, by rw [NX.out.1]; rfl, by rw [NX.out.2]; go_num, by simp⟩
          case measure => simp [intOf]; omega
        · go_wp2_with (go_at_call 28; refine cg.out.mono ?_; rintro e w' ⟨rfl, rfl⟩)
          go_roundw
          case rel => exact ⟨k + 1, by omega, by go_num, by go_num, by rw [NX.out.1]; rfl, by rw [NX.out.2]; go_num, by simp⟩
          case measure => simp [intOf]; omega

end Go.Proofs.YtplpafbkalkchaaGreatDoor

namespace Go.Proofs.YtplpafbkalkchaaGreatDoor
open Go.RowKit

set_option maxRecDepth 100000 in
set_option maxHeartbeats 4000000 in
theorem pureBits_ok (tb : Option Addr) (b c W H n mu lt tp : Nat) (P : Nat → Nat → Bool) (F : Nat → Nat → Int) (w : World) (h : BM w b c W H P) (s : Seen P W H n mu lt tp F) :
    Calls Tryz.prog 32 #[.pointer tb, .pointer (some ⟨b, 0, none⟩)] w fun e w' => ∃ bb cb, e = .returned (.tuple #[.pointer (some ⟨bb, 0, none⟩), .nilIface]) ∧ BM w' bb cb n n (fun x y => F x y == 1) ∧ Keeps (fun _ => False) w w' := by
  have hp := s.pos
  have hmu := s.shown.hmu
  have hmu2 := s.hmu
  have hx := s.shown.hW
  have hy := s.shown.hH
  have hW := s.hW
  have hH := s.hH
  have hn1 := s.hn1
  have hn2 := s.hn2
  obtain ⟨x1, hla, hlx⟩ := s.last
  have HB := Lib.hid h
  have HS := Lib.hid s
  have HLA := Lib.hid hla
  have hx1W := hla.hx
  obtain ⟨nm, hnm⟩ : ∃ p, n * mu = p := ⟨_, rfl⟩
  obtain ⟨k1, hk1⟩ : ∃ p, (n - 1) * mu = p := ⟨_, rfl⟩
  have hk2 : k1 + mu = nm := by
    rw [← hk1, ← hnm, Nat.sub_mul, Nat.one_mul]
    have := Nat.mul_le_mul_right mu (show 1 ≤ n by omega)
    omega
  obtain ⟨bt, hbt⟩ : ∃ p, tp + n * mu - 1 = p := ⟨_, rfl⟩
  obtain ⟨rt, hrt⟩ : ∃ p, lt + n * mu - 1 = p := ⟨_, rfl⟩
  obtain ⟨hd, hhd⟩ : ∃ p, mu / 2 = p := ⟨_, rfl⟩
  have hdm : hd < mu := by omega
  obtain ⟨fm, hfm⟩ : ∃ f, flt mu = f := ⟨_, rfl⟩
  obtain ⟨fn, hfn⟩ : ∃ f, flt n = f := ⟨_, rfl⟩
  have qA : ∀ (t : TypeId) (w : World), (binOp .quo t (.float .f64 (floatOfInt .f64 ((rt : Int) - (lt : Int) + 1))) (.float .f64 fm)).run Tryz.prog w = .ok (.float .f64 fn) w := fun t w => by
    have e := fltB (n := n) (m := mu) (by omega) (by omega) (by omega)
    have e2 : flt (n * mu) = floatOfInt .f64 ((rt : Int) - (lt : Int) + 1) := by unfold flt; congr 1; omega
    rw [e2, hfm, hfn] at e
    exact fl_quo e t w
  have qB : ∀ (t : TypeId) (w : World), (binOp .quo t (.float .f64 (floatOfInt .f64 ((bt : Int) - (tp : Int) + 1))) (.float .f64 fm)).run Tryz.prog w = .ok (.float .f64 fn) w := fun t w => by
    have e := fltB (n := n) (m := mu) (by omega) (by omega) (by omega)
    have e2 : flt (n * mu) = floatOfInt .f64 ((bt : Int) - (tp : Int) + 1) := by unfold flt; congr 1; omega
    rw [e2, hfm, hfn] at e
    exact fl_quo e t w
  obtain ⟨rd, hrd1, hrd2⟩ := fltD (m := mu) (by omega)
  rw [hfm] at hrd1
  rw [hhd] at hrd2
  have qD : ∀ (t : TypeId) (w : World), (binOp .quo t (.float .f64 fm) (.float .f64 4611686018427387904)).run Tryz.prog w = .ok (.float .f64 rd) w := fun t w => fl_quo hrd1 t w
  have iD := fun w => fl_int hrd2 w
  have qE : ∀ k : Nat, k < 46 → ∃ r, (∀ (t : TypeId) (w : World), (binOp .mul t (.float .f64 (floatOfInt .f64 (k : Int))) (.float .f64 fm)).run Tryz.prog w = .ok (.float .f64 r) w) ∧ ∀ w : World, (convert 167 3 (.float .f64 r)).run Tryz.prog w = .ok (.int .i64 ((k * mu : Nat) : Int)) w := fun k hk => by
    obtain ⟨r, e1, e2⟩ := fltE (k := k) (m := mu) hk (by omega)
    rw [hfm] at e1
    exact ⟨r, fun t w => fl_mul e1 t w, fun w => fl_int e2 w⟩
  obtain ⟨r1, qF, iF⟩ := qE (n - 1) (by omega)
  rw [show ((n - 1 : Nat) : Int) = (n : Int) - 1 by omega] at qF
  rw [hk1] at iF
  have c78 := Lib.hid (bmFirst_ok b c W H lt tp P w h s.first (by omega) (by omega))
  have QE := Lib.hid qE
  have cR := Lib.hid (fun w => round_ok n (by omega) w)
  rw [hfn] at cR
  rw [hbt] at hla HLA
  rw [hnm] at hp hx hy hbt hrt
  have HF := Lib.hid hfm
  have HNM := Lib.hid hnm
  have HI := Lib.hid (And.intro hbt (And.intro hrt hk2))
  have d1 : ¬ (x1 ≤ lt) := by omega
  have d2 : ¬ (bt ≤ tp) := by omega
  have d1i : ¬ ((x1 : Int) ≤ (lt : Int)) := by omega
  have d2i : ¬ ((bt : Int) ≤ (tp : Int)) := by omega
  have qT : ∀ (w : World) (a : Option Addr) (n c n' c' : Nat), (binOp .eql 157 (.slice a n c) (.slice none n' c')).run Tryz.prog w = .ok (.bool a.isNone) w := fun w a n c n' c' => Lib.run_eql_slice_nil w _ _ a n c n' c' Tryz.underlying157
  have bnd : rt < W ∧ bt < H ∧ rt ≤ 300 ∧ bt ≤ 300 ∧ nm ≤ 300 ∧ lt ≤ rt ∧ tp ≤ bt ∧ k1 ≤ 300 := by omega
  clear h s qE hrd1 hrd2 hla hfm hfn hnm hk1 hhd
  go_enter Tryz.func32, Tryz.ntmps32
  go_wp2_with fail
  refine c78.out.mono ?_
  rintro e w1 ⟨rfl, a1, a2⟩
  obtain ⟨p1, hp1⟩ : ∃ p, w.heap.size = p := ⟨_, rfl⟩
  rw [hp1] at a1 ⊢
  have B1 := Lib.hid (HB.out.keep a2 (fun h => h) (fun h => h))
  have A1 := Lib.hid a1
  have K1 := Lib.hid a2
  clear a1 a2 hp1
  go_wp2_with fail
  refine (bmLast_ok b c W H x1 bt P w1 B1.out HLA.out (by omega) (by omega)).mono ?_
  rintro e w2 ⟨rfl, a1, a2⟩
  obtain ⟨p2, hp2⟩ : ∃ p, w1.heap.size = p := ⟨_, rfl⟩
  rw [hp2] at a1 ⊢
  have B2 := Lib.hid (B1.out.keep a2 (fun h => h) (fun h => h))
  have A2 := Lib.hid (A1.out.keep a2 (fun h => h))
  have K2 := Lib.hid (K1.out.trans a2)
  have A3 := Lib.hid a1
  clear a1 a2 hp2
  go_wp2_with fail
  refine (modSize_ok b c W H n mu lt tp p1 P F tb w2 B2.out HS.out A2.out).mono ?_
  rintro e w3 ⟨rfl, rfl⟩
  rw [HF.out]
  have l0 := A2.out.cell (i := 0) rfl
  have l1 := A2.out.cell (i := 1) rfl
  have l2 := A3.out.cell (i := 0) rfl
  have l3 := A3.out.cell (i := 1) rfl
  clear qT
  go_upto_if 82 with fail
  go_cut [13] from 76 to 99 (fun s13 wx => s13 = .int .i64 (rt : Int) ∧ w2 = wx)
  case first =>
    by_cases hq : x1 = rt
    · subst hq
      have e1 : ((bt : Int) - (tp : Int) != (x1 : Int) - (lt : Int)) = false := by
        rw [show (bt : Int) - (tp : Int) = (x1 : Int) - (lt : Int) by have := HI.out; omega]; simp
      go_wp2_with fail
      go_meet
      exact ⟨rfl, rfl⟩
    · have e1 : ((bt : Int) - (tp : Int) != (x1 : Int) - (lt : Int)) = true := by
        refine bne_iff_ne.2 (fun e => hq ?_)
        have := HI.out; omega
      have e2 : (lt : Int) + ((bt : Int) - (tp : Int)) = (rt : Int) := by have := HI.out; omega
      have e3 : ¬ ((W : Int) ≤ (rt : Int)) := by omega
      have e4 : ¬ (W ≤ rt) := by omega
      go_wp2_with fail
      refine (width_ok b c W H P w2 B2.out).mono ?_
      rintro e w3 ⟨rfl, rfl⟩
      go_wp2_with fail
      go_meet
      exact ⟨rfl, rfl⟩
  case rest =>
    obtain ⟨rfl, rfl⟩ := hcut
    go_wp2_with fail
    refine (cR.out _).mono ?_
    rintro e w3 ⟨rfl, rfl⟩
    go_wp2_with fail
    refine (cR.out _).mono ?_
    rintro e w3 ⟨rfl, rfl⟩
    have f1 : ¬ ((n : Int) ≤ 0) := by omega
    have f2 : ((n : Int) != (n : Int)) = false := by simp
    have f3 : ¬ (0 : Int) < (lt : Int) + (hd : Int) + (k1 : Int) - (rt : Int) := by have := HI.out; omega
    have f4 : ¬ (0 : Int) < (tp : Int) + (hd : Int) + (k1 : Int) - (bt : Int) := by have := HI.out; omega
    have f5 : hd ≤ 14 := by omega
    go_wp2_with fail
    refine (bmNew_ok n n w2 (by omega) (by omega) (by omega) (by omega) _ _ rfl rfl).mono ?_
    rintro e w3 ⟨rfl, a1, a2, _⟩
    obtain ⟨cb, hcb⟩ : ∃ m, w2.heap.size = m := ⟨_, rfl⟩
    obtain ⟨bb, hbb⟩ : ∃ m, cb + 1 = m := ⟨_, rfl⟩
    have lb := B2.out.ltb
    have lc := B2.out.ltc
    rw [hcb] at a1 lb lc ⊢
    rw [hbb] at a1 ⊢
    have n1 : b ≠ cb := by omega
    have n2 : c ≠ cb := by omega
    have A4 := Lib.hid (And.intro a1 a2)
    have HC := Lib.hid hcb
    have B3 := Lib.hid (B2.out.keep a2 (fun h => h) (fun h => h))
    clear a1 a2 hcb hbb lb lc
    go_wp2_with fail
    clear l0 l1 l2 l3
    generalize w3 = wA at *
    go_loopw [21] (fun s21 wx => ∃ y : Nat, y ≤ n ∧ s21 = .int .i64 (y : Int) ∧ BM wx bb cb n n (fun x' y' => (F x' y' == 1) && decide (y' < y)) ∧ Keeps (fun i => i = cb) wA wx) (fun s21 _ => n - (intOf s21).toNat)
    case atStart => exact ⟨0, by omega, rfl, A4.out.1.congr (fun x y _ _ => by simp), Keeps.refl _ _⟩
    case round =>
      obtain ⟨y, hy, rfl, t1, t2⟩ := hrel
      by_cases hyn : y < n
      · have hy' : (y : Int) < (n : Int) := by omega
        obtain ⟨ry, qy, iy⟩ := QE.out y (by omega)
        obtain ⟨ym, hym⟩ : ∃ m, y * mu = m := ⟨_, rfl⟩
        rw [hym] at iy
        have hym2 : ym + mu ≤ nm := by
          have := Nat.mul_le_mul_right mu (show y + 1 ≤ n by omega)
          rw [Nat.add_mul, Nat.one_mul, hym, HNM.out] at this; exact this
        have HY := Lib.hid hym
        have T := Lib.hid (And.intro t1 t2)
        clear hym t1 t2
        go_wp2_with fail
        go_loopw [23] (fun s23 wz => ∃ x : Nat, x ≤ n ∧ s23 = .int .i64 (x : Int) ∧ BM wz bb cb n n (fun x' y' => (F x' y' == 1) && decide (y' < y ∨ (y' = y ∧ x' < x))) ∧ Keeps (fun i => i = cb) wA wz) (fun s23 _ => n - (intOf s23).toNat)
        case atStart => exact ⟨0, by omega, rfl, T.out.1.congr (fun x y _ _ => by simp), T.out.2⟩
        case round =>
          obtain ⟨x, hx, rfl, u1, u2⟩ := hrel
          by_cases hxn : x < n
          · have hx' : (x : Int) < (n : Int) := by omega
            obtain ⟨rx, qx, ix⟩ := QE.out x (by omega)
            obtain ⟨xm, hxm⟩ : ∃ m, x * mu = m := ⟨_, rfl⟩
            rw [hxm] at ix
            have hxm2 : xm + mu ≤ nm := by
              have := Nat.mul_le_mul_right mu (show x + 1 ≤ n by omega)
              rw [Nat.add_mul, Nat.one_mul, hxm, HNM.out] at this; exact this
            have hv : P (lt + hd + xm) (tp + hd + ym) = (F x y == 1) := by
              rw [← HS.out.shown.cell (a := x) (b := y) (i := hd) (j := hd) hxn hyn hdm hdm, hxm, HY.out]
              congr 1 <;> omega
            have B4 := B3.out.keep u2 n1 n2
            have cg := Lib.hid (fun (v : Bool) (hv2 : (F x y == 1) = v) => bmGet_ok b c W H (lt + hd + xm) (tp + hd + ym) P wr B4 (by have := HI.out; omega) (by have := HI.out; omega) (by omega) (by omega) ((lt : Int) + (hd : Int) + (xm : Int)) ((tp : Int) + (hd : Int) + (ym : Int)) (by omega) (by omega) v (hv.trans hv2))
            have U := Lib.hid (And.intro u1 u2)
            have xm3 : xm ≤ 300 := by omega
            have ym3 : ym ≤ 300 := by omega
            clear hv B4 u1 u2 hxm
            cases hF : (F x y == 1)
            · have cg2 := Lib.hid (cg.out false hF)
              have HFx := Lib.hid hF
              clear cg hF
              go_wp2_with (go_at_call 28; refine cg2.out.mono ?_; rintro e w' ⟨rfl, rfl⟩)
              go_roundw
              case rel => exact ⟨x + 1, by omega, by go_num, U.out.1.congr (fun x' y' _ _ => by
                by_cases e : x' = x ∧ y' = y
                · obtain ⟨rfl, rfl⟩ := e; simp only [HFx.out, Bool.false_and]
                · have e2 : (y' < y ∨ (y' = y ∧ x' < x + 1)) ↔ (y' < y ∨ (y' = y ∧ x' < x)) := by omega
                  simp only [e2]), U.out.2⟩
              case measure => simp [intOf]; omega
            · have cg2 := Lib.hid (cg.out true hF)
              have HFx := Lib.hid hF
              clear cg hF
              go_wp2_with (go_at_call 28; refine cg2.out.mono ?_; rintro e w' ⟨rfl, rfl⟩)
              refine (bmSet_ok bb cb n n x y _ _ U.out.1 hxn hyn (by omega) (by omega) _ _ rfl rfl).mono ?_
              rintro e w9 ⟨rfl, z1, z2⟩
              have Z := Lib.hid (And.intro (z1.congr (g := fun x' y' => (F x' y' == 1) && decide (y' < y ∨ (y' = y ∧ x' < x + 1))) (fun x' y' _ _ => by
                by_cases e : x' = x ∧ y' = y
                · obtain ⟨rfl, rfl⟩ := e; simp [HFx.out]
                · have e2 : (y' < y ∨ (y' = y ∧ x' < x + 1)) ↔ (y' < y ∨ (y' = y ∧ x' < x)) := by omega
                  simp only [e2, if_neg e])) (U.out.2.trans z2))
              clear z1 z2
              go_wp2_with fail
              go_roundw
              case rel => exact ⟨x + 1, by omega, by go_num, Z.out.1, Z.out.2⟩
              case measure => simp [intOf]; omega
          · obtain rfl : x = n := by omega
            have U := Lib.hid (And.intro u1 u2)
            clear u1 u2
            go_wp2_with fail
            go_roundw
            case rel => exact ⟨y + 1, by omega, by go_num, U.out.1.congr (fun x' y' hx' _ => by
              have e2 : (y' < y ∨ (y' = y ∧ x' < x)) ↔ y' < y + 1 := by omega
              simp only [e2]), U.out.2⟩
            case measure => simp [intOf]; omega
      · obtain rfl : y = n := by omega
        have T := Lib.hid (And.intro t1 t2)
        clear t1 t2
        go_wp2_with fail
        go_ret2
        exact ⟨bb, cb, rfl, T.out.1.congr (fun x' y' _ hy' => by simp [hy']), (K2.out.trans A4.out.2).step T.out.2 (fun i hi e => by have := HC.out; have := K2.out.size; omega)⟩

end Go.Proofs.YtplpafbkalkchaaGreatDoor
