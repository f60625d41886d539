/-
  Parts of the proof (Pic2, BL).
-/
import Derived.Test.YtplpafbkalkchaaGreatDoorM20
import Derived.Test.YtplpafbkalkchaaGreatDoorM23
import Derived.Test.YtplpafbkalkchaaGreatDoorM30
import Derived.Test.YtplpafbkalkchaaGreatDoorM31
set_option linter.unusedSimpArgs false
set_option linter.unusedVariables false

namespace Go.Proofs.YtplpafbkalkchaaGreatDoor
open Go.RowKit

theorem last_of (p : Nat → Bool) : ∀ (W i0 : Nat), i0 < W → p i0 = true → ∃ i, i0 ≤ i ∧ i < W ∧ p i = true ∧ ∀ x, i < x → x < W → p x = false
  | 0, i0, h, _ => by omega
  | W + 1, i0, h, hp => by
    by_cases e : p W = true
    · exact ⟨W, by omega, by omega, e, fun x h1 h2 => by omega⟩
    · have e' : p W = false := by simpa using e
      have hi : i0 < W := by
        rcases Nat.lt_or_ge i0 W with h1 | h1
        · exact h1
        · rw [show i0 = W by omega] at hp; rw [hp] at e'; cases e'
      obtain ⟨i, a1, a2, a3, a4⟩ := last_of p W i0 hi hp
      exact ⟨i, a1, by omega, a3, fun x h1 h2 => by
        by_cases e2 : x = W
        · rw [e2]; exact e'
        · exact a4 x h1 (by omega)⟩

/-- The colours of the diagonal's first modules, and how often they have changed. -/
def colT (a : Nat) : Bool := [true, false, true, true, true, false, true, false].getD a false
def trT (a : Nat) : Nat := [0, 1, 2, 2, 2, 3, 4, 5].getD a 0
theorem col_step {a b : Nat} (hb : b ≤ 7) (h : b = a ∨ b = a + 1) : (colT a != colT b) = (trT b != trT a) ∧ (colT a = colT b → trT b = trT a) ∧ (colT a ≠ colT b → colT b = (!colT a) ∧ trT b = trT a + 1) := by
  have ha : a ≤ 7 := by omega
  rcases h with rfl | rfl
  · obtain rfl | rfl | rfl | rfl | rfl | rfl | rfl | rfl : b = 0 ∨ b = 1 ∨ b = 2 ∨ b = 3 ∨ b = 4 ∨ b = 5 ∨ b = 6 ∨ b = 7 := by omega
    all_goals decide
  · obtain rfl | rfl | rfl | rfl | rfl | rfl | rfl : a = 0 ∨ a = 1 ∨ a = 2 ∨ a = 3 ∨ a = 4 ∨ a = 5 ∨ a = 6 := by omega
    all_goals decide
theorem trT_lt {a : Nat} (h : a < 7) : trT a < 5 := by
  obtain rfl | rfl | rfl | rfl | rfl | rfl | rfl : a = 0 ∨ a = 1 ∨ a = 2 ∨ a = 3 ∨ a = 4 ∨ a = 5 ∨ a = 6 := by omega
  all_goals decide

structure Seen (P : Nat → Nat → Bool) (W H n mu lt tp : Nat) (F : Nat → Nat → Int) : Prop where
  shown : Shown P W H n mu lt tp F
  hn1 : 21 ≤ n
  hn2 : n ≤ 45
  hmu : mu ≤ 14
  hW : W ≤ 300
  hH : H ≤ 300
  diag : ∀ a, a ≤ 7 → (F a a == 1) = colT a
  foot : F 0 (n - 1) = 1
  foot1 : F 1 (n - 1) = 1

theorem Seen.of_sym {P : Nat → Nat → Bool} {W H n mu lt tp v m : Nat} {tb vb bits : List Bool} (h : Shown P W H n mu lt tp (_root_.QR.symM v m tb vb bits)) (hn : n = _root_.QR.side v) (h1 : 1 ≤ v) (h7 : v ≤ 7) (hmu : mu ≤ 14) (hW : W ≤ 300) (hH : H ≤ 300) :
    Seen P W H n mu lt tp (_root_.QR.symM v m tb vb bits) := by
  have look : ∀ {x y : Nat} {u : Int}, (x, y, u) ∈ _root_.QR.look (_root_.QR.side v) → _root_.QR.symM v m tb vb bits x y = u := fun {x y u} hm => by
    obtain ⟨e, hu⟩ := _root_.QR.base_look h1 h7 tb vb hm
    rw [_root_.QR.sym_laid (by rw [e]; omega), e]
  refine ⟨h, by rw [hn]; unfold _root_.QR.side; omega, by rw [hn]; unfold _root_.QR.side; omega, hmu, hW, hH, fun a ha => ?_, ?_, ?_⟩
  · obtain rfl | rfl | rfl | rfl | rfl | rfl | rfl | rfl : a = 0 ∨ a = 1 ∨ a = 2 ∨ a = 3 ∨ a = 4 ∨ a = 5 ∨ a = 6 ∨ a = 7 := by omega
    · rw [look (u := 1) (by simp [_root_.QR.look])]; rfl
    · rw [look (u := 0) (by simp [_root_.QR.look])]; rfl
    · rw [look (u := 1) (by simp [_root_.QR.look])]; rfl
    · rw [look (u := 1) (by simp [_root_.QR.look])]; rfl
    · rw [look (u := 1) (by simp [_root_.QR.look])]; rfl
    · rw [look (u := 0) (by simp [_root_.QR.look])]; rfl
    · rw [look (u := 1) (by simp [_root_.QR.look])]; rfl
    · rw [look (u := 0) (by simp [_root_.QR.look])]; rfl
  · rw [hn]; exact look (by simp [_root_.QR.look])
  · rw [hn]; exact look (by simp [_root_.QR.look])

theorem Seen.pos {P : Nat → Nat → Bool} {W H n mu lt tp : Nat} {F : Nat → Nat → Int} (h : Seen P W H n mu lt tp F) : 21 * mu ≤ n * mu ∧ n * mu ≤ 300 :=
  ⟨Nat.mul_le_mul_right _ h.hn1, by have := h.shown.hW; have := h.hW; omega⟩
theorem Seen.first {P : Nat → Nat → Bool} {W H n mu lt tp : Nat} {F : Nat → Nat → Int} (h : Seen P W H n mu lt tp F) : FirstAt P W H lt tp := by
  have hp := h.pos
  have h1 := h.shown.hmu
  refine ⟨by have := h.shown.hW; omega, by have := h.shown.hH; omega, ?_, fun x y _ hy => h.shown.above x hy, fun x hx => h.shown.left tp hx⟩
  have e := h.shown.cell (a := 0) (b := 0) (i := 0) (j := 0) (by have := h.hn1; omega) (by have := h.hn1; omega) (by omega) (by omega)
  simp only [Nat.zero_mul, Nat.add_zero] at e
  rw [e, h.diag 0 (by omega)]; rfl
theorem Seen.last {P : Nat → Nat → Bool} {W H n mu lt tp : Nat} {F : Nat → Nat → Int} (h : Seen P W H n mu lt tp F) : ∃ x1, LastAt P W H x1 (tp + n * mu - 1) ∧ lt < x1 := by
  have hp := h.pos
  have h1 := h.shown.hmu
  have hn := h.hn1
  have e := h.shown.cell (a := 1) (b := n - 1) (i := 0) (j := mu - 1) (by omega) (by omega) (by omega) (by omega)
  have en : tp + (n - 1) * mu + (mu - 1) = tp + n * mu - 1 := by
    rw [Nat.sub_mul, Nat.one_mul]; omega
  rw [en, h.foot1, Nat.one_mul, Nat.add_zero] at e
  obtain ⟨x1, a1, a2, a3, a4⟩ := last_of (fun x => P x (tp + n * mu - 1)) W (lt + mu) (by have := h.shown.hW; omega) e
  exact ⟨x1, ⟨a2, by have := h.shown.hH; omega, a3, fun x y _ hy _ => h.shown.below x (by omega), a4⟩, by omega⟩
theorem Seen.line {P : Nat → Nat → Bool} {W H n mu lt tp : Nat} {F : Nat → Nat → Int} (h : Seen P W H n mu lt tp F) {k : Nat} (hk : k ≤ 7 * mu) : P (lt + k) (tp + k) = colT (k / mu) := by
  have hp := h.pos
  have h1 := h.shown.hmu
  rw [h.shown.diag (by omega), h.diag _ ?_]
  have := Nat.div_le_div_right (c := mu) hk
  rwa [Nat.mul_div_cancel _ (by omega)] at this
/-- The module of a place, and of the place before. -/
theorem before {k mu : Nat} (h1 : 1 ≤ mu) (hk : k ≤ 7 * mu) : k / mu ≤ 7 ∧ (k / mu = (k - 1) / mu ∨ k / mu = (k - 1) / mu + 1) := by
  have h2 := Nat.div_le_div_right (c := mu) hk
  rw [Nat.mul_div_cancel _ (by omega)] at h2
  refine ⟨h2, ?_⟩
  have a1 := Nat.div_le_div_right (c := mu) (show k - 1 ≤ k by omega)
  have a2 := Nat.div_le_div_right (c := mu) (show k ≤ (k - 1) + mu by omega)
  rw [Nat.add_div_right _ (by omega)] at a2
  omega

end Go.Proofs.YtplpafbkalkchaaGreatDoor

namespace Go.Proofs.YtplpafbkalkchaaGreatDoor
open Go.RowKit

theorem up8 (W : Nat) : ∃ S : Nat, W ≤ 8 * S ∧ 8 * S ≤ W + 7 ∧ ((((W % 8 : Nat) : Int) != 0) = true ∧ (W : Int) / 8 + 1 = (S : Int) ∨ (((W % 8 : Nat) : Int) != 0) = false ∧ (W : Int) / 8 = (S : Int)) := by
  by_cases h : W % 8 = 0
  · refine ⟨W / 8, by omega, by omega, Or.inr ⟨by rw [h]; rfl, by omega⟩⟩
  · refine ⟨W / 8 + 1, by omega, by omega, Or.inl ⟨?_, by omega⟩⟩
    rw [bne_iff_ne]; omega

set_option maxRecDepth 100000 in
set_option maxHeartbeats 4000000 in
theorem hybrid_ok (hb gb sb bk lo d W H N k D L lt : Nat) (P : Nat → Nat → Bool) (w : World) (h0 : Blk w hb [.pointer (some ⟨gb, 0, none⟩), .pointer none] 162) (h : GBin w gb sb bk lo 0 (fun _ => .int .i64 0)) (hs : GSrc w sb d W H N k (_root_.QR.grayF P W 0 L)) (hN : N = W * H)
    (n6 : hb ≠ sb) (n7 : hb ≠ d) (hW1 : 40 ≤ W) (hH1 : 40 ≤ H) (hW : W ≤ 300) (hH : H ≤ 300) (hL1 : 128 ≤ L) (hL2 : L < 256) :
    Calls Tryz.prog 319 #[.pointer (some ⟨hb, 0, none⟩)] w fun e w' => ∃ mb mc, e = .returned (.tuple #[.pointer (some ⟨mb, 0, none⟩), .nilIface]) ∧ BM w' mb mc W H P ∧ Keeps (fun i => i = hb) w w' := by
  have g0 := h0.cell (i := 0) rfl
  have g1 := h0.cell (i := 1) rfl
  have H0 := Lib.hid h0
  have HG := Lib.hid h
  have HS := Lib.hid hs
  have HN := Lib.hid hN
  obtain ⟨SW, s1, s2, s12⟩ := up8 W
  obtain ⟨SH, s3, s4, s34⟩ := up8 H
  have e7 := and7_i64 (x := W) (by omega)
  have e8 := and7_i64 (x := H) (by omega)
  have m1 := mW sb
  have m2 := mH sb
  have m3 := mM sb
  have HSS := Lib.hid (And.intro s1 (And.intro s2 (And.intro s3 s4)))
  have S12 := Lib.hid s12
  have S34 := Lib.hid s34
  have hb1 : SW ≤ 100 := by omega
  have hb2 : SH ≤ 100 := by omega
  have hwi : (40 : Int) ≤ (W : Int) := by omega
  have hhi : (40 : Int) ≤ (H : Int) := by omega
  clear h0 h hs hN s1 s2 s3 s4 s12 s34
  go_enter Tryz.func319, Tryz.ntmps319
  go_wp2_with fail
  refine (gbSrc_ok gb sb bk lo 0 _ w HG.out).mono ?_
  rintro e w1 ⟨rfl, rfl⟩
  go_wp2_with fail
  refine (srcW_ok sb d W H N k _ w HS.out).mono ?_
  rintro e w1 ⟨rfl, rfl⟩
  go_wp2_with fail
  refine (srcH_ok sb d W H N k _ w HS.out).mono ?_
  rintro e w1 ⟨rfl, rfl⟩
  go_wp2_with fail
  refine (srcMat_ok sb d W H N k _ w HS.out).mono ?_
  rintro e w1 ⟨rfl, rfl⟩
  clear m1 m2 m3 g0 g1
  go_upto_if 45 with fail
  go_cut [8] from 41 to 47 (fun s8 wx => s8 = .int .i64 (SW : Int) ∧ w = wx)
  case first =>
    rcases S12.out with ⟨c1, c2⟩ | ⟨c1, c2⟩
    · go_wp2_with fail
      go_meet
      exact ⟨by simp only [c2], rfl⟩
    · go_wp2_with fail
      go_meet
      exact ⟨by simp only [c2], rfl⟩
  case rest =>
    obtain ⟨rfl, rfl⟩ := hcut
    go_upto_if 52 with fail
    go_cut [9] from 48 to 54 (fun s9 wx => s9 = .int .i64 (SH : Int) ∧ w = wx)
    case first =>
      rcases S34.out with ⟨c1, c2⟩ | ⟨c1, c2⟩
      · go_wp2_with fail
        go_meet
        exact ⟨by simp only [c2], rfl⟩
      · go_wp2_with fail
        go_meet
        exact ⟨by simp only [c2], rfl⟩
    case rest =>
      obtain ⟨rfl, rfl⟩ := hcut
      go_wp2_with fail
      refine (points_ok (some ⟨hb, 0, none⟩) d N k W H SW SH L P w HS.out.row HN.out hW1 hH1 hW hH hL1 hL2 HSS.out.1 HSS.out.2.1 HSS.out.2.2.1 HSS.out.2.2.2).mono ?_
      rintro e w2 ⟨m, g, V, rfl, a1, a2⟩
      have MA := Lib.hid a1
      have HV := Lib.hid a2
      clear a1 a2
      go_wp2_with fail
      refine (bmNew_ok W H w2 (by omega) (by omega) (by omega) (by omega) _ _ rfl rfl).mono ?_
      rintro e w3 ⟨rfl, a1, a2, a3⟩
      obtain ⟨mc, hmc⟩ : ∃ q, w2.heap.size = q := ⟨_, rfl⟩
      obtain ⟨mb, hmb⟩ : ∃ q, mc + 1 = q := ⟨_, rfl⟩
      rw [hmc] at a1 ⊢
      rw [hmb] at a1 ⊢
      have A1 := Lib.hid a1
      have A2 := Lib.hid a2
      have hlm := MA.out.ltm
      have hld := HS.out.row.lt
      have hlh := H0.out.lt
      have hs2 := MA.out.keep.size
      have n1 : d ≠ mc := by omega
      have n2 : m ≠ mc := by omega
      have n3 : ∀ y, y < SH → g y ≠ mc := fun y hy => by have := (MA.out.rows.row y hy).lt; omega
      have n4 : hb ≠ mc := by omega
      have HNE := Lib.hid (And.intro n1 (And.intro n2 (And.intro n3 n4)))
      have HMC := Lib.hid (show w.heap.size ≤ mc by omega)
      have nmb : mb ≠ hb := by omega
      have c321 := Lib.hid (thrAll_ok (some ⟨hb, 0, none⟩) mb mc d N k W H SW SH m L g V P w3 A1.out ((HS.out.row.keep MA.out.keep (fun h => h)).keep a2 (fun h => h)) (MA.out.rows.keep a2 (fun h => h) (fun _ _ h => h)) HV.out HN.out hW1 hH1 hW hH hL2 HSS.out.1 HSS.out.2.1 HSS.out.2.2.1 HSS.out.2.2.2 n1 n2 n3)
      clear a1 a2 a3 hmc hmb hlm hld hlh hs2 n1 n2 n3 n4
      go_wp2_with fail
      refine c321.out.mono ?_
      rintro e w4 ⟨rfl, z1, z2⟩
      have K4 := Lib.hid ((MA.out.keep.trans A2.out).step (S := fun _ => False) z2 (fun i hi e => by have := HMC.out; omega))
      have B4 := Lib.hid z1
      have H4 := H0.out.keep K4.out (fun h => h)
      have f1 := H4.free 1
      have g1 := H4.cell (i := 1) rfl
      have HQ4 := Lib.hid H4
      clear z1 z2 H4
      go_wp2_with fail
      have e1 := (HQ4.out.set 1 (.pointer (some ⟨mb, 0, none⟩))).cell (i := 1) rfl
      go_wp2_with fail
      go_ret2
      exact ⟨mb, mc, rfl, B4.out.keep (kset hb _ 1 _) nmb (HNE.out.2.2.2.symm), (K4.out.mono (S' := fun i => i = hb) (fun _ _ f => f.elim)).setCell (Or.inl rfl) _⟩

end Go.Proofs.YtplpafbkalkchaaGreatDoor
