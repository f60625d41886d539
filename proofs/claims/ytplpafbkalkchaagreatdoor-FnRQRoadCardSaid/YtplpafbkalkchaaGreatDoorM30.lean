/-
  Parts of the proof (BQ, QC, RN, Pic).
-/
import Derived.Test.YtplpafbkalkchaaGreatDoorM03
import Derived.Test.YtplpafbkalkchaaGreatDoorM06
import Derived.Test.YtplpafbkalkchaaGreatDoorM29
import Derived.Deep.CutRange
set_option linter.unusedSimpArgs false
set_option linter.unusedVariables false

namespace Go.Proofs.YtplpafbkalkchaaGreatDoor
open Go.RowKit

theorem clearM_ok (b m n : Nat) (g : Nat → Nat) (f : Nat → Nat → Int) (w : World) (h : YM w b m n g f) (hn : n ≤ 1000) :
    Calls Tryz.prog 124 #[.pointer (some ⟨b, 0, none⟩)] w fun e w' => e = .returned (.tuple #[]) ∧ YM w' b m n g _root_.QR.nil1 ∧ Keeps (inRows g n) w w' := by
  have HH := Lib.hid h
  clear h
  go_enter Tryz.func124, Tryz.ntmps124
  go_wp2_with fail
  refine (ymClear_ok b m n g f w HH.out (-1) (by omega)).mono ?_
  rintro e w1 ⟨rfl, a1, a2⟩
  have A := Lib.hid (And.intro a1 a2)
  clear a1 a2
  go_wp2
  go_end0
  exact ⟨rfl, A.out⟩

theorem base_is (v n : Nat) (tb vb : List Bool) (e : n = _root_.QR.side v) :
    (if v < 7 then _root_.QR.tinfo n tb 15 0 (_root_.QR.timF (n - 8) (_root_.QR.adjust v (_root_.QR.dot n (_root_.QR.corners n _root_.QR.nil1)))) else _root_.QR.vinfo n vb 18 0 (_root_.QR.tinfo n tb 15 0 (_root_.QR.timF (n - 8) (_root_.QR.adjust v (_root_.QR.dot n (_root_.QR.corners n _root_.QR.nil1)))))) = _root_.QR.base v tb vb := by
  subst e; rfl
theorem sym_is (v m n : Nat) (tb vb bits : List Bool) (h1 : 1 ≤ v) (h7 : v ≤ 7) (e : n = _root_.QR.side v) (hb : bits.length = 8 * _root_.QR.wordsN v) :
    _root_.QR.embedL bits (_root_.QR.mskE m) (_root_.QR.base v tb vb, 0) (_root_.QR.zz n) = (_root_.QR.symM v m tb vb bits, bits.length) := by
  subst e
  exact Prod.ext rfl (_root_.QR.sym_num h1 h7 m _ _ bits hb)

theorem Keeps.rows {g : Nat → Nat} {n : Nat} {a b c : World} (h1 : Keeps (inRows g n) a b) (h2 : Keeps (inRows g n) b c) : Keeps (inRows g n) a c := h1.trans h2

set_option maxRecDepth 100000 in
set_option maxHeartbeats 4000000 in
theorem buildMatrix_ok (b c yb ym n s vb v l m : Nat) (bits : List Bool) (g : Nat → Nat) (f : Nat → Nat → Int) (w : World) (hb : BA w b c bits) (hV : Ver w s vb v) (h : YM w yb ym n g f) (hm : m < 8) (hl : l < 4)
    (h1 : 1 ≤ v) (h7 : v ≤ 7) (hn : n = _root_.QR.side v) (hlb : bits.length = 8 * _root_.QR.wordsN v) (hg : ∀ y, y < n → vb < g y ∨ g y < s) (L M : Int) (hL : L = (l : Int)) (hM : M = (m : Int)) :
    Calls Tryz.prog 68 #[.pointer (some ⟨b, 0, none⟩), .int .i64 L, .pointer (some ⟨vb, 0, none⟩), .int .i64 M, .pointer (some ⟨yb, 0, none⟩)] w fun e w' => e = .returned .nilIface ∧
      YM w' yb ym n g (_root_.QR.symM v m (QR.bitsOf 15 (_root_.QR.formatOf (l * 8 + m))) (QR.bitsOf 18 31892) bits) ∧ Keeps (inRows g n) w w' := by
  subst hL hM
  have hn1 : 21 ≤ n ∧ n ≤ 45 ∧ n % 2 = 1 := by subst hn; unfold _root_.QR.side; omega
  obtain ⟨n1, n2, n3⟩ := hn1
  have HH := Lib.hid h
  have HN := Lib.hid hn
  have hS : ∀ i, s ≤ i → i ≤ vb → ¬ inRows g n i := fun i i1 i2 ⟨y, hy, e⟩ => by have := hg y hy; omega
  have HB := Lib.hid (And.intro hb (And.intro hV (And.intro hS hg)))
  have hlen : bits.length ≤ 100000 := by
    have : _root_.QR.wordsN v ≤ 196 := by
      obtain rfl | rfl | rfl | rfl | rfl | rfl | rfl : v = 1 ∨ v = 2 ∨ v = 3 ∨ v = 4 ∨ v = 5 ∨ v = 6 ∨ v = 7 := by omega
      all_goals decide
    omega
  have HLB := Lib.hid hlb
  have hrow : ∀ w', YM w' yb ym n g _root_.QR.nil1 ∨ True := fun _ => Or.inr trivial
  clear h hn hb hV hg hS hlb hrow
  go_enter Tryz.func68, Tryz.ntmps68
  go_wp2_with fail
  refine (clearM_ok yb ym n g f w HH.out (by omega)).mono ?_
  rintro e w1 ⟨rfl, a1, a2⟩
  have A1 := Lib.hid (And.intro a1 (And.intro (HB.out.2.1.keep a2 HB.out.2.2.1) (And.intro (HB.out.1.keepS a2 (fun i hi => ⟨145, HH.out.rowT i hi, by decide, by decide⟩)) a2)))
  clear a1 a2
  go_wp2_with fail
  refine (basic_ok s vb yb ym n v g w1 A1.out.2.1 A1.out.1 h1 h7 HN.out HB.out.2.2.2).mono ?_
  rintro e w2 ⟨rfl, a1, a2⟩
  have A2 := Lib.hid (And.intro a1 (And.intro (A1.out.2.1.keep a2 HB.out.2.2.1) (And.intro (A1.out.2.2.1.keepS a2 (fun i hi => ⟨145, A1.out.1.rowT i hi, by decide, by decide⟩)) (A1.out.2.2.2.rows a2))))
  clear a1 a2 A1
  go_wp2_with fail
  refine (typeInfo_ok l m yb ym n g _ w2 A2.out.1 hl hm n1 (by omega) _ _ rfl rfl).mono ?_
  rintro e w3 ⟨rfl, a1, a2⟩
  have A3 := Lib.hid (And.intro a1 (And.intro (A2.out.2.1.keep a2 HB.out.2.2.1) (And.intro (A2.out.2.2.1.keepS a2 (fun i hi => ⟨145, A2.out.1.rowT i hi, by decide, by decide⟩)) (A2.out.2.2.2.rows a2))))
  clear a1 a2 A2
  go_wp2_with fail
  refine (versionInfo_ok s vb v yb ym n g _ w3 A3.out.2.1 h1 h7 A3.out.1 HN.out).mono ?_
  rintro e w4 ⟨rfl, a1, a2⟩
  rw [base_is v n _ _ HN.out] at a1
  have A4 := Lib.hid (And.intro a1 (And.intro (A3.out.2.1.keep a2 HB.out.2.2.1) (And.intro (A3.out.2.2.1.keepS a2 (fun i hi => ⟨145, A3.out.1.rowT i hi, by decide, by decide⟩)) (A3.out.2.2.2.rows a2))))
  clear a1 a2 A3
  have HF := Lib.hid (sym_is v m n (QR.bitsOf 15 (_root_.QR.formatOf (l * 8 + m))) (QR.bitsOf 18 31892) bits h1 h7 HN.out HLB.out)
  go_wp2_with fail
  refine (embedData_ok m b c yb ym n bits g _ _ w4 A4.out.2.2.1 A4.out.1 hm n1 (by omega) n3 HF.out hlen _ rfl).mono ?_
  rintro e w5 ⟨rfl, a1, a2⟩
  have A5 := Lib.hid (And.intro a1 (A4.out.2.2.2.rows a2))
  clear a1 a2 A4
  go_wp2
  try go_ret
  exact ⟨rfl, A5.out⟩

end Go.Proofs.YtplpafbkalkchaaGreatDoor

namespace Go.Proofs.YtplpafbkalkchaaGreatDoor
open Go.RowKit

theorem qcNew_ok (w : World) : Calls Tryz.prog 59 #[] w fun e w' => e = .returned (.pointer (some ⟨w.heap.size, 0, none⟩)) ∧
    Blk w' w.heap.size [.int .i64 0, .int .i64 0, .pointer none, .int .i64 (-1), .pointer none] 219 ∧ Keeps (fun _ => False) w w' ∧ w'.heap.size = w.heap.size + 1 := by
  go_enter Tryz.func59, Tryz.ntmps59
  go_wp2
  go_ret
  exact ⟨rfl, Blk.new w _ 219, (Keeps.refl _ w).alloc _, by simp⟩

theorem qcLevel_ok (q : Nat) (v0 v1 v2 v3 v4 : Value) (x : Int) (w : World) (h : Blk w q [v0, v1, v2, v3, v4] 219) :
    Calls Tryz.prog 60 #[.pointer (some ⟨q, 0, none⟩), .int .i64 x] w fun e w' => e = .returned (.tuple #[]) ∧ Blk w' q [v0, .int .i64 x, v2, v3, v4] 219 ∧ Keeps (fun i => i = q) w w' := by
  have a0 := h.cell (i := 1) rfl
  have a1 := h.free 1
  have HS := Lib.hid (And.intro (h.set 1 (.int .i64 x)) ((Keeps.refl (fun i => i = q) w).setCell (p := ⟨q, 1, none⟩) (Or.inl rfl) (.int .i64 x)))
  clear h
  go_enter Tryz.func60, Tryz.ntmps60
  go_wp2
  go_end0
  exact ⟨rfl, HS.out⟩

theorem qcMode_ok (q : Nat) (v0 v1 v2 v3 v4 : Value) (x : Int) (w : World) (h : Blk w q [v0, v1, v2, v3, v4] 219) :
    Calls Tryz.prog 61 #[.pointer (some ⟨q, 0, none⟩), .int .i64 x] w fun e w' => e = .returned (.tuple #[]) ∧ Blk w' q [.int .i64 x, v1, v2, v3, v4] 219 ∧ Keeps (fun i => i = q) w w' := by
  have a0 := h.cell (i := 0) rfl
  have a1 := h.free 0
  have HS := Lib.hid (And.intro (h.set 0 (.int .i64 x)) ((Keeps.refl (fun i => i = q) w).setCell (p := ⟨q, 0, none⟩) (Or.inl rfl) (.int .i64 x)))
  clear h
  go_enter Tryz.func61, Tryz.ntmps61
  go_wp2
  go_end0
  exact ⟨rfl, HS.out⟩

theorem qcVersion_ok (q : Nat) (v0 v1 v2 v3 v4 : Value) (x : Option Addr) (w : World) (h : Blk w q [v0, v1, v2, v3, v4] 219) :
    Calls Tryz.prog 62 #[.pointer (some ⟨q, 0, none⟩), .pointer x] w fun e w' => e = .returned (.tuple #[]) ∧ Blk w' q [v0, v1, .pointer x, v3, v4] 219 ∧ Keeps (fun i => i = q) w w' := by
  have a0 := h.cell (i := 2) rfl
  have a1 := h.free 2
  have HS := Lib.hid (And.intro (h.set 2 (.pointer x)) ((Keeps.refl (fun i => i = q) w).setCell (p := ⟨q, 2, none⟩) (Or.inl rfl) (.pointer x)))
  clear h
  go_enter Tryz.func62, Tryz.ntmps62
  go_wp2
  go_end0
  exact ⟨rfl, HS.out⟩

theorem qcMask_ok (q : Nat) (v0 v1 v2 v3 v4 : Value) (x : Int) (w : World) (h : Blk w q [v0, v1, v2, v3, v4] 219) :
    Calls Tryz.prog 67 #[.pointer (some ⟨q, 0, none⟩), .int .i64 x] w fun e w' => e = .returned (.tuple #[]) ∧ Blk w' q [v0, v1, v2, .int .i64 x, v4] 219 ∧ Keeps (fun i => i = q) w w' := by
  have a0 := h.cell (i := 3) rfl
  have a1 := h.free 3
  have HS := Lib.hid (And.intro (h.set 3 (.int .i64 x)) ((Keeps.refl (fun i => i = q) w).setCell (p := ⟨q, 3, none⟩) (Or.inl rfl) (.int .i64 x)))
  clear h
  go_enter Tryz.func67, Tryz.ntmps67
  go_wp2
  go_end0
  exact ⟨rfl, HS.out⟩

theorem qcMatrix_ok (q : Nat) (v0 v1 v2 v3 v4 : Value) (x : Option Addr) (w : World) (h : Blk w q [v0, v1, v2, v3, v4] 219) :
    Calls Tryz.prog 69 #[.pointer (some ⟨q, 0, none⟩), .pointer x] w fun e w' => e = .returned (.tuple #[]) ∧ Blk w' q [v0, v1, v2, v3, .pointer x] 219 ∧ Keeps (fun i => i = q) w w' := by
  have a0 := h.cell (i := 4) rfl
  have a1 := h.free 4
  have HS := Lib.hid (And.intro (h.set 4 (.pointer x)) ((Keeps.refl (fun i => i = q) w).setCell (p := ⟨q, 4, none⟩) (Or.inl rfl) (.pointer x)))
  clear h
  go_enter Tryz.func69, Tryz.ntmps69
  go_wp2
  go_end0
  exact ⟨rfl, HS.out⟩

theorem qcGet_ok (q : Nat) (v0 v1 v2 v3 : Value) (x : Option Addr) (w : World) (h : Blk w q [v0, v1, v2, v3, .pointer x] 219) :
    Calls Tryz.prog 70 #[.pointer (some ⟨q, 0, none⟩)] w fun e w' => e = .returned (.pointer x) ∧ w = w' := by
  have a0 := h.cell (i := 4) rfl
  clear h
  go_enter Tryz.func70, Tryz.ntmps70
  go_wp2
  go_ret
  exact ⟨rfl, rfl⟩

end Go.Proofs.YtplpafbkalkchaaGreatDoor

namespace Go.Proofs.YtplpafbkalkchaaGreatDoor
open Go.RowKit

/-- The picture behind some modules of a row. -/
def dots (F : Nat → Nat → Int) (n mu lt tp k j X Y : Nat) : Bool :=
  decide (lt ≤ X ∧ tp ≤ Y ∧ (X - lt) / mu < n ∧ ((Y - tp) / mu < k ∨ ((Y - tp) / mu = k ∧ (X - lt) / mu < j))) && (F ((X - lt) / mu) ((Y - tp) / mu) == 1)
theorem in_cell (mu lt j X : Nat) (hm : 0 < mu) : (lt + j * mu ≤ X ∧ X < lt + j * mu + mu) ↔ (lt ≤ X ∧ (X - lt) / mu = j) := by
  constructor
  · rintro ⟨h1, h2⟩
    have h3 : lt ≤ X := by have := Nat.zero_le (j * mu); omega
    refine ⟨h3, ?_⟩
    apply Nat.div_eq_of_lt_le
    · omega
    · rw [Nat.succ_mul]; omega
  · rintro ⟨h1, rfl⟩
    have h2 := Nat.div_mul_le_self (X - lt) mu
    have h3 := Nat.lt_div_mul_add hm (a := X - lt)
    omega
theorem dots_black (F : Nat → Nat → Int) (n mu lt tp k j X Y : Nat) (hm : 0 < mu) (hj : j < n) (hF : F j k = 1) :
    (dots F n mu lt tp k j X Y || decide (lt + j * mu ≤ X ∧ X < lt + j * mu + mu ∧ tp + k * mu ≤ Y ∧ Y < tp + k * mu + mu)) = dots F n mu lt tp k (j + 1) X Y := by
  have e : (lt + j * mu ≤ X ∧ X < lt + j * mu + mu ∧ tp + k * mu ≤ Y ∧ Y < tp + k * mu + mu) ↔ (lt ≤ X ∧ (X - lt) / mu = j) ∧ (tp ≤ Y ∧ (Y - tp) / mu = k) := by
    rw [← in_cell _ _ _ _ hm, ← in_cell _ _ _ _ hm]; constructor
    · rintro ⟨a, b, c, d⟩; exact ⟨⟨a, b⟩, c, d⟩
    · rintro ⟨⟨a, b⟩, c, d⟩; exact ⟨a, b, c, d⟩
  unfold dots
  simp only [e]
  generalize hx : (X - lt) / mu = x
  generalize hy : (Y - tp) / mu = y
  by_cases h1 : x = j ∧ y = k
  · obtain ⟨rfl, rfl⟩ := h1
    by_cases h2 : lt ≤ X ∧ tp ≤ Y
    · simp [h2.1, h2.2, hF, hj]
    · simp only [not_and] at h2
      by_cases h3 : lt ≤ X
      · simp [h3, h2 h3]
      · simp [h3]
  · have h3 : decide ((lt ≤ X ∧ x = j) ∧ tp ≤ Y ∧ y = k) = false := decide_eq_false (fun h => h1 ⟨h.1.2, h.2.2⟩)
    rw [h3, Bool.or_false]
    congr 2
    apply propext
    constructor
    · rintro ⟨a, b, c, d⟩; exact ⟨a, b, c, by omega⟩
    · rintro ⟨a, b, c, d⟩; exact ⟨a, b, c, by omega⟩
theorem dots_white (F : Nat → Nat → Int) (n mu lt tp k j X Y : Nat) (hF : F j k ≠ 1) : dots F n mu lt tp k j X Y = dots F n mu lt tp k (j + 1) X Y := by
  unfold dots
  generalize hx : (X - lt) / mu = x
  generalize hy : (Y - tp) / mu = y
  by_cases h1 : x = j ∧ y = k
  · obtain ⟨rfl, rfl⟩ := h1
    have : (F x y == 1) = false := by simpa using hF
    simp [this]
  · congr 2
    apply propext
    constructor
    · rintro ⟨a, b, c, d⟩; exact ⟨a, b, c, by omega⟩
    · rintro ⟨a, b, c, d⟩; exact ⟨a, b, c, by omega⟩
theorem dots_row (F : Nat → Nat → Int) (n mu lt tp k X Y : Nat) : dots F n mu lt tp k n X Y = dots F n mu lt tp (k + 1) 0 X Y := by
  unfold dots
  generalize (X - lt) / mu = x
  generalize (Y - tp) / mu = y
  congr 2
  apply propext
  constructor
  · rintro ⟨a, b, c, d⟩; exact ⟨a, b, c, by omega⟩
  · rintro ⟨a, b, c, d⟩; exact ⟨a, b, c, by omega⟩
theorem dots_start (F : Nat → Nat → Int) (n mu lt tp X Y : Nat) : dots F n mu lt tp 0 0 X Y = false := by
  unfold dots; simp

set_option maxRecDepth 100000 in
set_option maxHeartbeats 4000000 in
theorem render_ok (q yb ym n W H z mu : Nat) (v0 v1 v2 v3 : Value) (g : Nat → Nat) (F : Nat → Nat → Int) (w : World) (hq : Blk w q [v0, v1, v2, v3, .pointer (some ⟨yb, 0, none⟩)] 219) (h : YM w yb ym n g F)
    (hn : 21 ≤ n) (hn2 : n ≤ 100) (hW : W ≤ 1000) (hH : H ≤ 1000) (hz : z ≤ 100) (hmu : mu = min ((max W (n + 2 * z)) / (n + 2 * z)) ((max H (n + 2 * z)) / (n + 2 * z))) :
    Calls Tryz.prog 25 #[.pointer (some ⟨q, 0, none⟩), .int .i64 (W : Int), .int .i64 (H : Int), .int .i64 (z : Int)] w fun e w' => ∃ bb cb, e = .returned (.tuple #[.pointer (some ⟨bb, 0, none⟩), .nilIface]) ∧
      BM w' bb cb (max W (n + 2 * z)) (max H (n + 2 * z)) (dots F n mu ((max W (n + 2 * z) - n * mu) / 2) ((max H (n + 2 * z) - n * mu) / 2) n 0) ∧ Keeps (fun _ => False) w w' := by
  obtain ⟨d, hd⟩ : ∃ d, n + 2 * z = d := ⟨_, rfl⟩
  obtain ⟨OW, hOW⟩ : ∃ O, max W d = O := ⟨_, rfl⟩
  obtain ⟨OH, hOH⟩ : ∃ O, max H d = O := ⟨_, rfl⟩
  rw [hd, hOW, hOH]
  rw [hd, hOW, hOH] at hmu
  have hd1 : 21 ≤ d ∧ d ≤ 300 := by omega
  have hOW1 : d ≤ OW ∧ OW ≤ 1000 := by omega
  have hOH1 : d ≤ OH ∧ OH ≤ 1000 := by omega
  have hdi : (n : Int) + (z : Int) * 2 = (d : Int) := by omega
  obtain ⟨m1, hm1⟩ : ∃ m, OW / d = m := ⟨_, rfl⟩
  obtain ⟨m2, hm2⟩ : ∃ m, OH / d = m := ⟨_, rfl⟩
  rw [hm1, hm2] at hmu
  have hq1 : (OW : Int) / (d : Int) = (m1 : Int) := by rw [← hm1]; push_cast; rfl
  have hq2 : (OH : Int) / (d : Int) = (m2 : Int) := by rw [← hm2]; push_cast; rfl
  have b1 : d * m1 ≤ OW := by rw [← hm1]; exact Nat.mul_div_le _ _
  have b2 : d * m2 ≤ OH := by rw [← hm2]; exact Nat.mul_div_le _ _
  have p1 : 1 ≤ m1 := by rw [← hm1]; exact (Nat.one_le_div_iff (by omega)).2 hOW1.1
  have p2 : 1 ≤ m2 := by rw [← hm2]; exact (Nat.one_le_div_iff (by omega)).2 hOH1.1
  have c1 : m1 ≤ 1000 := by rw [← hm1]; exact Nat.le_trans (Nat.div_le_self _ _) hOW1.2
  have c2 : m2 ≤ 1000 := by rw [← hm2]; exact Nat.le_trans (Nat.div_le_self _ _) hOH1.2
  have pm : 1 ≤ mu ∧ mu ≤ 1000 := by omega
  have bm1 : n * mu ≤ OW := Nat.le_trans (Nat.mul_le_mul (show n ≤ d by omega) (show mu ≤ m1 by omega)) b1
  have bm2 : n * mu ≤ OH := Nat.le_trans (Nat.mul_le_mul (show n ≤ d by omega) (show mu ≤ m2 by omega)) b2
  obtain ⟨nm, hnm⟩ : ∃ p, n * mu = p := ⟨_, rfl⟩
  rw [hnm]
  rw [hnm] at bm1 bm2
  have hnmi : (n : Int) * (mu : Int) = (nm : Int) := by rw [← hnm]; push_cast; rfl
  obtain ⟨lt, hlt⟩ : ∃ l, (OW - nm) / 2 = l := ⟨_, rfl⟩
  obtain ⟨tp, htp⟩ : ∃ l, (OH - nm) / 2 = l := ⟨_, rfl⟩
  rw [hlt, htp]
  have hlti : ((OW : Int) - (nm : Int)) / 2 = (lt : Int) := by omega
  have htpi : ((OH : Int) - (nm : Int)) / 2 = (tp : Int) := by omega
  have hl2 : lt + nm ≤ OW := by omega
  have ht2 : tp + nm ≤ OH := by omega
  have HO1 := Lib.hid (And.intro hOW hOH)
  have HMU := Lib.hid hmu
  have HNM := Lib.hid hnm
  have HH := Lib.hid h
  have HQ := Lib.hid hq
  clear h hq hd hOW hOH hmu hm1 hm2 b1 b2 hlt htp hnm
  go_enter Tryz.func25, Tryz.ntmps25
  go_wp2_with fail
  refine (qcGet_ok q v0 v1 v2 v3 _ w HQ.out).mono ?_
  rintro e w1 ⟨rfl, rfl⟩
  go_wp2_with fail
  refine (ymW_ok yb ym n g F w HH.out).mono ?_
  rintro e w1 ⟨rfl, rfl⟩
  go_wp2_with fail
  refine (ymH_ok yb ym n g F w HH.out).mono ?_
  rintro e w1 ⟨rfl, rfl⟩
  go_upto_if 49 with fail
  go_cut [15] from 46 to 50 (fun s15 wx => s15 = .int .i64 (OW : Int) ∧ w = wx)
  case first =>
    by_cases hc : d < W
    · have hc' : (d : Int) < (W : Int) := by omega
      go_wp2_with fail
      go_meet
      exact ⟨by have := HO1.out; rw [show OW = W by omega], rfl⟩
    · have hc' : ¬ (d : Int) < (W : Int) := by omega
      go_wp2_with fail
      go_meet
      exact ⟨by have := HO1.out; rw [show OW = d by omega], rfl⟩
  case rest =>
    obtain ⟨rfl, rfl⟩ := hcut
    go_upto_if 54 with fail
    go_cut [16] from 51 to 55 (fun s16 wx => s16 = .int .i64 (OH : Int) ∧ w = wx)
    case first =>
      by_cases hc : d < H
      · have hc' : (d : Int) < (H : Int) := by omega
        go_wp2_with fail
        go_meet
        exact ⟨by have := HO1.out; rw [show OH = H by omega], rfl⟩
      · have hc' : ¬ (d : Int) < (H : Int) := by omega
        go_wp2_with fail
        go_meet
        exact ⟨by have := HO1.out; rw [show OH = d by omega], rfl⟩
    case rest =>
      obtain ⟨rfl, rfl⟩ := hcut
      go_upto_if 64 with fail
      go_cut [17] from 56 to 65 (fun s17 wx => s17 = .int .i64 (mu : Int) ∧ w = wx)
      case first =>
        by_cases hc : m2 < m1
        · have hc' : (m2 : Int) < (m1 : Int) := by omega
          go_wp2_with fail
          go_meet
          exact ⟨by have := HMU.out; rw [show mu = m2 by omega], rfl⟩
        · have hc' : ¬ (m2 : Int) < (m1 : Int) := by omega
          go_wp2_with fail
          go_meet
          exact ⟨by have := HMU.out; rw [show mu = m1 by omega], rfl⟩
      case rest =>
        obtain ⟨rfl, rfl⟩ := hcut
        go_wp2_with fail
        refine (bmNew_ok OW OH w (by omega) (by omega) (by omega) (by omega) _ _ rfl rfl).mono ?_
        rintro e w1 ⟨rfl, a1, a2, a3⟩
        have A := Lib.hid (And.intro a1 (And.intro (HH.out.keep a2 (fun f => f) (fun f => f) (fun _ _ f => f)) (And.intro a2 a3)))
        clear a1 a2 a3
        have hyb := HH.out.head.lt
        have hym : ym < w.heap.size := HH.out.rows.top.lt
        have hgr : ∀ y, y < n → g y < w.heap.size := fun y hy => (HH.out.rows.row y hy).lt
        have HLT := Lib.hid (And.intro hyb (And.intro hym hgr))
        clear hyb hym hgr
        obtain ⟨pm1, pm2⟩ := pm
        go_wp2_with fail
        go_loopw [23, 24, 25, 26] (fun s23 s24 _ _ wr => ∃ k Y : Nat, k ≤ n ∧ s23 = .int .i64 (k : Int) ∧ s24 = .int .i64 (Y : Int) ∧ Hid (Y = tp + k * mu) ∧ BM wr (w.heap.size + 1) w.heap.size OW OH (dots F n mu lt tp k 0) ∧ YM wr yb ym n g F ∧ Keeps (fun _ => False) w wr) (fun s23 _ _ _ _ => n - (intOf s23).toNat)
        case atStart => exact ⟨0, tp, by omega, rfl, rfl, Lib.hid (by omega), A.out.1.congr (fun x y _ _ => (dots_start F n mu lt tp x y).symm), A.out.2.1, A.out.2.2.1⟩
        case round =>
          obtain ⟨k, Y, hk, rfl, rfl, hY, a1, a2, a3⟩ := hrel
          have B := Lib.hid (And.intro a1 (And.intro a2 a3))
          clear a1 a2 a3
          by_cases hkn : k < n
          · have hkn' : (k : Int) < (n : Int) := by omega
            have hYB := HNM.out
            have hY2 : Y + mu ≤ OH := by
              have h1 := Nat.mul_le_mul (show k + 1 ≤ n by omega) (Nat.le_refl mu)
              rw [Nat.succ_mul] at h1
              have := hY.out; omega
            clear hYB
            go_wp2_with fail
            go_loopw [25, 26] (fun s25 s26 wr' => ∃ j X : Nat, j ≤ n ∧ s25 = .int .i64 (j : Int) ∧ s26 = .int .i64 (X : Int) ∧ Hid (X = lt + j * mu) ∧ BM wr' (w.heap.size + 1) w.heap.size OW OH (dots F n mu lt tp k j) ∧ YM wr' yb ym n g F ∧ Keeps (fun _ => False) w wr') (fun s25 _ _ => n - (intOf s25).toNat)
            case atStart => exact ⟨0, lt, by omega, rfl, rfl, Lib.hid (by omega), B.out⟩
            case round =>
              obtain ⟨j, X, hj, rfl, rfl, hX, a1, a2, a3⟩ := hrel
              have C := Lib.hid (And.intro a1 (And.intro a2 a3))
              clear a1 a2 a3
              by_cases hjn : j < n
              · have hjn' : (j : Int) < (n : Int) := by omega
                have hX2 : X + mu ≤ OW := by
                  have h1 := Nat.mul_le_mul (show j + 1 ≤ n by omega) (Nat.le_refl mu)
                  rw [Nat.succ_mul] at h1
                  have := hX.out; have := HNM.out; omega
                have hX3 := Lib.hid (show X + mu = lt + (j + 1) * mu by rw [Nat.succ_mul]; have := hX.out; omega)
                obtain ⟨v, hv⟩ : ∃ v, F j k = v := ⟨_, rfl⟩
                have HV := Lib.hid hv
                obtain ⟨t, ht⟩ : ∃ t, (v == 1) = t := ⟨_, rfl⟩
                have HT := Lib.hid ht
                clear hv
                go_wp2_with fail
                refine (ymGet_ok yb ym n j k g F _ C.out.2.1 hjn hkn _ _ rfl rfl v HV.out).mono ?_
                rintro e w2 ⟨rfl, rfl⟩
                cases t
                · have hw := Lib.hid (C.out.1.congr (fun x y _ _ => dots_white F n mu lt tp k j x y (by rw [HV.out]; simpa using HT.out)))
                  go_wp2
                  go_roundw
                  case rel => exact ⟨j + 1, X + mu, by omega, by go_num, by go_num, hX3, hw.out, C.out.2⟩
                  case measure => simp [intOf]; omega
                · go_wp2_with fail
                  refine (bmRegion_ok _ _ OW OH X Y mu mu _ _ C.out.1 hX2 hY2 (by omega) (by omega) (by omega) (by omega) _ _ _ _ rfl rfl rfl rfl).mono ?_
                  rintro e w3 ⟨rfl, a1, a2⟩
                  have D := Lib.hid (And.intro (a1.congr (fun x y _ _ => (by
                      rw [hX.out, hY.out]
                      exact dots_black F n mu lt tp k j x y (by omega) hjn (by rw [HV.out]; simpa using HT.out) : _ = dots F n mu lt tp k (j + 1) x y))) (And.intro (C.out.2.1.keep a2 (by have := HLT.out.1; omega) (by have := HLT.out.2.1; omega) (fun y hy => by have := HLT.out.2.2 y hy; omega)) (C.out.2.2.step a2 (fun i hi e => by omega))))
                  clear a1 a2
                  go_wp2
                  go_roundw
                  case rel => exact ⟨j + 1, X + mu, by omega, by go_num, by go_num, hX3, D.out⟩
                  case measure => simp [intOf]; omega
              · obtain rfl : j = n := by omega
                have hw := Lib.hid (C.out.1.congr (fun x y _ _ => dots_row F j mu lt tp k x y))
                have hY3 := Lib.hid (show Y + mu = tp + (k + 1) * mu by rw [Nat.succ_mul]; have := hY.out; omega)
                go_wp2
                go_roundw
                case rel => exact ⟨k + 1, Y + mu, by omega, by go_num, by go_num, hY3, hw.out, C.out.2⟩
                case measure => simp [intOf]; omega
          · obtain rfl : k = n := by omega
            go_wp2
            go_ret2
            exact ⟨_, _, rfl, B.out.1, B.out.2.2⟩

end Go.Proofs.YtplpafbkalkchaaGreatDoor

namespace Go.Proofs.YtplpafbkalkchaaGreatDoor
open Go.RowKit

structure Shown (P : Nat → Nat → Bool) (W H n mu lt tp : Nat) (F : Nat → Nat → Int) : Prop where
  hmu : 1 ≤ mu
  hW : lt + n * mu ≤ W
  hH : tp + n * mu ≤ H
  pix : ∀ X Y, P X Y = (decide (lt ≤ X ∧ tp ≤ Y ∧ (X - lt) / mu < n ∧ (Y - tp) / mu < n) && (F ((X - lt) / mu) ((Y - tp) / mu) == 1))

theorem dots_shown (F : Nat → Nat → Int) (W H n mu lt tp : Nat) (hmu : 1 ≤ mu) (hW : lt + n * mu ≤ W) (hH : tp + n * mu ≤ H) : Shown (dots F n mu lt tp n 0) W H n mu lt tp F :=
  ⟨hmu, hW, hH, fun X Y => by
    unfold dots
    congr 2
    apply propext
    constructor
    · rintro ⟨a, b, c, d | ⟨_, d⟩⟩
      · exact ⟨a, b, c, d⟩
      · exact absurd d (Nat.not_lt_zero _)
    · rintro ⟨a, b, c, d⟩; exact ⟨a, b, c, Or.inl d⟩⟩

theorem cell_div {lt mu a i : Nat} (hi : i < mu) : (lt + a * mu + i - lt) / mu = a := by
  rw [show lt + a * mu + i - lt = i + a * mu by omega, Nat.add_mul_div_right _ _ (by omega), Nat.div_eq_of_lt hi, Nat.zero_add]
theorem Shown.cell {P : Nat → Nat → Bool} {W H n mu lt tp : Nat} {F : Nat → Nat → Int} (h : Shown P W H n mu lt tp F) {a b i j : Nat} (ha : a < n) (hb : b < n) (hi : i < mu) (hj : j < mu) :
    P (lt + a * mu + i) (tp + b * mu + j) = (F a b == 1) := by
  rw [h.pix, cell_div hi, cell_div hj, decide_eq_true ⟨by have := Nat.zero_le (a * mu); omega, by have := Nat.zero_le (b * mu); omega, ha, hb⟩, Bool.true_and]
theorem Shown.left {P : Nat → Nat → Bool} {W H n mu lt tp : Nat} {F : Nat → Nat → Int} (h : Shown P W H n mu lt tp F) {X : Nat} (Y : Nat) (hx : X < lt) : P X Y = false := by
  rw [h.pix, decide_eq_false (fun c => by omega), Bool.false_and]
theorem Shown.above {P : Nat → Nat → Bool} {W H n mu lt tp : Nat} {F : Nat → Nat → Int} (h : Shown P W H n mu lt tp F) (X : Nat) {Y : Nat} (hy : Y < tp) : P X Y = false := by
  rw [h.pix, decide_eq_false (fun c => by omega), Bool.false_and]
theorem Shown.below {P : Nat → Nat → Bool} {W H n mu lt tp : Nat} {F : Nat → Nat → Int} (h : Shown P W H n mu lt tp F) (X : Nat) {Y : Nat} (hy : tp + n * mu ≤ Y) : P X Y = false := by
  rw [h.pix, decide_eq_false (fun c => ?_), Bool.false_and]
  have := (Nat.div_lt_iff_lt_mul h.hmu).1 c.2.2.2
  omega
theorem Shown.diag {P : Nat → Nat → Bool} {W H n mu lt tp : Nat} {F : Nat → Nat → Int} (h : Shown P W H n mu lt tp F) {k : Nat} (hk : k < n * mu) : P (lt + k) (tp + k) = (F (k / mu) (k / mu) == 1) := by
  have h1 := (Nat.div_lt_iff_lt_mul h.hmu).2 hk
  rw [h.pix, show lt + k - lt = k by omega, show tp + k - tp = k by omega, decide_eq_true ⟨by omega, by omega, h1, h1⟩, Bool.true_and]

end Go.Proofs.YtplpafbkalkchaaGreatDoor
