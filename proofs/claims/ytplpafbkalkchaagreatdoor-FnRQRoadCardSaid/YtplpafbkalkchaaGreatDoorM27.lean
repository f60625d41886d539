/-
  Parts of the proof (BCH, PT, YE, YA).
-/
import Derived.Test.YtplpafbkalkchaaGreatDoorM02
import Derived.Test.YtplpafbkalkchaaGreatDoorM07
import Derived.Test.YtplpafbkalkchaaGreatDoorM13
import Derived.Test.YtplpafbkalkchaaGreatDoorM14
import Derived.Test.YtplpafbkalkchaaGreatDoorM22
import Derived.Test.YtplpafbkalkchaaGreatDoorM24
import Derived.Test.YtplpafbkalkchaaGreatDoorM26
set_option linter.unusedSimpArgs false
set_option linter.unusedVariables false

namespace Go.Proofs.YtplpafbkalkchaaGreatDoor
open Go.RowKit

set_option maxRecDepth 100000 in
theorem msb_ok (x : Nat) (hx : x < 4294967296) (w : World) : Calls Tryz.prog 220 #[.int .i64 (x : Int)] w fun e w' => e = .returned (.int .i64 (Lib.bitLen x : Nat)) ∧ w = w' := by
  have hm : (x : Int) % 4294967296 = (x : Int) := by omega
  have hc := shfLeadingZeros32 (x : Int) w (by omega) (by omega)
  rw [Int.toNat_natCast] at hc
  have hle : Lib.bitLen x ≤ 64 := by
    have : ∀ f y, Lib.bitLenAux f y ≤ f := by
      intro f
      induction f with
      | zero => intro y; exact Nat.le_refl _
      | succ f ih => intro y; show (if y = 0 then 0 else 1 + Lib.bitLenAux f (y / 2)) ≤ f + 1; split; omega; have := ih (y / 2); omega
    exact this 64 x
  generalize Lib.bitLen x = n at *
  have HC := Lib.hid hc
  clear hc
  go_enter Tryz.func220, Tryz.ntmps220
  go_wp2_with fail
  refine HC.out.mono ?_
  rintro e w1 ⟨rfl, rfl⟩
  go_wp2
  go_ret
  exact ⟨ret_int (by omega), rfl⟩

theorem shl_i64 {x k : Nat} (hx : x < 1073741824) (hk : k ≤ 31) : wrap64 ((x : Int) * (2 : Int) ^ k) = ((x * 2 ^ k : Nat) : Int) := by
  have h2 : 2 ^ k ≤ 2 ^ 31 := Nat.pow_le_pow_right (by omega) hk
  have e : ((x : Int) * (2 : Int) ^ k) = ((x * 2 ^ k : Nat) : Int) := by simp
  have h3 : x * 2 ^ k ≤ 1073741824 * 2 ^ 31 := Nat.mul_le_mul (by omega) h2
  rw [e]; unfold wrap64; generalize x * 2 ^ k = m at *; omega

/-- The division of bits, so many rounds at most. -/
def bchRun : Nat → Nat → Nat → Option Nat
  | 0, _, _ => none
  | k + 1, x, p => if x < 1073741824 ∧ Lib.bitLen x ≤ 31 ∧ p * 2 ^ (Lib.bitLen x - Lib.bitLen p) < 1073741824 then (if Lib.bitLen p ≤ Lib.bitLen x then bchRun k (x ^^^ (p * 2 ^ (Lib.bitLen x - Lib.bitLen p))) p else some x) else none

set_option maxRecDepth 100000 in
set_option maxHeartbeats 800000 in
theorem bch_ok (v p r : Nat) (hv : v < 64) (hp : p < 8192) (hp0 : 0 < p) (hl0 : 1 ≤ Lib.bitLen p) (hl : Lib.bitLen p ≤ 13) (hr : bchRun 20 (v * 2 ^ (Lib.bitLen p - 1)) p = some r) (w : World) (V P : Int) (hV : V = (v : Int)) (hP : P = (p : Int)) :
    Calls Tryz.prog 190 #[.int .i64 V, .int .i64 P] w fun e w' => e = .returned (.tuple #[.int .i64 (r : Int), .nilIface]) ∧ w = w' := by
  subst hV hP
  have hz : ((p : Int) == 0) = false := by simp; omega
  obtain ⟨m, hm⟩ : ∃ m, Lib.bitLen p = m := ⟨_, rfl⟩
  have HM := Lib.hid hm
  rw [hm] at hl0 hl hr
  have hs := shl_i64 (x := v) (k := m - 1) (by omega) (by omega)
  obtain ⟨x0, hx0⟩ : ∃ x, v * 2 ^ (m - 1) = x := ⟨_, rfl⟩
  rw [hx0] at hs hr
  have HR := Lib.hid hr
  have HS := Lib.hid hs
  clear hr hm hx0 hs
  go_enter Tryz.func190, Tryz.ntmps190
  go_wp2_with fail
  refine (msb_ok p (by omega) w).mono ?_
  rw [HM.out]
  rintro e w1 ⟨rfl, rfl⟩
  go_wp2_with fail
  go_loopg [0] 20 (fun k s0 wr => ∃ k' x : Nat, k' = k ∧ s0 = .int .i64 (x : Int) ∧ Hid (bchRun k' x p = some r) ∧ w = wr)
  case atStart => exact ⟨20, x0, rfl, by rw [HS.out], HR, rfl⟩
  case round =>
    obtain ⟨k, x, rfl, rfl, hR, rfl⟩ := hrel
    cases k with
    | zero => exact absurd hR.out (by simp [bchRun])
    | succ k =>
      have h := hR.out
      unfold bchRun at h
      by_cases hc : x < 1073741824 ∧ Lib.bitLen x ≤ 31 ∧ p * 2 ^ (Lib.bitLen x - Lib.bitLen p) < 1073741824
      · rw [if_pos hc] at h
        obtain ⟨hx, hxl, hsh⟩ := hc
        rw [HM.out] at h hsh
        obtain ⟨q, hq⟩ : ∃ q, Lib.bitLen x = q := ⟨_, rfl⟩
        have HQ := Lib.hid hq
        rw [hq] at h hxl hsh
        clear hq
        go_wp2_with fail
        refine (msb_ok x (by omega) w).mono ?_
        rw [HQ.out]
        rintro e w1 ⟨rfl, rfl⟩
        by_cases hge : m ≤ q
        · rw [if_pos hge] at h
          have hs := shl_i64 (x := p) (k := q - m) (by omega) (by omega)
          obtain ⟨y, hy⟩ : ∃ y, p * 2 ^ (q - m) = y := ⟨_, rfl⟩
          rw [hy] at hs hsh h
          have hxr := xor_i64 (x := x) (y := y) (by omega) (by omega)
          have H := Lib.hid h
          have HX := Lib.hid (show bits .xor .i64 (x : Int) (wrap64 ((p : Int) * (2 : Int) ^ (q - m))) = ((x ^^^ y : Nat) : Int) by rw [hs]; exact hxr)
          clear h hy hR hs hxr
          go_wp2_with fail
          refine (msb_ok x (by omega) w).mono ?_
          rw [HQ.out]
          rintro e w1 ⟨rfl, rfl⟩
          go_wp2
          go_roundg k
          case rel => exact ⟨k, x ^^^ y, rfl, by rw [HX.out], H, rfl⟩
          case measure => omega
        · rw [if_neg hge] at h
          obtain rfl : x = r := by simpa using h
          clear h hR
          go_wp2
          go_ret2
          exact ⟨rfl, rfl⟩
      · rw [if_neg hc] at h; cases h

end Go.Proofs.YtplpafbkalkchaaGreatDoor

namespace Go.Proofs.YtplpafbkalkchaaGreatDoor
open Go.RowKit

/-- A rectangle, laid up to the cell (j, k) of it, row by row. -/
def rectP (f : Nat → Nat → Int) (x0 y0 s : Nat) (P : Nat → Nat → Int) (k j : Nat) : Nat → Nat → Int :=
  fun a b => if x0 ≤ a ∧ a < x0 + s ∧ y0 ≤ b ∧ (b < y0 + k ∨ (b = y0 + k ∧ a < x0 + j)) then P (a - x0) (b - y0) else f a b
theorem rectP_start (f : Nat → Nat → Int) (x0 y0 s : Nat) (P : Nat → Nat → Int) (a b : Nat) : rectP f x0 y0 s P 0 0 a b = f a b := by
  unfold rectP; rw [if_neg (by omega)]
theorem rectP_step (f : Nat → Nat → Int) (x0 y0 s : Nat) (P : Nat → Nat → Int) (k j a b : Nat) (hj : j < s) : (if a = x0 + j ∧ b = y0 + k then P j k else rectP f x0 y0 s P k j a b) = rectP f x0 y0 s P k (j + 1) a b := by
  unfold rectP
  by_cases e : a = x0 + j ∧ b = y0 + k
  · obtain ⟨rfl, rfl⟩ := e
    rw [if_pos ⟨rfl, rfl⟩, if_pos (by omega)]; congr 1 <;> omega
  · rw [if_neg e]
    by_cases e2 : x0 ≤ a ∧ a < x0 + s ∧ y0 ≤ b ∧ (b < y0 + k ∨ (b = y0 + k ∧ a < x0 + j))
    · rw [if_pos e2, if_pos (by omega)]
    · rw [if_neg e2, if_neg (by omega)]
theorem rectP_row (f : Nat → Nat → Int) (x0 y0 s : Nat) (P : Nat → Nat → Int) (k a b : Nat) : rectP f x0 y0 s P k s a b = rectP f x0 y0 s P (k + 1) 0 a b := by
  unfold rectP
  by_cases e2 : x0 ≤ a ∧ a < x0 + s ∧ y0 ≤ b ∧ (b < y0 + k ∨ (b = y0 + k ∧ a < x0 + s))
  · rw [if_pos e2, if_pos (by omega)]
  · rw [if_neg e2, if_neg (by omega)]
theorem rectP_full (f : Nat → Nat → Int) (x0 y0 s : Nat) (P : Nat → Nat → Int) (a b : Nat) : rectP f x0 y0 s P s 0 a b = _root_.QR.rect f x0 y0 s s P a b := by
  unfold rectP _root_.QR.rect
  by_cases e2 : x0 ≤ a ∧ a < x0 + s ∧ y0 ≤ b ∧ (b < y0 + s ∨ (b = y0 + s ∧ a < x0 + 0))
  · rw [if_pos e2, if_pos (by omega)]
  · rw [if_neg e2, if_neg (by omega)]

set_option maxRecDepth 100000 in
set_option maxHeartbeats 1000000 in
theorem pdpTable_ok (w : World) : Calls Tryz.prog 182 #[] w fun e w' => ∃ m g, e = .returned (.slice (some ⟨m, 0, none⟩) 7 7) ∧ RowsK w' m 7 7 7 g (fun x y => .int .i8 (_root_.QR.pdp x y)) 221 145 ∧ Keeps (fun _ => False) w w' ∧ w.heap.size ≤ m ∧ ∀ y, y < 7 → w.heap.size ≤ g y := by
  go_enter Tryz.func182, Tryz.ntmps182
  go_wp2
  go_ret
  refine ⟨w.heap.size + 7, fun y => w.heap.size + y, rfl, ⟨?_, ?_⟩, ?_, by omega, fun y _ => Nat.le_add_right _ _⟩
  · show Blk _ _ _ _
    exact Blk.newAt (by simp) [.slice (some ⟨w.heap.size, 0, none⟩) 7 7, .slice (some ⟨w.heap.size + 1, 0, none⟩) 7 7, .slice (some ⟨w.heap.size + 2, 0, none⟩) 7 7, .slice (some ⟨w.heap.size + 3, 0, none⟩) 7 7, .slice (some ⟨w.heap.size + 4, 0, none⟩) 7 7, .slice (some ⟨w.heap.size + 5, 0, none⟩) 7 7, .slice (some ⟨w.heap.size + 6, 0, none⟩) 7 7] 221
  · intro y hy
    obtain rfl | rfl | rfl | rfl | rfl | rfl | rfl : y = 0 ∨ y = 1 ∨ y = 2 ∨ y = 3 ∨ y = 4 ∨ y = 5 ∨ y = 6 := by omega
    · exact (((((((Blk.newAt (by simp) _ _).alloc _).alloc _).alloc _).alloc _).alloc _).alloc _).alloc _
    · exact ((((((Blk.newAt (by simp) _ _).alloc _).alloc _).alloc _).alloc _).alloc _).alloc _
    · exact (((((Blk.newAt (by simp) _ _).alloc _).alloc _).alloc _).alloc _).alloc _
    · exact ((((Blk.newAt (by simp) _ _).alloc _).alloc _).alloc _).alloc _
    · exact (((Blk.newAt (by simp) _ _).alloc _).alloc _).alloc _
    · exact ((Blk.newAt (by simp) _ _).alloc _).alloc _
    · exact (Blk.newAt (by simp) _ _).alloc _
  · exact ((((((((Keeps.refl _ w).alloc _).alloc _).alloc _).alloc _).alloc _).alloc _).alloc _).alloc _

set_option maxRecDepth 100000 in
set_option maxHeartbeats 800000 in
theorem pdpLay_ok (b m n x0 y0 : Nat) (g : Nat → Nat) (f : Nat → Nat → Int) (w : World) (h : YM w b m n g f) (hx : x0 + 7 ≤ n) (hy : y0 + 7 ≤ n) (hn : n ≤ 1000) (X Y : Int) (hX : X = (x0 : Int)) (hY : Y = (y0 : Int)) :
    Calls Tryz.prog 183 #[.int .i64 X, .int .i64 Y, .pointer (some ⟨b, 0, none⟩)] w fun e w' => e = .returned (.tuple #[]) ∧
      YM w' b m n g (_root_.QR.rect f x0 y0 7 7 _root_.QR.pdp) ∧ Keeps (inRows g n) w w' := by
  subst hX hY
  have HH := Lib.hid h
  clear h
  go_enter Tryz.func183, Tryz.ntmps183
  go_wp2_with fail
  go_loopw [6] (fun y wr => ∃ k : Nat, k ≤ 7 ∧ y = .int .i64 (k : Int) ∧ YM wr b m n g (rectP f x0 y0 7 _root_.QR.pdp k 0) ∧ Keeps (inRows g n) w wr) (fun y _ => 7 - (intOf y).toNat)
  case atStart => exact ⟨0, by omega, rfl, HH.out.congr (fun x y _ _ => (rectP_start ..).symm), Keeps.refl _ _⟩
  case round =>
    obtain ⟨k, k1, rfl, r1, r2⟩ := hrel
    have R := Lib.hid (And.intro r1 r2)
    clear r1 r2
    by_cases hlt : k < 7
    · go_wp2_with fail
      refine (pdpTable_ok _).mono ?_
      rintro e w1 ⟨tm, tg, rfl, t1, t2, t3, t4⟩
      have a1 := t1.slot hlt (Nat.le_refl _)
      have hlt' : ((k : Nat) : Int) < 7 := by omega
      obtain ⟨q, hq⟩ : ∃ q, tg k = q := ⟨_, rfl⟩
      rw [hq] at a1
      have hY := Lib.hid (R.out.1.keep t2 (fun h => h) (fun h => h) (fun _ _ h => h))
      have hK := Lib.hid (R.out.2.trans (t2.mono (fun _ _ h => h.elim)))
      have hq1 : wr.heap.size ≤ q := by rw [← hq]; exact t4 k hlt
      have hrow := Lib.hid (show FB w1 q 7 (fun x => .int .i8 (_root_.QR.pdp x k)) 145 by rw [← hq]; exact t1.row k hlt)
      have hgq := Lib.hid (show ∀ y, y < n → g y ≠ q from fun y hy => by have := (R.out.1.rows.row y hy).lt; omega)
      clear t1 t2 t3 t4 hq
      go_wp2_with fail
      clear a1
      go_loopw [8] (fun x wr => ∃ j : Nat, j ≤ 7 ∧ x = .int .i64 (j : Int) ∧ YM wr b m n g (rectP f x0 y0 7 _root_.QR.pdp k j) ∧ Keeps (inRows g n) w wr ∧ FB wr q 7 (fun x => .int .i8 (_root_.QR.pdp x k)) 145) (fun x _ => 7 - (intOf x).toNat)
      case atStart => exact ⟨0, by omega, rfl, hY.out, hK.out, hrow.out⟩
      case round =>
        obtain ⟨j, j1, rfl, s1, s2, s3⟩ := hrel
        by_cases hj : j < 7
        · have c1 := s3.cell hj
          have hj' : ((j : Nat) : Int) < 7 := by omega
          have S := Lib.hid (And.intro s1 (And.intro s2 s3))
          clear s1 s2 s3
          obtain ⟨v, hv⟩ : ∃ v, _root_.QR.pdp j k = v := ⟨_, rfl⟩
          rw [hv] at c1
          have HV := Lib.hid hv
          clear hv
          go_wp2_with fail
          refine (ymSet_ok b m n (x0 + j) (y0 + k) g _ _ S.out.1 (by omega) (by omega) _ _ (by omega) (by omega) v).mono ?_
          rintro e w2 ⟨rfl, u1, u2⟩
          have U := Lib.hid (And.intro u1 u2)
          clear u1 u2 c1
          go_wp2
          go_roundw
          case rel =>
            refine ⟨j + 1, by omega, by go_num, U.out.1.congr (fun x y _ _ => ?_), S.out.2.1.trans U.out.2, S.out.2.2.keep U.out.2 (fun ⟨y, hy, h⟩ => hgq.out y hy h.symm)⟩
            rw [← HV.out]; exact rectP_step _ _ _ _ _ k j x y hj
          case measure => simp [intOf]; omega
        · obtain rfl : j = 7 := by omega
          have S := Lib.hid (And.intro s1 s2)
          clear s1 s2 s3
          go_wp2
          go_roundw
          case rel => exact ⟨k + 1, by omega, by go_num, S.out.1.congr (fun x y _ _ => rectP_row ..), S.out.2⟩
          case measure => simp [intOf]; omega
    · obtain rfl : k = 7 := by omega
      go_wp2
      go_end0
      exact ⟨rfl, R.out.1.congr (fun x y _ _ => rectP_full ..), R.out.2⟩

set_option maxRecDepth 100000 in
set_option maxHeartbeats 1000000 in
theorem papTable_ok (w : World) : Calls Tryz.prog 219 #[] w fun e w' => ∃ m g, e = .returned (.slice (some ⟨m, 0, none⟩) 5 5) ∧ RowsK w' m 5 5 5 g (fun x y => .int .i8 (_root_.QR.pap x y)) 221 145 ∧ Keeps (fun _ => False) w w' ∧ w.heap.size ≤ m ∧ ∀ y, y < 5 → w.heap.size ≤ g y := by
  go_enter Tryz.func219, Tryz.ntmps219
  go_wp2
  go_ret
  refine ⟨w.heap.size + 5, fun y => w.heap.size + y, rfl, ⟨?_, ?_⟩, ?_, by omega, fun y _ => Nat.le_add_right _ _⟩
  · show Blk _ _ _ _
    exact Blk.newAt (by simp) [.slice (some ⟨w.heap.size, 0, none⟩) 5 5, .slice (some ⟨w.heap.size + 1, 0, none⟩) 5 5, .slice (some ⟨w.heap.size + 2, 0, none⟩) 5 5, .slice (some ⟨w.heap.size + 3, 0, none⟩) 5 5, .slice (some ⟨w.heap.size + 4, 0, none⟩) 5 5] 221
  · intro y hy
    obtain rfl | rfl | rfl | rfl | rfl : y = 0 ∨ y = 1 ∨ y = 2 ∨ y = 3 ∨ y = 4 := by omega
    · exact (((((Blk.newAt (by simp) _ _).alloc _).alloc _).alloc _).alloc _).alloc _
    · exact ((((Blk.newAt (by simp) _ _).alloc _).alloc _).alloc _).alloc _
    · exact (((Blk.newAt (by simp) _ _).alloc _).alloc _).alloc _
    · exact ((Blk.newAt (by simp) _ _).alloc _).alloc _
    · exact (Blk.newAt (by simp) _ _).alloc _
  · exact ((((((Keeps.refl _ w).alloc _).alloc _).alloc _).alloc _).alloc _).alloc _

set_option maxRecDepth 100000 in
set_option maxHeartbeats 800000 in
theorem papLay_ok (b m n x0 y0 : Nat) (g : Nat → Nat) (f : Nat → Nat → Int) (w : World) (h : YM w b m n g f) (hx : x0 + 5 ≤ n) (hy : y0 + 5 ≤ n) (hn : n ≤ 1000) (X Y : Int) (hX : X = (x0 : Int)) (hY : Y = (y0 : Int)) :
    Calls Tryz.prog 188 #[.int .i64 X, .int .i64 Y, .pointer (some ⟨b, 0, none⟩)] w fun e w' => e = .returned (.tuple #[]) ∧
      YM w' b m n g (_root_.QR.rect f x0 y0 5 5 _root_.QR.pap) ∧ Keeps (inRows g n) w w' := by
  subst hX hY
  have HH := Lib.hid h
  clear h
  go_enter Tryz.func188, Tryz.ntmps188
  go_wp2_with fail
  go_loopw [6] (fun y wr => ∃ k : Nat, k ≤ 5 ∧ y = .int .i64 (k : Int) ∧ YM wr b m n g (rectP f x0 y0 5 _root_.QR.pap k 0) ∧ Keeps (inRows g n) w wr) (fun y _ => 5 - (intOf y).toNat)
  case atStart => exact ⟨0, by omega, rfl, HH.out.congr (fun x y _ _ => (rectP_start ..).symm), Keeps.refl _ _⟩
  case round =>
    obtain ⟨k, k1, rfl, r1, r2⟩ := hrel
    have R := Lib.hid (And.intro r1 r2)
    clear r1 r2
    by_cases hlt : k < 5
    · go_wp2_with fail
      refine (papTable_ok _).mono ?_
      rintro e w1 ⟨tm, tg, rfl, t1, t2, t3, t4⟩
      have a1 := t1.slot hlt (Nat.le_refl _)
      have hlt' : ((k : Nat) : Int) < 5 := by omega
      obtain ⟨q, hq⟩ : ∃ q, tg k = q := ⟨_, rfl⟩
      rw [hq] at a1
      have hY := Lib.hid (R.out.1.keep t2 (fun h => h) (fun h => h) (fun _ _ h => h))
      have hK := Lib.hid (R.out.2.trans (t2.mono (fun _ _ h => h.elim)))
      have hq1 : wr.heap.size ≤ q := by rw [← hq]; exact t4 k hlt
      have hrow := Lib.hid (show FB w1 q 5 (fun x => .int .i8 (_root_.QR.pap x k)) 145 by rw [← hq]; exact t1.row k hlt)
      have hgq := Lib.hid (show ∀ y, y < n → g y ≠ q from fun y hy => by have := (R.out.1.rows.row y hy).lt; omega)
      clear t1 t2 t3 t4 hq
      go_wp2_with fail
      clear a1
      go_loopw [8] (fun x wr => ∃ j : Nat, j ≤ 5 ∧ x = .int .i64 (j : Int) ∧ YM wr b m n g (rectP f x0 y0 5 _root_.QR.pap k j) ∧ Keeps (inRows g n) w wr ∧ FB wr q 5 (fun x => .int .i8 (_root_.QR.pap x k)) 145) (fun x _ => 5 - (intOf x).toNat)
      case atStart => exact ⟨0, by omega, rfl, hY.out, hK.out, hrow.out⟩
      case round =>
        obtain ⟨j, j1, rfl, s1, s2, s3⟩ := hrel
        by_cases hj : j < 5
        · have c1 := s3.cell hj
          have hj' : ((j : Nat) : Int) < 5 := by omega
          have S := Lib.hid (And.intro s1 (And.intro s2 s3))
          clear s1 s2 s3
          obtain ⟨v, hv⟩ : ∃ v, _root_.QR.pap j k = v := ⟨_, rfl⟩
          rw [hv] at c1
          have HV := Lib.hid hv
          clear hv
          go_wp2_with fail
          refine (ymSet_ok b m n (x0 + j) (y0 + k) g _ _ S.out.1 (by omega) (by omega) _ _ (by omega) (by omega) v).mono ?_
          rintro e w2 ⟨rfl, u1, u2⟩
          have U := Lib.hid (And.intro u1 u2)
          clear u1 u2 c1
          go_wp2
          go_roundw
          case rel =>
            refine ⟨j + 1, by omega, by go_num, U.out.1.congr (fun x y _ _ => ?_), S.out.2.1.trans U.out.2, S.out.2.2.keep U.out.2 (fun ⟨y, hy, h⟩ => hgq.out y hy h.symm)⟩
            rw [← HV.out]; exact rectP_step _ _ _ _ _ k j x y hj
          case measure => simp [intOf]; omega
        · obtain rfl : j = 5 := by omega
          have S := Lib.hid (And.intro s1 s2)
          clear s1 s2 s3
          go_wp2
          go_roundw
          case rel => exact ⟨k + 1, by omega, by go_num, S.out.1.congr (fun x y _ _ => rectP_row ..), S.out.2⟩
          case measure => simp [intOf]; omega
    · obtain rfl : k = 5 := by omega
      go_wp2
      go_end0
      exact ⟨rfl, R.out.1.congr (fun x y _ _ => rectP_full ..), R.out.2⟩

end Go.Proofs.YtplpafbkalkchaaGreatDoor

namespace Go.Proofs.YtplpafbkalkchaaGreatDoor
open Go.RowKit

set_option maxRecDepth 100000 in
theorem isEmpty_ok (v : Int) (w : World) : Calls Tryz.prog 155 #[.int .i8 v] w fun e w' => e = .returned (.bool (v == -1)) ∧ w = w' := by
  go_enter Tryz.func155, Tryz.ntmps155
  go_wp2
  go_ret
  exact ⟨rfl, rfl⟩

set_option maxRecDepth 100000 in
set_option maxHeartbeats 800000 in
theorem sepH_ok (b m n x0 y0 : Nat) (g : Nat → Nat) (f : Nat → Nat → Int) (w : World) (h : YM w b m n g f) (hx : x0 + 8 ≤ n) (hy : y0 + 1 ≤ n) (hn : n ≤ 1000) (hf : ∀ j, j < 8 → f (x0 + j) y0 = -1) (X Y : Int) (hX : X = (x0 : Int)) (hY : Y = (y0 : Int)) :
    Calls Tryz.prog 184 #[.int .i64 X, .int .i64 Y, .pointer (some ⟨b, 0, none⟩)] w fun e w' => e = .returned .nilIface ∧
      YM w' b m n g (_root_.QR.rect f x0 y0 8 1 fun _ _ => 0) ∧ Keeps (inRows g n) w w' := by
  subst hX hY
  have HH := Lib.hid h
  have HF := Lib.hid hf
  clear h hf
  go_enter Tryz.func184, Tryz.ntmps184
  go_wp2_with fail
  go_loopw [7] (fun x wr => ∃ j : Nat, j ≤ 8 ∧ x = .int .i64 (j : Int) ∧ YM wr b m n g (_root_.QR.rect f x0 y0 j 1 fun _ _ => 0) ∧ Keeps (inRows g n) w wr) (fun x _ => 8 - (intOf x).toNat)
  case atStart => exact ⟨0, by omega, rfl, HH.out.congr (fun x y _ _ => by unfold _root_.QR.rect; rw [if_neg (by omega)]), Keeps.refl _ _⟩
  case round =>
    obtain ⟨j, j1, rfl, s1, s2⟩ := hrel
    have S := Lib.hid (And.intro s1 s2)
    clear s1 s2
    by_cases hj : j < 8
    · have hv : _root_.QR.rect f x0 y0 j 1 (fun _ _ => 0) (x0 + j) y0 = -1 := by
        unfold _root_.QR.rect
        rw [if_neg (by omega), HF.out j hj]
      have HV := Lib.hid hv
      clear hv
      go_wp2_with fail
      refine (ymGet_ok b m n (x0 + j) y0 g _ wr S.out.1 (by omega) (by omega) _ _ (by omega) (by omega) (-1) HV.out).mono ?_
      rintro e w1 ⟨rfl, rfl⟩
      go_wp2_with fail
      refine (isEmpty_ok (-1) _).mono ?_
      rintro e w1 ⟨rfl, rfl⟩
      go_wp2_with fail
      refine (ymSet_ok b m n (x0 + j) y0 g _ wr S.out.1 (by omega) (by omega) _ _ (by omega) (by omega) 0).mono ?_
      rintro e w2 ⟨rfl, u1, u2⟩
      have U := Lib.hid (And.intro u1 u2)
      clear u1 u2
      go_wp2
      go_roundw
      case rel =>
        refine ⟨j + 1, by omega, by go_num, U.out.1.congr (fun x y _ _ => ?_), S.out.2.trans U.out.2⟩
        unfold _root_.QR.rect
        by_cases e : x = x0 + j ∧ y = y0
        · rw [if_pos e, if_pos (by omega)]
        · rw [if_neg e]
          by_cases e2 : x0 ≤ x ∧ x < x0 + j ∧ y0 ≤ y ∧ y < y0 + 1
          · rw [if_pos e2, if_pos (by omega)]
          · rw [if_neg e2, if_neg (by omega)]
      case measure => simp [intOf]; omega
    · obtain rfl : j = 8 := by omega
      go_wp2
      go_ret
      exact ⟨rfl, S.out⟩

set_option maxRecDepth 100000 in
set_option maxHeartbeats 800000 in
theorem sepV_ok (b m n x0 y0 : Nat) (g : Nat → Nat) (f : Nat → Nat → Int) (w : World) (h : YM w b m n g f) (hx : x0 + 1 ≤ n) (hy : y0 + 7 ≤ n) (hn : n ≤ 1000) (hf : ∀ j, j < 7 → f x0 (y0 + j) = -1) (X Y : Int) (hX : X = (x0 : Int)) (hY : Y = (y0 : Int)) :
    Calls Tryz.prog 185 #[.int .i64 X, .int .i64 Y, .pointer (some ⟨b, 0, none⟩)] w fun e w' => e = .returned .nilIface ∧
      YM w' b m n g (_root_.QR.rect f x0 y0 1 7 fun _ _ => 0) ∧ Keeps (inRows g n) w w' := by
  subst hX hY
  have HH := Lib.hid h
  have HF := Lib.hid hf
  clear h hf
  go_enter Tryz.func185, Tryz.ntmps185
  go_wp2_with fail
  go_loopw [7] (fun x wr => ∃ j : Nat, j ≤ 7 ∧ x = .int .i64 (j : Int) ∧ YM wr b m n g (_root_.QR.rect f x0 y0 1 j fun _ _ => 0) ∧ Keeps (inRows g n) w wr) (fun x _ => 7 - (intOf x).toNat)
  case atStart => exact ⟨0, by omega, rfl, HH.out.congr (fun x y _ _ => by unfold _root_.QR.rect; rw [if_neg (by omega)]), Keeps.refl _ _⟩
  case round =>
    obtain ⟨j, j1, rfl, s1, s2⟩ := hrel
    have S := Lib.hid (And.intro s1 s2)
    clear s1 s2
    by_cases hj : j < 7
    · have hv : _root_.QR.rect f x0 y0 1 j (fun _ _ => 0) x0 (y0 + j) = -1 := by
        unfold _root_.QR.rect
        rw [if_neg (by omega), HF.out j hj]
      have HV := Lib.hid hv
      clear hv
      go_wp2_with fail
      refine (ymGet_ok b m n x0 (y0 + j) g _ wr S.out.1 (by omega) (by omega) _ _ (by omega) (by omega) (-1) HV.out).mono ?_
      rintro e w1 ⟨rfl, rfl⟩
      go_wp2_with fail
      refine (isEmpty_ok (-1) _).mono ?_
      rintro e w1 ⟨rfl, rfl⟩
      go_wp2_with fail
      refine (ymSet_ok b m n x0 (y0 + j) g _ wr S.out.1 (by omega) (by omega) _ _ (by omega) (by omega) 0).mono ?_
      rintro e w2 ⟨rfl, u1, u2⟩
      have U := Lib.hid (And.intro u1 u2)
      clear u1 u2
      go_wp2
      go_roundw
      case rel =>
        refine ⟨j + 1, by omega, by go_num, U.out.1.congr (fun x y _ _ => ?_), S.out.2.trans U.out.2⟩
        unfold _root_.QR.rect
        by_cases e : x = x0 ∧ y = y0 + j
        · rw [if_pos e, if_pos (by omega)]
        · rw [if_neg e]
          by_cases e2 : x0 ≤ x ∧ x < x0 + 1 ∧ y0 ≤ y ∧ y < y0 + j
          · rw [if_pos e2, if_pos (by omega)]
          · rw [if_neg e2, if_neg (by omega)]
      case measure => simp [intOf]; omega
    · obtain rfl : j = 7 := by omega
      go_wp2
      go_ret
      exact ⟨rfl, S.out⟩

/-- Corners of a matrix that is empty there. -/
structure EmptyAt (f : Nat → Nat → Int) (n : Nat) : Prop where
  all : ∀ x y, f x y = -1

set_option maxRecDepth 100000 in
set_option maxHeartbeats 1600000 in
theorem corners_ok (b m n : Nat) (g : Nat → Nat) (w : World) (h : YM w b m n g _root_.QR.nil1) (hn : 21 ≤ n) (hn2 : n ≤ 1000) :
    Calls Tryz.prog 147 #[.pointer (some ⟨b, 0, none⟩)] w fun e w' => e = .returned .nilIface ∧ YM w' b m n g (_root_.QR.corners n _root_.QR.nil1) ∧ Keeps (inRows g n) w w' := by
  have HH := Lib.hid h
  clear h
  have nn : ∀ (M : _root_.QR.Mx) (x0 y0 w' h' : Nat) (P : Nat → Nat → Int) (x y : Nat), M x y = -1 → ¬ (x0 ≤ x ∧ x < x0 + w' ∧ y0 ≤ y ∧ y < y0 + h') → _root_.QR.rect M x0 y0 w' h' P x y = -1 := fun M x0 y0 w' h' P x y e1 e2 => by
    unfold _root_.QR.rect; rw [if_neg e2, e1]
  have NN := Lib.hid nn
  clear nn
  go_enter Tryz.func147, Tryz.ntmps147
  go_wp2_with fail
  refine (pdpTable_ok _).mono ?_
  rintro e w1 ⟨tm, tg, rfl, t1, t2, t3, t4⟩
  have a1 := t1.slot (y := 0) (by omega) (Nat.le_refl _)
  generalize tg 0 = q at a1
  have A1 := Lib.hid (HH.out.keep t2 (fun h => h) (fun h => h) (fun _ _ h => h))
  have K1 := Lib.hid (t2.mono (S' := inRows g n) (fun _ _ h => h.elim))
  clear t1 t2 t3 t4
  go_wp2_with fail
  refine (pdpLay_ok b m n 0 0 g _ _ A1.out (by omega) (by omega) hn2 _ _ (by omega) (by omega)).mono ?_
  rintro e w2 ⟨rfl, u1, u2⟩
  have A2 := Lib.hid u1
  have K2 := Lib.hid (K1.out.trans u2)
  clear u1 u2 a1
  go_wp2_with fail
  refine (ymW_ok b m n g _ _ A2.out).mono ?_
  rintro e w3 ⟨rfl, rfl⟩
  go_wp2_with fail
  refine (pdpLay_ok b m n (n - 7) 0 g _ _ A2.out (by omega) (by omega) hn2 _ _ (by omega) (by omega)).mono ?_
  rintro e w3 ⟨rfl, u1, u2⟩
  have A3 := Lib.hid u1
  have K3 := Lib.hid (K2.out.trans u2)
  clear u1 u2
  go_wp2_with fail
  refine (ymW_ok b m n g _ _ A3.out).mono ?_
  rintro e w4 ⟨rfl, rfl⟩
  go_wp2_with fail
  refine (pdpLay_ok b m n 0 (n - 7) g _ _ A3.out (by omega) (by omega) hn2 _ _ (by omega) (by omega)).mono ?_
  rintro e w4 ⟨rfl, u1, u2⟩
  have A4 := Lib.hid u1
  have K4 := Lib.hid (K3.out.trans u2)
  clear u1 u2
  go_wp2_with fail
  refine (sepH_ok b m n 0 7 g _ _ A4.out (by omega) (by omega) hn2 (fun j hj => ?_) _ _ (by omega) (by omega)).mono ?_
  · refine NN.out _ _ _ _ _ _ _ _ (NN.out _ _ _ _ _ _ _ _ (NN.out _ _ _ _ _ _ _ _ rfl ?_) ?_) ?_ <;> omega
  rintro e w5 ⟨rfl, u1, u2⟩
  have A5 := Lib.hid u1
  have K5 := Lib.hid (K4.out.trans u2)
  clear u1 u2
  go_wp2_with fail
  refine (ymW_ok b m n g _ _ A5.out).mono ?_
  rintro e w6 ⟨rfl, rfl⟩
  go_wp2_with fail
  refine (sepH_ok b m n (n - 8) 7 g _ _ A5.out (by omega) (by omega) hn2 (fun j hj => ?_) _ _ (by omega) (by omega)).mono ?_
  · refine NN.out _ _ _ _ _ _ _ _ (NN.out _ _ _ _ _ _ _ _ (NN.out _ _ _ _ _ _ _ _ (NN.out _ _ _ _ _ _ _ _ rfl ?_) ?_) ?_) ?_ <;> omega
  rintro e w6 ⟨rfl, u1, u2⟩
  have A6 := Lib.hid u1
  have K6 := Lib.hid (K5.out.trans u2)
  clear u1 u2
  go_wp2_with fail
  refine (ymW_ok b m n g _ _ A6.out).mono ?_
  rintro e w7 ⟨rfl, rfl⟩
  go_wp2_with fail
  refine (sepH_ok b m n 0 (n - 8) g _ _ A6.out (by omega) (by omega) hn2 (fun j hj => ?_) _ _ (by omega) (by omega)).mono ?_
  · refine NN.out _ _ _ _ _ _ _ _ (NN.out _ _ _ _ _ _ _ _ (NN.out _ _ _ _ _ _ _ _ (NN.out _ _ _ _ _ _ _ _ (NN.out _ _ _ _ _ _ _ _ rfl ?_) ?_) ?_) ?_) ?_ <;> omega
  rintro e w7 ⟨rfl, u1, u2⟩
  have A7 := Lib.hid u1
  have K7 := Lib.hid (K6.out.trans u2)
  clear u1 u2
  go_wp2_with fail
  refine (sepV_ok b m n 7 0 g _ _ A7.out (by omega) (by omega) hn2 (fun j hj => ?_) _ _ (by omega) (by omega)).mono ?_
  · refine NN.out _ _ _ _ _ _ _ _ (NN.out _ _ _ _ _ _ _ _ (NN.out _ _ _ _ _ _ _ _ (NN.out _ _ _ _ _ _ _ _ (NN.out _ _ _ _ _ _ _ _ (NN.out _ _ _ _ _ _ _ _ rfl ?_) ?_) ?_) ?_) ?_) ?_ <;> omega
  rintro e w8 ⟨rfl, u1, u2⟩
  have A8 := Lib.hid u1
  have K8 := Lib.hid (K7.out.trans u2)
  clear u1 u2
  go_wp2_with fail
  refine (ymH_ok b m n g _ _ A8.out).mono ?_
  rintro e w9 ⟨rfl, rfl⟩
  go_wp2_with fail
  refine (sepV_ok b m n (n - 8) 0 g _ _ A8.out (by omega) (by omega) hn2 (fun j hj => ?_) _ _ (by omega) (by omega)).mono ?_
  · refine NN.out _ _ _ _ _ _ _ _ (NN.out _ _ _ _ _ _ _ _ (NN.out _ _ _ _ _ _ _ _ (NN.out _ _ _ _ _ _ _ _ (NN.out _ _ _ _ _ _ _ _ (NN.out _ _ _ _ _ _ _ _ (NN.out _ _ _ _ _ _ _ _ rfl ?_) ?_) ?_) ?_) ?_) ?_) ?_ <;> omega
  rintro e w9 ⟨rfl, u1, u2⟩
  have A9 := Lib.hid u1
  have K9 := Lib.hid (K8.out.trans u2)
  clear u1 u2
  go_wp2_with fail
  refine (ymH_ok b m n g _ _ A9.out).mono ?_
  rintro e w10 ⟨rfl, rfl⟩
  go_wp2_with fail
  refine (sepV_ok b m n 7 (n - 7) g _ _ A9.out (by omega) (by omega) hn2 (fun j hj => ?_) _ _ (by omega) (by omega)).mono ?_
  · refine NN.out _ _ _ _ _ _ _ _ (NN.out _ _ _ _ _ _ _ _ (NN.out _ _ _ _ _ _ _ _ (NN.out _ _ _ _ _ _ _ _ (NN.out _ _ _ _ _ _ _ _ (NN.out _ _ _ _ _ _ _ _ (NN.out _ _ _ _ _ _ _ _ (NN.out _ _ _ _ _ _ _ _ rfl ?_) ?_) ?_) ?_) ?_) ?_) ?_) ?_ <;> omega
  rintro e w10 ⟨rfl, u1, u2⟩
  have A10 := Lib.hid u1
  have K10 := Lib.hid (K9.out.trans u2)
  clear u1 u2
  go_wp2
  go_ret
  exact ⟨rfl, A10.out, K10.out⟩

set_option maxRecDepth 100000 in
set_option maxHeartbeats 800000 in
theorem dot_ok (b m n : Nat) (g : Nat → Nat) (f : Nat → Nat → Int) (w : World) (h : YM w b m n g f) (hn : 21 ≤ n) (hn2 : n ≤ 1000) (v : Int) (hv : f 8 (n - 8) = v) (h0 : (v == 0) = false) :
    Calls Tryz.prog 148 #[.pointer (some ⟨b, 0, none⟩)] w fun e w' => e = .returned .nilIface ∧ YM w' b m n g (_root_.QR.dot n f) ∧ Keeps (inRows g n) w w' := by
  have HH := Lib.hid h
  have HV := Lib.hid hv
  clear h hv
  go_enter Tryz.func148, Tryz.ntmps148
  go_wp2_with fail
  refine (ymH_ok b m n g _ _ HH.out).mono ?_
  rintro e w1 ⟨rfl, rfl⟩
  go_wp2_with fail
  refine (ymGet_ok b m n 8 (n - 8) g _ _ HH.out (by omega) (by omega) _ _ (by omega) (by omega) v HV.out).mono ?_
  rintro e w1 ⟨rfl, rfl⟩
  go_wp2_with fail
  refine (ymH_ok b m n g _ _ HH.out).mono ?_
  rintro e w1 ⟨rfl, rfl⟩
  go_wp2_with fail
  refine (ymSet_ok b m n 8 (n - 8) g _ _ HH.out (by omega) (by omega) _ _ (by omega) (by omega) 1).mono ?_
  rintro e w2 ⟨rfl, u1, u2⟩
  have U := Lib.hid (And.intro u1 u2)
  clear u1 u2
  go_wp2
  go_ret
  exact ⟨rfl, U.out.1, U.out.2⟩

set_option maxRecDepth 100000 in
set_option maxHeartbeats 800000 in
theorem timing_ok (b m n : Nat) (g : Nat → Nat) (f : Nat → Nat → Int) (w : World) (h : YM w b m n g f) (hn : 21 ≤ n) (hn2 : n ≤ 1000) :
    Calls Tryz.prog 150 #[.pointer (some ⟨b, 0, none⟩)] w fun e w' => e = .returned (.tuple #[]) ∧ YM w' b m n g (_root_.QR.timF (n - 8) f) ∧ Keeps (inRows g n) w w' := by
  have HH := Lib.hid h
  clear h
  go_enter Tryz.func150, Tryz.ntmps150
  go_wp2_with fail
  go_loopw [2] (fun i wr => ∃ k : Nat, 8 ≤ k ∧ k ≤ n - 8 ∧ i = .int .i64 (k : Int) ∧ YM wr b m n g (_root_.QR.timF k f) ∧ Keeps (inRows g n) w wr) (fun i _ => n - (intOf i).toNat)
  case atStart => exact ⟨8, by omega, by omega, rfl, HH.out.congr (fun x y _ _ => by unfold _root_.QR.timF; rw [if_neg (by omega)]), Keeps.refl _ _⟩
  case round =>
    obtain ⟨k, k0, k1, rfl, s1, s2⟩ := hrel
    have S := Lib.hid (And.intro s1 s2)
    clear s1 s2
    go_wp2_with fail
    refine (ymW_ok b m n g _ _ S.out.1).mono ?_
    rintro e w1 ⟨rfl, rfl⟩
    by_cases hk : k < n - 8
    · obtain ⟨v1, hv1⟩ : ∃ v, f k 6 = v := ⟨_, rfl⟩
      obtain ⟨v2, hv2⟩ : ∃ v, f 6 k = v := ⟨_, rfl⟩
      have e1 : _root_.QR.timF k f k 6 = v1 := by unfold _root_.QR.timF; rw [if_neg (by omega), hv1]
      have e2 : _root_.QR.timF k f 6 k = v2 := by unfold _root_.QR.timF; rw [if_neg (by omega), hv2]
      have E1 := Lib.hid e1
      have E2 := Lib.hid e2
      have V1 := Lib.hid hv1
      have V2 := Lib.hid hv2
      have hk' : (k : Int) < (n : Int) - 8 := by omega
      obtain ⟨t, ht⟩ : ∃ t : Nat, (k + 1) % 2 = t := ⟨_, rfl⟩
      have ht2 : ((k : Int) + 1) % 2 = (t : Int) := by omega
      have htl : t < 2 := by omega
      have HT := Lib.hid ht
      clear e1 e2 hv1 hv2 ht
      have fin : ∀ x y, x < n → y < n → (if x = 6 ∧ y = k then (if v2 = -1 then (t : Int) else v2) else if x = k ∧ y = 6 then (if v1 = -1 then (t : Int) else v1) else _root_.QR.timF k f x y) = _root_.QR.timF (k + 1) f x y := fun x y _ _ => by
        by_cases c1 : x = 6 ∧ y = k
        · obtain ⟨rfl, rfl⟩ := c1
          rw [if_pos ⟨rfl, rfl⟩]
          unfold _root_.QR.timF
          rw [V2.out]
          by_cases c2 : v2 = -1
          · rw [if_pos c2, if_pos ⟨c2, by omega⟩, if_neg (by omega), HT.out]
          · rw [if_neg c2, if_neg (fun h => c2 h.1)]
        · rw [if_neg c1]
          by_cases c3 : x = k ∧ y = 6
          · obtain ⟨rfl, rfl⟩ := c3
            rw [if_pos ⟨rfl, rfl⟩]
            unfold _root_.QR.timF
            rw [V1.out]
            by_cases c2 : v1 = -1
            · rw [if_pos c2, if_pos (show v1 = -1 ∧ ((6 : Nat) = 6 ∧ 8 ≤ x ∧ x < x + 1 ∨ x = 6 ∧ 8 ≤ 6 ∧ 6 < x + 1) from ⟨c2, Or.inl ⟨rfl, by omega, by omega⟩⟩), if_pos rfl, HT.out]
            · rw [if_neg c2, if_neg (fun h => c2 h.1)]
          · rw [if_neg c3]
            unfold _root_.QR.timF
            by_cases c4 : f x y = -1 ∧ (y = 6 ∧ 8 ≤ x ∧ x < k ∨ x = 6 ∧ 8 ≤ y ∧ y < k)
            · rw [if_pos c4, if_pos (show f x y = -1 ∧ (y = 6 ∧ 8 ≤ x ∧ x < k + 1 ∨ x = 6 ∧ 8 ≤ y ∧ y < k + 1) from ⟨c4.1, by omega⟩)]
            · rw [if_neg c4, if_neg (show ¬ (f x y = -1 ∧ (y = 6 ∧ 8 ≤ x ∧ x < k + 1 ∨ x = 6 ∧ 8 ≤ y ∧ y < k + 1)) from fun h => c4 ⟨h.1, by omega⟩)]
      have FIN := Lib.hid fin
      clear fin
      go_wp2_with fail
      refine (ymGet_ok b m n k 6 g _ _ S.out.1 (by omega) (by omega) _ _ rfl rfl v1 E1.out).mono ?_
      rintro e w1 ⟨rfl, rfl⟩
      go_wp2_with fail
      refine (isEmpty_ok v1 _).mono ?_
      rintro e w1 ⟨rfl, rfl⟩
      by_cases c1 : v1 = -1
      · have c1b : (v1 == -1) = true := by simpa using c1
        have C1 := Lib.hid c1
        rw [c1b]
        clear c1 c1b
        go_wp2_with fail
        refine (ymSet_ok b m n k 6 g _ _ S.out.1 (by omega) (by omega) _ _ rfl rfl (t : Int)).mono ?_
        rintro e w2 ⟨rfl, u1, u2⟩
        have U := Lib.hid (And.intro u1 u2)
        clear u1 u2
        go_wp2_with fail
        refine (ymGet_ok b m n 6 k g _ _ U.out.1 (by omega) (by omega) _ _ rfl rfl v2 (by rw [if_neg (by omega)]; exact E2.out)).mono ?_
        rintro e w3 ⟨rfl, rfl⟩
        go_wp2_with fail
        refine (isEmpty_ok v2 _).mono ?_
        rintro e w3 ⟨rfl, rfl⟩
        by_cases c2 : v2 = -1
        · have c2b : (v2 == -1) = true := by simpa using c2
          have C2 := Lib.hid c2
          rw [c2b]
          clear c2 c2b
          go_wp2_with fail
          refine (ymSet_ok b m n 6 k g _ _ U.out.1 (by omega) (by omega) _ _ rfl rfl (t : Int)).mono ?_
          rintro e w3 ⟨rfl, u1, u2⟩
          have U2 := Lib.hid (And.intro u1 u2)
          clear u1 u2
          go_wp2
          go_roundw
          case rel => exact ⟨k + 1, by omega, by omega, by go_num, U2.out.1.congr (fun x y hx hy => by rw [← FIN.out x y hx hy, if_pos C2.out, if_pos C1.out]), (S.out.2.trans U.out.2).trans U2.out.2⟩
          case measure => simp [intOf]; omega
        · have c2b : (v2 == -1) = false := by simpa using c2
          have C2 := Lib.hid c2
          rw [c2b]
          clear c2 c2b
          go_wp2
          go_roundw
          case rel => exact ⟨k + 1, by omega, by omega, by go_num, U.out.1.congr (fun x y hx hy => by
              rw [← FIN.out x y hx hy, if_neg C2.out, if_pos C1.out]
              by_cases c : x = 6 ∧ y = k
              · rw [if_pos c, if_neg (by omega)]; obtain ⟨rfl, rfl⟩ := c; exact E2.out
              · rw [if_neg c]), S.out.2.trans U.out.2⟩
          case measure => simp [intOf]; omega
      · have c1b : (v1 == -1) = false := by simpa using c1
        have C1 := Lib.hid c1
        rw [c1b]
        clear c1 c1b
        go_wp2_with fail
        refine (ymGet_ok b m n 6 k g _ _ S.out.1 (by omega) (by omega) _ _ rfl rfl v2 E2.out).mono ?_
        rintro e w3 ⟨rfl, rfl⟩
        go_wp2_with fail
        refine (isEmpty_ok v2 _).mono ?_
        rintro e w3 ⟨rfl, rfl⟩
        by_cases c2 : v2 = -1
        · have c2b : (v2 == -1) = true := by simpa using c2
          have C2 := Lib.hid c2
          rw [c2b]
          clear c2 c2b
          go_wp2_with fail
          refine (ymSet_ok b m n 6 k g _ _ S.out.1 (by omega) (by omega) _ _ rfl rfl (t : Int)).mono ?_
          rintro e w3 ⟨rfl, u1, u2⟩
          have U2 := Lib.hid (And.intro u1 u2)
          clear u1 u2
          go_wp2
          go_roundw
          case rel => exact ⟨k + 1, by omega, by omega, by go_num, U2.out.1.congr (fun x y hx hy => by
              rw [← FIN.out x y hx hy, if_pos C2.out, if_neg C1.out]
              by_cases c : x = 6 ∧ y = k
              · rw [if_pos c, if_pos c]
              · rw [if_neg c, if_neg c]
                by_cases c' : x = k ∧ y = 6
                · rw [if_pos c']; obtain ⟨rfl, rfl⟩ := c'; exact E1.out
                · rw [if_neg c']), S.out.2.trans U2.out.2⟩
          case measure => simp [intOf]; omega
        · have c2b : (v2 == -1) = false := by simpa using c2
          have C2 := Lib.hid c2
          rw [c2b]
          clear c2 c2b
          go_wp2
          go_roundw
          case rel => exact ⟨k + 1, by omega, by omega, by go_num, S.out.1.congr (fun x y hx hy => by
              rw [← FIN.out x y hx hy, if_neg C2.out, if_neg C1.out]
              by_cases c : x = 6 ∧ y = k
              · rw [if_pos c]; obtain ⟨rfl, rfl⟩ := c; exact E2.out
              · rw [if_neg c]
                by_cases c' : x = k ∧ y = 6
                · rw [if_pos c']; obtain ⟨rfl, rfl⟩ := c'; exact E1.out
                · rw [if_neg c']), S.out.2⟩
          case measure => simp [intOf]; omega
    · obtain rfl : k = n - 8 := by omega
      have hk' : ¬ (((n - 8 : Nat) : Int) < (n : Int) - 8) := by omega
      go_wp2
      go_end0
      exact ⟨rfl, S.out⟩

end Go.Proofs.YtplpafbkalkchaaGreatDoor

namespace Go.Proofs.YtplpafbkalkchaaGreatDoor
open Go.RowKit

theorem Keeps.size_le {S : Nat → Prop} {w w' : World} (h : Keeps S w w') : w.heap.size ≤ w'.heap.size := h.size

set_option maxRecDepth 100000 in
set_option maxHeartbeats 4000000 in
theorem midsTable_ok (v : Nat) (h1 : 1 ≤ v) (h7 : v ≤ 7) (w : World) : Calls Tryz.prog 187 #[] w fun e w' => ∃ m q, e = .returned (.slice (some ⟨m, 0, none⟩) 40 40) ∧
    w'.cell? ⟨m, v - 1, none⟩ = some (.slice (some ⟨q, 0, none⟩) 7 7) ∧ Blk w' q ((_root_.QR.mids v).map fun z => Value.int .i64 z) 3 ∧ Keeps (fun _ => False) w w' ∧ w.heap.size ≤ q := by
  go_enter Tryz.func187, Tryz.ntmps187
  go_wp2
  go_ret
  refine ⟨w.heap.size + 40, w.heap.size + (v - 1), rfl, ?_, ?_, ?_, by omega⟩
  · refine Blk.cell (Blk.newAt ?_ _ _) ?_
    · simp
    obtain rfl | rfl | rfl | rfl | rfl | rfl | rfl : v = 1 ∨ v = 2 ∨ v = 3 ∨ v = 4 ∨ v = 5 ∨ v = 6 ∨ v = 7 := by omega
    all_goals rfl
  · obtain rfl | rfl | rfl | rfl | rfl | rfl | rfl : v = 1 ∨ v = 2 ∨ v = 3 ∨ v = 4 ∨ v = 5 ∨ v = 6 ∨ v = 7 := by omega
    · exact ((((((((((((((((((((((((((((((((((((((((Blk.newAt (by simp) _ _).alloc _).alloc _).alloc _).alloc _).alloc _).alloc _).alloc _).alloc _).alloc _).alloc _).alloc _).alloc _).alloc _).alloc _).alloc _).alloc _).alloc _).alloc _).alloc _).alloc _).alloc _).alloc _).alloc _).alloc _).alloc _).alloc _).alloc _).alloc _).alloc _).alloc _).alloc _).alloc _).alloc _).alloc _).alloc _).alloc _).alloc _).alloc _).alloc _).alloc _
    · exact (((((((((((((((((((((((((((((((((((((((Blk.newAt (by simp) _ _).alloc _).alloc _).alloc _).alloc _).alloc _).alloc _).alloc _).alloc _).alloc _).alloc _).alloc _).alloc _).alloc _).alloc _).alloc _).alloc _).alloc _).alloc _).alloc _).alloc _).alloc _).alloc _).alloc _).alloc _).alloc _).alloc _).alloc _).alloc _).alloc _).alloc _).alloc _).alloc _).alloc _).alloc _).alloc _).alloc _).alloc _).alloc _).alloc _
    · exact ((((((((((((((((((((((((((((((((((((((Blk.newAt (by simp) _ _).alloc _).alloc _).alloc _).alloc _).alloc _).alloc _).alloc _).alloc _).alloc _).alloc _).alloc _).alloc _).alloc _).alloc _).alloc _).alloc _).alloc _).alloc _).alloc _).alloc _).alloc _).alloc _).alloc _).alloc _).alloc _).alloc _).alloc _).alloc _).alloc _).alloc _).alloc _).alloc _).alloc _).alloc _).alloc _).alloc _).alloc _).alloc _
    · exact (((((((((((((((((((((((((((((((((((((Blk.newAt (by simp) _ _).alloc _).alloc _).alloc _).alloc _).alloc _).alloc _).alloc _).alloc _).alloc _).alloc _).alloc _).alloc _).alloc _).alloc _).alloc _).alloc _).alloc _).alloc _).alloc _).alloc _).alloc _).alloc _).alloc _).alloc _).alloc _).alloc _).alloc _).alloc _).alloc _).alloc _).alloc _).alloc _).alloc _).alloc _).alloc _).alloc _).alloc _
    · exact ((((((((((((((((((((((((((((((((((((Blk.newAt (by simp) _ _).alloc _).alloc _).alloc _).alloc _).alloc _).alloc _).alloc _).alloc _).alloc _).alloc _).alloc _).alloc _).alloc _).alloc _).alloc _).alloc _).alloc _).alloc _).alloc _).alloc _).alloc _).alloc _).alloc _).alloc _).alloc _).alloc _).alloc _).alloc _).alloc _).alloc _).alloc _).alloc _).alloc _).alloc _).alloc _).alloc _
    · exact (((((((((((((((((((((((((((((((((((Blk.newAt (by simp) _ _).alloc _).alloc _).alloc _).alloc _).alloc _).alloc _).alloc _).alloc _).alloc _).alloc _).alloc _).alloc _).alloc _).alloc _).alloc _).alloc _).alloc _).alloc _).alloc _).alloc _).alloc _).alloc _).alloc _).alloc _).alloc _).alloc _).alloc _).alloc _).alloc _).alloc _).alloc _).alloc _).alloc _).alloc _).alloc _
    · exact ((((((((((((((((((((((((((((((((((Blk.newAt (by simp) _ _).alloc _).alloc _).alloc _).alloc _).alloc _).alloc _).alloc _).alloc _).alloc _).alloc _).alloc _).alloc _).alloc _).alloc _).alloc _).alloc _).alloc _).alloc _).alloc _).alloc _).alloc _).alloc _).alloc _).alloc _).alloc _).alloc _).alloc _).alloc _).alloc _).alloc _).alloc _).alloc _).alloc _).alloc _
  · exact (((((((((((((((((((((((((((((((((((((((((Keeps.refl _ w).alloc _).alloc _).alloc _).alloc _).alloc _).alloc _).alloc _).alloc _).alloc _).alloc _).alloc _).alloc _).alloc _).alloc _).alloc _).alloc _).alloc _).alloc _).alloc _).alloc _).alloc _).alloc _).alloc _).alloc _).alloc _).alloc _).alloc _).alloc _).alloc _).alloc _).alloc _).alloc _).alloc _).alloc _).alloc _).alloc _).alloc _).alloc _).alloc _).alloc _).alloc _

theorem mids_get (v : Nat) (h1 : 1 ≤ v) (h7 : v ≤ 7) (p : Nat) (hp : p < 7) : (_root_.QR.mids v).getD p 0 = -1 ∨ ∃ c : Nat, (_root_.QR.mids v).getD p 0 = (c : Int) ∧ 6 ≤ c ∧ c + 7 ≤ _root_.QR.side v := by
  have h : ∀ v, v < 8 → ∀ p, p < 7 → (_root_.QR.mids v).getD p 0 = -1 ∨ (6 ≤ (_root_.QR.mids v).getD p 0 ∧ (_root_.QR.mids v).getD p 0 + 7 ≤ (_root_.QR.side v : Int) ∨ v = 0) := by decide
  rcases h v (by omega) p hp with h | h | h
  · exact Or.inl h
  · refine Or.inr ⟨((_root_.QR.mids v).getD p 0).toNat, by omega, by omega, by omega⟩
  · omega
theorem mids_len (v : Nat) : (_root_.QR.mids v).length = 7 := by unfold _root_.QR.mids; split <;> rfl
theorem drop_get (l : List Int) (p : Nat) (h : p < l.length) : l.drop p = l.getD p 0 :: l.drop (p + 1) := by
  rw [List.drop_eq_getElem_cons h]; simp [List.getD, h]

set_option maxRecDepth 100000 in
set_option maxHeartbeats 1600000 in
theorem adjust_ok (s b yb m n v : Nat) (g : Nat → Nat) (f : Nat → Nat → Int) (w : World) (hV : Ver w s b v) (h : YM w yb m n g f) (h1 : 1 ≤ v) (h7 : v ≤ 7) (hn : n = _root_.QR.side v) (hg : ∀ y, y < n → b < g y ∨ g y < s) :
    Calls Tryz.prog 149 #[.pointer (some ⟨b, 0, none⟩), .pointer (some ⟨yb, 0, none⟩)] w fun e w' => e = .returned (.tuple #[]) ∧ YM w' yb m n g (_root_.QR.adjust v f) ∧ Keeps (inRows g n) w w' := by
  have HH := Lib.hid h
  have HV := Lib.hid hV
  have HN := Lib.hid hn
  have hn45 : n ≤ 45 := by rw [hn]; unfold _root_.QR.side; omega
  clear h hV hn
  by_cases hv2 : v < 2
  · have e : _root_.QR.adjust v f = f := by unfold _root_.QR.adjust; rw [if_pos hv2]
    have E := Lib.hid e
    clear e
    go_enter Tryz.func149, Tryz.ntmps149
    go_wp2_with fail
    refine (getNumber_ok s b v w HV.out).mono ?_
    rintro e w1 ⟨rfl, rfl⟩
    have hv' : ((v : Nat) : Int) < 2 := by omega
    go_wp2
    refine bodyPost_ret (results_none rfl _ _ _) rfl ?_
    exact ⟨rfl, by rw [E.out]; exact HH.out, Keeps.refl _ _⟩
  · have e : _root_.QR.adjust v f = _root_.QR.adjY (_root_.QR.mids v) (_root_.QR.mids v) f := by unfold _root_.QR.adjust; rw [if_neg hv2]
    rw [e]
    clear e
    have hv' : ¬ ((v : Nat) : Int) < 2 := by omega
    obtain ⟨cs, hcs⟩ : ∃ cs, _root_.QR.mids v = cs := ⟨_, rfl⟩
    have hlen := Lib.hid (show cs.length = 7 by rw [← hcs]; exact mids_len v)
    have hget := Lib.hid (show ∀ p, p < 7 → cs.getD p 0 = -1 ∨ ∃ c : Nat, cs.getD p 0 = (c : Int) ∧ 6 ≤ c ∧ c + 7 ≤ n from fun p hp => by rw [← hcs, HN.out]; exact mids_get v h1 h7 p hp)
    obtain ⟨FIN, hFIN⟩ : ∃ F, _root_.QR.adjY cs cs f = F := ⟨_, rfl⟩
    have HC := Lib.hid hcs
    have HF := Lib.hid hFIN
    rw [hcs, hFIN]
    clear hcs hFIN
    go_enter Tryz.func149, Tryz.ntmps149
    go_wp2_with fail
    refine (getNumber_ok s b v w HV.out).mono ?_
    rintro e w1 ⟨rfl, rfl⟩
    go_wp2_with fail
    refine (getNumber_ok s b v w HV.out).mono ?_
    rintro e w1 ⟨rfl, rfl⟩
    go_wp2_with fail
    refine (midsTable_ok v h1 h7 w).mono ?_
    rintro e w1 ⟨tm, tq, rfl, t1, t2, t3, t4⟩
    have hvi : ((v - 1 : Nat) : Int) < 40 := by omega
    have T1 := t1
    have hb0 : (0 : Int) ≤ (v : Int) - 1 := by omega
    have hb1 : (v : Int) - 1 < 40 := by omega
    have HY := Lib.hid (HH.out.keep t3 (fun h => h) (fun h => h) (fun _ _ h => h))
    have HK := Lib.hid (t3.mono (S' := inRows g n) (fun _ _ h => h.elim))
    have hnq := Lib.hid (show ∀ y, y < n → g y ≠ tq from fun y hy => by have := (HH.out.rows.row y hy).lt; omega)
    rw [HC.out] at t2
    have HT := Lib.hid t2
    clear t1 t2 t3 t4
    go_wp2_with fail
    clear T1
    go_loopw [22] (fun i wr => ∃ (p : Nat) (M : Nat → Nat → Int), p ≤ 7 ∧ i = .int .i64 (p : Int) ∧ YM wr yb m n g M ∧ Hid (_root_.QR.adjY cs (cs.drop p) M = FIN) ∧ Keeps (inRows g n) w wr ∧ Blk wr tq (cs.map fun z => Value.int .i64 z) 3) (fun i _ => 7 - (intOf i).toNat)
    case atStart => exact ⟨0, f, by omega, rfl, HY.out, Lib.hid HF.out, HK.out, HT.out⟩
    case round =>
      obtain ⟨p, M, hp, rfl, s1, s2, s3, s4⟩ := hrel
      by_cases hp7 : p < 7
      · have hp' : ((p : Nat) : Int) < 7 := by omega
        have c1 : wr.cell? ⟨tq, p, none⟩ = some (.int .i64 (cs.getD p 0)) := s4.cell (by
          have := hlen.out
          simp [List.getD, show p < cs.length by omega])
        have hd := drop_get cs p (by rw [hlen.out]; exact hp7)
        have HD := Lib.hid hd
        have S := Lib.hid (And.intro s1 (And.intro s3 s4))
        clear s1 s3 s4 hd
        rcases hget.out p hp7 with hc | ⟨c, hc, c6, c7⟩
        · rw [hc] at c1
          have HCC := Lib.hid hc
          clear hc
          go_wp2
          go_roundw
          case rel => exact ⟨p + 1, M, by omega, by go_num, S.out.1, Lib.hid (by
              have h := s2.out
              rw [HD.out, HCC.out, _root_.QR.adjY_neg] at h; exact h), S.out.2.1, S.out.2.2⟩
          case measure => simp [intOf]; omega
        · rw [hc] at c1
          have HCC := Lib.hid hc
          have hcn : c < n := by omega
          clear hc
          go_wp2_with fail
          clear c1
          go_loopw [30] (fun i w2 => ∃ (q : Nat) (M : Nat → Nat → Int), q ≤ 7 ∧ i = .int .i64 (q : Int) ∧ YM w2 yb m n g M ∧ Hid (_root_.QR.adjY cs (cs.drop (p + 1)) (_root_.QR.adjX (c : Int) (cs.drop q) M) = FIN) ∧ Keeps (inRows g n) w w2 ∧ Blk w2 tq (cs.map fun z => Value.int .i64 z) 3) (fun i _ => 7 - (intOf i).toNat)
          case atStart => exact ⟨0, M, by omega, rfl, S.out.1, Lib.hid (by
              have h := s2.out
              rw [HD.out, HCC.out, _root_.QR.adjY_pos] at h; exact h), S.out.2.1, S.out.2.2⟩
          case round =>
            obtain ⟨q, M2, hq, rfl, r1, r2, r3, r4⟩ := hrel
            by_cases hq7 : q < 7
            · have hq' : ((q : Nat) : Int) < 7 := by omega
              have c1 : wr.cell? ⟨tq, q, none⟩ = some (.int .i64 (cs.getD q 0)) := r4.cell (by
                have := hlen.out
                simp [List.getD, show q < cs.length by omega])
              have hd := drop_get cs q (by rw [hlen.out]; exact hq7)
              have HD2 := Lib.hid hd
              have R := Lib.hid (And.intro r1 (And.intro r3 r4))
              clear r1 r3 r4 hd
              rcases hget.out q hq7 with hc | ⟨a, hc, a6, a7⟩
              · rw [hc] at c1
                have HCA := Lib.hid hc
                clear hc
                go_wp2
                go_roundw
                case rel => exact ⟨q + 1, M2, by omega, by go_num, R.out.1, Lib.hid (by
                    have h := r2.out
                    rw [HD2.out, HCA.out, _root_.QR.adjX_neg] at h; exact h), R.out.2.1, R.out.2.2⟩
                case measure => simp [intOf]; omega
              · rw [hc] at c1
                have HCA := Lib.hid hc
                have han : a < n := by omega
                clear hc
                obtain ⟨z, hz⟩ : ∃ z, M2 a c = z := ⟨_, rfl⟩
                have HZ := Lib.hid hz
                clear hz
                go_wp2_with fail
                refine (ymGet_ok yb m n a c g _ _ R.out.1 han hcn _ _ rfl rfl z HZ.out).mono ?_
                rintro e w3 ⟨rfl, rfl⟩
                go_wp2_with fail
                refine (isEmpty_ok z _).mono ?_
                rintro e w3 ⟨rfl, rfl⟩
                by_cases hz1 : z = -1
                · have hzb : (z == -1) = true := by simpa using hz1
                  have HE := Lib.hid (show _root_.QR.emp M2 a c = true by unfold _root_.QR.emp; rw [HZ.out, hz1]; rfl)
                  rw [hzb]
                  clear hz1 hzb
                  go_wp2_with fail
                  refine (papLay_ok yb m n (a - 2) (c - 2) g _ _ R.out.1 (by omega) (by omega) (by omega) _ _ (by omega) (by omega)).mono ?_
                  rintro e w3 ⟨rfl, u1, u2⟩
                  have U := Lib.hid (And.intro u1 u2)
                  clear u1 u2
                  go_wp2
                  go_roundw
                  case rel => exact ⟨q + 1, _, by omega, by go_num, U.out.1, Lib.hid (by
                      have h := r2.out
                      rw [HD2.out, HCA.out, _root_.QR.adjX_put HE.out] at h; exact h), R.out.2.1.trans U.out.2, R.out.2.2.keep U.out.2 (fun ⟨y, hy, e⟩ => hnq.out y hy e.symm)⟩
                  case measure => simp [intOf]; omega
                · have hzb : (z == -1) = false := by simpa using hz1
                  have HE := Lib.hid (show _root_.QR.emp M2 a c = false by unfold _root_.QR.emp; rw [HZ.out]; simpa using hz1)
                  rw [hzb]
                  clear hz1 hzb
                  go_wp2
                  go_roundw
                  case rel => exact ⟨q + 1, M2, by omega, by go_num, R.out.1, Lib.hid (by
                      have h := r2.out
                      rw [HD2.out, HCA.out, _root_.QR.adjX_full HE.out] at h; exact h), R.out.2.1, R.out.2.2⟩
                  case measure => simp [intOf]; omega
            · obtain rfl : q = 7 := by omega
              have R := Lib.hid (And.intro r1 (And.intro r3 r4))
              have h9 : Hid (_root_.QR.adjY cs (cs.drop (p + 1)) M2 = FIN) := Lib.hid (by
                have h := r2.out
                have hd7 : cs.drop 7 = [] := List.drop_of_length_le (by rw [hlen.out]; omega)
                rw [hd7, _root_.QR.adjX_nil] at h; exact h)
              clear r1 r3 r4
              go_wp2
              go_roundw
              case rel => exact ⟨p + 1, M2, by omega, by go_num, R.out.1, h9, R.out.2.1, R.out.2.2⟩
              case measure => simp [intOf]; omega
      · obtain rfl : p = 7 := by omega
        have h9 : Hid (M = FIN) := Lib.hid (by
          have h := s2.out
          rw [List.drop_of_length_le (by rw [hlen.out]; omega), _root_.QR.adjY_nil] at h; exact h)
        have S := Lib.hid (And.intro s1 s3)
        clear s1 s3 s4
        go_wp2
        go_end0
        exact ⟨rfl, by rw [← h9.out]; exact S.out.1, S.out.2⟩

set_option maxRecDepth 100000 in
set_option maxHeartbeats 800000 in
theorem basic_ok (s b yb m n v : Nat) (g : Nat → Nat) (w : World) (hV : Ver w s b v) (h : YM w yb m n g _root_.QR.nil1) (h1 : 1 ≤ v) (h7 : v ≤ 7) (hn : n = _root_.QR.side v) (hg : ∀ y, y < n → b < g y ∨ g y < s) :
    Calls Tryz.prog 125 #[.pointer (some ⟨b, 0, none⟩), .pointer (some ⟨yb, 0, none⟩)] w fun e w' => e = .returned .nilIface ∧
      YM w' yb m n g (_root_.QR.timF (n - 8) (_root_.QR.adjust v (_root_.QR.dot n (_root_.QR.corners n _root_.QR.nil1)))) ∧ Keeps (inRows g n) w w' := by
  have hS : ∀ i, s ≤ i → i ≤ b → ¬ inRows g n i := fun i i1 i2 ⟨y, hy, e⟩ => by have := hg y hy; omega
  have HS := Lib.hid hS
  have HG := Lib.hid hg
  have HV := Lib.hid hV
  have HH := Lib.hid h
  have n21 : 21 ≤ n := by rw [hn]; unfold _root_.QR.side; omega
  have n45 : n ≤ 45 := by rw [hn]; unfold _root_.QR.side; omega
  have HN := Lib.hid hn
  have hE := Lib.hid (show (_root_.QR.corners n _root_.QR.nil1) 8 (n - 8) = -1 by
    have e := _root_.QR.emp_corners (M := _root_.QR.nil1) (n := n) 8 (n - 8)
    have : _root_.QR.inL 8 (n - 8) (_root_.QR.cornerR n) = false := by
      rw [hn]
      obtain rfl | rfl | rfl | rfl | rfl | rfl | rfl : v = 1 ∨ v = 2 ∨ v = 3 ∨ v = 4 ∨ v = 5 ∨ v = 6 ∨ v = 7 := by omega
      all_goals decide
    rw [this] at e
    have e0 : _root_.QR.emp _root_.QR.nil1 8 (n - 8) = true := rfl
    rw [e0] at e
    unfold _root_.QR.emp at e
    simpa using e)
  clear hS hg hV h hn
  go_enter Tryz.func125, Tryz.ntmps125
  go_wp2_with fail
  refine (corners_ok yb m n g w HH.out n21 (by omega)).mono ?_
  rintro e w1 ⟨rfl, u1, u2⟩
  have U1 := Lib.hid u1
  have K1 := Lib.hid u2
  clear u1 u2
  go_wp2_with fail
  refine (dot_ok yb m n g _ _ U1.out n21 (by omega) (-1) hE.out rfl).mono ?_
  rintro e w2 ⟨rfl, u1, u2⟩
  have U2 := Lib.hid u1
  have K2 := Lib.hid (K1.out.trans u2)
  clear u1 u2
  go_wp2_with fail
  refine (adjust_ok s b yb m n v g _ _ (HV.out.keep K2.out HS.out) U2.out h1 h7 HN.out HG.out).mono ?_
  rintro e w3 ⟨rfl, u1, u2⟩
  have U3 := Lib.hid u1
  have K3 := Lib.hid (K2.out.trans u2)
  clear u1 u2
  go_wp2_with fail
  refine (timing_ok yb m n g _ _ U3.out n21 (by omega)).mono ?_
  rintro e w4 ⟨rfl, u1, u2⟩
  have U4 := Lib.hid u1
  have K4 := Lib.hid (K3.out.trans u2)
  clear u1 u2
  go_wp2
  go_ret
  exact ⟨rfl, U4.out, K4.out⟩

end Go.Proofs.YtplpafbkalkchaaGreatDoor
