/-
  Parts of the proof (PR, FM, FM2, PF, RV, MD).
-/
import Derived.Test.YtplpafbkalkchaaGreatDoorM02
import Derived.Test.YtplpafbkalkchaaGreatDoorM03
import Derived.Test.YtplpafbkalkchaaGreatDoorM14
import Derived.Test.YtplpafbkalkchaaGreatDoorM15
set_option linter.unusedSimpArgs false
set_option linter.unusedVariables false

namespace Go.Proofs.YtplpafbkalkchaaGreatDoor
open Go.RowKit

theorem numOf_take (tb : List Bool) (k : Nat) (h : k < tb.length) : _root_.QR.numOf (tb.take (k + 1)) = 2 * _root_.QR.numOf (tb.take k) + (tb.getD k false).toNat := by
  rw [List.take_succ_eq_append_getElem h, _root_.QR.numOf_append]
  simp [List.getD, h, _root_.QR.numOf, _root_.QR.numOfF]
  omega
theorem numOf_take_lt (tb : List Bool) (k m : Nat) (h : k ≤ m) : _root_.QR.numOf (tb.take k) < 2 ^ m := by
  refine Nat.lt_of_lt_of_le (_root_.QR.numOf_lt _) (Nat.pow_le_pow_right (by omega) ?_)
  rw [List.length_take]; omega
theorem or1_i64 {v : Nat} (h : v < 1048576) : bits .or .i64 ((v : Int) * 2) 1 = ((2 * v + 1 : Nat) : Int) := by
  have := bits_join .i64 62 (by decide) wraps_i64 1 ((v : Int) * 2) 1 (by omega) (by omega) (by simp; omega) (by omega) (by omega) (by simp)
  rw [this]; omega

set_option maxRecDepth 100000 in
theorem copyBit_ok (p b c n i j v : Nat) (pv pf : Value) (f : Nat → Nat → Bool) (w : World) (hp : Blk w p [.pointer (some ⟨b, 0, none⟩), pv, pf, .bool false] 312) (h : BM w b c n n f) (hi : i < n) (hj : j < n) (hn : n ≤ 100) (hv : v < 1048576)
    (I J V : Int) (hI : I = (i : Int)) (hJ : J = (j : Int)) (hV : V = (v : Int)) (x : Bool) (hx : f i j = x) :
    Calls Tryz.prog 203 #[.pointer (some ⟨p, 0, none⟩), .int .i64 I, .int .i64 J, .int .i64 V] w fun e w' => e = .returned (.int .i64 ((2 * v + x.toNat : Nat) : Int)) ∧ w = w' := by
  subst hI hJ hV
  have c0 := hp.cell (i := 0) rfl
  have c3 := hp.cell (i := 3) rfl
  have HB := Lib.hid h
  have HX := Lib.hid hx
  have ho := or1_i64 hv
  clear h hp hx
  go_enter Tryz.func203, Tryz.ntmps203
  go_wp2_with fail
  refine (bmGet_ok b c n n i j f w HB.out hi hj (by omega) (by omega) _ _ rfl rfl x HX.out).mono ?_
  rintro e w1 ⟨rfl, rfl⟩
  cases x
  · go_wp2
    go_ret
    exact ⟨ret_int (by simp; omega), rfl⟩
  · go_wp2
    go_ret
    exact ⟨ret_int (by simp), rfl⟩

end Go.Proofs.YtplpafbkalkchaaGreatDoor

namespace Go.Proofs.YtplpafbkalkchaaGreatDoor
open Go.RowKit

theorem ones64_ok (x : Int) (w : World) : Calls Tryz.prog 277 #[.int .u64 x] w fun e w' => (∃ m : Int, e = .returned (.int .i64 m)) ∧ w = w' := by
  go_enter Tryz.func277, Tryz.ntmps277
  go_wp2
  go_ret
  exact ⟨⟨_, rfl⟩, rfl⟩
theorem ones_ok (x : Int) (w : World) : Calls Tryz.prog 264 #[.int .u64 x] w fun e w' => (∃ m : Int, e = .returned (.int .i64 m)) ∧ w = w' := by
  go_enter Tryz.func264, Tryz.ntmps264
  go_wp2_with fail
  refine (ones64_ok _ w).mono ?_
  rintro e w1 ⟨⟨m, rfl⟩, rfl⟩
  go_wp2
  go_ret
  exact ⟨⟨_, rfl⟩, rfl⟩
theorem differ_ok (x y : Int) (w : World) : Calls Tryz.prog 247 #[.int .u64 x, .int .u64 y] w fun e w' => (∃ m : Int, e = .returned (.int .i64 m)) ∧ w = w' := by
  go_enter Tryz.func247, Tryz.ntmps247
  go_wp2_with fail
  refine (ones_ok _ w).mono ?_
  rintro e w1 ⟨⟨m, rfl⟩, rfl⟩
  go_wp2
  go_ret
  exact ⟨⟨_, rfl⟩, rfl⟩

theorem wraps_u64 (n : Int) (h₀ : 0 ≤ n) (h₁ : n < 2 ^ 62) : IntKind.u64.wrap n = n := by
  show n % 2 ^ 64 = n
  omega
set_option maxRecDepth 100000 in
theorem newFormat_ok (a : Nat) (ha : a < 32) (A : Int) (hA : A = (a : Int)) (w : World) : Calls Tryz.prog 266 #[.int .u64 A] w fun e w' => e = .returned (.pointer (some ⟨w.heap.size, 0, none⟩)) ∧
    Blk w' w.heap.size [.int .i64 ((a / 8 : Nat) : Int), .int .u8 ((a % 8 : Nat) : Int)] 341 ∧ Keeps (fun _ => False) w w' := by
  subst hA
  have e1 : bits .and .u64 ((a : Int) / 8) 3 = ((a / 8 : Nat) : Int) := by
    have := (bits_nat .u64 62 (by decide) wraps_u64 (a / 8) 3 (by omega) (by omega)).1
    rw [show ((a : Int) / 8) = ((a / 8 : Nat) : Int) by omega, show (3 : Int) = ((3 : Nat) : Int) from rfl, this]
    congr 1
    rw [show (3 : Nat) = 2 ^ 2 - 1 from rfl, Nat.and_two_pow_sub_one_eq_mod]; omega
  have e3 : bits .and .u64 (a : Int) 7 = ((a % 8 : Nat) : Int) := by
    have := (bits_nat .u64 62 (by decide) wraps_u64 a 7 (by omega) (by omega)).1
    rw [show (7 : Int) = ((7 : Nat) : Int) from rfl, this]
    congr 1
    rw [show (7 : Nat) = 2 ^ 3 - 1 from rfl, Nat.and_two_pow_sub_one_eq_mod]
  go_enter Tryz.func266, Tryz.ntmps266
  go_wp2_with fail
  refine (levelFor_ok (a / 8) (by omega) _ rfl w).mono ?_
  rintro e w1 ⟨rfl, rfl⟩
  go_wp2
  go_ret
  exact ⟨rfl, Blk.new w _ 341, (Keeps.refl _ w).alloc _⟩

/-- The table of words on the format, laid. -/
def lutP (k : Nat) : List Value := [.int .u64 (_root_.QR.formatOf k : Nat), .int .u64 (k : Nat)]
def lutN (w : World) : Nat → World
  | 0 => w
  | k + 1 => (lutN w k).alloc (.cells (lutP k).toArray 152)
def lutT (B : Nat) : List Value := (List.range 32).map fun k => .slice (some ⟨B + k, 0, none⟩) 2 2
def lutW (w : World) : World := (lutN w 32).alloc (.cells (lutT w.heap.size).toArray 386)
theorem lutN_size (w : World) : ∀ k, (lutN w k).heap.size = w.heap.size + k
  | 0 => rfl
  | k + 1 => by
    show ((lutN w k).alloc _).heap.size = _
    simp [lutN_size w k]; omega
theorem lutN_keeps (w : World) : ∀ k, Keeps (fun _ => False) w (lutN w k)
  | 0 => Keeps.refl _ w
  | k + 1 => (lutN_keeps w k).alloc _
theorem lutN_blk (w : World) : ∀ n k, k < n → Blk (lutN w n) (w.heap.size + k) (lutP k) 152
  | n + 1, k, h => by
    by_cases e : k = n
    · subst e
      have := Blk.new (lutN w k) (lutP k) 152
      rw [lutN_size] at this
      exact this
    · exact (lutN_blk w n k (by omega)).alloc _
theorem lutW_top (w : World) : Blk (lutW w) (w.heap.size + 32) (lutT w.heap.size) 386 := by
  have := Blk.new (lutN w 32) (lutT w.heap.size) 386
  rw [lutN_size] at this
  exact this
theorem lutW_blk (w : World) (k : Nat) (h : k < 32) : Blk (lutW w) (w.heap.size + k) (lutP k) 152 := (lutN_blk w 32 k h).alloc _
theorem lutW_keeps (w : World) : Keeps (fun _ => False) w (lutW w) := (lutN_keeps w 32).alloc _

set_option maxRecDepth 100000 in
set_option maxHeartbeats 4000000 in
theorem lookup_ok (w : World) : Calls Tryz.prog 265 #[] w fun e w' => e = .returned (.slice (some ⟨w.heap.size + 32, 0, none⟩) 32 32) ∧ lutW w = w' := by
  go_enter Tryz.func265, Tryz.ntmps265
  go_wp2
  go_ret
  exact ⟨rfl, rfl⟩

end Go.Proofs.YtplpafbkalkchaaGreatDoor

namespace Go.Proofs.YtplpafbkalkchaaGreatDoor
open Go.RowKit

def chkFo : Bool := (List.range 32).all fun a => (List.range 32).all fun b => a == b || _root_.QR.formatOf a != _root_.QR.formatOf b
theorem chkFo_ok : chkFo = true := by decide +kernel
theorem format_ne {a b : Nat} (ha : a < 32) (hb : b < 32) (h : a ≠ b) : _root_.QR.formatOf a ≠ _root_.QR.formatOf b := by
  have h1 := chkFo_ok
  unfold chkFo at h1
  rw [List.all_eq_true] at h1
  have h2 := h1 a (List.mem_range.2 ha)
  rw [List.all_eq_true] at h2
  have h3 := h2 b (List.mem_range.2 hb)
  simp [h] at h3
  exact h3

set_option maxRecDepth 100000 in
set_option maxHeartbeats 1600000 in
theorem doDecode_ok (a : Nat) (ha : a < 32) (X : Int) (hX : X = (_root_.QR.formatOf a : Nat)) (w : World) : Calls Tryz.prog 248 #[.int .u64 X, .int .u64 X] w fun e w' => e = .returned (.pointer (some ⟨w.heap.size + 33, 0, none⟩)) ∧
    Blk w' (w.heap.size + 33) [.int .i64 ((a / 8 : Nat) : Int), .int .u8 ((a % 8 : Nat) : Int)] 341 ∧ Keeps (fun _ => False) w w' := by
  subst hX
  obtain ⟨y, hy⟩ : ∃ y, _root_.QR.formatOf a = y := ⟨_, rfl⟩
  rw [hy]
  have HY := Lib.hid hy
  clear hy
  obtain ⟨B, hB⟩ : ∃ B, w.heap.size = B := ⟨_, rfl⟩
  rw [hB]
  have HB := Lib.hid hB
  go_enter Tryz.func248, Tryz.ntmps248
  go_wp2_with fail
  refine (lookup_ok w).mono ?_
  rintro e w1 ⟨rfl, h1⟩
  have T := Lib.hid (show Blk w1 (B + 32) (lutT B) 386 ∧ (∀ k, k < 32 → Blk w1 (B + k) (lutP k) 152) ∧ Keeps (fun _ => False) w w1 ∧ w1.heap.size = B + 33 from by
    subst h1
    rw [← hB]
    exact ⟨lutW_top w, lutW_blk w, lutW_keeps w, by
      show ((lutN w 32).alloc _).heap.size = _
      simp [lutN_size]⟩)
  rw [hB]
  clear h1 hB
  go_wp2_with fail
  go_loopw [5, 6, 13] (fun s5 s6 s13 wr => ∃ (k : Nat) (d b : Int), k ≤ a ∧ s13 = .int .i64 (k : Int) ∧ s5 = .int .i64 d ∧ s6 = .int .u64 b ∧ w1 = wr) (fun _ _ s13 _ => 32 - (intOf s13).toNat)
  case atStart => exact ⟨0, _, _, by omega, rfl, rfl, rfl, rfl⟩
  case round =>
    obtain ⟨k, d, b, hk, rfl, rfl, rfl, rfl⟩ := hrel
    have c0 := T.out.1.cell (i := k) (v := .slice (some ⟨B + k, 0, none⟩) 2 2) (by unfold lutT; simp [show k < 32 by omega])
    have c1 := (T.out.2.1 k (by omega)).cell (i := 0) rfl
    have c2 := (T.out.2.1 k (by omega)).cell (i := 1) rfl
    obtain ⟨x, hx⟩ : ∃ x, _root_.QR.formatOf k = x := ⟨_, rfl⟩
    rw [hx] at c1
    have hk32 : (k : Int) < 32 := by omega
    by_cases hka : k = a
    · subst hka
      obtain rfl : x = y := by rw [← hx, HY.out]
      clear hx
      go_wp2_with fail
      refine (newFormat_ok k ha _ rfl w1).mono ?_
      rintro e w2 ⟨rfl, a1, a2⟩
      rw [T.out.2.2.2] at a1 ⊢
      have A := Lib.hid (And.intro a1 (T.out.2.2.1.trans a2))
      clear a1 a2
      go_wp2
      go_ret
      exact ⟨rfl, A.out⟩
    · have hne : ((x : Int) == (y : Int)) = false := by
        have := format_ne (show k < 32 by omega) ha hka
        rw [hx, HY.out] at this
        simp; omega
      clear hx
      go_wp2_with fail
      refine (differ_ok _ _ w1).mono ?_
      rintro e w2 ⟨⟨m, rfl⟩, rfl⟩
      go_wp2
      all_goals
        go_roundw
        case rel => exact ⟨k + 1, _, _, by omega, by go_num, rfl, rfl, trivial⟩
        case measure => simp [intOf]; omega

set_option maxRecDepth 100000 in
theorem decodeFormat_ok (a : Nat) (ha : a < 32) (X : Int) (hX : X = (_root_.QR.formatOf a : Nat)) (w : World) : Calls Tryz.prog 205 #[.int .u64 X, .int .u64 X] w fun e w' => e = .returned (.pointer (some ⟨w.heap.size + 33, 0, none⟩)) ∧
    Blk w' (w.heap.size + 33) [.int .i64 ((a / 8 : Nat) : Int), .int .u8 ((a % 8 : Nat) : Int)] 341 ∧ Keeps (fun _ => False) w w' := by
  subst hX
  obtain ⟨y, hy⟩ : ∃ y, _root_.QR.formatOf a = y := ⟨_, rfl⟩
  have c := doDecode_ok a ha _ rfl w
  rw [hy] at c ⊢
  have C := Lib.hid c
  clear hy c
  go_enter Tryz.func205, Tryz.ntmps205
  go_wp2_with fail
  refine C.out.mono ?_
  rintro e w1 ⟨rfl, a1, a2⟩
  have A := Lib.hid (And.intro a1 a2)
  clear a1 a2
  go_wp2
  go_ret
  exact ⟨rfl, A.out⟩

end Go.Proofs.YtplpafbkalkchaaGreatDoor

namespace Go.Proofs.YtplpafbkalkchaaGreatDoor
open Go.RowKit

theorem readN (k : Nat) : (_root_.QR.rd1.getD k (0, 0)) = (if k < 6 then (k, 8) else if k = 6 then (7, 8) else if k = 7 then (8, 8) else if k = 8 then (8, 7) else if k < 15 then (8, 14 - k) else (0, 0)) := by
  by_cases h : k < 15
  · obtain rfl | rfl | rfl | rfl | rfl | rfl | rfl | rfl | rfl | rfl | rfl | rfl | rfl | rfl | rfl : k = 0 ∨ k = 1 ∨ k = 2 ∨ k = 3 ∨ k = 4 ∨ k = 5 ∨ k = 6 ∨ k = 7 ∨ k = 8 ∨ k = 9 ∨ k = 10 ∨ k = 11 ∨ k = 12 ∨ k = 13 ∨ k = 14 := by omega
    all_goals rfl
  · have : _root_.QR.rd1.length = 15 := rfl
    rw [List.getD_eq_getElem?_getD, List.getElem?_eq_none (by omega)]
    repeat rw [if_neg (by omega)]
    rfl
theorem readM (n k : Nat) : ((_root_.QR.rd2 n).getD k (0, 0)) = (if k < 7 then (8, n - 1 - k) else if k < 15 then (n - 8 + (k - 7), 8) else (0, 0)) := by
  unfold _root_.QR.rd2
  by_cases h : k < 7
  · rw [if_pos h, List.getD_eq_getElem?_getD, List.getElem?_append_left (by simpa using h)]
    simp [h]
  · rw [if_neg h, List.getD_eq_getElem?_getD, List.getElem?_append_right (by simp; omega)]
    by_cases h2 : k < 15
    · rw [if_pos h2]; simp [show k - 7 < 8 by omega]
    · rw [if_neg h2]; simp [show ¬ k - 7 < 8 by omega]

set_option maxRecDepth 100000 in
set_option maxHeartbeats 4000000 in
theorem readFormat_ok (p b c n a : Nat) (pv : Value) (f : Nat → Nat → Bool) (w : World) (hp : Blk w p [.pointer (some ⟨b, 0, none⟩), pv, .pointer none, .bool false] 312) (h : BM w b c n n f) (hn : 21 ≤ n) (hn2 : n ≤ 100) (ha : a < 32)
    (h1 : ∀ k, k < 15 → f (_root_.QR.rd1.getD k (0, 0)).1 (_root_.QR.rd1.getD k (0, 0)).2 = (_root_.QR.bitsOf 15 (_root_.QR.formatOf a)).getD k false)
    (h2 : ∀ k, k < 15 → f ((_root_.QR.rd2 n).getD k (0, 0)).1 ((_root_.QR.rd2 n).getD k (0, 0)).2 = (_root_.QR.bitsOf 15 (_root_.QR.formatOf a)).getD k false) :
    Calls Tryz.prog 164 #[.pointer (some ⟨p, 0, none⟩)] w fun e w' => ∃ q, e = .returned (.tuple #[.pointer (some ⟨q, 0, none⟩), .nilIface]) ∧ Blk w' q [.int .i64 ((a / 8 : Nat) : Int), .int .u8 ((a % 8 : Nat) : Int)] 341 ∧
      Blk w' p [.pointer (some ⟨b, 0, none⟩), pv, .pointer (some ⟨q, 0, none⟩), .bool false] 312 ∧ Keeps (fun i => i = p) w w' ∧ w.heap.size ≤ q := by
  obtain ⟨tb, htb⟩ : ∃ tb, _root_.QR.bitsOf 15 (_root_.QR.formatOf a) = tb := ⟨_, rfl⟩
  have hl : tb.length = 15 := by rw [← htb, _root_.QR.bitsOf_length]
  have hnum : _root_.QR.numOf tb = _root_.QR.formatOf a := by
    rw [← htb, _root_.QR.numOf_bitsOf, Nat.mod_eq_of_lt]
    have : (List.range 32).all (fun a => decide (_root_.QR.formatOf a < 2 ^ 15)) = true := by decide +kernel
    exact of_decide_eq_true (List.all_eq_true.1 this a (List.mem_range.2 ha))
  rw [htb] at h1 h2
  have N0 := Lib.hid (show _root_.QR.numOf (tb.take 0) = 0 from rfl)
  have N1 := Lib.hid (fun (k : Nat) (hk : k < 15) => numOf_take tb k (by omega))
  have NL := Lib.hid (fun (k : Nat) (hk : k ≤ 15) => show _root_.QR.numOf (tb.take k) < 1048576 by have := numOf_take_lt tb k 20 (by omega); omega)
  have NE := Lib.hid (show _root_.QR.numOf (tb.take 15) = _root_.QR.formatOf a by rw [List.take_of_length_le (by omega), hnum])
  have H1 := Lib.hid h1
  have H2 := Lib.hid h2
  have HP := Lib.hid hp
  have HB := Lib.hid h
  have c2 := hp.cell (i := 2) rfl
  have c0 := hp.cell (i := 0) rfl
  clear h1 h2 hp h hl hnum htb
  go_enter Tryz.func164, Tryz.ntmps164
  go_wp2_with fail
  go_loopw [4, 5] (fun s4 s5 wr => ∃ k v : Nat, k ≤ 6 ∧ s5 = .int .i64 (k : Int) ∧ s4 = .int .i64 (v : Int) ∧ Hid (v = _root_.QR.numOf (tb.take k)) ∧ w = wr) (fun _ s5 _ => 6 - (intOf s5).toNat)
  case atStart => exact ⟨0, 0, by omega, rfl, rfl, Lib.hid rfl, rfl⟩
  case round =>
    obtain ⟨k, v, hk, rfl, rfl, hv, rfl⟩ := hrel
    have hv2 : v < 1048576 := by rw [hv.out]; exact NL.out k (by omega)
    by_cases hk6 : k < 6
    · have hk6' : (k : Int) < 6 := by omega
      go_wp2_with fail
      refine (copyBit_ok p b c n k 8 v pv _ f w HP.out HB.out (by omega) (by omega) hn2 hv2 _ _ _ rfl rfl rfl (tb.getD k false) (by have := H1.out k (by omega); rw [readN, if_pos hk6] at this; exact this)).mono ?_
      rintro e w1 ⟨rfl, rfl⟩
      have hs := Lib.hid (show 2 * v + (tb.getD k false).toNat = _root_.QR.numOf (tb.take (k + 1)) by rw [N1.out k (by omega), hv.out])
      go_wp2
      go_roundw
      case rel => exact ⟨k + 1, _, by omega, by go_num, rfl, hs, trivial⟩
      case measure => simp [intOf]; omega
    · obtain rfl : k = 6 := by omega
      go_wp2_with fail
      refine (copyBit_ok p b c n 7 8 v pv _ f w HP.out HB.out (by omega) (by omega) hn2 hv2 _ _ _ rfl rfl rfl (tb.getD 6 false) (by have := H1.out 6 (by omega); rw [readN] at this; exact this)).mono ?_
      rintro e w1 ⟨rfl, rfl⟩
      obtain ⟨v2, e2⟩ : ∃ v2, 2 * v + (tb.getD 6 false).toNat = v2 := ⟨_, rfl⟩
      rw [e2]
      have V2 := Lib.hid (show v2 = _root_.QR.numOf (tb.take 7) by rw [N1.out 6 (by omega), ← hv.out, e2])
      have b2 : v2 < 1048576 := by rw [V2.out]; exact NL.out 7 (by omega)
      clear e2 hv hv2
      go_wp2_with fail
      refine (copyBit_ok p b c n 8 8 v2 pv _ f w HP.out HB.out (by omega) (by omega) hn2 b2 _ _ _ rfl rfl rfl (tb.getD 7 false) (by have := H1.out 7 (by omega); rw [readN] at this; exact this)).mono ?_
      rintro e w1 ⟨rfl, rfl⟩
      obtain ⟨v3, e3⟩ : ∃ v3, 2 * v2 + (tb.getD 7 false).toNat = v3 := ⟨_, rfl⟩
      rw [e3]
      have V3 := Lib.hid (show v3 = _root_.QR.numOf (tb.take 8) by rw [N1.out 7 (by omega), ← V2.out, e3])
      have b3 : v3 < 1048576 := by rw [V3.out]; exact NL.out 8 (by omega)
      clear e3 V2 b2
      go_wp2_with fail
      refine (copyBit_ok p b c n 8 7 v3 pv _ f w HP.out HB.out (by omega) (by omega) hn2 b3 _ _ _ rfl rfl rfl (tb.getD 8 false) (by have := H1.out 8 (by omega); rw [readN] at this; exact this)).mono ?_
      rintro e w1 ⟨rfl, rfl⟩
      obtain ⟨v4, e4⟩ : ∃ v4, 2 * v3 + (tb.getD 8 false).toNat = v4 := ⟨_, rfl⟩
      rw [e4]
      have V4 := Lib.hid (show v4 = _root_.QR.numOf (tb.take 9) by rw [N1.out 8 (by omega), ← V3.out, e4])
      clear e4 V3 b3
      go_wp2_with fail
      go_loopw [4, 6] (fun s4 s6 wr => ∃ k v : Nat, k ≤ 6 ∧ s6 = .int .i64 (5 - (k : Int)) ∧ s4 = .int .i64 (v : Int) ∧ Hid (v = _root_.QR.numOf (tb.take (9 + k))) ∧ w = wr) (fun _ s6 _ => (intOf s6 + 1).toNat)
      case atStart => exact ⟨0, v4, by omega, rfl, rfl, V4, rfl⟩
      case round =>
        obtain ⟨k, v, hk, rfl, rfl, hv, rfl⟩ := hrel
        have hv2 : v < 1048576 := by rw [hv.out]; exact NL.out _ (by omega)
        by_cases hk6 : k < 6
        · have hk6' : (0 : Int) ≤ 5 - (k : Int) := by omega
          go_wp2_with fail
          refine (copyBit_ok p b c n 8 (5 - k) v pv _ f w HP.out HB.out (by omega) (by omega) hn2 hv2 _ _ _ rfl (by omega) rfl (tb.getD (9 + k) false) (by
            have := H1.out (9 + k) (by omega)
            rw [readN, if_neg (by omega), if_neg (by omega), if_neg (by omega), if_neg (by omega), if_pos (by omega), show 14 - (9 + k) = 5 - k by omega] at this; exact this)).mono ?_
          rintro e w1 ⟨rfl, rfl⟩
          have hs := Lib.hid (show 2 * v + (tb.getD (9 + k) false).toNat = _root_.QR.numOf (tb.take (9 + (k + 1))) by rw [← Nat.add_assoc, N1.out (9 + k) (by omega), hv.out])
          go_wp2
          go_roundw
          case rel => exact ⟨k + 1, _, by omega, by go_num, rfl, hs, trivial⟩
          case measure => simp [intOf]; omega
        · obtain rfl : k = 6 := by omega
          obtain ⟨y, hy⟩ : ∃ y, _root_.QR.formatOf a = y := ⟨_, rfl⟩
          have HY := Lib.hid hy
          obtain rfl : v = y := by rw [hv.out, ← hy]; exact NE.out
          clear hy
          go_wp2_with fail
          refine (height_ok b c n n f w HB.out).mono ?_
          rintro e w1 ⟨rfl, rfl⟩
          go_wp2_with fail
          go_loopw [8, 10] (fun s8 s10 wr => ∃ k u : Nat, k ≤ 7 ∧ s10 = .int .i64 ((n : Int) - 1 - (k : Int)) ∧ s8 = .int .i64 (u : Int) ∧ Hid (u = _root_.QR.numOf (tb.take k)) ∧ w = wr) (fun _ s10 _ => (intOf s10 + 1).toNat)
          case atStart => exact ⟨0, 0, by omega, by go_num, rfl, Lib.hid rfl, rfl⟩
          case round =>
            obtain ⟨k, u, hk, rfl, rfl, hu, rfl⟩ := hrel
            have hu2 : u < 1048576 := by rw [hu.out]; exact NL.out _ (by omega)
            by_cases hk7 : k < 7
            · have hk7' : (n : Int) - 7 ≤ (n : Int) - 1 - (k : Int) := by omega
              go_wp2_with fail
              refine (copyBit_ok p b c n 8 (n - 1 - k) u pv _ f w HP.out HB.out (by omega) (by omega) hn2 hu2 _ _ _ rfl (by omega) rfl (tb.getD k false) (by
                have := H2.out k (by omega)
                rw [readM, if_pos hk7] at this; exact this)).mono ?_
              rintro e w1 ⟨rfl, rfl⟩
              have hs := Lib.hid (show 2 * u + (tb.getD k false).toNat = _root_.QR.numOf (tb.take (k + 1)) by rw [N1.out k (by omega), hu.out])
              go_wp2
              go_roundw
              case rel => exact ⟨k + 1, _, by omega, by go_num, rfl, hs, trivial⟩
              case measure => simp [intOf]; omega
            · obtain rfl : k = 7 := by omega
              have hk7' : ¬ (n : Int) - 7 ≤ (n : Int) - 1 - ((7 : Nat) : Int) := by omega
              go_wp2_with fail
              go_loopw [8, 11] (fun s8 s11 wr => ∃ k u : Nat, k ≤ 8 ∧ s11 = .int .i64 ((n : Int) - 8 + (k : Int)) ∧ s8 = .int .i64 (u : Int) ∧ Hid (u = _root_.QR.numOf (tb.take (7 + k))) ∧ w = wr) (fun _ s11 _ => (n - intOf s11).toNat)
              case atStart => exact ⟨0, u, by omega, by go_num, rfl, hu, rfl⟩
              case round =>
                obtain ⟨k, u, hk, rfl, rfl, hu, rfl⟩ := hrel
                have hu2 : u < 1048576 := by rw [hu.out]; exact NL.out _ (by omega)
                by_cases hk8 : k < 8
                · have hk8' : (n : Int) - 8 + (k : Int) < (n : Int) := by omega
                  go_wp2_with fail
                  refine (copyBit_ok p b c n (n - 8 + k) 8 u pv _ f w HP.out HB.out (by omega) (by omega) hn2 hu2 _ _ _ (by omega) rfl rfl (tb.getD (7 + k) false) (by
                    have := H2.out (7 + k) (by omega)
                    rw [readM, if_neg (by omega), if_pos (by omega), show 7 + k - 7 = k by omega] at this; exact this)).mono ?_
                  rintro e w1 ⟨rfl, rfl⟩
                  have hs := Lib.hid (show 2 * u + (tb.getD (7 + k) false).toNat = _root_.QR.numOf (tb.take (7 + (k + 1))) by rw [← Nat.add_assoc, N1.out (7 + k) (by omega), hu.out])
                  go_wp2
                  go_roundw
                  case rel => exact ⟨k + 1, _, by omega, by go_num, rfl, hs, trivial⟩
                  case measure => simp [intOf]; omega
                · obtain rfl : k = 8 := by omega
                  obtain rfl : v = u := by rw [hu.out, ← HY.out]; exact NE.out.symm
                  have hk8' : ¬ (n : Int) - 8 + ((8 : Nat) : Int) < (n : Int) := by omega
                  have C := decodeFormat_ok a ha _ rfl w
                  rw [HY.out] at C
                  have C := Lib.hid C
                  have hmod : ((v : Int) % 18446744073709551616) = (v : Int) := by omega
                  go_wp2_with fail
                  refine C.out.mono ?_
                  rintro e w1 ⟨rfl, d1, d2⟩
                  obtain ⟨q, hq⟩ : ∃ q, w.heap.size + 33 = q := ⟨_, rfl⟩
                  rw [hq] at d1 ⊢
                  have hpq : p < w.heap.size := HP.out.lt
                  have hp1 := HP.out.keep d2 (fun f => f)
                  have p2 := hp1.cell (i := 2) rfl
                  have pf := hp1.free 2
                  have E := Lib.hid (And.intro (d1.far (p := ⟨p, 2, none⟩) (by show q ≠ p; omega) (.pointer (some ⟨q, 0, none⟩))) (And.intro (hp1.set 2 (.pointer (some ⟨q, 0, none⟩))) (And.intro ((d2.mono (S' := fun i => i = p) (fun _ _ f => f.elim)).setCell (p := ⟨p, 2, none⟩) (Or.inl rfl) (.pointer (some ⟨q, 0, none⟩))) (show w.heap.size ≤ q by omega))))
                  clear d1 d2 hp1 hq c2 c0
                  go_wp2
                  go_ret2
                  exact ⟨q, rfl, E.out⟩

end Go.Proofs.YtplpafbkalkchaaGreatDoor

namespace Go.Proofs.YtplpafbkalkchaaGreatDoor
open Go.RowKit

set_option maxRecDepth 100000 in
theorem vinfoT_ok (w : World) : Calls Tryz.prog 246 #[] w fun e w' => e = .returned (.slice (some ⟨w.heap.size, 0, none⟩) 34 34) ∧ w'.cell? ⟨w.heap.size, 0, none⟩ = some (.int .i64 31892) ∧ Keeps (fun _ => False) w w' := by
  go_enter Tryz.func246, Tryz.ntmps246
  go_wp2
  go_ret
  exact ⟨rfl, Blk.cell (Blk.new w _ 3) (i := 0) rfl, (Keeps.refl _ w).alloc _⟩

set_option maxRecDepth 100000 in
set_option maxHeartbeats 800000 in
theorem decodeV7_ok (X : Int) (hX : X = 31892) (w : World) : Calls Tryz.prog 204 #[.int .i64 X] w fun e w' => ∃ s b, e = .returned (.tuple #[.pointer (some ⟨b, 0, none⟩), .nilIface]) ∧ Ver w' s b 7 ∧ Keeps (fun _ => False) w w' ∧ w.heap.size ≤ s := by
  subst hX
  go_enter Tryz.func204, Tryz.ntmps204
  go_wp2_with fail
  refine (vinfoT_ok w).mono ?_
  rintro e w1 ⟨rfl, c0, k1⟩
  obtain ⟨B, hB⟩ : ∃ B, w.heap.size = B := ⟨_, rfl⟩
  rw [hB] at c0 ⊢
  have HB := Lib.hid hB
  have C0 := Lib.hid c0
  have K1 := Lib.hid k1
  clear hB c0 k1
  go_wp2_with fail
  go_loopw [11] (fun s11 wr => s11 = .int .i64 0 ∧ w1 = wr) (fun _ _ => 1)
  case atStart => exact ⟨rfl, rfl⟩
  case round =>
    obtain ⟨rfl, rfl⟩ := hrel
    have c0 := C0.out
    go_wp2_with fail
    refine (version_ok 7 w1 (by omega) (by omega) _ rfl).mono ?_
    rintro e w2 ⟨b, rfl, a1, a2⟩
    have A := Lib.hid (And.intro a1 (And.intro (K1.out.trans a2) (show w.heap.size ≤ w1.heap.size from K1.out.size)))
    clear a1 a2
    go_wp2
    go_ret2
    exact ⟨_, b, rfl, A.out⟩

set_option maxRecDepth 100000 in
theorem readVersion2_ok (p : Nat) (v0 v2 v3 : Value) (x : Addr) (w : World) (hp : Blk w p [v0, .pointer (some x), v2, v3] 312) : Calls Tryz.prog 163 #[.pointer (some ⟨p, 0, none⟩)] w fun e w' => e = .returned (.tuple #[.pointer (some x), .nilIface]) ∧ w = w' := by
  have c1 := hp.cell (i := 1) rfl
  clear hp
  go_enter Tryz.func163, Tryz.ntmps163
  go_wp2
  go_ret2
  exact ⟨rfl, rfl⟩

theorem rdv_at (q : Nat) (h : q < 18) : (_root_.QR.rdv 45).getD q (0, 0) = (36 - q % 3, 5 - q / 3) := by
  unfold _root_.QR.rdv
  rw [List.getD_eq_getElem?_getD]
  simp [h]

set_option maxRecDepth 100000 in
set_option maxHeartbeats 2000000 in
theorem readVersion_ok (p b c n v : Nat) (pf : Value) (f : Nat → Nat → Bool) (w : World) (hp : Blk w p [.pointer (some ⟨b, 0, none⟩), .pointer none, pf, .bool false] 312) (h : BM w b c n n f) (h1 : 1 ≤ v) (h7 : v ≤ 7) (hn : n = _root_.QR.side v)
    (hv : v = 7 → ∀ k, k < 18 → f ((_root_.QR.rdv 45).getD k (0, 0)).1 ((_root_.QR.rdv 45).getD k (0, 0)).2 = (_root_.QR.bitsOf 18 31892).getD k false) :
    Calls Tryz.prog 163 #[.pointer (some ⟨p, 0, none⟩)] w fun e w' => ∃ s vb pv, e = .returned (.tuple #[.pointer (some ⟨vb, 0, none⟩), .nilIface]) ∧ Ver w' s vb v ∧
      Blk w' p [.pointer (some ⟨b, 0, none⟩), pv, pf, .bool false] 312 ∧ (pv = .pointer none ∨ pv = .pointer (some ⟨vb, 0, none⟩)) ∧ Keeps (fun i => i = p) w w' ∧ w.heap.size ≤ s := by
  have c0 := hp.cell (i := 0) rfl
  have c1 := hp.cell (i := 1) rfl
  have HP := Lib.hid hp
  have HB := Lib.hid h
  have HV := Lib.hid hv
  have hn4 : n = 17 + 4 * v := hn
  have hq : ((n : Int) - 17) / 4 = (v : Int) := by omega
  have hn2 : 21 ≤ n ∧ n ≤ 45 := by omega
  have HN := Lib.hid hn4
  obtain ⟨n1, n2⟩ := hn2
  clear hp h hv hn hn4
  by_cases h6 : v ≤ 6
  · have h6' : (v : Int) ≤ 6 := by omega
    go_enter Tryz.func163, Tryz.ntmps163
    go_wp2_with fail
    refine (height_ok b c n n f w HB.out).mono ?_
    rintro e w1 ⟨rfl, rfl⟩
    go_wp2_with fail
    refine (version_ok v w h1 h7 _ rfl).mono ?_
    rintro e w2 ⟨vb, rfl, a1, a2⟩
    have A := Lib.hid (And.intro a1 (And.intro (HP.out.keep a2 (fun f => f)) (a2.mono (S' := fun i => i = p) (fun _ _ f => f.elim))))
    clear a1 a2
    go_wp2
    go_ret2
    exact ⟨_, vb, _, rfl, A.out.1, A.out.2.1, Or.inl rfl, A.out.2.2, Nat.le_refl _⟩
  · obtain rfl : v = 7 := by omega
    obtain rfl : n = 45 := HN.out
    obtain ⟨tb, htb⟩ : ∃ tb, _root_.QR.bitsOf 18 31892 = tb := ⟨_, rfl⟩
    have hl : tb.length = 18 := by rw [← htb, _root_.QR.bitsOf_length]
    have hnum : _root_.QR.numOf tb = 31892 := by rw [← htb, _root_.QR.numOf_bitsOf]
    have H1 := Lib.hid (HV.out rfl)
    rw [htb] at H1
    have N1 := Lib.hid (fun (k : Nat) (hk : k < 18) => numOf_take tb k (by omega))
    have NL := Lib.hid (fun (k : Nat) (hk : k ≤ 18) => show _root_.QR.numOf (tb.take k) < 1048576 by have := numOf_take_lt tb k 20 (by omega); omega)
    have NE := Lib.hid (show _root_.QR.numOf (tb.take 18) = 31892 by rw [List.take_of_length_le (by omega), hnum])
    clear hl hnum htb hq
    go_enter Tryz.func163, Tryz.ntmps163
    go_wp2_with fail
    refine (height_ok b c 45 45 f w HB.out).mono ?_
    rintro e w1 ⟨rfl, rfl⟩
    go_wp2_with fail
    go_loopw [6, 8, 9] (fun s6 s8 _ wr => ∃ r u : Nat, r ≤ 6 ∧ s8 = .int .i64 (5 - (r : Int)) ∧ s6 = .int .i64 (u : Int) ∧ Hid (u = _root_.QR.numOf (tb.take (3 * r))) ∧ w = wr) (fun _ s8 _ _ => (intOf s8 + 1).toNat)
    case atStart => exact ⟨0, 0, by omega, rfl, rfl, Lib.hid rfl, rfl⟩
    case round =>
      obtain ⟨r, u, hr, rfl, rfl, hu, rfl⟩ := hrel
      by_cases hr6 : r < 6
      · have hr6' : (r : Int) ≤ 5 := by omega
        have hr7' : decide ((r : Int) ≤ 5) = true := decide_eq_true hr6'
        go_wp2_with fail
        go_loopw [6, 9] (fun s6 s9 wr => ∃ t u : Nat, t ≤ 3 ∧ s9 = .int .i64 (36 - (t : Int)) ∧ s6 = .int .i64 (u : Int) ∧ Hid (u = _root_.QR.numOf (tb.take (3 * r + t))) ∧ w = wr) (fun _ s9 _ => (intOf s9).toNat)
        case atStart => exact ⟨0, u, by omega, rfl, rfl, hu, rfl⟩
        case round =>
          obtain ⟨t, u, ht, rfl, rfl, hu, rfl⟩ := hrel
          have hu2 : u < 1048576 := by rw [hu.out]; exact NL.out _ (by omega)
          by_cases ht3 : t < 3
          · have ht3' : (34 : Int) ≤ 36 - (t : Int) := by omega
            go_wp2_with fail
            refine (copyBit_ok p b c 45 (36 - t) (5 - r) u _ _ f w HP.out HB.out (by omega) (by omega) (by omega) hu2 _ _ _ (by omega) (by omega) rfl (tb.getD (3 * r + t) false) (by
              have := H1.out (3 * r + t) (by omega)
              rw [rdv_at _ (by omega), show (3 * r + t) % 3 = t by omega, show (3 * r + t) / 3 = r by omega] at this; exact this)).mono ?_
            rintro e w1 ⟨rfl, rfl⟩
            have hs := Lib.hid (show 2 * u + (tb.getD (3 * r + t) false).toNat = _root_.QR.numOf (tb.take (3 * r + (t + 1))) by rw [← Nat.add_assoc, N1.out (3 * r + t) (by omega), hu.out])
            go_wp2
            go_roundw
            case rel => exact ⟨t + 1, _, by omega, by go_num, rfl, hs, trivial⟩
            case measure => simp [intOf]; omega
          · have ht4 : ¬ (34 : Int) ≤ 36 - (t : Int) := by omega
            have hu3 := Lib.hid (show u = _root_.QR.numOf (tb.take (3 * (r + 1))) by rw [hu.out, show 3 * r + t = 3 * (r + 1) by omega])
            clear hu2
            go_wp2
            go_roundw
            case rel => exact ⟨r + 1, u, by omega, by go_num, rfl, hu3, trivial⟩
            case measure => simp [intOf]; omega
      · obtain rfl : r = 6 := by omega
        obtain rfl : u = 31892 := by rw [hu.out]; exact NE.out
        go_wp2_with fail
        refine (decodeV7_ok _ rfl w).mono ?_
        rintro e w1 ⟨s, vb, rfl, a1, a2, a3⟩
        have hp1 := HP.out.keep a2 (fun f => f)
        have A := Lib.hid (And.intro a1 (And.intro a2 a3))
        have HP1 := Lib.hid hp1
        have d1 := hp1.cell (i := 1) rfl
        have f1 := hp1.free 1
        have hvs := a1.lo
        have hpw := HP.out.lt
        clear a1 a2 hp1
        go_wp2_with fail
        refine (getDim_ok s vb 7 w1 A.out.1 (by omega)).mono ?_
        rintro e w2 ⟨rfl, rfl⟩
        have D := Lib.hid (And.intro (A.out.1.keep ((Keeps.refl (fun i => i = p) w1).setCell (p := ⟨p, 1, none⟩) (Or.inl rfl) (.pointer (some ⟨vb, 0, none⟩))) (fun i i1 i2 e => by omega))
          (And.intro (HP1.out.set 1 (.pointer (some ⟨vb, 0, none⟩))) (And.intro ((A.out.2.1.mono (S' := fun i => i = p) (fun _ _ f => f.elim)).setCell (p := ⟨p, 1, none⟩) (Or.inl rfl) (.pointer (some ⟨vb, 0, none⟩))) a3)))
        go_wp2
        go_ret2
        exact ⟨s, vb, _, rfl, D.out.1, D.out.2.1, Or.inr rfl, D.out.2.2.1, D.out.2.2.2⟩

end Go.Proofs.YtplpafbkalkchaaGreatDoor

namespace Go.Proofs.YtplpafbkalkchaaGreatDoor
open Go.RowKit

def masksL : List Value := [.func (.func 238) #[] #[], .func (.func 239) #[] #[], .func (.func 240) #[] #[], .func (.func 241) #[] #[], .func (.func 242) #[] #[], .func (.func 243) #[] #[], .func (.func 244) #[] #[], .func (.func 245) #[] #[]]
set_option maxRecDepth 100000 in
theorem masks_ok (w : World) : Calls Tryz.prog 200 #[] w fun e w' => e = .returned (.slice (some ⟨w.heap.size, 0, none⟩) 8 8) ∧ w.alloc (.cells masksL.toArray 324) = w' := by
  go_enter Tryz.func200, Tryz.ntmps200
  go_wp2
  go_ret
  exact ⟨rfl, rfl⟩

theorem and1_i {x : Nat} (hx : x < 4611686018427387904) : bits .and .i64 (x : Int) 1 = ((x % 2 : Nat) : Int) := by
  have := bits_mask .i64 62 (by decide) wraps_i64 1 (by decide) (x : Int) (by omega) (by simpa using (by omega : (x : Int) < 4611686018427387904))
  simp at this
  rw [this]; omega

/-- What a mask's function does. -/
def MaskF (k m : Nat) : Prop := ∀ (i j : Nat) (w : World), i < 100 → j < 100 → Calls Tryz.prog k #[.int .i64 (i : Int), .int .i64 (j : Int)] w fun e w' => e = .returned (.bool (_root_.QR.mskD m i j)) ∧ w = w'

theorem mask0 : MaskF 238 0 := by
  intro i j w hi hj
  have a := and1_i (x := i + j) (by omega)
  rw [show ((i + j : Nat) : Int) = (i : Int) + (j : Int) by omega] at a
  go_enter Tryz.func238, Tryz.ntmps238
  go_wp2
  go_ret
  exact ⟨ret_bool (by unfold _root_.QR.mskD; rw [Bool.eq_iff_iff]; simp; omega), rfl⟩
theorem mask1 : MaskF 239 1 := by
  intro i j w hi hj
  have a := and1_i (x := i) (by omega)
  go_enter Tryz.func239, Tryz.ntmps239
  go_wp2
  go_ret
  exact ⟨ret_bool (by unfold _root_.QR.mskD; rw [Bool.eq_iff_iff]; simp; omega), rfl⟩
theorem mask2 : MaskF 240 2 := by
  intro i j w hi hj
  go_enter Tryz.func240, Tryz.ntmps240
  go_wp2
  go_ret
  exact ⟨ret_bool (by unfold _root_.QR.mskD; rw [Bool.eq_iff_iff]; simp; omega), rfl⟩
theorem mask3 : MaskF 241 3 := by
  intro i j w hi hj
  go_enter Tryz.func241, Tryz.ntmps241
  go_wp2
  go_ret
  exact ⟨ret_bool (by unfold _root_.QR.mskD; rw [Bool.eq_iff_iff]; simp; omega), rfl⟩
theorem mask4 : MaskF 242 4 := by
  intro i j w hi hj
  have a := and1_i (x := i / 2 + j / 3) (by omega)
  rw [show ((i / 2 + j / 3 : Nat) : Int) = (i : Int) / 2 + (j : Int) / 3 by omega] at a
  go_enter Tryz.func242, Tryz.ntmps242
  go_wp2
  go_ret
  exact ⟨ret_bool (by unfold _root_.QR.mskD; rw [Bool.eq_iff_iff]; simp; omega), rfl⟩
theorem prod_le {i j : Nat} (hi : i < 100) (hj : j < 100) : ∃ p : Nat, i * j = p ∧ (i : Int) * (j : Int) = (p : Int) ∧ p ≤ 10000 := by
  refine ⟨i * j, rfl, by push_cast; rfl, ?_⟩
  have := Nat.mul_le_mul (show i ≤ 100 by omega) (show j ≤ 100 by omega)
  omega
theorem mask5 : MaskF 243 5 := by
  intro i j w hi hj
  obtain ⟨p, h1, h2, h3⟩ := prod_le hi hj
  have H1 := Lib.hid h1
  clear h1
  go_enter Tryz.func243, Tryz.ntmps243
  go_wp2
  go_ret
  exact ⟨ret_bool (by unfold _root_.QR.mskD; rw [H1.out, Bool.eq_iff_iff]; simp; omega), rfl⟩
theorem mask6 : MaskF 244 6 := by
  intro i j w hi hj
  obtain ⟨p, h1, h2, h3⟩ := prod_le hi hj
  have H1 := Lib.hid h1
  clear h1
  go_enter Tryz.func244, Tryz.ntmps244
  go_wp2
  go_ret
  exact ⟨ret_bool (by unfold _root_.QR.mskD; rw [H1.out, Bool.eq_iff_iff]; simp; omega), rfl⟩
theorem mask7 : MaskF 245 7 := by
  intro i j w hi hj
  obtain ⟨p, h1, h2, h3⟩ := prod_le hi hj
  have H1 := Lib.hid h1
  have a := and1_i (x := i + j + p % 3) (by omega)
  rw [show ((i + j + p % 3 : Nat) : Int) = (i : Int) + (j : Int) + (p : Int) % 3 by omega] at a
  clear h1
  go_enter Tryz.func245, Tryz.ntmps245
  go_wp2
  go_ret
  exact ⟨ret_bool (by unfold _root_.QR.mskD; rw [H1.out, Bool.eq_iff_iff]; simp; omega), rfl⟩
theorem maskF (m : Nat) (h : m < 8) : MaskF (238 + m) m := by
  obtain rfl | rfl | rfl | rfl | rfl | rfl | rfl | rfl : m = 0 ∨ m = 1 ∨ m = 2 ∨ m = 3 ∨ m = 4 ∨ m = 5 ∨ m = 6 ∨ m = 7 := by omega
  · exact mask0
  · exact mask1
  · exact mask2
  · exact mask3
  · exact mask4
  · exact mask5
  · exact mask6
  · exact mask7

/-- The matrix behind the rows above i, and j dots of row i. -/
def unF (m : Nat) (f : Nat → Nat → Bool) (i j : Nat) : Nat → Nat → Bool := fun x y => if y < i ∨ (y = i ∧ x < j) then (f x y != _root_.QR.mskD m y x) else f x y

set_option maxRecDepth 100000 in
set_option maxHeartbeats 1600000 in
theorem unmask_ok (k m b c n : Nat) (hk : MaskF k m) (hk8 : k = 238 ∨ k = 239 ∨ k = 240 ∨ k = 241 ∨ k = 242 ∨ k = 243 ∨ k = 244 ∨ k = 245) (f : Nat → Nat → Bool) (w : World) (h : BM w b c n n f) (hn : n ≤ 99) (N : Int) (hN : N = (n : Int)) :
    Calls Tryz.prog 202 #[.agg #[.func (.func k) #[] #[]], .pointer (some ⟨b, 0, none⟩), .int .i64 N] w fun e w' => e = .returned (.tuple #[]) ∧ BM w' b c n n (fun x y => f x y != _root_.QR.mskD m y x) ∧ Keeps (fun i => i = c) w w' := by
  subst hN
  have HK := Lib.hid hk
  have HK8 := Lib.hid hk8
  obtain ⟨B, hB⟩ : ∃ B, w.heap.size = B := ⟨_, rfl⟩
  have HB := Lib.hid hB
  have K0 := (Keeps.refl (fun i => i = c) w).alloc (.cells #[.func (.func k) #[] #[]] 324)
  have box := Blk.new w [.func (.func k) #[] #[]] 324
  rw [hB] at box
  have ST := Lib.hid (And.intro ((h.keep ((Keeps.refl (fun _ => False) w).alloc (.cells #[.func (.func k) #[] #[]] 324)) (fun f => f) (fun f => f)).congr (g := unF m f 0 0) (fun x y _ _ => by simp [unF])) (And.intro box K0))
  have hcB : c ≠ B := by rw [← hB]; have := h.ltc; omega
  clear hk hk8 h K0 box
  go_enter Tryz.func202, Tryz.ntmps202
  go_wp2_with fail
  clear hB
  go_loopw [6, 7] (fun s6 _ wr => ∃ i : Nat, i ≤ n ∧ s6 = .int .i64 (i : Int) ∧ BM wr b c n n (unF m f i 0) ∧ Blk wr B [.func (.func k) #[] #[]] 324 ∧ Keeps (fun i => i = c) w wr) (fun s6 _ _ => n - (intOf s6).toNat)
  case atStart => exact ⟨0, by omega, rfl, ST.out⟩
  case round =>
    obtain ⟨i, hi, rfl, a1, a2, a3⟩ := hrel
    have A := Lib.hid (And.intro a1 (And.intro a2 a3))
    clear a1 a2 a3
    by_cases hin : i < n
    · have hin' : (i : Int) < (n : Int) := by omega
      go_wp2_with fail
      go_loopw [7] (fun s7 wr => ∃ j : Nat, j ≤ n ∧ s7 = .int .i64 (j : Int) ∧ BM wr b c n n (unF m f i j) ∧ Blk wr B [.func (.func k) #[] #[]] 324 ∧ Keeps (fun i => i = c) w wr) (fun s7 _ => n - (intOf s7).toNat)
      case atStart => exact ⟨0, by omega, rfl, A.out⟩
      case round =>
        obtain ⟨j, hj, rfl, a1, a2, a3⟩ := hrel
        have c0 := a2.cell (i := 0) rfl
        have A := Lib.hid (And.intro a1 (And.intro a2 a3))
        clear a1 a2 a3
        by_cases hjn : j < n
        · have hjn' : (j : Int) < (n : Int) := by omega
          obtain ⟨t, ht⟩ : ∃ t, _root_.QR.mskD m i j = t := ⟨_, rfl⟩
          have HT := Lib.hid ht
          clear ht
          go_wp2_with fail
          rcases HK8.out with rfl | rfl | rfl | rfl | rfl | rfl | rfl | rfl
          all_goals
            go_wp2_with fail
            refine (HK.out i j _ (by omega) (by omega)).mono ?_
            rw [HT.out]
            rintro e w1 ⟨rfl, rfl⟩
            cases t
            · have hs := Lib.hid (A.out.1.congr (g := unF m f i (j + 1)) (fun x y _ _ => by
                unfold unF
                by_cases e : y = i ∧ x = j
                · obtain ⟨rfl, rfl⟩ := e
                  rw [if_neg (by omega), if_pos (by omega), HT.out]; simp
                · by_cases e2 : y < i ∨ (y = i ∧ x < j)
                  · rw [if_pos e2, if_pos (by omega)]
                  · rw [if_neg e2, if_neg (by omega)]))
              go_wp2
              go_roundw
              case rel => exact ⟨j + 1, by omega, by go_num, hs.out, A.out.2⟩
              case measure => simp [intOf]; omega
            · go_wp2_with fail
              refine (bmFlip_ok b c n n j i _ _ A.out.1 hjn hin (by omega) (by omega) _ _ rfl rfl).mono ?_
              rintro e w2 ⟨rfl, d1, d2⟩
              have D := Lib.hid (And.intro (d1.congr (g := unF m f i (j + 1)) (fun x y _ _ => by
                unfold unF
                by_cases e : y = i ∧ x = j
                · obtain ⟨rfl, rfl⟩ := e
                  rw [if_pos ⟨rfl, rfl⟩, if_neg (by omega), if_pos (by omega), HT.out]; simp
                · rw [if_neg (by omega)]
                  by_cases e2 : y < i ∨ (y = i ∧ x < j)
                  · rw [if_pos e2, if_pos (by omega)]
                  · rw [if_neg e2, if_neg (by omega)])) (And.intro (A.out.2.1.keep d2 (fun e => hcB e.symm)) (A.out.2.2.trans d2)))
              clear d1 d2
              go_wp2
              go_roundw
              case rel => exact ⟨j + 1, by omega, by go_num, D.out⟩
              case measure => simp [intOf]; omega
        · obtain rfl : j = n := by omega
          have hs := Lib.hid (A.out.1.congr (g := unF m f (i + 1) 0) (fun x y hx _ => by
            unfold unF
            by_cases e2 : y < i ∨ (y = i ∧ x < j)
            · rw [if_pos e2, if_pos (by omega)]
            · rw [if_neg e2, if_neg (by omega)]))
          go_wp2
          go_roundw
          case rel => exact ⟨i + 1, by omega, by go_num, hs.out, A.out.2⟩
          case measure => simp [intOf]; omega
    · obtain rfl : i = n := by omega
      go_wp2
      go_end0
      exact ⟨rfl, A.out.1.congr (fun x y _ hy => by unfold unF; rw [if_pos (by omega)]), A.out.2.2⟩

end Go.Proofs.YtplpafbkalkchaaGreatDoor
