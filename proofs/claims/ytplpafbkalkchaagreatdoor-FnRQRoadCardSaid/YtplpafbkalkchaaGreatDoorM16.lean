/-
  Parts of the proof (BT, SG).
-/
import Derived.Test.YtplpafbkalkchaaGreatDoorM01
import Derived.Test.YtplpafbkalkchaaGreatDoorM15
import Derived.Deep.CutRange
set_option linter.unusedSimpArgs false
set_option linter.unusedVariables false

namespace Go.Proofs.YtplpafbkalkchaaGreatDoor
open Go.RowKit

theorem mask_nat (x t b : Nat) : (x &&& ((2 ^ t - 1) * 2 ^ b)) / 2 ^ b = x / 2 ^ b % 2 ^ t := by
  rw [← Nat.shiftLeft_eq, ← Nat.shiftRight_eq_div_pow, Nat.shiftRight_and_distrib, Nat.shiftLeft_shiftRight, Nat.and_two_pow_sub_one_eq_mod, Nat.shiftRight_eq_div_pow]
theorem mask_u8 (x t b : Nat) (hx : x < 256) (h : t + b ≤ 8) : bits .and .u8 (x : Int) (((2 ^ t - 1) * 2 ^ b : Nat) : Int) / ((2 ^ b : Nat) : Int) = ((x / 2 ^ b % 2 ^ t : Nat) : Int) := by
  have hm : (2 ^ t - 1) * 2 ^ b < 2 ^ 8 := by
    have h1 : 2 ^ t * 2 ^ b ≤ 2 ^ 8 := by rw [← Nat.pow_add]; exact Nat.pow_le_pow_right (by omega) h
    have h2 : (2 ^ t - 1) * 2 ^ b < 2 ^ t * 2 ^ b := Nat.mul_lt_mul_of_pos_right (by have := Nat.two_pow_pos t; omega) (Nat.two_pow_pos b)
    omega
  have := (bits_nat .u8 8 (by decide) wraps_u8' x ((2 ^ t - 1) * 2 ^ b) hx hm).1
  rw [this, ← Int.natCast_ediv, mask_nat]

theorem mask_lit : ∀ n < 9, ∀ bq < 9, n + bq ≤ 8 → (255 : Int) / 2 ^ (8 - n) * 2 ^ bq % 256 = (((2 ^ n - 1) * 2 ^ bq : Nat) : Int) := by decide
theorem and_lit (x t b : Nat) (hx : x < 256) (h : t + b ≤ 8) : ∃ y : Nat, bits .and .u8 (x : Int) (((2 ^ t - 1) * 2 ^ b : Nat) : Int) = (y : Int) ∧ y < 256 ∧ (y : Int) / 2 ^ b = ((x / 2 ^ b % 2 ^ t : Nat) : Int) := by
  have hm : (2 ^ t - 1) * 2 ^ b < 2 ^ 8 := by
    have h1 : 2 ^ t * 2 ^ b ≤ 2 ^ 8 := by rw [← Nat.pow_add]; exact Nat.pow_le_pow_right (by omega) h
    have h2 : (2 ^ t - 1) * 2 ^ b < 2 ^ t * 2 ^ b := Nat.mul_lt_mul_of_pos_right (by have := Nat.two_pow_pos t; omega) (Nat.two_pow_pos b)
    omega
  refine ⟨x &&& ((2 ^ t - 1) * 2 ^ b), (bits_nat .u8 8 (by decide) wraps_u8' x ((2 ^ t - 1) * 2 ^ b) hx hm).1, Nat.lt_of_le_of_lt Nat.and_le_left hx, ?_⟩
  rw [show ((2 : Int) ^ b) = ((2 ^ b : Nat) : Int) by simp, ← Int.natCast_ediv, mask_nat]

/-- A source of bits at block b, its bytes at block d, read up to place p. -/
structure Src (w : World) (b d : Nat) (ds : List Nat) (c p : Nat) : Prop where
  head : Blk w b [.slice (some ⟨d, 0, none⟩) ds.length c, .int .i64 ((p / 8 : Nat) : Int), .int .i64 ((p % 8 : Nat) : Int)] 378
  row : Row8 w d ds.length (fun i => ds.getD i 0)
  le : p ≤ 8 * ds.length
  byt : ∀ i, ds.getD i 0 < 256
theorem Src.keep {S : Nat → Prop} {w w' : World} {b d : Nat} {ds : List Nat} {c p : Nat} (h : Src w b d ds c p) (hk : Keeps S w w') (hb : ¬ S b) (hd : ¬ S d) : Src w' b d ds c p :=
  ⟨h.head.keep hk hb, h.row.keep hk hd, h.le, h.byt⟩
theorem Src.ne {w : World} {b d : Nat} {ds : List Nat} {c p : Nat} (h : Src w b d ds c p) : d ≠ b := h.row.typ.ne h.head.typ (by decide)

theorem Src.drewN {w : World} {b d : Nat} {ds : List Nat} {c p : Nat} (h : Src w b d ds c p) (n : Nat) : Src (w.drewN n) b d ds c p := h.keep ((Keeps.refl (fun _ => False) w).drewN n) (fun f => f) (fun f => f)
theorem Src.at {w : World} {b d : Nat} {ds : List Nat} {c p : Nat} (h : Src w b d ds c p) {w' : World} (hk : Keeps (fun i => i = b) w w') {q : Nat} (hq : q ≤ 8 * ds.length)
    (hb : Blk w' b [.slice (some ⟨d, 0, none⟩) ds.length c, .int .i64 ((q / 8 : Nat) : Int), .int .i64 ((q % 8 : Nat) : Int)] 378) : Src w' b d ds c q :=
  ⟨hb, h.row.keep hk (fun e => h.ne e), hq, h.byt⟩
theorem kset (b : Nat) (w : World) (o : Nat) (v : Value) : Keeps (fun i => i = b) w (w.setCell ⟨b, o, none⟩ v) :=
  Keeps.setCell (S := fun i => i = b) (Keeps.refl _ w) (p := ⟨b, o, none⟩) (Or.inl rfl) v
theorem avail_ok (b d c p : Nat) (ds : List Nat) (w : World) (h : Src w b d ds c p) (hl : ds.length ≤ 10000) : Calls Tryz.prog 226 #[.pointer (some ⟨b, 0, none⟩)] w fun e w' =>
    e = .returned (.int .i64 ((8 * ds.length - p : Nat) : Int)) ∧ ∃ m, w' = w.drewN m := by
  have c0 := h.head.cell (i := 0) rfl
  have c1 := h.head.cell (i := 1) rfl
  have c2 := h.head.cell (i := 2) rfl
  have hle := h.le
  clear h
  go_enter Tryz.func226, Tryz.ntmps226
  go_wp2_with fail
  go_region
  all_goals go_wp2
  all_goals
    go_ret
    exact ⟨ret_int (by omega), 1, rfl⟩

theorem wrap64_u8 (x : Nat) (h : x < 256) : wrap64 (x : Int) = (x : Int) := by unfold wrap64; omega
theorem join_shl (r v n : Nat) (hr : r < 65536) (hn : n ≤ 8) (hv : v < 2 ^ n) : ∃ A, r * 2 ^ n = A ∧ wrap64 ((r : Int) * (2 : Int) ^ n) = (A : Int) ∧ bits .or .i64 (A : Int) (v : Int) = ((A + v : Nat) : Int) := by
  have hp : 2 ^ n ≤ 2 ^ 8 := Nat.pow_le_pow_right (by omega) hn
  have hb : r * 2 ^ n ≤ 65536 * 2 ^ 8 := Nat.mul_le_mul (by omega) hp
  have hm : r * 2 ^ n % 2 ^ n = 0 := Nat.mul_mod_left r (2 ^ n)
  have e9 : (r : Int) * (2 : Int) ^ n = ((r * 2 ^ n : Nat) : Int) := by push_cast; rfl
  refine ⟨_, rfl, ?_, ?_⟩
  · rw [e9]; generalize r * 2 ^ n = m at *; unfold wrap64; omega
  · generalize r * 2 ^ n = m at *
    have h9 : (m : Int) % 2 ^ n = 0 := by
      rw [show (2 : Int) ^ n = ((2 ^ n : Nat) : Int) by push_cast; rfl]
      omega
    have h10 : (v : Int) < 2 ^ n := by
      rw [show (2 : Int) ^ n = ((2 ^ n : Nat) : Int) by push_cast; rfl]
      omega
    rw [bits_join .i64 62 (by decide) wraps_i64 n (m : Int) (v : Int) (by omega) h9 (by omega) (by omega) h10 (by omega)]; omega
theorem join_8 (r x : Nat) (hr : r < 65536) (hx : x < 256) : bits .or .i64 ((r : Int) * 256) (x : Int) = ((r * 256 + x : Nat) : Int) := by
  rw [bits_join .i64 62 (by decide) wraps_i64 8 ((r : Int) * 256) (x : Int) (by omega) (by omega) (by omega) (by omega) (by omega) (by omega)]; omega
theorem and_255 (x : Nat) (hx : x < 256) : wrap64 (bits .and .u8 (x : Int) 255) = (x : Int) := by
  have := (bits_nat .u8 8 (by decide) wraps_u8' x 255 hx (by omega)).1
  rw [Nat.and_two_pow_sub_one_eq_mod x 8, Nat.mod_eq_of_lt hx] at this
  rw [show (255 : Int) = ((255 : Nat) : Int) from rfl, this, wrap64_u8 x hx]

set_option maxRecDepth 100000 in
set_option maxHeartbeats 1000000 in
theorem readBits_ok (b d c p n : Nat) (ds : List Nat) (w : World) (h : Src w b d ds c p) (hl : ds.length ≤ 10000) (h1 : 1 ≤ n) (h2 : n ≤ 16) (hp : p + n ≤ 8 * ds.length) (N : Int) (hN : N = (n : Int)) :
    Calls Tryz.prog 227 #[.pointer (some ⟨b, 0, none⟩), .int .i64 N] w fun e w' => e = .returned (.tuple #[.int .i64 ((_root_.QR.rd ds p n : Nat) : Int), .nilIface]) ∧ Src w' b d ds c (p + n) ∧ Keeps (fun i => i = b) w w' := by
  subst hN
  have H := Lib.hid h
  obtain ⟨L, hL⟩ : ∃ L, ds.length = L := ⟨_, rfl⟩
  have HL := Lib.hid hL
  rw [hL] at hl hp
  have d1 : decide ((n : Int) < 1) = false := decide_eq_false (by omega)
  have d2 : decide ((32 : Int) < (n : Int)) = false := decide_eq_false (by omega)
  have d3 : decide (8 * L - p < n) = false := decide_eq_false (by omega)
  clear h hL
  go_enter Tryz.func227, Tryz.ntmps227
  go_wp2_with fail
  refine (avail_ok b d c p ds w H.out (by rw [HL.out]; exact hl)).mono ?_
  rw [HL.out]
  rintro e w1 ⟨rfl, m, hw1⟩
  have H1 := Lib.hid (show Src w1 b d ds c p by rw [hw1]; exact H.out.drewN m)
  have K1 := Lib.hid (show Keeps (fun i => i = b) w w1 by rw [hw1]; exact (Keeps.refl _ w).drewN m)
  clear hw1
  have hav : ¬ ((8 * L - p : Nat) : Int) < (n : Int) := by omega
  have c2 := H1.out.head.cell (i := 2) rfl
  obtain ⟨o, ho⟩ : ∃ o, p % 8 = o := ⟨_, rfl⟩
  obtain ⟨i, hi⟩ : ∃ i, p / 8 = i := ⟨_, rfl⟩
  rw [ho] at c2
  have HO := Lib.hid (And.intro ho hi)
  have ho8 : o < 8 := by omega
  clear ho hi
  go_upto_if 30 with fail
  go_cut [1, 6, 7, 8, 9, 10] from 26 to 91 (fun s1 s6 _ _ _ _ wx => ∃ n2 r p1 : Nat, s1 = .int .i64 (n2 : Int) ∧ s6 = .int .i64 (r : Int) ∧ Src wx b d ds c p1 ∧ Keeps (fun i => i = b) w wx ∧ Hid (p1 + n2 = p + n ∧ r = _root_.QR.rd ds p (n - n2) ∧ n2 ≤ n ∧ (n2 = 0 ∨ p1 % 8 = 0)))
  case first =>
    by_cases ho0 : o = 0
    · have hoi : ¬ (0 : Int) < (o : Int) := by omega
      go_wp2_with fail
      go_meet
      exact ⟨n, 0, p, rfl, rfl, H1.out, K1.out, Lib.hid ⟨rfl, by rw [Nat.sub_self, _root_.QR.rd_zero], Nat.le_refl _, Or.inr (by rw [HO.out.1]; exact ho0)⟩⟩
    · have hoi : (0 : Int) < (o : Int) := by omega
      have c0 := H1.out.head.cell (i := 0) rfl
      have c1 := H1.out.head.cell (i := 1) rfl
      rw [HO.out.2] at c1
      rw [HL.out] at c0
      have hiL : i < L := by have := HO.out; omega
      have hiL' : (i : Int) < (L : Int) := by omega
      have c3 := H1.out.row.cell i (by rw [HL.out]; exact hiL)
      obtain ⟨x, hx⟩ : ∃ x, ds.getD i 0 = x := ⟨_, rfl⟩
      have hx256 : x < 256 := by rw [← hx]; exact H1.out.byt i
      rw [hx] at c3
      have HX := Lib.hid hx
      clear hx
      by_cases hn8 : n < 8 - o
      · have hn8' : (n : Int) < 8 - (o : Int) := by omega
        obtain ⟨bq, hbq⟩ : ∃ bq, 8 - o - n = bq := ⟨_, rfl⟩
        obtain ⟨sq, hsq⟩ : ∃ sq, 8 - n = sq := ⟨_, rfl⟩
        have e1 : (8 : Int) - (o : Int) - (n : Int) = (bq : Int) := by omega
        have e2 : (8 : Int) - (n : Int) = (sq : Int) := by omega
        have e3 : (255 : Int) / 2 ^ sq * 2 ^ bq % 256 = (((2 ^ n - 1) * 2 ^ bq : Nat) : Int) := by rw [← hsq]; exact mask_lit n (by omega) bq (by omega) (by omega)
        obtain ⟨y, y1, y2, y3⟩ := and_lit x n bq hx256 (by omega)
        obtain ⟨M, hM⟩ : ∃ M, (2 ^ n - 1) * 2 ^ bq = M := ⟨_, rfl⟩
        rw [hM] at e3 y1
        obtain ⟨r, hr⟩ : ∃ r, x / 2 ^ bq % 2 ^ n = r := ⟨_, rfl⟩
        rw [hr] at y3
        have y4 : IntKind.i64.wrap (y : Int) = (y : Int) := wraps_i64 _ (by omega) (by omega)
        have RR := Lib.hid (show r = _root_.QR.rd ds p n by
          have := _root_.QR.rd_byte ds i o n (by rw [HL.out]; exact hiL) (by omega)
          rw [HX.out, hbq, hr] at this
          rw [← this, show 8 * i + o = p by have := HO.out; omega])
        have c2f := H1.out.head.free 2
        have NX : Hid (∀ m, Src ((w1.drewN m).setCell ⟨b, 2, none⟩ (.int .i64 ((o : Int) + (n : Int)))) b d ds c (p + n)) := Lib.hid (fun m => by
          have B := ((H1.out.drewN m).head.set 2 (.int .i64 ((o + n : Nat) : Int)))
          have := HO.out
          refine (H1.out.drewN m).at (kset b _ 2 _) (by rw [HL.out]; exact hp) ?_
          rw [show (p + n) / 8 = p / 8 by omega, show (p + n) % 8 = o + n by omega]
          exact B)
        have hbne : ((o : Int) + (n : Int) == 8) = false := beq_eq_false_iff_ne.2 (by omega)
        have hsq8 : sq < 64 := by omega
        have hbq8 : bq < 64 := by omega
        clear hbq hsq hM hr
        go_wp2_with fail
        go_quiet (fail)
        go_wp2_with fail
        have SB := NX.out nq
        have KB : Hid (Keeps (fun i => i = b) w ((w1.drewN nq).setCell ⟨b, 2, none⟩ (.int .i64 ((o : Int) + (n : Int))))) := Lib.hid ((K1.out.drewN nq).trans (kset b _ 2 _))
        go_meet
        exact ⟨0, r, p + n, rfl, rfl, SB, KB.out, Lib.hid ⟨rfl, by rw [Nat.sub_zero]; exact RR.out, Nat.zero_le _, Or.inl rfl⟩⟩
      · have hn8' : ¬ (n : Int) < 8 - (o : Int) := by omega
        obtain ⟨t, ht⟩ : ∃ t, 8 - o = t := ⟨_, rfl⟩
        have e1 : (8 : Int) - (o : Int) = (t : Int) := by omega
        have e2 : (8 : Int) - (t : Int) = (o : Int) := by omega
        have hn8'' : ¬ (n : Int) < (t : Int) := by omega
        obtain ⟨n2, hn2⟩ : ∃ n2, n - t = n2 := ⟨_, rfl⟩
        have e4 : (n : Int) - (t : Int) = (n2 : Int) := by omega
        have e3 : (255 : Int) / 2 ^ o % 256 = (((2 ^ t - 1) * 2 ^ 0 : Nat) : Int) := by rw [← mask_lit t (by omega) 0 (by omega) (by omega), show 8 - t = o by omega]; simp
        obtain ⟨y, y1, y2, y3⟩ := and_lit x t 0 hx256 (by omega)
        obtain ⟨M, hM⟩ : ∃ M, (2 ^ t - 1) * 2 ^ 0 = M := ⟨_, rfl⟩
        rw [hM] at e3 y1
        obtain ⟨r, hr⟩ : ∃ r, x / 2 ^ 0 % 2 ^ t = r := ⟨_, rfl⟩
        rw [hr] at y3
        have y3' : y = r := by rw [Int.pow_zero, Int.ediv_one] at y3; omega
        have y4 : IntKind.i64.wrap (y : Int) = (y : Int) := wraps_i64 _ (by omega) (by omega)
        subst y3'
        have RR := Lib.hid (show y = _root_.QR.rd ds p t by
          have := _root_.QR.rd_byte ds i o t (by rw [HL.out]; exact hiL) (by omega)
          rw [HX.out, show 8 - o - t = 0 by omega, hr] at this
          rw [← this, show 8 * i + o = p by have := HO.out; omega])
        have c2f := H1.out.head.free 2
        have c1f := H1.out.head.free 1
        have h8 : (o : Int) + (t : Int) = 8 := by omega
        have NX : Hid (∀ m, Src ((((w1.drewN m).setCell ⟨b, 2, none⟩ (.int .i64 8)).setCell ⟨b, 2, none⟩ (.int .i64 0)).setCell ⟨b, 1, none⟩ (.int .i64 ((i : Int) + 1))) b d ds c (p + t)) := Lib.hid (fun m => by
          have B := (((H1.out.drewN m).head.set 2 (.int .i64 8)).set 2 (.int .i64 0)).set 1 (.int .i64 ((i + 1 : Nat) : Int))
          have := HO.out
          refine (H1.out.drewN m).at (((kset b _ 2 _).trans (kset b _ 2 _)).trans (kset b _ 1 _)) (by rw [HL.out]; omega) ?_
          rw [show (p + t) / 8 = i + 1 by omega, show (p + t) % 8 = 0 by omega]
          exact B)
        have ZZ : Hid (p + t + n2 = p + n ∧ y = _root_.QR.rd ds p (n - n2) ∧ n2 ≤ n ∧ (n2 = 0 ∨ (p + t) % 8 = 0)) := Lib.hid (by
          have := HO.out
          exact ⟨by omega, by rw [show n - n2 = t by omega]; exact RR.out, by omega, Or.inr (by omega)⟩)
        clear ht hn2 hM hr
        go_wp2_with fail
        go_quiet (fail)
        go_wp2_with fail
        have SB := NX.out nq
        have KB : Hid (Keeps (fun i => i = b) w ((((w1.drewN nq).setCell ⟨b, 2, none⟩ (.int .i64 8)).setCell ⟨b, 2, none⟩ (.int .i64 0)).setCell ⟨b, 1, none⟩ (.int .i64 ((i : Int) + 1)))) := Lib.hid ((((K1.out.drewN nq).trans (kset b _ 2 _)).trans (kset b _ 2 _)).trans (kset b _ 1 _))
        go_meet
        exact ⟨n2, y, p + t, rfl, rfl, SB, KB.out, ZZ⟩
  case rest =>
    obtain ⟨n2, r, p1, rfl, rfl, y1, y2, HE⟩ := hcut
    have Y := Lib.hid (And.intro y1 y2)
    clear y1 y2
    by_cases hn0 : n2 = 0
    · have hn0' : ¬ (0 : Int) < (n2 : Int) := by omega
      have HR : Hid (_root_.QR.rd ds p n = r ∧ p1 = p + n) := Lib.hid (by have := HE.out; exact ⟨by rw [this.2.1, show n - n2 = n by omega], by omega⟩)
      go_wp2_with fail
      go_ret2
      rw [← HR.out.2, HR.out.1]
      exact ⟨rfl, Y.out.1, Y.out.2⟩
    · have hn0' : (0 : Int) < (n2 : Int) := by omega
      have hdec : decide ((0 : Int) < (n2 : Int)) = true := decide_eq_true hn0'
      go_wp2_with fail
      go_loopw [1, 6] (fun s1 s6 wr => ∃ n2 r p1 : Nat, s1 = .int .i64 (n2 : Int) ∧ s6 = .int .i64 (r : Int) ∧ Hid (Src wr b d ds c p1 ∧ Keeps (fun i => i = b) w wr) ∧ Hid (p1 + n2 = p + n ∧ r = _root_.QR.rd ds p (n - n2) ∧ n2 ≤ n ∧ (n2 = 0 ∨ p1 % 8 = 0))) (fun s1 _ _ => (intOf s1).toNat)
      case atStart => exact ⟨n2, r, p1, rfl, rfl, Y, HE⟩
      case round =>
        clear HE Y hdec hn0' hn0
        obtain ⟨n2, r, p1, rfl, rfl, Y, HE⟩ := hrel
        have c0 := Y.out.1.head.cell (i := 0) rfl
        have c1 := Y.out.1.head.cell (i := 1) rfl
        have c2 := Y.out.1.head.cell (i := 2) rfl
        have c1f := Y.out.1.head.free 1
        have c2f := Y.out.1.head.free 2
        rw [HL.out] at c0
        obtain ⟨i1, hi1⟩ : ∃ i1, p1 / 8 = i1 := ⟨_, rfl⟩
        rw [hi1] at c1
        have hr16 : r < 65536 := by
          have := HE.out
          have h3 := _root_.QR.rd_lt ds p (n - n2)
          have : 2 ^ (n - n2) ≤ 2 ^ 16 := Nat.pow_le_pow_right (by omega) (by omega)
          omega
        by_cases h8 : 8 ≤ n2
        · have h8' : (8 : Int) ≤ (n2 : Int) := by omega
          have hmod : p1 % 8 = 0 := by have := HE.out; omega
          have hi1L : i1 < L := by have := HE.out; omega
          have hi1L' : (i1 : Int) < (L : Int) := by omega
          have c3 := Y.out.1.row.cell i1 (by rw [HL.out]; exact hi1L)
          obtain ⟨x, hx⟩ : ∃ x, ds.getD i1 0 = x := ⟨_, rfl⟩
          have hx256 : x < 256 := by rw [← hx]; exact Y.out.1.byt i1
          rw [hx] at c3
          have HX := Lib.hid (And.intro hx (And.intro hmod hi1))
          have hb1 := and_255 x hx256
          have hb2 := join_8 r x hr16 hx256
          obtain ⟨n3, hn3⟩ : ∃ n3, n2 = n3 + 8 := ⟨n2 - 8, by omega⟩
          have hb3 : wrap64 ((n2 : Int) - 8) = (n3 : Int) := by have := HE.out; unfold wrap64; omega
          have NX : Hid (∀ m, Src ((wr.drewN m).setCell ⟨b, 1, none⟩ (.int .i64 ((i1 : Int) + 1))) b d ds c (p1 + 8) ∧ Keeps (fun i => i = b) w ((wr.drewN m).setCell ⟨b, 1, none⟩ (.int .i64 ((i1 : Int) + 1)))) := Lib.hid (fun m => by
            have B := (Y.out.1.drewN m).head.set 1 (.int .i64 ((i1 + 1 : Nat) : Int))
            have := HX.out
            refine ⟨(Y.out.1.drewN m).at (kset b _ 1 _) (by rw [HL.out]; omega) ?_, (Y.out.2.drewN m).trans (kset b _ 1 _)⟩
            rw [show (p1 + 8) / 8 = i1 + 1 by omega, show (p1 + 8) % 8 = p1 % 8 by omega]
            exact B)
          have NE : Hid (p1 + 8 + n3 = p + n ∧ r * 256 + x = _root_.QR.rd ds p (n - n3) ∧ n3 ≤ n ∧ (n3 = 0 ∨ (p1 + 8) % 8 = 0)) := Lib.hid (by
            have h4 := HE.out
            have h5 := HX.out
            have h6 := _root_.QR.rd_add ds p (n - n2) 8 (by rw [HL.out]; omega)
            have h7 := _root_.QR.rd_byte ds i1 0 8 (by rw [HL.out]; exact hi1L) (by omega)
            rw [h5.1, Nat.sub_zero, Nat.sub_self, Nat.pow_zero, Nat.div_one, Nat.mod_eq_of_lt (show x < 2 ^ 8 by omega), show 8 * i1 + 0 = p1 by omega] at h7
            rw [← h4.2.1, show p + (n - n2) = p1 by omega, h7, show n - n2 + 8 = n - n3 by omega] at h6
            exact ⟨by omega, h6.symm, by omega, Or.inr (by omega)⟩)
          have hlt : n3 < n2 := by omega
          clear hx hi1 hn3
          go_wp2_with fail
          go_quiet (fail)
          go_wp2_with fail
          rw [hb3]
          exact ⟨⟨n3, r * 256 + x, p1 + 8, rfl, rfl, NX.out nq, NE⟩, by simpa [intOf] using hlt⟩
        · have h8' : ¬ (8 : Int) ≤ (n2 : Int) := by omega
          by_cases hz : n2 = 0
          · have hz' : ¬ (0 : Int) < (n2 : Int) := by omega
            have HR : Hid (_root_.QR.rd ds p n = r ∧ p1 = p + n) := Lib.hid (by have := HE.out; exact ⟨by rw [this.2.1, show n - n2 = n by omega], by omega⟩)
            go_wp2_with fail
            go_ret2
            rw [← HR.out.2, HR.out.1]
            exact ⟨rfl, Y.out.1, Y.out.2⟩
          · have hz' : (0 : Int) < (n2 : Int) := by omega
            have hmod : p1 % 8 = 0 := by have := HE.out; omega
            rw [hmod] at c2
            have hi1L : i1 < L := by have := HE.out; omega
            have hi1L' : (i1 : Int) < (L : Int) := by omega
            have c3 := Y.out.1.row.cell i1 (by rw [HL.out]; exact hi1L)
            obtain ⟨x, hx⟩ : ∃ x, ds.getD i1 0 = x := ⟨_, rfl⟩
            have hx256 : x < 256 := by rw [← hx]; exact Y.out.1.byt i1
            rw [hx] at c3
            have HX := Lib.hid (And.intro hx (And.intro hmod hi1))
            obtain ⟨q, hq⟩ : ∃ q, 8 - n2 = q := ⟨_, rfl⟩
            have e1 : (8 : Int) - (n2 : Int) = (q : Int) := by omega
            have e3 : (255 : Int) / 2 ^ q * 2 ^ q % 256 = (((2 ^ n2 - 1) * 2 ^ q : Nat) : Int) := by
              have := mask_lit n2 (by omega) q (by omega) (by omega)
              rw [hq] at this; exact this
            obtain ⟨y, y1, y2, y3⟩ := and_lit x n2 q hx256 (by omega)
            obtain ⟨M, hM⟩ : ∃ M, (2 ^ n2 - 1) * 2 ^ q = M := ⟨_, rfl⟩
            rw [hM] at e3 y1
            obtain ⟨v, hv⟩ : ∃ v, x / 2 ^ q % 2 ^ n2 = v := ⟨_, rfl⟩
            rw [hv] at y3
            have hv2 : v < 2 ^ n2 := by rw [← hv]; exact Nat.mod_lt _ (Nat.two_pow_pos n2)
            have hp2 : 2 ^ n2 ≤ 2 ^ 7 := Nat.pow_le_pow_right (by omega) (by omega)
            have y4 : wrap64 (v : Int) = (v : Int) := wrap64_u8 v (Nat.lt_of_lt_of_le hv2 (Nat.le_trans hp2 (by decide)))
            obtain ⟨A, hA, hs1, hs2⟩ := join_shl r v n2 hr16 (by omega) hv2
            have NX : Hid (∀ m, Src ((wr.drewN m).setCell ⟨b, 2, none⟩ (.int .i64 (n2 : Int))) b d ds c (p + n) ∧ Keeps (fun i => i = b) w ((wr.drewN m).setCell ⟨b, 2, none⟩ (.int .i64 (n2 : Int)))) := Lib.hid (fun m => by
              have B := (Y.out.1.drewN m).head.set 2 (.int .i64 ((n2 : Nat) : Int))
              have h4 := HX.out
              have h5 := HE.out
              refine ⟨(Y.out.1.drewN m).at (kset b _ 2 _) (by rw [HL.out]; exact hp) ?_, (Y.out.2.drewN m).trans (kset b _ 2 _)⟩
              rw [← h5.1, show (p1 + n2) / 8 = p1 / 8 by omega, show (p1 + n2) % 8 = n2 by omega]
              exact B)
            have NE : Hid (A + v = _root_.QR.rd ds p n) := Lib.hid (by
              have h4 := HE.out
              have h5 := HX.out
              have h6 := _root_.QR.rd_add ds p (n - n2) n2 (by rw [HL.out]; omega)
              have h7 := _root_.QR.rd_byte ds i1 0 n2 (by rw [HL.out]; exact hi1L) (by omega)
              rw [h5.1, Nat.sub_zero, hq, hv, show 8 * i1 + 0 = p1 by omega] at h7
              rw [← h4.2.1, show p + (n - n2) = p1 by omega, h7, show n - n2 + n2 = n by omega, hA] at h6
              exact h6.symm)
            clear hx hi1 hq hM hv hA
            go_wp2_with fail
            go_quiet (fail)
            go_wp2_with fail
            have Z := NX.out nq
            go_ret2
            rw [← NE.out]
            exact ⟨by push_cast; rfl, Z.1, Z.2⟩

end Go.Proofs.YtplpafbkalkchaaGreatDoor

namespace Go.Proofs.YtplpafbkalkchaaGreatDoor
open Go.RowKit

theorem info5s : (Tryz.prog.info? 5).map (fun i => (i.zero, i.size, i.bytes)) = some (some (.int .u8 0), 1, 1) := by kernel_rfl

/-- What is left in the source of bits, and the text so far. -/
structure Seg (w : World) (B b d : Nat) (ds : List Nat) (c : Nat) (R : List Bool) (v : Value) (xs : List Nat) : Prop where
  src : ∃ p, Src w b d ds c p ∧ (_root_.QR.bytesBits ds).drop p = R
  own : w.ownsRow B 5 1 v xs.length (xs.map vu8)
  hb : B ≤ b
  hd : d < B
  hw : B ≤ w.heap.size
  hl : ds.length ≤ 10000
theorem own_typ {w : World} {base : Nat} {e : TypeId} {v : Value} {n : Nat} {xs : List Value} (h : w.ownsRow base e 1 v n xs) (i : Nat) (hi : v.ownBlock = some i) : TypeAt w i e ∧ base ≤ i := by
  obtain ⟨_, h | ⟨g, _, _, hv, hb0, hb, _⟩⟩ := h
  · rw [h.1] at hi; simp [Value.ownBlock] at hi
  · rw [hv] at hi; simp [Value.ownBlock] at hi; subst hi; exact ⟨⟨_, _, hb⟩, hb0⟩
theorem Seg.keep {w w' : World} {B b d : Nat} {ds : List Nat} {c : Nat} {R : List Bool} {v : Value} {xs : List Nat} (h : Seg w B b d ds c R v xs) (hk : Keeps (fun _ => False) w w') : Seg w' B b d ds c R v xs := by
  obtain ⟨p, h1, h2⟩ := h.src
  exact ⟨⟨p, h1.keep hk (fun f => f) (fun f => f), h2⟩, own_keep h.own hk (fun _ _ f => f), h.hb, h.hd, Nat.le_trans h.hw hk.size, h.hl⟩

theorem wp_seg_app {ops : Array Oper} {rest : List Oper} {o : Oper} {a : Act} {Q : Exit → Act → World → Prop} {w : World} {B b d : Nat} {ds : List Nat} {c : Nat} {R : List Bool} {v : Value} {xs : List Nat}
    (h : Seg w B b d ds c R v xs) (hgd : o.guard = none) (s x : Operand) (ho : o.op = .call { callee := .builtin .append, args := #[s, x], argTypes := #[35, 35] }) (hs : a.eval s = v)
    (q m cc : Nat) (hx : a.eval x = .slice (some ⟨q, 0, none⟩) m cc) (ys : List Nat) (hm : ys.length = m) (hq : ∀ j u, (ys.map vu8)[j]? = some u → w.cell? ⟨q, j, none⟩ = some u) (hl : xs.length + ys.length ≤ 100000)
    (K : ∀ v' w', Seg w' B b d ds c R v' (xs ++ ys) → Keeps (fun i => v.ownBlock = some i) w w' → wpList Tryz.prog ops Q rest (a.put o.dst v') w') : wpList Tryz.prog ops Q (o :: rest) a w := by
  obtain ⟨i0, hi, hz0, hz1, hz2⟩ := info_parts info5s
  refine wpList_append_own w hgd s x 35 ho B 5 i0 (.int .u8 0) 1 1 Tryz.underlying35 hi hz0 hz1 hz2 rfl (by decide) v xs.length (xs.map vu8) hs h.own ⟨q, 0, none⟩ m cc (ys.map vu8) hx (by simp [hm]) (fun j u hj => ?_) (fun u hu => ?_) (by unfold maxLen; omega) (by omega) h.hw (fun v' w' g1 g2 _ => ?_)
  · have := hq j u hj
    have e : (Addr.add ⟨q, 0, none⟩ j) = ⟨q, j, none⟩ := by
      unfold Addr.add
      by_cases h0 : j = 0
      · subst h0; simp
      · simp [h0]
    rw [e]; exact this
  · obtain ⟨y, _, rfl⟩ := List.mem_map.1 hu; rfl
  · have hk : Keeps (fun i => v.ownBlock = some i) w w' := (Keeps.refl _ w).grown g2 (fun k hk => Or.inl hk)
    obtain ⟨p, h1, h2⟩ := h.src
    refine K v' w' ⟨⟨p, h1.keep hk (fun e => ?_) (fun e => ?_), h2⟩, ?_, h.hb, h.hd, Nat.le_trans h.hw hk.size, h.hl⟩ hk
    · exact (own_typ h.own _ e).1.ne h1.head.typ (by decide) rfl
    · have := (own_typ h.own _ e).2; have := h.hd; omega
    · rw [List.length_append, List.map_append, hm]; exact g1

theorem wp_seg_one {ops : Array Oper} {rest : List Oper} {o : Oper} {a : Act} {Q : Exit → Act → World → Prop} {w : World} {B b d : Nat} {ds : List Nat} {c : Nat} {R : List Bool} {v : Value} {xs : List Nat}
    (h : Seg w B b d ds c R v xs) (hgd : o.guard = none) (s x : Operand) (ho : o.op = .call { callee := .builtin .append, args := #[s, x], argTypes := #[35, 35] }) (Y : Int) (y : Nat) (hY : Y = (y : Int)) (hs : a.eval s = v)
    (hx : a.eval x = .slice (some ⟨w.heap.size, 0, none⟩) 1 1) (hl : xs.length ≤ 10000)
    (K : ∀ v' w', Seg w' B b d ds c R v' (xs ++ [y]) → Keeps (fun i => B ≤ i) w w' → wpList Tryz.prog ops Q rest (a.put o.dst v') w') : wpList Tryz.prog ops Q (o :: rest) a (w.alloc (.cells #[.int .u8 Y] 5)) := by
  subst hY
  have hk := (Keeps.refl (fun _ => False) w).alloc (.cells #[.int .u8 (y : Int)] 5)
  refine wp_seg_app (h.keep hk) hgd s x ho hs w.heap.size 1 1 hx [y] rfl (fun j u hj => ?_) (by simp; omega) (fun v' w' h1 h2 => K v' w' h1 ((hk.mono (fun _ _ f => f.elim)).trans (h2.mono (fun i _ e => (own_typ h.own i e).2))))
  exact (Blk.new w [.int .u8 (y : Int)] 5).cell hj

theorem seg_read1 {w : World} {B b d : Nat} {ds : List Nat} {c : Nat} {R : List Bool} {v : Value} {xs : List Nat} (n x : Nat) (h : Seg w B b d ds c (_root_.QR.bitsOf n x ++ R) v xs) (hx : x < 2 ^ n) (h1 : 1 ≤ n) (h2 : n ≤ 16) (N : Int) (hN : N = (n : Int)) :
    Calls Tryz.prog 227 #[.pointer (some ⟨b, 0, none⟩), .int .i64 N] w fun e w' => e = .returned (.tuple #[.int .i64 (x : Int), .nilIface]) ∧ Seg w' B b d ds c R v xs ∧ Keeps (fun i => i = b) w w' := by
  obtain ⟨p, s1, s2⟩ := h.src
  obtain ⟨r1, r2⟩ := _root_.QR.rd_at s2 hx
  have hroom := _root_.QR.rd_room s2 s1.le
  rw [List.length_append, _root_.QR.bitsOf_length] at hroom
  refine (readBits_ok b d c p n ds w s1 h.hl h1 h2 (by omega) N hN).mono ?_
  rintro e w' ⟨e1, e2, e3⟩
  rw [r1] at e1
  refine ⟨e1, ⟨⟨p + n, e2, r2⟩, own_keep h.own e3 (fun r hr e => ?_), h.hb, h.hd, Nat.le_trans h.hw e3.size, h.hl⟩, e3⟩
  subst e
  exact (own_typ h.own _ hr).1.ne s1.head.typ (by decide) rfl
theorem seg_read {w : World} {B b d : Nat} {ds : List Nat} {c : Nat} {R : List Bool} {v : Value} {xs : List Nat} (n x : Nat) (h : Seg w B b d ds c (_root_.QR.bitsOf n x ++ R) v xs) (hx : x < 2 ^ n) (h1 : 1 ≤ n) (h2 : n ≤ 16) (N : Int) (hN : N = (n : Int)) :
    Calls Tryz.prog 227 #[.pointer (some ⟨b, 0, none⟩), .int .i64 N] w fun e w' => e = .returned (.tuple #[.int .i64 (x : Int), .nilIface]) ∧ Seg w' B b d ds c R v xs ∧ Keeps (fun i => B ≤ i) w w' :=
  (seg_read1 n x h hx h1 h2 N hN).mono (fun e w' z => ⟨z.1, z.2.1, z.2.2.mono (fun i _ e => by have := h.hb; omega)⟩)
theorem seg_avail {w : World} {B b d : Nat} {ds : List Nat} {c : Nat} {R : List Bool} {v : Value} {xs : List Nat} (h : Seg w B b d ds c R v xs) :
    Calls Tryz.prog 226 #[.pointer (some ⟨b, 0, none⟩)] w fun e w' => e = .returned (.int .i64 (R.length : Int)) ∧ Seg w' B b d ds c R v xs ∧ Keeps (fun _ => False) w w' := by
  obtain ⟨p, s1, s2⟩ := h.src
  have hroom := _root_.QR.rd_room s2 s1.le
  refine (avail_ok b d c p ds w s1 h.hl).mono ?_
  rintro e w' ⟨e1, m, rfl⟩
  have hk := (Keeps.refl (fun _ => False) w).drewN m
  exact ⟨by rw [e1]; congr 3; omega, h.keep hk, hk⟩

theorem alpha_at (x : Nat) (h : x < 45) (h2 : x < (⟨#[48, 49, 50, 51, 52, 53, 54, 55, 56, 57, 65, 66, 67, 68, 69, 70, 71, 72, 73, 74, 75, 76, 77, 78, 79, 80, 81, 82, 83, 84, 85, 86, 87, 88, 89, 90, 32, 36, 37, 42, 43, 45, 46, 47, 58]⟩ : ByteArray).size) :
    (((⟨#[48, 49, 50, 51, 52, 53, 54, 55, 56, 57, 65, 66, 67, 68, 69, 70, 71, 72, 73, 74, 75, 76, 77, 78, 79, 80, 81, 82, 83, 84, 85, 86, 87, 88, 89, 90, 32, 36, 37, 42, 43, 45, 46, 47, 58]⟩ : ByteArray)[x]'h2).toNat : Int) = ((_root_.QR.achars.getD x 0 : Nat) : Int) := by
  have : ∀ x : Fin 45, ((#[48, 49, 50, 51, 52, 53, 54, 55, 56, 57, 65, 66, 67, 68, 69, 70, 71, 72, 73, 74, 75, 76, 77, 78, 79, 80, 81, 82, 83, 84, 85, 86, 87, 88, 89, 90, 32, 36, 37, 42, 43, 45, 46, 47, 58] : Array UInt8)[x.val]'x.isLt).toNat = _root_.QR.achars.getD x.val 0 := by decide
  exact_mod_cast this ⟨x, h⟩
theorem alphaChar_ok (x : Nat) (h : x < 45) (w : World) (X : Int) (hX : X = (x : Int)) : Calls Tryz.prog 263 #[.int .i64 X] w fun e w' => e = .returned (.tuple #[.int .u8 (_root_.QR.achars.getD x 0 : Nat), .nilIface]) ∧ w = w' := by
  subst hX
  have hx : ¬ (45 : Int) ≤ (x : Int) := by omega
  go_enter Tryz.func263, Tryz.ntmps263
  go_wp2_with fail
  go_ret2
  exact ⟨congrArg (fun z => Ending.returned (.tuple #[.int .u8 z, .nilIface])) (alpha_at x h _), rfl⟩

set_option maxRecDepth 100000 in
set_option maxHeartbeats 1000000 in
theorem numSeg_ok (w : World) (B b d : Nat) (ds : List Nat) (c : Nat) (R : List Bool) (v : Value) (xs ts : List Nat) (hts : ∀ t ∈ ts, t < 10) (h : Seg w B b d ds c (_root_.QR.encNum ts ++ R) v xs) (hl : ts.length ≤ 60) (hlx : xs.length ≤ 1000) (N : Int) (hN : N = (ts.length : Int)) :
    Calls Tryz.prog 232 #[.pointer (some ⟨b, 0, none⟩), v, .int .i64 N] w fun e w' => ∃ v', e = .returned (.tuple #[v', .nilIface]) ∧ Seg w' B b d ds c R v' (xs ++ ts.map (48 + ·)) ∧ Keeps (fun i => B ≤ i) w w' := by
  subst hN
  obtain ⟨n, hn⟩ : ∃ n, ts.length = n := ⟨_, rfl⟩
  obtain ⟨FIN, hF⟩ : ∃ F, xs ++ ts.map (48 + ·) = F := ⟨_, rfl⟩
  have H := Lib.hid (And.intro h (And.intro hts (And.intro hF hn)))
  rw [hF, hn]
  rw [hn] at hl
  have hFl : xs.length + n = FIN.length := by rw [← hF]; simp [hn]
  clear h hts hn hF
  go_enter Tryz.func232, Tryz.ntmps232
  go_wp2_with fail
  go_loopw [1, 2, 8, 9] (fun s1 s2 _ _ wr => ∃ (k : Nat) (ts' xs' : List Nat), k ≤ n ∧ s2 = .int .i64 (k : Int) ∧ Hid (ts'.length = k ∧ (∀ t ∈ ts', t < 10) ∧ xs' ++ ts'.map (48 + ·) = FIN) ∧ Hid (Seg wr B b d ds c (_root_.QR.encNum ts' ++ R) s1 xs') ∧ Hid (Keeps (fun i => B ≤ i) w wr)) (fun _ s2 _ _ _ => (intOf s2).toNat)
  case atStart => exact ⟨n, ts, xs, Nat.le_refl _, rfl, Lib.hid ⟨H.out.2.2.2, H.out.2.1, H.out.2.2.1⟩, Lib.hid H.out.1, Lib.hid (Keeps.refl _ _)⟩
  case round =>
    obtain ⟨k, ts', xs', hk, rfl, HT, HS, HK⟩ := hrel
    by_cases h3 : 3 ≤ k
    · have h3' : (3 : Int) ≤ (k : Int) := by omega
      obtain ⟨aa, bb, cc, l, hts⟩ : ∃ aa bb cc l, ts' = aa :: bb :: cc :: l := by
        have := HT.out.1
        rcases ts' with _ | ⟨aa, _ | ⟨bb, _ | ⟨cc, l⟩⟩⟩ <;> simp at this
        · omega
        · omega
        · omega
        · exact ⟨aa, bb, cc, l, rfl⟩
      subst hts
      obtain ⟨x, hx⟩ : ∃ x, aa * 100 + bb * 10 + cc = x := ⟨_, rfl⟩
      have ha := HT.out.2.1 aa (by simp)
      have hb := HT.out.2.1 bb (by simp)
      have hc := HT.out.2.1 cc (by simp)
      have hx1 : ¬ (1000 : Int) ≤ (x : Int) := by omega
      have q1 : (x : Int) / 100 = (aa : Int) := by omega
      have q2 : (x : Int) / 10 % 10 = (bb : Int) := by omega
      have q3 : (x : Int) % 10 = (cc : Int) := by omega
      have HS2 : Hid (Seg wr B b d ds c (_root_.QR.bitsOf 10 x ++ (_root_.QR.encNum l ++ R)) u1 xs') := Lib.hid (by
        have := HS.out
        rw [_root_.QR.encNum, hx, List.append_assoc] at this
        exact this)
      have hx0 : x < 1024 := by omega
      clear hx
      go_wp2_with fail
      refine (seg_read 10 x HS2.out (by omega) (by omega) (by omega) _ rfl).mono ?_
      rintro e w1 ⟨rfl, z1, z2⟩
      have S1 := Lib.hid z1
      have K1 := Lib.hid (HK.out.trans z2)
      clear z1 z2
      have hlx1 : xs'.length ≤ 9000 := by have := HT.out; have := congrArg List.length this.2.2; simp at this; omega
      go_wp2_with (at_builtin; refine wp_seg_one S1.out rfl _ _ rfl _ (48 + aa) (by push_cast; rfl) rfl rfl (by omega) ?_)
      intro v2 w2 z1 z2
      have S2 := Lib.hid z1
      have K2 := Lib.hid (K1.out.trans z2)
      clear z1 z2
      go_wp2_with (at_builtin; refine wp_seg_one S2.out rfl _ _ rfl _ (48 + bb) (by push_cast; rfl) rfl rfl (by simp; omega) ?_)
      intro v3 w3 z1 z2
      have S3 := Lib.hid z1
      have K3 := Lib.hid (K2.out.trans z2)
      clear z1 z2
      go_wp2_with (at_builtin; refine wp_seg_one S3.out rfl _ _ rfl _ (48 + cc) (by push_cast; rfl) rfl rfl (by simp; omega) ?_)
      intro v4 w4 z1 z2
      have S4 := Lib.hid z1
      have K4 := Lib.hid (K3.out.trans z2)
      clear z1 z2
      go_wp2_with fail
      go_roundw
      case rel => exact ⟨k - 3, l, _, by omega, by go_num, Lib.hid ⟨by have := HT.out.1; simp at this; omega, fun t ht => HT.out.2.1 t (by simp [ht]), by rw [← HT.out.2.2]; simp⟩, S4, K4⟩
      case measure => simp [intOf]; omega
    · have h3' : ¬ (3 : Int) ≤ (k : Int) := by omega
      have hlx1 : xs'.length ≤ 9000 := by have := HT.out; have := congrArg List.length this.2.2; simp at this; omega
      by_cases k2 : k = 2
      · have k2' : ((k : Int) == 2) = true := by subst k2; rfl
        obtain ⟨aa, bb, hts⟩ : ∃ aa bb, ts' = [aa, bb] := by
          have := HT.out.1
          rcases ts' with _ | ⟨aa, _ | ⟨bb, _ | ⟨cc, l⟩⟩⟩ <;> simp at this
          · omega
          · omega
          · exact ⟨aa, bb, rfl⟩
          · omega
        subst hts
        obtain ⟨x, hx⟩ : ∃ x, aa * 10 + bb = x := ⟨_, rfl⟩
        have ha := HT.out.2.1 aa (by simp)
        have hb := HT.out.2.1 bb (by simp)
        have hx1 : ¬ (100 : Int) ≤ (x : Int) := by omega
        have q1 : (x : Int) / 10 = (aa : Int) := by omega
        have q3 : (x : Int) % 10 = (bb : Int) := by omega
        have HS2 : Hid (Seg wr B b d ds c (_root_.QR.bitsOf 7 x ++ R) u1 xs') := Lib.hid (by
          have := HS.out
          rw [_root_.QR.encNum, hx] at this
          exact this)
        have hx0 : x < 128 := by omega
        clear hx
        go_wp2_with fail
        refine (seg_read 7 x HS2.out (by omega) (by omega) (by omega) _ rfl).mono ?_
        rintro e w1 ⟨rfl, z1, z2⟩
        have S1 := Lib.hid z1
        have K1 := Lib.hid (HK.out.trans z2)
        clear z1 z2
        go_wp2_with (at_builtin; refine wp_seg_one S1.out rfl _ _ rfl _ (48 + aa) (by push_cast; rfl) rfl rfl (by omega) ?_)
        intro v2 w2 z1 z2
        have S2 := Lib.hid z1
        have K2 := Lib.hid (K1.out.trans z2)
        clear z1 z2
        go_wp2_with (at_builtin; refine wp_seg_one S2.out rfl _ _ rfl _ (48 + bb) (by push_cast; rfl) rfl rfl (by simp; omega) ?_)
        intro v3 w3 z1 z2
        have S3 := Lib.hid z1
        have K3 := Lib.hid (K2.out.trans z2)
        clear z1 z2
        go_wp2_with fail
        go_ret2
        refine ⟨_, rfl, ?_, K3.out⟩
        have := S3.out
        rw [← HT.out.2.2]
        simpa using this
      · have k2' : ((k : Int) == 2) = false := beq_eq_false_iff_ne.2 (by omega)
        by_cases k1 : k = 1
        · have k1' : ((k : Int) == 1) = true := by subst k1; rfl
          obtain ⟨aa, hts⟩ : ∃ aa, ts' = [aa] := by
            have := HT.out.1
            rcases ts' with _ | ⟨aa, _ | ⟨bb, l⟩⟩ <;> simp at this
            · omega
            · exact ⟨aa, rfl⟩
            · omega
          subst hts
          have ha := HT.out.2.1 aa (by simp)
          have hx1 : ¬ (10 : Int) ≤ (aa : Int) := by omega
          have HS2 : Hid (Seg wr B b d ds c (_root_.QR.bitsOf 4 aa ++ R) u1 xs') := Lib.hid HS.out
          go_wp2_with fail
          refine (seg_read 4 aa HS2.out (by omega) (by omega) (by omega) _ rfl).mono ?_
          rintro e w1 ⟨rfl, z1, z2⟩
          have S1 := Lib.hid z1
          have K1 := Lib.hid (HK.out.trans z2)
          clear z1 z2
          go_wp2_with (at_builtin; refine wp_seg_one S1.out rfl _ _ rfl _ (48 + aa) (by push_cast; rfl) rfl rfl (by omega) ?_)
          intro v2 w2 z1 z2
          have S2 := Lib.hid z1
          have K2 := Lib.hid (K1.out.trans z2)
          clear z1 z2
          go_wp2_with fail
          go_ret2
          refine ⟨_, rfl, ?_, K2.out⟩
          have := S2.out
          rw [← HT.out.2.2]
          simpa using this
        · have k1' : ((k : Int) == 1) = false := beq_eq_false_iff_ne.2 (by omega)
          have hts : ts' = [] := List.length_eq_zero_iff.1 (by have := HT.out.1; omega)
          subst hts
          go_wp2_with fail
          go_ret2
          refine ⟨_, rfl, ?_, HK.out⟩
          have := HS.out
          rw [← HT.out.2.2]
          simpa [_root_.QR.encNum] using this

set_option maxRecDepth 100000 in
set_option maxHeartbeats 1000000 in
theorem alphaSeg_ok (w : World) (B b d : Nat) (ds : List Nat) (c : Nat) (R : List Bool) (v : Value) (xs ts : List Nat) (hts : ∀ t ∈ ts, t < 45) (h : Seg w B b d ds c (_root_.QR.encAlpha ts ++ R) v xs) (hl : ts.length ≤ 60) (hlx : xs.length ≤ 1000) (hv : ∃ a n m, v = .slice a n m) (N : Int) (hN : N = (ts.length : Int)) :
    Calls Tryz.prog 233 #[.pointer (some ⟨b, 0, none⟩), v, .int .i64 N, .bool false] w fun e w' => ∃ v', e = .returned (.tuple #[v', .nilIface]) ∧ Seg w' B b d ds c R v' (xs ++ ts.map (fun t => _root_.QR.achars.getD t 0)) ∧ Keeps (fun i => B ≤ i) w w' := by
  subst hN
  obtain ⟨n, hn⟩ : ∃ n, ts.length = n := ⟨_, rfl⟩
  obtain ⟨va, vn, vm, rfl⟩ := hv
  obtain ⟨FIN, hF⟩ : ∃ F, xs ++ ts.map (fun t => _root_.QR.achars.getD t 0) = F := ⟨_, rfl⟩
  have H := Lib.hid (And.intro h (And.intro hts (And.intro hF hn)))
  rw [hF, hn]
  rw [hn] at hl
  have hFl : xs.length + n = FIN.length := by rw [← hF]; simp [hn]
  clear h hts hn hF
  go_enter Tryz.func233, Tryz.ntmps233
  go_wp2_with fail
  go_loopw [1, 2, 11, 12, 13] (fun s1 s2 _ _ _ wr => ∃ (k : Nat) (ts' xs' : List Nat), k ≤ n ∧ s2 = .int .i64 (k : Int) ∧ Hid (ts'.length = k ∧ (∀ t ∈ ts', t < 45) ∧ xs' ++ ts'.map (fun t => _root_.QR.achars.getD t 0) = FIN) ∧ Hid (Seg wr B b d ds c (_root_.QR.encAlpha ts' ++ R) s1 xs') ∧ Hid (Keeps (fun i => B ≤ i) w wr)) (fun _ s2 _ _ _ _ => (intOf s2).toNat)
  case atStart => exact ⟨n, ts, xs, Nat.le_refl _, rfl, Lib.hid ⟨H.out.2.2.2, H.out.2.1, H.out.2.2.1⟩, Lib.hid H.out.1, Lib.hid (Keeps.refl _ _)⟩
  case round =>
    obtain ⟨k, ts', xs', hk, rfl, HT, HS, HK⟩ := hrel
    have hlx1 : xs'.length ≤ 9000 := by have := HT.out; have := congrArg List.length this.2.2; simp at this; omega
    by_cases h3 : 2 ≤ k
    · have h3' : (1 : Int) < (k : Int) := by omega
      obtain ⟨aa, bb, l, hts⟩ : ∃ aa bb l, ts' = aa :: bb :: l := by
        have := HT.out.1
        rcases ts' with _ | ⟨aa, _ | ⟨bb, l⟩⟩ <;> simp at this
        · omega
        · omega
        · exact ⟨aa, bb, l, rfl⟩
      subst hts
      obtain ⟨x, hx⟩ : ∃ x, aa * 45 + bb = x := ⟨_, rfl⟩
      have ha := HT.out.2.1 aa (by simp)
      have hb := HT.out.2.1 bb (by simp)
      have q1 : (x : Int) / 45 = (aa : Int) := by omega
      have q3 : (x : Int) % 45 = (bb : Int) := by omega
      have HS2 : Hid (Seg wr B b d ds c (_root_.QR.bitsOf 11 x ++ (_root_.QR.encAlpha l ++ R)) u1 xs') := Lib.hid (by
        have := HS.out
        rw [_root_.QR.encAlpha, hx, List.append_assoc] at this
        exact this)
      have hx0 : x < 2048 := by omega
      clear hx
      go_wp2_with fail
      refine (seg_read 11 x HS2.out (by omega) (by omega) (by omega) _ rfl).mono ?_
      rintro e w1 ⟨rfl, z1, z2⟩
      have S1 := Lib.hid z1
      have K1 := Lib.hid (HK.out.trans z2)
      clear z1 z2
      go_wp2_with fail
      refine (alphaChar_ok aa ha w1 _ rfl).mono ?_
      rintro e w1' ⟨rfl, rfl⟩
      go_wp2_with (at_builtin; refine wp_seg_one S1.out rfl _ _ rfl _ (_root_.QR.achars.getD aa 0) rfl rfl rfl (by omega) ?_)
      intro v2 w2 z1 z2
      have S2 := Lib.hid z1
      have K2 := Lib.hid (K1.out.trans z2)
      clear z1 z2
      go_wp2_with fail
      refine (alphaChar_ok bb hb w2 _ rfl).mono ?_
      rintro e w2' ⟨rfl, rfl⟩
      go_wp2_with (at_builtin; refine wp_seg_one S2.out rfl _ _ rfl _ (_root_.QR.achars.getD bb 0) rfl rfl rfl (by simp; omega) ?_)
      intro v3 w3 z1 z2
      have S3 := Lib.hid z1
      have K3 := Lib.hid (K2.out.trans z2)
      clear z1 z2
      go_wp2_with fail
      go_roundw
      case rel => exact ⟨k - 2, l, _, by omega, by go_num, Lib.hid ⟨by have := HT.out.1; simp at this; omega, fun t ht => HT.out.2.1 t (by simp [ht]), by rw [← HT.out.2.2]; simp⟩, S3, K3⟩
      case measure => simp [intOf]; omega
    · have h3' : ¬ (1 : Int) < (k : Int) := by omega
      by_cases k1 : k = 1
      · have k1' : ((k : Int) == 1) = true := by subst k1; rfl
        obtain ⟨aa, hts⟩ : ∃ aa, ts' = [aa] := by
          have := HT.out.1
          rcases ts' with _ | ⟨aa, _ | ⟨bb, l⟩⟩ <;> simp at this
          · omega
          · exact ⟨aa, rfl⟩
          · omega
        subst hts
        have ha := HT.out.2.1 aa (by simp)
        have HS2 : Hid (Seg wr B b d ds c (_root_.QR.bitsOf 6 aa ++ R) u1 xs') := Lib.hid HS.out
        go_wp2_with fail
        refine (seg_read 6 aa HS2.out (by omega) (by omega) (by omega) _ rfl).mono ?_
        rintro e w1 ⟨rfl, z1, z2⟩
        have S1 := Lib.hid z1
        have K1 := Lib.hid (HK.out.trans z2)
        clear z1 z2
        go_wp2_with fail
        refine (alphaChar_ok aa ha w1 _ rfl).mono ?_
        rintro e w1' ⟨rfl, rfl⟩
        go_wp2_with (at_builtin; refine wp_seg_one S1.out rfl _ _ rfl _ (_root_.QR.achars.getD aa 0) rfl rfl rfl (by omega) ?_)
        intro v2 w2 z1 z2
        have S2 := Lib.hid z1
        have K2 := Lib.hid (K1.out.trans z2)
        clear z1 z2
        go_wp2_with fail
        go_ret2
        refine ⟨_, rfl, ?_, K2.out⟩
        have := S2.out
        rw [← HT.out.2.2]
        simpa using this
      · have k1' : ((k : Int) == 1) = false := beq_eq_false_iff_ne.2 (by omega)
        have hts : ts' = [] := List.length_eq_zero_iff.1 (by have := HT.out.1; omega)
        subst hts
        go_wp2_with fail
        go_ret2
        refine ⟨_, rfl, ?_, HK.out⟩
        have := HS.out
        rw [← HT.out.2.2]
        simpa [_root_.QR.encAlpha] using this

theorem info35 : (Tryz.prog.info? 35).map (fun i => (i.zero, i.size, i.bytes)) = some (some (.slice none 0 0), 1, 24) := by kernel_rfl
/-- A write apart from the source and the text. -/
theorem Seg.apart {S : Nat → Prop} {w w' : World} {B b d : Nat} {ds : List Nat} {c : Nat} {R : List Bool} {v : Value} {xs : List Nat} (h : Seg w B b d ds c R v xs) (hk : Keeps S w w') (hb : ¬ S b) (hd : ¬ S d) (hv : ∀ r, v.ownBlock = some r → ¬ S r) : Seg w' B b d ds c R v xs := by
  obtain ⟨p, h1, h2⟩ := h.src
  exact ⟨⟨p, h1.keep hk hb hd, h2⟩, own_keep h.own hk hv, h.hb, h.hd, Nat.le_trans h.hw hk.size, h.hl⟩
theorem Seg.bl {w : World} {B b d : Nat} {ds : List Nat} {c : Nat} {R : List Bool} {v : Value} {xs : List Nat} (h : Seg w B b d ds c R v xs) : b < w.heap.size ∧ ∀ r, v.ownBlock = some r → r < w.heap.size := by
  obtain ⟨p, h1, h2⟩ := h.src
  refine ⟨h1.head.lt, fun r hr => ?_⟩
  obtain ⟨⟨_, _, hb⟩, _⟩ := own_typ h.own r hr
  exact lt_of_block hb

/-- The rows of bytes that the result hands on: none, or one that can be read. -/
def BSeg (w : World) (a : Option Addr) (n : Nat) : Prop :=
  n = 0 ∨ ∃ r q l F, a = some ⟨r, 0, none⟩ ∧ n = 1 ∧ TypeAt w r 35 ∧ w.cell? ⟨r, 0, none⟩ = some (.slice (some ⟨q, 0, none⟩) l l) ∧ Row8 w q l F ∧ l ≤ 60
theorem TypeAt.lt {w : World} {i : Nat} {t : TypeId} (h : TypeAt w i t) : i < w.heap.size := by
  obtain ⟨_, _, hb⟩ := h
  exact lt_of_block hb
theorem BSeg.keep {S : Nat → Prop} {w w' : World} {a : Option Addr} {n : Nat} (h : BSeg w a n) (hk : Keeps S w w') (hS : ∀ i, i < w.heap.size → S i → ∃ t, TypeAt w i t ∧ t ≠ 35 ∧ t ≠ 5) : BSeg w' a n := by
  rcases h with h | ⟨r, q, l, F, h1, h2, h3, h4, h5, h6⟩
  · exact Or.inl h
  · have hr : ¬ S r := fun e => by obtain ⟨t, t1, t2, _⟩ := hS r h3.lt e; exact t1.ne h3 t2 rfl
    have hq : ¬ S q := fun e => by obtain ⟨t, t1, _, t2⟩ := hS q h5.lt e; exact t1.ne h5.typ t2 rfl
    refine Or.inr ⟨r, q, l, F, h1, h2, ?_, (hk.cell (p := ⟨r, 0, none⟩) h3.lt hr).trans h4, h5.keep hk hq, h6⟩
    obtain ⟨cs, m, hb⟩ := h3
    exact ⟨cs, m, (hk.block r (lt_of_block hb) hr).trans hb⟩

set_option maxRecDepth 100000 in
set_option maxHeartbeats 1000000 in
theorem byteSeg_ok (w : World) (B b d : Nat) (ds : List Nat) (c : Nat) (R : List Bool) (v s : Value) (xs cs : List Nat) (hints : Value) (hcs : ∀ t ∈ cs, t < 256) (h : Seg w B b d ds c (_root_.QR.bytesBits cs ++ R) v xs) (hl : cs.length ≤ 60) (h1 : 1 ≤ cs.length) (hlx : xs.length ≤ 1000)
    (hs : w.ownsRow B 35 1 s 0 []) (N : Int) (hN : N = (cs.length : Int)) :
    Calls Tryz.prog 234 #[.pointer (some ⟨b, 0, none⟩), v, .int .i64 N, .pointer none, s, hints] w fun e w' => ∃ v' r cap, e = .returned (.tuple #[v', .slice (some ⟨r, 0, none⟩) 1 cap, .nilIface]) ∧ Seg w' B b d ds c R v' (xs ++ cs) ∧ Keeps (fun i => B ≤ i) w w' ∧ BSeg w' (some ⟨r, 0, none⟩) 1 := by
  subst hN
  obtain ⟨n, hn⟩ : ∃ n, cs.length = n := ⟨_, rfl⟩
  have H := Lib.hid (And.intro h (And.intro hcs (And.intro hs hn)))
  have hav : ¬ ((_root_.QR.bytesBits cs ++ R).length : Int) < 8 * (n : Int) := by rw [List.length_append, _root_.QR.bytesBits_length, hn]; omega
  obtain ⟨M, hM⟩ : ∃ M, (_root_.QR.bytesBits cs ++ R).length = M := ⟨_, rfl⟩
  have HM := Lib.hid hM
  rw [hM] at hav
  rw [hn] at hl h1
  rw [hn]
  clear h hcs hs hn hM
  have hmk : ∀ w0 : World, (Instr.makeSlice 35 (.int .i64 (n : Int)) (.int .i64 (n : Int))).run Tryz.prog w0 = .ok (.slice (some ⟨w0.heap.size, 0, none⟩) n n) (w0.alloc (.cells (rep n (.int .u8 0)).toArray 5)) :=
    fun w0 => make_rep (P := Tryz.prog) 35 5 (.int .u8 0) 1 Tryz.underlying35 info5s rfl n (by omega) (by omega) w0
  go_enter Tryz.func234, Tryz.ntmps234
  go_wp2_with fail
  refine (seg_avail H.out.1).mono ?_
  rw [HM.out]
  rintro e w1 ⟨rfl, z1, z2⟩
  have S1 := Lib.hid z1
  have K1 := Lib.hid z2
  clear z1 z2
  have hmk1 := hmk w1
  have hdec : decide ((M : Int) < 8 * (n : Int)) = false := decide_eq_false (by omega)
  obtain ⟨q, hq⟩ : ∃ q, w1.heap.size = q := ⟨_, rfl⟩
  have F0 := Lib.hid (FB.new w1 n (.int .u8 0) 5)
  have S2 := Lib.hid (S1.out.keep ((Keeps.refl _ w1).alloc (.cells (rep n (.int .u8 0)).toArray 5)))
  have hbl := S1.out.bl
  have hdl : d < q := by have := S1.out.hd; have := S1.out.hw; omega
  rw [hq] at hmk1 F0 hbl
  have HQ := Lib.hid hq
  clear hmk hq
  go_wp2_with fail
  have K2 : Hid (Keeps (fun i => i = b) w1 (w1.alloc (.cells (rep n (.int .u8 0)).toArray 5))) := Lib.hid ((Keeps.refl _ w1).alloc _)
  go_loopw [16, 17, 18] (fun s16 _ _ wr => ∃ k : Nat, k ≤ n ∧ s16 = .int .i64 (k : Int) ∧ Hid (Seg wr B b d ds c (_root_.QR.bytesBits (cs.drop k) ++ R) v xs) ∧ FB wr q n (fun i => vu8 (if i < k then cs.getD i 0 else 0)) 5 ∧ Hid (Keeps (fun i => i = b) w1 wr)) (fun s16 _ _ _ => n - (intOf s16).toNat)
  case atStart => exact ⟨0, Nat.zero_le _, rfl, by rw [List.drop_zero]; exact S2, F0.out.congr (fun i _ => by simp [vu8]), K2⟩
  case round =>
    obtain ⟨k, hk, rfl, HS, hF, HK⟩ := hrel
    by_cases hkn : k < n
    · have hkn' : (k : Int) < (n : Int) := by omega
      obtain ⟨x, hx⟩ : ∃ x, cs.getD k 0 = x := ⟨_, rfl⟩
      have hkl : k < cs.length := by rw [H.out.2.2.2]; exact hkn
      have hx256 : x < 256 := by
        have := H.out.2.1 (cs.getD k 0) (by simp [List.getD, hkl])
        rwa [hx] at this
      have HS2 : Hid (Seg wr B b d ds c (_root_.QR.bitsOf 8 x ++ (_root_.QR.bytesBits (cs.drop (k + 1)) ++ R)) v xs) := Lib.hid (by
        have := HS.out
        rw [_root_.QR.drop_getD cs k 0 hkl, _root_.QR.bytesBits, hx, List.append_assoc] at this
        exact this)
      have HX := Lib.hid hx
      have HF := Lib.hid hF
      clear hx hF
      go_wp2_with fail
      refine (seg_read1 8 x HS2.out (by omega) (by omega) (by omega) _ rfl).mono ?_
      rintro e w2 ⟨rfl, z1, z2⟩
      have F2 := Lib.hid (HF.out.keep z2 (by omega))
      have K3 := Lib.hid (HK.out.trans z2)
      have z3 := F2.out.free k
      have z4 := F2.out.cell hkn
      have S3 := Lib.hid (z1.apart (S := fun i => i = q) (kset q w2 k (.int .u8 (x : Int))) (by omega) (by omega) (fun r hr e => by have := hbl.2 r hr; omega))
      have F3 := Lib.hid (F2.out.set (G := fun i => vu8 (if i < k + 1 then cs.getD i 0 else 0)) k (.int .u8 (x : Int)) (fun j hj => by
        by_cases e1 : j = k
        · subst e1; rw [if_pos rfl, if_pos (by omega), HX.out]; rfl
        · rw [if_neg e1]; congr 1; by_cases e2 : j < k
          · rw [if_pos e2, if_pos (by omega)]
          · rw [if_neg e2, if_neg (by omega)]))
      have K4 := Lib.hid (K3.out.setCell (p := ⟨q, k, none⟩) (Or.inr (by rw [HQ.out]; exact Nat.le_refl _)) (.int .u8 (x : Int)))
      clear z1 z2
      go_wp2_with fail
      go_roundw
      case rel => exact ⟨k + 1, by omega, by go_num, S3, F3.out, K4⟩
      case measure => simp [intOf]; omega
    · have hkn' : ¬ (k : Int) < (n : Int) := by omega
      have hkn2 : k = n := by omega
      have HS2 : Hid (Seg wr B b d ds c R v xs) := Lib.hid (by
        have := HS.out
        rw [List.drop_of_length_le (by rw [H.out.2.2.2]; omega)] at this
        exact this)
      have HF := Lib.hid hF
      clear hF
      go_wp2_with (at_builtin; refine wp_seg_app HS2.out rfl _ _ rfl rfl q n n rfl cs H.out.2.2.2 ?c1 ?c2 ?_)
      case c1 =>
        intro j u hj
        have hjl : j < cs.length := (List.getElem?_eq_some_iff.1 hj).1
        have := HF.out.cell (i := j) (by rw [← H.out.2.2.2]; exact hjl)
        rw [this, if_pos (by have := H.out.2.2.2; omega)]
        simp [List.getD, hj]
      case c2 => rw [H.out.2.2.2]; omega
      intro v2 w2 z1 z2
      have S5 := Lib.hid z1
      have hown : Hid (w2.ownsRow B 35 1 s 0 []) := Lib.hid (by
        have t0 := H.out.2.2.1
        have t1 := own_keep t0 K1.out (fun _ _ f => f)
        obtain ⟨p, p1, p2⟩ := S1.out.src
        have t2 := own_keep t1 HK.out (fun r hr e => by subst e; exact (own_typ t1 _ hr).1.ne p1.head.typ (by decide) rfl)
        exact own_keep t2 z2 (fun r hr e => (own_typ t2 _ hr).1.ne (own_typ HS2.out.own _ e).1 (by decide) rfl))
      have K5 := Lib.hid (((K1.out.mono (S' := fun i => B ≤ i) (fun _ _ f => f.elim)).trans (HK.out.mono (fun i _ e => by have := S1.out.hb; omega))).trans (z2.mono (fun i _ e => (own_typ HS2.out.own i e).2)))
      clear z1
      obtain ⟨i0, hi, hz0, hz1, hz2⟩ := info_parts info35
      have hwB := S5.out.hw
      go_wp2_with (at_builtin; refine wpList_append_own _ rfl _ _ 38 rfl B 35 i0 (.slice none 0 0) 1 24 Tryz.underlying38 hi hz0 hz1 hz2 rfl (by decide) _ _ _ rfl (own_keep hown.out ((Keeps.refl (fun _ => False) w2).alloc _) (fun _ _ f => f)) ⟨w2.heap.size, 0, none⟩ 1 1 [.slice (some ⟨q, 0, none⟩) n n] rfl rfl ?c1 ?c2 ?c3 ?c4 ?c5 ?_)
      case c1 => exact cell_one_new _ _ _
      case c2 => intro u hu; simp at hu; subst hu; rfl
      case c3 => unfold maxLen; omega
      case c4 => omega
      case c5 => simp; omega
      intro v3 w3 hown3 hgrow hnil
      have k3 : Keeps (fun i => s.ownBlock = some i) w2 w3 := ((Keeps.refl _ w2).alloc _).grown hgrow (fun k hk => Or.inl hk)
      obtain ⟨p5, p6, p7⟩ := S5.out.src
      have S6 := Lib.hid (S5.out.apart k3 (fun e => (own_typ hown.out _ e).1.ne p6.head.typ (by decide) rfl) (fun e => by have := (own_typ hown.out _ e).2; have := S5.out.hd; omega) (fun r hr e => (own_typ hown.out _ e).1.ne (own_typ S5.out.own _ hr).1 (by decide) rfl))
      have K6 := Lib.hid (K5.out.trans (k3.mono (fun i _ e => (own_typ hown.out i e).2)))
      obtain ⟨r3, cap3, hv3, ht3, hc3, _, _⟩ := own_cell hown3 (by omega)
      have BS : Hid (BSeg w3 (some ⟨r3, 0, none⟩) 1) := Lib.hid (by
        have g0 : Row8 wr q n (fun i => (if i < k then cs.getD i 0 else 0)) := ⟨Blk.typ HF.out, fun i hi => HF.out.cell hi⟩
        have g1 := g0.keep z2 (fun e => by have := hbl.2 q e; omega)
        have g2 := g1.keep k3 (fun e => (own_typ hown.out _ e).1.ne g1.typ (by decide) rfl)
        exact Or.inr ⟨r3, q, n, _, rfl, rfl, ht3, hc3 0 _ rfl, g2, hl⟩)
      clear z2 ht3 hc3
      rw [hv3]
      clear hown3 hgrow hnil k3 p6 p7 hv3
      go_wp2_with fail
      go_ret3
      exact ⟨v2, r3, cap3, rfl, S6.out, K6.out, BS.out⟩

end Go.Proofs.YtplpafbkalkchaaGreatDoor
