/-
  Parts of the proof (GH1, GH2, GY).
-/
import Derived.Test.YtplpafbkalkchaaGreatDoorM02
import Derived.Test.YtplpafbkalkchaaGreatDoorM06
import Derived.Test.YtplpafbkalkchaaGreatDoorM16
import Derived.Test.YtplpafbkalkchaaGreatDoorM17
import Derived.Deep.CutRange
set_option linter.unusedSimpArgs false
set_option linter.unusedVariables false

namespace Go.Proofs.YtplpafbkalkchaaGreatDoor
open Go.RowKit

set_option maxRecDepth 100000 in
theorem cap_ok (hb : Option Addr) (y m : Nat) (hm : 2 ≤ m) (hy : y ≤ 1000) (hm2 : m ≤ 1000) (w : World) (Y M : Int) (hY : Y = (y : Int)) (hM : M = (m : Int)) :
    Calls Tryz.prog 322 #[.pointer hb, .int .i64 Y, .int .i64 2, .int .i64 M] w fun e w' => (∃ t : Nat, e = .returned (.int .i64 (t : Int)) ∧ 2 ≤ t ∧ t ≤ m) ∧ w = w' := by
  subst hY hM
  by_cases h1 : y < 2
  · have h1' : (y : Int) < 2 := by omega
    go_enter Tryz.func322, Tryz.ntmps322
    go_wp2
    go_ret
    exact ⟨⟨2, rfl, by omega, by omega⟩, rfl⟩
  · have h1' : ¬ (y : Int) < 2 := by omega
    by_cases h2 : m < y
    · have h2' : (m : Int) < (y : Int) := by omega
      go_enter Tryz.func322, Tryz.ntmps322
      go_wp2
      go_ret
      exact ⟨⟨m, rfl, by omega, by omega⟩, rfl⟩
    · have h2' : ¬ (m : Int) < (y : Int) := by omega
      go_enter Tryz.func322, Tryz.ntmps322
      go_wp2
      go_ret
      exact ⟨⟨y, rfl, by omega, by omega⟩, rfl⟩

set_option maxRecDepth 100000 in
set_option maxHeartbeats 4000000 in
theorem thr_ok (hb : Option Addr) (mb mc d N k W H xo yo L T : Nat) (f P : Nat → Nat → Bool) (w : World) (h : BM w mb mc W H f) (hr : Row8 w d N (_root_.QR.grayF P W 0 L)) (hN : N = W * H) (hdc : d ≠ mc)
    (hx : xo + 8 ≤ W) (hy : yo + 8 ≤ H) (hW : W ≤ 300) (hH : H ≤ 300) (hL2 : L < 256) (hT : T < L) :
    Calls Tryz.prog 323 #[.pointer hb, .slice (some ⟨d, 0, none⟩) N k, .int .i64 (xo : Int), .int .i64 (yo : Int), .int .i64 (T : Int), .int .i64 (W : Int), .pointer (some ⟨mb, 0, none⟩)] w fun e w' => e = .returned (.tuple #[]) ∧
      BM w' mb mc W H (fun x y => f x y || (P x y && decide (xo ≤ x ∧ x < xo + 8 ∧ yo ≤ y ∧ y < yo + 8))) ∧ Keeps (fun i => i = mc) w w' := by
  have HB := Lib.hid h
  have HR := Lib.hid hr
  have HN := Lib.hid hN
  obtain ⟨o0, ho0⟩ : ∃ o, yo * W = o := ⟨_, rfl⟩
  have ho0i : (yo : Int) * (W : Int) = (o0 : Int) := by rw [← ho0]; push_cast; rfl
  have ho02 : o0 ≤ 90000 := by rw [← ho0]; exact Nat.mul_le_mul (show yo ≤ 300 by omega) hW
  have HO := Lib.hid ho0
  clear h hr hN ho0
  go_enter Tryz.func323, Tryz.ntmps323
  go_wp2_with fail
  go_loopw [14, 15] (fun s14 s15 wr => ∃ (j I : Nat), j ≤ 8 ∧ s14 = .int .i64 (j : Int) ∧ s15 = .int .i64 (I : Int) ∧ Hid (I = (yo + j) * W + xo) ∧ BM wr mb mc W H (_root_.QR.thrF f P xo yo j 0) ∧ Keeps (fun i => i = mc) w wr) (fun s14 _ _ => 8 - (intOf s14).toNat)
  case atStart => exact ⟨0, o0 + xo, by omega, rfl, by go_num, Lib.hid (by rw [Nat.add_zero, HO.out]), HB.out.congr (fun x y _ _ => _root_.QR.thr_none x y), Keeps.refl _ _⟩
  case round =>
    obtain ⟨j, I, hj, rfl, rfl, HI, t1, t2⟩ := hrel
    have hI2 : I ≤ 100000 := by
      rw [HI.out]
      have := Nat.mul_le_mul (show yo + j ≤ 300 by omega) hW; omega
    by_cases hj8 : j < 8
    · have hj' : (j : Int) < 8 := by omega
      have hIN : I + 8 ≤ N := by
        have := Nat.mul_le_mul_right W (show yo + j + 1 ≤ H by omega)
        rw [Nat.add_mul, Nat.one_mul, Nat.mul_comm H W, ← HN.out] at this
        rw [HI.out]; omega
      have TT := Lib.hid (And.intro t1 t2)
      clear t1 t2
      generalize w = wA at *
      go_wp2_with fail
      go_loopw [16] (fun s16 wz => ∃ i : Nat, i ≤ 8 ∧ s16 = .int .i64 (i : Int) ∧ BM wz mb mc W H (_root_.QR.thrF f P xo yo j i) ∧ Keeps (fun i => i = mc) wA wz) (fun s16 _ => 8 - (intOf s16).toNat)
      case atStart => exact ⟨0, by omega, rfl, TT.out.1, TT.out.2⟩
      case round =>
        obtain ⟨i, hi, rfl, u1, u2⟩ := hrel
        by_cases hi8 : i < 8
        · have hi' : (i : Int) < 8 := by omega
          have c0 := (HR.out.keep u2 hdc).cell (I + i) (by omega)
          have hg : _root_.QR.grayF P W 0 L (I + i) = if P (xo + i) (yo + j) then 0 else L := by
            rw [HI.out, show (yo + j) * W + xo + i = (yo + j) * W + (xo + i) by omega]; exact _root_.QR.grayF_at (by omega)
          have hlN : (I : Int) + (i : Int) < (N : Int) := by omega
          rw [hg] at c0
          have U := Lib.hid (And.intro u1 u2)
          clear hg u1 u2
          cases hP : P (xo + i) (yo + j)
          · have e255 := and_255 L hL2
            have hVL : ¬ (L : Int) ≤ (T : Int) := fun h => absurd (Int.ofNat_le.1 h) (Nat.not_le.2 hT)
            rw [hP] at c0
            simp only [Bool.false_eq_true, if_false] at c0
            have NX := Lib.hid (U.out.1.congr (g := _root_.QR.thrF f P xo yo j (i + 1)) (fun x' y' _ _ => _root_.QR.thr_skip hP x' y'))
            clear hP
            go_wp2_with fail
            go_roundw
            case rel => exact ⟨i + 1, by omega, by go_num, NX.out, U.out.2⟩
            case measure => simp [intOf]; omega
          · obtain ⟨z, hz⟩ : ∃ z : Nat, 0 = z := ⟨_, rfl⟩
            have hVD : (z : Int) ≤ (T : Int) := by omega
            have e255 := and_255 z (by omega)
            rw [hP, hz] at c0
            simp only [if_true] at c0
            clear hz
            have HP := Lib.hid hP
            clear hP
            go_wp2_with fail
            refine (bmSet_ok mb mc W H (xo + i) (yo + j) _ _ U.out.1 (by omega) (by omega) (by omega) (by omega) _ _ (by omega) (by omega)).mono ?_
            rintro e w9 ⟨rfl, z1, z2⟩
            have Z := Lib.hid (And.intro (z1.congr (g := _root_.QR.thrF f P xo yo j (i + 1)) (fun x' y' _ _ => _root_.QR.thr_set hi8 HP.out x' y')) (U.out.2.trans z2))
            clear z1 z2
            go_wp2_with fail
            go_roundw
            case rel => exact ⟨i + 1, by omega, by go_num, Z.out.1, Z.out.2⟩
            case measure => simp [intOf]; omega
        · obtain rfl : i = 8 := by omega
          have U := Lib.hid (And.intro u1 u2)
          clear u1 u2
          go_wp2_with fail
          go_roundw
          case rel => exact ⟨j + 1, I + W, by omega, by go_num, by go_num, Lib.hid (by have e := HI.out; rw [e, ← Nat.add_assoc yo, Nat.add_mul _ 1, Nat.one_mul]; generalize (yo + j) * W = q; omega), U.out.1.congr (fun x' y' _ _ => _root_.QR.thr_row x' y'), U.out.2⟩
          case measure => simp [intOf]; omega
    · obtain rfl : j = 8 := by omega
      have TT := Lib.hid (And.intro t1 t2)
      clear t1 t2
      go_wp2_with fail
      go_end0
      exact ⟨rfl, TT.out.1.congr (fun x' y' _ _ => _root_.QR.thr_all x' y'), TT.out.2⟩

end Go.Proofs.YtplpafbkalkchaaGreatDoor

namespace Go.Proofs.YtplpafbkalkchaaGreatDoor
open Go.RowKit

def vv (V : Nat → Nat → Nat) : Nat → Nat → Value := fun x y => .int .i64 (V x y : Int)

theorem low_or (y my : Nat) : ∃ yo, yo = min (8 * y) my ∧ (((my : Int) < (y : Int) * 8 ∧ yo = my) ∨ (¬ (my : Int) < (y : Int) * 8 ∧ (y : Int) * 8 = (yo : Int))) := by
  refine ⟨_, rfl, ?_⟩
  omega

set_option maxRecDepth 100000 in
set_option maxHeartbeats 4000000 in
theorem thrAll_ok (hb : Option Addr) (mb mc d N k W H SW SH m L : Nat) (g : Nat → Nat) (V : Nat → Nat → Nat) (P : Nat → Nat → Bool) (w : World) (h : BM w mb mc W H (fun _ _ => false)) (hr : Row8 w d N (_root_.QR.grayF P W 0 L)) (hv : RowsK w m SW SH SH g (vv V) 157 3)
    (hV : ∀ x y, V x y < L) (hN : N = W * H) (hW1 : 40 ≤ W) (hH1 : 40 ≤ H) (hW : W ≤ 300) (hH : H ≤ 300) (hL2 : L < 256) (s1 : W ≤ 8 * SW) (s2 : 8 * SW ≤ W + 7) (s3 : H ≤ 8 * SH) (s4 : 8 * SH ≤ H + 7)
    (n1 : d ≠ mc) (n2 : m ≠ mc) (n3 : ∀ y, y < SH → g y ≠ mc) :
    Calls Tryz.prog 321 #[.pointer hb, .slice (some ⟨d, 0, none⟩) N k, .int .i64 (SW : Int), .int .i64 (SH : Int), .int .i64 (W : Int), .int .i64 (H : Int), .slice (some ⟨m, 0, none⟩) SH SH, .pointer (some ⟨mb, 0, none⟩)] w fun e w' =>
      e = .returned (.tuple #[]) ∧ BM w' mb mc W H P ∧ Keeps (fun i => i = mc) w w' := by
  have HB := Lib.hid h
  have HR := Lib.hid hr
  have HRV := Lib.hid hv
  have HN := Lib.hid hN
  have HV := Lib.hid hV
  have HNE := Lib.hid (And.intro n2 n3)
  obtain ⟨my, hmy⟩ : ∃ q, H - 8 = q := ⟨_, rfl⟩
  obtain ⟨mx, hmx⟩ : ∃ q, W - 8 = q := ⟨_, rfl⟩
  have hmyi : (H : Int) - 8 = (my : Int) := by omega
  have hmxi : (W : Int) - 8 = (mx : Int) := by omega
  obtain ⟨sh3, hsh3⟩ : ∃ q, SH - 3 = q := ⟨_, rfl⟩
  obtain ⟨sw3, hsw3⟩ : ∃ q, SW - 3 = q := ⟨_, rfl⟩
  have hsh3i : (SH : Int) - 3 = (sh3 : Int) := by omega
  have hsw3i : (SW : Int) - 3 = (sw3 : Int) := by omega
  have hb1 : sh3 ≤ 100 := by omega
  have hb2 : sw3 ≤ 100 := by omega
  have hb3 : my ≤ 300 := by omega
  have hb4 : mx ≤ 300 := by omega
  have hb5 : SH ≤ 100 := by omega
  have hb6 : SW ≤ 100 := by omega
  have BD := Lib.hid (And.intro hmy (And.intro hmx (And.intro hsh3 (And.intro hsw3 (And.intro s1 (And.intro s2 (And.intro s3 s4)))))))
  clear h hr hv hN hV n2 n3 hmy hmx hsh3 hsw3 s1 s2 s3 s4
  go_enter Tryz.func321, Tryz.ntmps321
  go_wp2_with fail
  go_loopw [18] (fun s18 wr => ∃ (y : Nat) (f : Nat → Nat → Bool), y ≤ SH ∧ s18 = .int .i64 (y : Int) ∧ BM wr mb mc W H f ∧ Hid (_root_.QR.Cov f P W H y 0) ∧ Keeps (fun i => i = mc) w wr) (fun s18 _ => SH - (intOf s18).toNat)
  case atStart => exact ⟨0, _, by omega, rfl, HB.out, Lib.hid (_root_.QR.Cov.start P W H), Keeps.refl _ _⟩
  case round =>
    obtain ⟨y, f, hy, rfl, t1, HC, t2⟩ := hrel
    have T := Lib.hid (And.intro t1 t2)
    clear t1 t2
    by_cases hyS : y < SH
    · have hy' : (y : Int) < (SH : Int) := by omega
      have hy50 : y ≤ 50 := by have := BD.out; omega
      obtain ⟨yo, hyo, hor⟩ := low_or y my
      have HYO := Lib.hid hyo
      have HOR := Lib.hid hor
      clear hyo hor
      go_upto_if 41 with fail
      go_cut [19] from 32 to 113 (fun s19 wx => s19 = .int .i64 (yo : Int) ∧ wr = wx)
      case first =>
        rcases HOR.out with ⟨hc', hq⟩ | ⟨hc', hq⟩
        · go_wp2_with fail
          go_meet
          exact ⟨by rw [hq], rfl⟩
        · go_wp2_with fail
          go_meet
          exact ⟨by simp only [hq], rfl⟩
      case rest =>
        obtain ⟨rfl, rfl⟩ := hcut
        go_wp2_with fail
        refine (cap_ok hb y sh3 (by have := BD.out; omega) (by omega) (by have := BD.out; omega) wr _ _ rfl rfl).mono ?_
        rintro e w1 ⟨⟨tt, rfl, ht1, ht2⟩, rfl⟩
        go_wp2_with fail
        go_loopw [21] (fun s21 wx => ∃ (x : Nat) (f : Nat → Nat → Bool), x ≤ SW ∧ s21 = .int .i64 (x : Int) ∧ BM wx mb mc W H f ∧ Hid (_root_.QR.Cov f P W H y x) ∧ Keeps (fun i => i = mc) w wx) (fun s21 _ => SW - (intOf s21).toNat)
        case atStart => exact ⟨0, f, by omega, rfl, T.out.1, HC, T.out.2⟩
        case round =>
          obtain ⟨x, f', hx, rfl, u1, HC', u2⟩ := hrel
          have U := Lib.hid (And.intro u1 u2)
          clear u1 u2
          by_cases hxS : x < SW
          · have hx' : (x : Int) < (SW : Int) := by omega
            have hx50 : x ≤ 50 := by have := BD.out; omega
            obtain ⟨xo, hxo, hor⟩ := low_or x mx
            have HXO := Lib.hid hxo
            have HOR := Lib.hid hor
            clear hxo hor
            go_upto_if 57 with fail
            go_cut [22] from 48 to 113 (fun s22 wx => s22 = .int .i64 (xo : Int) ∧ wr = wx)
            case first =>
              rcases HOR.out with ⟨hc', hq⟩ | ⟨hc', hq⟩
              · go_wp2_with fail
                go_meet
                exact ⟨by rw [hq], rfl⟩
              · go_wp2_with fail
                go_meet
                exact ⟨by simp only [hq], rfl⟩
            case rest =>
              obtain ⟨rfl, rfl⟩ := hcut
              go_wp2_with fail
              refine (cap_ok hb x sw3 (by have := BD.out; omega) (by omega) (by have := BD.out; omega) wr _ _ rfl rfl).mono ?_
              rintro e w1 ⟨⟨ll, rfl, hl1, hl2⟩, rfl⟩
              go_wp2_with fail
              generalize wr = wB at *
              go_loopw [24, 25] (fun s24 s25 wz => ∃ (z s : Nat), z ≤ 5 ∧ s25 = .int .i64 ((z : Int) - 2) ∧ s24 = .int .i64 (s : Int) ∧ Hid (s + 5 * z ≤ 5 * z * L) ∧ s ≤ 100000 ∧ Keeps (fun _ => False) wB wz) (fun _ s25 _ => (3 - intOf s25).toNat)
              case atStart => exact ⟨0, 0, by omega, by go_num, by go_num, Lib.hid (by omega), by omega, Keeps.refl _ _⟩
              case round =>
                obtain ⟨z, s, hz, rfl, rfl, HS, hs5, v1⟩ := hrel
                by_cases hz5 : z < 5
                · have hz' : (z : Int) - 2 ≤ 2 := by omega
                  obtain ⟨r, hr1, hr2⟩ : ∃ r : Nat, (tt : Int) + ((z : Int) - 2) = (r : Int) ∧ r < SH := ⟨tt + z - 2, by omega, by have := BD.out; omega⟩
                  obtain ⟨c1, c2, hc1, hc2, hc3, hc4⟩ : ∃ c1 c2 : Nat, (ll : Int) - 2 = (c1 : Int) ∧ (ll : Int) - 1 = (c2 : Int) ∧ c1 = ll - 2 ∧ c2 = ll - 1 := ⟨ll - 2, ll - 1, by omega, by omega, rfl, rfl⟩
                  have hll : ll + 2 < SW := by have := BD.out; omega
                  have hRV := HRV.out.keep (U.out.2.trans (v1.mono (fun _ _ f => f.elim))) HNE.out.1 HNE.out.2
                  have a0 := hRV.slot hr2 (Nat.le_refl _)
                  have a1 := hRV.dot (x := c1) (y := r) (by omega) hr2
                  have a2 := hRV.dot (x := c2) (y := r) (by omega) hr2
                  have a3 := hRV.dot (x := ll) (y := r) (by omega) hr2
                  have a4 := hRV.dot (x := ll + 1) (y := r) (by omega) hr2
                  have a5 := hRV.dot (x := ll + 2) (y := r) (by omega) hr2
                  have b1 := HV.out c1 r
                  have b2 := HV.out c2 r
                  have b3 := HV.out ll r
                  have b4 := HV.out (ll + 1) r
                  have b5 := HV.out (ll + 2) r
                  simp only [vv] at a1 a2 a3 a4 a5
                  generalize V c1 r = x1 at *
                  generalize V c2 r = x2 at *
                  generalize V ll r = x3 at *
                  generalize V (ll + 1) r = x4 at *
                  generalize V (ll + 2) r = x5 at *
                  have i1 : (c1 : Int) < (SW : Int) := by omega
                  have i2 : (c2 : Int) < (SW : Int) := by omega
                  have i3 : (ll : Int) < (SW : Int) := by omega
                  have i4 : (ll : Int) + 1 < (SW : Int) := by omega
                  have i5 : (ll : Int) + 2 < (SW : Int) := by omega
                  have NS := Lib.hid (show (s + (x1 + x2 + x3 + x4 + x5)) + 5 * (z + 1) ≤ 5 * (z + 1) * L by
                    have e : 5 * (z + 1) * L = 5 * z * L + 5 * L := by rw [Nat.mul_add, Nat.add_mul]
                    have := HS.out
                    generalize 5 * z * L = q at *
                    omega)
                  have NSB := Lib.hid (show s + (x1 + x2 + x3 + x4 + x5) ≤ 100000 by
                    have h1 := NS.out
                    have h2 := Nat.mul_le_mul (show 5 * (z + 1) ≤ 25 by omega) (show L ≤ 255 by omega)
                    omega)
                  have VK := Lib.hid v1
                  clear hRV v1 hc3 hc4
                  go_wp2_with fail
                  go_quiet (fail)
                  go_wp2_with fail
                  go_roundw
                  case rel => exact ⟨z + 1, s + (x1 + x2 + x3 + x4 + x5), by omega, by go_num, by go_num, NS, NSB.out, VK.out.drewN _⟩
                  case measure => simp [intOf]; omega
                · obtain rfl : z = 5 := by omega
                  obtain ⟨T0, hT0⟩ : ∃ T0, s / 25 = T0 := ⟨_, rfl⟩
                  have hT0i : (s : Int) / 25 = (T0 : Int) := by omega
                  have hTL : T0 < L := by have := HS.out; omega
                  have hT02 : T0 ≤ 100000 := by omega
                  have hxoW : xo + 8 ≤ W := by have := HXO.out; have := BD.out; omega
                  have hyoH : yo + 8 ≤ H := by have := HYO.out; have := BD.out; omega
                  have KB := Lib.hid (U.out.2.trans (v1.mono (S' := fun i => i = mc) (fun _ _ f => f.elim)))
                  have c323 := Lib.hid (thr_ok hb mb mc d N k W H xo yo L T0 f' P wr (U.out.1.keep v1 (fun h => h) (fun h => h)) (HR.out.keep KB.out n1) HN.out n1 hxoW hyoH hW hH hL2 hTL)
                  clear v1 hT0
                  go_wp2_with fail
                  refine c323.out.mono ?_
                  rintro e w9 ⟨rfl, z1, z2⟩
                  have Z := Lib.hid (And.intro z1 (KB.out.trans z2))
                  have CV := Lib.hid (HC'.out.step (by omega) (by omega) (show xo = min (8 * x) (W - 8) by have := HXO.out; have := BD.out; omega) (show yo = min (8 * y) (H - 8) by have := HYO.out; have := BD.out; omega))
                  clear z1 z2
                  go_wp2_with fail
                  go_roundw
                  case rel => exact ⟨x + 1, _, by omega, by go_num, Z.out.1, CV, Z.out.2⟩
                  case measure => simp [intOf]; omega
          · obtain rfl : x = SW := by omega
            go_wp2_with fail
            go_roundw
            case rel => exact ⟨y + 1, _, by omega, by go_num, U.out.1, Lib.hid (HC'.out.row (by have := BD.out; omega)), U.out.2⟩
            case measure => simp [intOf]; omega
    · obtain rfl : y = SH := by omega
      go_wp2_with fail
      go_end0
      exact ⟨rfl, T.out.1.congr (fun x' y' hx' hy' => HC.out.done (by have := BD.out; omega) hx' hy'), T.out.2⟩

end Go.Proofs.YtplpafbkalkchaaGreatDoor

namespace Go.Proofs.YtplpafbkalkchaaGreatDoor
open Go.RowKit

theorem lt_nat {a b : Nat} (h : a < b) : (a : Int) < (b : Int) := Int.ofNat_lt.2 h
theorem not_lt_nat {a b : Nat} (h : ¬ a < b) : ¬ (a : Int) < (b : Int) := fun e => h (Int.ofNat_lt.1 e)
theorem gray_le {P : Nat → Nat → Bool} {W L i p : Nat} (h : _root_.QR.grayF P W 0 L i = p) : p = 0 ∨ p = L := by
  rw [← h]; exact _root_.QR.grayF_or _ _ _ _ _
theorem part_bound {L n s mn mx : Nat} (h : _root_.QR.Part L n s mn mx) (hn : n ≤ 64) (hL : L < 256) : s ≤ 20000 ∧ mx ≤ 255 ∧ mn ≤ 255 := by
  have h1 := h.sum
  have h2 := Nat.mul_le_mul (show L ≤ 255 by omega) hn
  exact ⟨by omega, by have := h.most; omega, h.least⟩
theorem index_ok {W H N yo xo c I j : Nat} (hN : N = W * H) (hI : I = (yo + c) * W + xo) (hc : c < 8) (hj : j < 8) (hx : xo + 8 ≤ W) (hy : yo + 8 ≤ H) : I + j < N := by
  have := Nat.mul_le_mul_right W (show yo + c + 1 ≤ H by omega)
  rw [Nat.add_mul, Nat.one_mul, Nat.mul_comm H W, ← hN] at this
  rw [hI]; omega
theorem index_le {W yo xo c I : Nat} (hI : I = (yo + c) * W + xo) (hc : c ≤ 8) (hx : xo ≤ 300) (hy : yo ≤ 300) (hW : W ≤ 300) : I ≤ 100000 := by
  have := Nat.mul_le_mul (show yo + c ≤ 308 by omega) hW
  rw [hI]; omega
theorem index_next {W yo xo c I : Nat} (hI : I = (yo + c) * W + xo) : I + W = (yo + (c + 1)) * W + xo := by
  rw [hI, ← Nat.add_assoc yo, Nat.add_mul _ 1, Nat.one_mul]
  generalize (yo + c) * W = q
  omega
theorem val_255 (p : Nat) (hp : p < 256) : Value.int .i64 (wrap64 (bits .and .u8 (p : Int) 255)) = Value.int .i64 (p : Int) := by rw [and_255 p hp]
theorem Part0.congr {L n m s mn mx : Nat} (h : _root_.QR.Part L n s mn mx) (e : n = m) : _root_.QR.Part L m s mn mx := e ▸ h

/-- The loops of a code, in the text's order, the outer one first. -/
def loopsOf : Code → List Code
  | .loop c => .loop c :: loopsOf c
  | .seq a b => loopsOf a ++ loopsOf b
  | .block _ c => loopsOf c
  | .scope c => loopsOf c
  | .cond _ a b => loopsOf a ++ loopsOf b
  | _ => []
noncomputable def yyLoop : Code := (((Tryz.f320.body.map loopsOf).getD []).getD 2 .skip)

set_option maxRecDepth 1000000 in
set_option maxHeartbeats 8000000 in
theorem yy_ok (Q0 : Exit → Act → World → Prop) (d N k W H L yo xo I0 : Nat) (P : Nat → Nat → Bool) (wB : World) (c0 c2 c3 c5 c6 c7 c8 c9 c10 c11 c12 c13 c14 c15 c16 c17 c18 c19 c25 c26 c27 c28 c29 c30 c31 c32 c33 c34 c35 c36 c37 c38 c39 c40 c41 c42 c43 c44 c45 c46 c47 c48 c49 c50 c51 c52 c53 c54 c55 c56 c57 c58 c59 c60 c61 c62 c63 c64 c65 c66 c67 c68 c69 c70 c71 c72 c73 c74 c75 c76 c77 c78 c79 c80 c81 c82 c83 c84 c85 c86 c87 c88 c89 c90 c91 c92 c93 c94 c95 c96 c97 c98 c99 c100 c101 c102 c103 c104 c105 c106 c107 c108 c109 c110 c111 c112 c113 c114 c115 c116 c117 c118 c119 c120 c121 c122 c123 c124 c125 c126 c127 c128 c129 c130 c131 c132 c133 c134 c135 c136 c137 c138 c139 c140 c141 c142 c143 c144 c145 c146 c147 c148 c149 c150 c151 c152 c153 c154 c155 c156 c157 c158 c159 c160 c161 c162 c163 c164 c165 c166 c167 c168 c169 c170 c171 c172 c173 c174 c175 c176 c177 c178 c179 c180 c181 c182 : Value)
    (hr : Row8 wB d N (_root_.QR.grayF P W 0 L)) (hN : N = W * H) (hW : W ≤ 300) (hL1 : 128 ≤ L) (hL2 : L < 256) (hx : xo + 8 ≤ W) (hy : yo + 8 ≤ H) (hx3 : xo ≤ 300) (hy3 : yo ≤ 300) (hI0 : I0 = (yo + 0) * W + xo) (hI02 : I0 ≤ 100000)
    (hexit : ∀ (s mn mx : Nat) (u23 u24 u25 u26 u27 u68 u69 u70 u71 u72 u73 u74 u75 u76 u77 u78 u79 u80 u81 u82 u83 u84 u85 u86 u87 u88 u89 u90 u91 u92 u93 u94 u95 u96 u97 u98 u99 u100 u101 u102 u103 u104 u105 u106 u107 u108 u109 u110 u111 u112 u113 u114 u115 u116 u117 u118 u119 u120 u121 u122 u123 u124 u125 u126 u127 : Value), _root_.QR.Part L 64 s mn mx → Q0 (.exit 4) ⟨(List.toArray (c0 :: .slice (some ⟨d, 0, none⟩) N k :: c2 :: c3 :: .int .i64 (W : Int) :: c5 :: c6 :: c7 :: c8 :: c9 :: c10 :: c11 :: c12 :: c13 :: c14 :: c15 :: c16 :: c17 :: c18 :: c19 :: .int .i64 (s : Int) :: .int .i64 (mn : Int) :: .int .i64 (mx : Int) :: u23 :: u24 :: u25 :: u26 :: u27 :: c28 :: c29 :: c30 :: c31 :: c32 :: c33 :: c34 :: c35 :: c36 :: c37 :: c38 :: c39 :: c40 :: c41 :: c42 :: c43 :: c44 :: c45 :: c46 :: c47 :: c48 :: c49 :: c50 :: c51 :: c52 :: c53 :: c54 :: c55 :: c56 :: c57 :: c58 :: c59 :: c60 :: c61 :: c62 :: c63 :: c64 :: c65 :: c66 :: c67 :: u68 :: u69 :: u70 :: u71 :: u72 :: u73 :: u74 :: u75 :: u76 :: u77 :: u78 :: u79 :: u80 :: u81 :: u82 :: u83 :: u84 :: u85 :: u86 :: u87 :: u88 :: u89 :: u90 :: u91 :: u92 :: u93 :: u94 :: u95 :: u96 :: u97 :: u98 :: u99 :: u100 :: u101 :: u102 :: u103 :: u104 :: u105 :: u106 :: u107 :: u108 :: u109 :: u110 :: u111 :: u112 :: u113 :: u114 :: u115 :: u116 :: u117 :: u118 :: u119 :: u120 :: u121 :: u122 :: u123 :: u124 :: u125 :: u126 :: u127 :: c128 :: c129 :: c130 :: c131 :: c132 :: c133 :: c134 :: c135 :: c136 :: c137 :: c138 :: c139 :: c140 :: c141 :: c142 :: c143 :: c144 :: c145 :: c146 :: c147 :: c148 :: c149 :: c150 :: c151 :: c152 :: c153 :: c154 :: c155 :: c156 :: c157 :: c158 :: c159 :: c160 :: c161 :: c162 :: c163 :: c164 :: c165 :: c166 :: c167 :: c168 :: c169 :: c170 :: c171 :: c172 :: c173 :: c174 :: c175 :: c176 :: c177 :: c178 :: c179 :: c180 :: c181 :: c182 :: [])), []⟩ wB) :
    Code.wp Tryz.prog yyLoop Q0 ⟨(List.toArray (c0 :: .slice (some ⟨d, 0, none⟩) N k :: c2 :: c3 :: .int .i64 (W : Int) :: c5 :: c6 :: c7 :: c8 :: c9 :: c10 :: c11 :: c12 :: c13 :: c14 :: c15 :: c16 :: c17 :: c18 :: c19 :: .int .i64 0 :: .int .i64 255 :: .int .i64 0 :: .int .i64 0 :: .int .i64 (I0 : Int) :: c25 :: c26 :: c27 :: c28 :: c29 :: c30 :: c31 :: c32 :: c33 :: c34 :: c35 :: c36 :: c37 :: c38 :: c39 :: c40 :: c41 :: c42 :: c43 :: c44 :: c45 :: c46 :: c47 :: c48 :: c49 :: c50 :: c51 :: c52 :: c53 :: c54 :: c55 :: c56 :: c57 :: c58 :: c59 :: c60 :: c61 :: c62 :: c63 :: c64 :: c65 :: c66 :: c67 :: c68 :: c69 :: c70 :: c71 :: c72 :: c73 :: c74 :: c75 :: c76 :: c77 :: c78 :: c79 :: c80 :: c81 :: c82 :: c83 :: c84 :: c85 :: c86 :: c87 :: c88 :: c89 :: c90 :: c91 :: c92 :: c93 :: c94 :: c95 :: c96 :: c97 :: c98 :: c99 :: c100 :: c101 :: c102 :: c103 :: c104 :: c105 :: c106 :: c107 :: c108 :: c109 :: c110 :: c111 :: c112 :: c113 :: c114 :: c115 :: c116 :: c117 :: c118 :: c119 :: c120 :: c121 :: c122 :: c123 :: c124 :: c125 :: c126 :: c127 :: c128 :: c129 :: c130 :: c131 :: c132 :: c133 :: c134 :: c135 :: c136 :: c137 :: c138 :: c139 :: c140 :: c141 :: c142 :: c143 :: c144 :: c145 :: c146 :: c147 :: c148 :: c149 :: c150 :: c151 :: c152 :: c153 :: c154 :: c155 :: c156 :: c157 :: c158 :: c159 :: c160 :: c161 :: c162 :: c163 :: c164 :: c165 :: c166 :: c167 :: c168 :: c169 :: c170 :: c171 :: c172 :: c173 :: c174 :: c175 :: c176 :: c177 :: c178 :: c179 :: c180 :: c181 :: c182 :: [])), []⟩ wB := by
  have HRr := Lib.hid hr
  have HN := Lib.hid hN
  have DM := Lib.hid (And.intro hx hy)
  have HI0 := Lib.hid hI0
  have HE := Lib.hid hexit
  clear hr hN hx hy hI0 hexit
  conv => arg 2; whnf
  go_loopw [20, 21, 22, 23, 24] (fun s20 s21 s22 s23 s24 wz => ∃ s mn mx c I : Nat, c ≤ 9 ∧ s20 = .int .i64 (s : Int) ∧ s21 = .int .i64 (mn : Int) ∧ s22 = .int .i64 (mx : Int) ∧ s23 = .int .i64 (c : Int) ∧ s24 = .int .i64 (I : Int) ∧ I ≤ 200000 ∧ Hid (_root_.QR.Part L (min 64 (8 * c)) s mn mx) ∧ Hid (c < 8 → I = (yo + c) * W + xo) ∧ wz = wB) (fun _ _ _ s23 _ _ => 9 - (intOf s23).toNat)
  case atStart => exact ⟨0, 255, 0, 0, I0, by omega, rfl, rfl, rfl, rfl, rfl, by omega, Lib.hid (_root_.QR.Part.zero L (by omega)), Lib.hid (fun _ => HI0.out), rfl⟩
  case round =>
    obtain ⟨s, mn, mx, c, I, hc9, rfl, rfl, rfl, rfl, rfl, hI2, HP, HI, rfl⟩ := hrel
    obtain ⟨pb1, pb2, pb3⟩ := part_bound HP.out (Nat.min_le_left _ _) hL2
    by_cases hc8 : c < 8
    · have hc' : (c : Int) < 8 := by omega
      have HP8 : Hid (_root_.QR.Part L (8 * c) s mn mx) := Lib.hid (Part0.congr HP.out (by omega))
      have HIc := Lib.hid (HI.out hc8)
      have HC8 := Lib.hid hc8
      clear HP HI
      go_wp2_with fail
      go_loopw [20, 21, 22, 25] (fun s20 s21 s22 s25 wz => ∃ j s mn mx : Nat, j ≤ 8 ∧ s25 = .int .i64 (j : Int) ∧ s20 = .int .i64 (s : Int) ∧ s21 = .int .i64 (mn : Int) ∧ s22 = .int .i64 (mx : Int) ∧ Hid (_root_.QR.Part L (8 * c + j) s mn mx) ∧ wz = wr) (fun _ _ _ s25 _ => 8 - (intOf s25).toNat)
      case atStart => exact ⟨0, s, mn, mx, by omega, rfl, rfl, rfl, rfl, HP8, rfl⟩
      case round =>
        obtain ⟨j, s, mn, mx, hj, rfl, rfl, rfl, rfl, HQ, rfl⟩ := hrel
        obtain ⟨pb1, pb2, pb3⟩ := part_bound HQ.out (by have := HC8.out; omega) hL2
        by_cases hj8 : j < 8
        · have hj' : (j : Int) < 8 := by omega
          have hlN := index_ok HN.out HIc.out HC8.out hj8 DM.out.1 DM.out.2
          have hlN' : (I : Int) + (j : Int) < (N : Int) := by omega
          have c0 := HRr.out.cell (I + j) hlN
          obtain ⟨p, hp⟩ : ∃ p, _root_.QR.grayF P W 0 L (I + j) = p := ⟨_, rfl⟩
          have hpo := gray_le hp
          have hp256 : p < 256 := by omega
          rw [hp] at c0
          have NP := Lib.hid (fun mn' mx' h1 h2 => HQ.out.step (p := p) hpo mn' mx' h1 h2)
          clear hp hlN hpo
          have e255 := val_255 p hp256
          by_cases g1 : p < mn
          · have g1' := lt_nat g1
            by_cases g2 : mx < p
            · have g2' := lt_nat g2
              have NQ := Lib.hid (NP.out p p (by rw [if_pos g1]) (by rw [if_pos g2]))
              clear NP HQ
              go_wp2_with fail
              go_roundw
              case rel => exact ⟨j + 1, s + p, p, p, by omega, by go_num, by go_num, by first | rfl | rw [e255], by first | rfl | rw [e255], Lib.hid (Part0.congr NQ.out (Nat.add_assoc _ _ _)), by simp⟩
              case measure => simp [intOf]; omega
            · have g2' := not_lt_nat g2
              have NQ := Lib.hid (NP.out p mx (by rw [if_pos g1]) (by rw [if_neg g2]))
              clear NP HQ
              go_wp2_with fail
              go_roundw
              case rel => exact ⟨j + 1, s + p, p, mx, by omega, by go_num, by go_num, by first | rfl | rw [e255], rfl, Lib.hid (Part0.congr NQ.out (Nat.add_assoc _ _ _)), by simp⟩
              case measure => simp [intOf]; omega
          · have g1' := not_lt_nat g1
            by_cases g2 : mx < p
            · have g2' := lt_nat g2
              have NQ := Lib.hid (NP.out mn p (by rw [if_neg g1]) (by rw [if_pos g2]))
              clear NP HQ
              go_wp2_with fail
              go_roundw
              case rel => exact ⟨j + 1, s + p, mn, p, by omega, by go_num, by go_num, rfl, by first | rfl | rw [e255], Lib.hid (Part0.congr NQ.out (Nat.add_assoc _ _ _)), by simp⟩
              case measure => simp [intOf]; omega
            · have g2' := not_lt_nat g2
              have NQ := Lib.hid (NP.out mn mx (by rw [if_neg g1]) (by rw [if_neg g2]))
              clear NP HQ
              go_wp2_with fail
              go_roundw
              case rel => exact ⟨j + 1, s + p, mn, mx, by omega, by go_num, by go_num, rfl, rfl, Lib.hid (Part0.congr NQ.out (Nat.add_assoc _ _ _)), by simp⟩
              case measure => simp [intOf]; omega
        · obtain rfl : j = 8 := by omega
          have HIn := Lib.hid (index_next HIc.out)
          by_cases hg : 24 < (mx : Int) - (mn : Int)
          · have hmnL : mn < L := by have := HQ.out.most; omega
            have HML := Lib.hid hmnL
            clear hmnL
            go_wp2_with fail
            go_loopw [20, 23, 24] (fun s20 s23 s24 wz => ∃ c' s I' : Nat, c' ≤ 8 ∧ s23 = .int .i64 (c' : Int) ∧ s20 = .int .i64 (s : Int) ∧ s24 = .int .i64 (I' : Int) ∧ I' ≤ 110000 ∧ Hid (_root_.QR.Part L (8 * c') s mn mx) ∧ Hid (I' = (yo + c') * W + xo) ∧ wz = wr) (fun _ s23 _ _ => 8 - (intOf s23).toNat)
            case atStart => exact ⟨c + 1, s, I + W, by have := HC8.out; omega, by go_num, rfl, by go_num, by have := index_le HIc.out (by have := HC8.out; omega) hx3 hy3 hW; omega, Lib.hid (Part0.congr HQ.out (by omega)), HIn, rfl⟩
            case round =>
              obtain ⟨c', s, I', hc8', rfl, rfl, rfl, hI', HQ', HI', rfl⟩ := hrel
              obtain ⟨pb1, pb2, pb3⟩ := part_bound HQ'.out (by omega) hL2
              by_cases hcc : c' < 8
              · have hcc' : (c' : Int) < 8 := by omega
                have HCC := Lib.hid hcc
                go_wp2_with fail
                go_loopw [20, 27] (fun s20 s27 wz => ∃ j s : Nat, j ≤ 8 ∧ s27 = .int .i64 (j : Int) ∧ s20 = .int .i64 (s : Int) ∧ Hid (_root_.QR.Part L (8 * c' + j) s mn mx) ∧ wz = wr) (fun _ s27 _ => 8 - (intOf s27).toNat)
                case atStart => exact ⟨0, s, by omega, rfl, rfl, HQ', rfl⟩
                case round =>
                  obtain ⟨j, s, hj, rfl, rfl, HQ2, rfl⟩ := hrel
                  obtain ⟨pb1, pb2, pb3⟩ := part_bound HQ2.out (by have := HCC.out; omega) hL2
                  by_cases hj8 : j < 8
                  · have hj' : (j : Int) < 8 := by omega
                    have hlN := index_ok HN.out HI'.out HCC.out hj8 DM.out.1 DM.out.2
                    have hlN' : (I' : Int) + (j : Int) < (N : Int) := by omega
                    have c0 := HRr.out.cell (I' + j) hlN
                    obtain ⟨p, hp⟩ : ∃ p, _root_.QR.grayF P W 0 L (I' + j) = p := ⟨_, rfl⟩
                    have hpo := gray_le hp
                    have hp256 : p < 256 := by omega
                    rw [hp] at c0
                    have NQ := Lib.hid (HQ2.out.more (p := p) hpo HML.out)
                    clear hp hlN hpo HQ2
                    have e255 := val_255 p hp256
                    go_wp2_with fail
                    go_roundw
                    case rel => exact ⟨j + 1, s + p, by omega, by go_num, by go_num, Lib.hid (Part0.congr NQ.out (Nat.add_assoc _ _ _)), by simp⟩
                    case measure => simp [intOf]; omega
                  · obtain rfl : j = 8 := by omega
                    go_wp2_with fail
                    go_roundw
                    case rel => exact ⟨c' + 1, s, I' + W, by have := HCC.out; omega, by go_num, rfl, by go_num, by have := index_le HI'.out (by have := HCC.out; omega) hx3 hy3 hW; omega, Lib.hid (Part0.congr HQ2.out (by omega)), Lib.hid (index_next HI'.out), by simp⟩
                    case measure => simp [intOf]; omega
              · obtain rfl : c' = 8 := by omega
                go_wp2_with fail
                go_roundw
                case rel => exact ⟨s, mn, mx, 9, I' + W, by omega, rfl, rfl, rfl, by go_num, by go_num, by omega, Lib.hid (Part0.congr HQ'.out (by omega)), Lib.hid (fun h => by omega), by simp⟩
                case measure => simp [intOf]; have := HC8.out; omega
          · go_wp2_with fail
            go_roundw
            case rel => exact ⟨s, mn, mx, c + 1, I + W, by have := HC8.out; omega, rfl, rfl, rfl, by go_num, by go_num, by have := index_le HIc.out (by have := HC8.out; omega) hx3 hy3 hW; omega, Lib.hid (Part0.congr HQ.out (by have := HC8.out; omega)), Lib.hid (fun _ => HIn.out), by simp⟩
            case measure => simp [intOf]; have := HC8.out; omega
    · have HP64 : Hid (_root_.QR.Part L 64 s mn mx) := Lib.hid (Part0.congr HP.out (by omega))
      have hc' : ¬ (c : Int) < 8 := by omega
      clear HP HI
      go_wp2_with fail
      exact HE.out s mn mx _ _ _ _ _ _ _ _ _ _ _ _ _ _ _ _ _ _ _ _ _ _ _ _ _ _ _ _ _ _ _ _ _ _ _ _ _ _ _ _ _ _ _ _ _ _ _ _ _ _ _ _ _ _ _ _ _ _ _ _ _ _ _ _ _ HP64.out

end Go.Proofs.YtplpafbkalkchaaGreatDoor
