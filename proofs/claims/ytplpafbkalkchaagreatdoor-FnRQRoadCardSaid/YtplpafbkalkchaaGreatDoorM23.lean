/-
  Parts of the proof (GH5).
-/
import Derived.Test.YtplpafbkalkchaaGreatDoorM21
import Derived.Test.YtplpafbkalkchaaGreatDoorM22
import Derived.Deep.CutRange
set_option linter.unusedSimpArgs false
set_option linter.unusedVariables false

namespace Go.Proofs.YtplpafbkalkchaaGreatDoor
open Go.RowKit

theorem Made.drewN {w wr : World} {m n k : Nat} {g : Nat → Nat} {F : Nat → Nat → Value} {t u : TypeId} {W : Nat} (h : Made w wr m n k g F t u W) (q : Nat) : Made w (wr.drewN q) m n k g F t u W :=
  ⟨⟨h.rows.top.drewN q, fun y hy => (h.rows.row y hy).drewN q⟩, h.new, h.gnew, h.inj, h.keep.drewN q⟩
theorem info259 : (Tryz.prog.info? 157).map (fun i => (i.zero, i.size, i.bytes)) = some (some (.slice none 0 0), 1, 24) := by kernel_rfl
set_option maxRecDepth 100000 in
set_option maxHeartbeats 8000000 in
theorem points_ok (hb : Option Addr) (d N k W H SW SH L : Nat) (P : Nat → Nat → Bool) (w : World) (hr : Row8 w d N (_root_.QR.grayF P W 0 L))
    (hN : N = W * H) (hW1 : 40 ≤ W) (hH1 : 40 ≤ H) (hW : W ≤ 300) (hH : H ≤ 300) (hL1 : 128 ≤ L) (hL2 : L < 256) (s1 : W ≤ 8 * SW) (s2 : 8 * SW ≤ W + 7) (s3 : H ≤ 8 * SH) (s4 : 8 * SH ≤ H + 7) :
    Calls Tryz.prog 320 #[.pointer hb, .slice (some ⟨d, 0, none⟩) N k, .int .i64 (SW : Int), .int .i64 (SH : Int), .int .i64 (W : Int), .int .i64 (H : Int)] w fun e w' => ∃ (m : Nat) (g : Nat → Nat) (V : Nat → Nat → Nat),
      e = .returned (.slice (some ⟨m, 0, none⟩) SH SH) ∧ Made w w' m SH SH g (vv V) 157 3 SW ∧ ∀ x y, V x y < L := by
  have hmk := make_rep (P := Tryz.prog) 259 157 (.slice none 0 0) 24 Tryz.underlying259 info259 rfl SH (by omega) (by omega) w
  have hmk2 := fun w => make_rep (P := Tryz.prog) 157 3 (.int .i64 0) 8 Tryz.underlying157 info3 rfl SW (by omega) (by omega) w
  have h0 : Made w (w.alloc (.cells (rep SH (.slice none 0 0)).toArray 157)) w.heap.size SH 0 (fun _ => 0) (vv (fun _ _ => 0)) 157 3 SW :=
    ⟨⟨(FB.new w SH _ 157).congr (fun _ _ => by simp), fun y hy => by omega⟩, Nat.le_refl _, fun y hy => by omega, fun y y' hy => by omega, (Keeps.refl _ w).alloc _⟩
  have H0 := Lib.hid h0
  have HM := Lib.hid hmk2
  have HR := Lib.hid hr
  have HN := Lib.hid hN
  obtain ⟨my, hmy⟩ : ∃ q, H - 8 = q := ⟨_, rfl⟩
  obtain ⟨mx0, hmx⟩ : ∃ q, W - 8 = q := ⟨_, rfl⟩
  have hmyi : (H : Int) - 8 = (my : Int) := by omega
  have hmxi : (W : Int) - 8 = (mx0 : Int) := by omega
  have hb3 : my ≤ 300 := by omega
  have hb4 : mx0 ≤ 300 := by omega
  have hb5 : SH ≤ 100 := by omega
  have hb6 : SW ≤ 100 := by omega
  have BD := Lib.hid (And.intro hmy (And.intro hmx (And.intro s1 (And.intro s2 (And.intro s3 s4)))))
  clear hr hN hmy hmx s1 s2 s3 s4 h0 hmk2
  generalize hC : w.heap.size = C at *
  have HC := Lib.hid hC
  clear hC
  go_enter Tryz.func320, Tryz.ntmps320
  go_wp2_with fail
  clear hmk
  go_loopw [16] (fun s16 wr => ∃ (y : Nat) (g : Nat → Nat) (V : Nat → Nat → Nat), y ≤ SH ∧ s16 = .int .i64 (y : Int) ∧ Made w wr C SH y g (vv V) 157 3 SW ∧ Hid (∀ x y, V x y < L)) (fun s16 _ => SH - (intOf s16).toNat)
  case atStart => exact ⟨0, _, _, by omega, rfl, H0.out, Lib.hid (fun _ _ => by omega)⟩
  case round =>
    obtain ⟨y, g, V, hy, rfl, r1, HV⟩ := hrel
    have R1 := Lib.hid r1
    by_cases hyS : y < SH
    · have hmk2 := HM.out wr
      have hf := r1.rows.top.free y
      have hc : wr.cell? ⟨C, y, none⟩ = some (.slice none 0 0) := r1.rows.top.cellv hyS (by simp)
      have hy' := Int.ofNat_lt.2 hyS
      have hlm := r1.ltm
      have hz := (r1.congr (G := vv (fun x' y' => if y' < y then V x' y' else 0)) (fun x' y' _ hy' => by unfold vv; simp only [if_pos hy'])).next (.int .i64 0) (fun x' => by unfold vv; simp only [if_neg (Nat.lt_irrefl y)]; rfl)
      have HV2 : Hid (∀ x' y', (if y' < y then V x' y' else 0) < L) := Lib.hid (fun x' y' => by
        split
        · exact HV.out x' y'
        · omega)
      obtain ⟨gk, hgk⟩ : ∃ q, wr.heap.size = q := ⟨_, rfl⟩
      rw [hgk] at hz hmk2
      have HZ := Lib.hid hz
      have hnk : (fun y' => if y' = y then gk else g y') y = gk := by simp
      clear r1 hz hgk
      obtain ⟨yo, hyo, hor⟩ := low_or y my
      have HYO := Lib.hid hyo
      have HOR := Lib.hid hor
      clear hyo hor
      go_upto_if 50 with fail
      go_cut [17] from 36 to 181 (fun s17 wx => s17 = .int .i64 (yo : Int) ∧ wx = (wr.setCell ⟨C, y, none⟩ (.slice (some ⟨gk, 0, none⟩) SW SW)).alloc (.cells (rep SW (.int .i64 0)).toArray 3))
      case first =>
        rcases HOR.out with ⟨hc', hq⟩ | ⟨hc', hq⟩
        · go_wp2_with fail
          go_meet
          exact ⟨by rw [hq], rfl⟩
        · go_wp2_with fail
          go_meet
          exact ⟨by simp only [hq], rfl⟩
      case rest =>
        obtain ⟨rfl, hwc⟩ := hcut
        have HZ2 : Hid (Made w wc C SH (y + 1) (fun y' => if y' = y then gk else g y') (vv (fun x' y' => if y' < y then V x' y' else 0)) 157 3 SW) := Lib.hid (by rw [hwc]; exact HZ.out)
        clear hwc hmk2 hf hc hlm HZ
        go_wp2_with fail
        go_loopw [18] (fun s18 wx => ∃ (x : Nat) (V' : Nat → Nat → Nat), x ≤ SW ∧ s18 = .int .i64 (x : Int) ∧ Made w wx C SH (y + 1) (fun y' => if y' = y then gk else g y') (vv V') 157 3 SW ∧ Hid (∀ x y, V' x y < L)) (fun s18 _ => SW - (intOf s18).toNat)
        case atStart => exact ⟨0, _, by omega, rfl, HZ2.out, HV2⟩
        case round =>
          obtain ⟨x, V', hx, rfl, q1, HV'⟩ := hrel
          have Q1 := Lib.hid q1
          clear q1
          by_cases hxS : x < SW
          · have hx' : (x : Int) < (SW : Int) := lt_nat hxS
            obtain ⟨xo, hxo, hor⟩ := low_or x mx0
            have HXO := Lib.hid hxo
            have HOR2 := Lib.hid hor
            clear hxo hor
            go_upto_if 61 with fail
            go_cut [19] from 52 to 181 (fun s19 wx => s19 = .int .i64 (xo : Int) ∧ wr = wx)
            case first =>
              rcases HOR2.out with ⟨hc', hq⟩ | ⟨hc', hq⟩
              · go_wp2_with fail
                go_meet
                exact ⟨by rw [hq], rfl⟩
              · go_wp2_with fail
                go_meet
                exact ⟨by simp only [hq], rfl⟩
            case rest =>
              obtain ⟨rfl, rfl⟩ := hcut
              have hxoW : xo + 8 ≤ W := by have := HXO.out; have := BD.out; omega
              have hyoH : yo + 8 ≤ H := by have := HYO.out; have := BD.out; omega
              obtain ⟨o0, ho0⟩ : ∃ q, yo * W = q := ⟨_, rfl⟩
              have ho0i : (yo : Int) * (W : Int) = (o0 : Int) := by rw [← ho0]; push_cast; rfl
              have ho02 : o0 ≤ 90000 := by rw [← ho0]; exact Nat.mul_le_mul (show yo ≤ 300 by omega) hW
              obtain ⟨I0, hI0⟩ : ∃ q, o0 + xo = q := ⟨_, rfl⟩
              have hI0i : (o0 : Int) + (xo : Int) = (I0 : Int) := by omega
              have hI02 : I0 ≤ 90300 := by omega
              have HI0 := Lib.hid (show I0 = (yo + 0) * W + xo by rw [← hI0, Nat.add_zero, ho0])
              have DM := Lib.hid (And.intro hxoW hyoH)
              have hx3 : xo ≤ 300 := by omega
              have hy3 : yo ≤ 300 := by omega
              have HRr := Lib.hid (HR.out.keep Q1.out.keep (fun h => h))
              clear ho0 hxoW hyoH hI0
              go_wp2_with fail
              refine yy_ok _ d N k W H L yo xo I0 P wr _ _ _ _ _ _ _ _ _ _ _ _ _ _ _ _ _ _ _ _ _ _ _ _ _ _ _ _ _ _ _ _ _ _ _ _ _ _ _ _ _ _ _ _ _ _ _ _ _ _ _ _ _ _ _ _ _ _ _ _ _ _ _ _ _ _ _ _ _ _ _ _ _ _ _ _ _ _ _ _ _ _ _ _ _ _ _ _ _ _ _ _ _ _ _ _ _ _ _ _ _ _ _ _ _ _ _ _ _ _ _ _ _ _ _ _ _ _ _ _ _ _ _ _ _ _ _ _ _ _ _ _ _ _ _ _ _ _ _ _ _ _ _ _ _ _ _ _ _ _ _ _ _ _ _ _ _ _ _ _ _ _ _ _ _ _ _ _ _ _ _ _ _ _ _ _ HRr.out HN.out hW hL1 hL2 DM.out.1 DM.out.2 hx3 hy3 HI0.out (by omega) ?_
              intro s mn mx u23 u24 u25 u26 u27 u68 u69 u70 u71 u72 u73 u74 u75 u76 u77 u78 u79 u80 u81 u82 u83 u84 u85 u86 u87 u88 u89 u90 u91 u92 u93 u94 u95 u96 u97 u98 u99 u100 u101 u102 u103 u104 u105 u106 u107 u108 u109 u110 u111 u112 u113 u114 u115 u116 u117 u118 u119 u120 u121 u122 u123 u124 u125 u126 u127 hpp
              have HP64 := Lib.hid hpp
              obtain ⟨pb1, pb2, pb3⟩ := part_bound hpp (Nat.le_refl _) hL2
              clear hpp
              obtain ⟨A0, hA0⟩ : ∃ q, s / 64 = q := ⟨_, rfl⟩
              have hA0i : (s : Int) / 64 = (A0 : Int) := by rw [← hA0]; push_cast; rfl
              obtain ⟨A1, hA1⟩ : ∃ q, mn / 2 = q := ⟨_, rfl⟩
              have hA1i : (mn : Int) / 2 = (A1 : Int) := by rw [← hA1]; push_cast; rfl
              have HA := Lib.hid (And.intro hA0 hA1)
              have hA1L := Lib.hid (show A1 < L by rw [← hA1]; exact HP64.out.half hL1)
              clear hA0 hA1
              go_upto_if 133 with fail
              go_cut [28, 29] from 52 to 181 (fun s28 s29 wx => (∃ A : Nat, s28 = .int .i64 (A : Int) ∧ A < L) ∧ ∃ q, wx = wr.drewN q)
              case first =>
                by_cases hg : (mx : Int) - (mn : Int) ≤ 24
                · by_cases hyz : 0 < y
                  · have hyz' : (0 : Int) < (y : Int) := lt_nat hyz
                    by_cases hxz : 0 < x
                    · have hxz' : (0 : Int) < (x : Int) := lt_nat hxz
                      obtain ⟨y1, hy1, hy1i⟩ : ∃ q, y - 1 = q ∧ (y : Int) - 1 = (q : Int) := ⟨_, rfl, by omega⟩
                      obtain ⟨x1, hx1, hx1i⟩ : ∃ q, x - 1 = q ∧ (x : Int) - 1 = (q : Int) := ⟨_, rfl, by omega⟩
                      have hyne : y1 ≠ y := by omega
                      have k1 := Q1.out.rows.slot (y := y1) (by omega) (by omega)
                      have k2 := Q1.out.rows.slot (y := y) (by omega) (by omega)
                      have k3 := Q1.out.rows.dot (x := x) (y := y1) (by omega) (by omega)
                      have k4 := Q1.out.rows.dot (x := x1) (y := y) (by omega) (by omega)
                      have k5 := Q1.out.rows.dot (x := x1) (y := y1) (by omega) (by omega)
                      simp only [vv, if_neg hyne, if_true] at k1 k2 k3 k4 k5
                      have b1 := HV'.out x y1
                      have b2 := HV'.out x1 y
                      have b3 := HV'.out x1 y1
                      obtain ⟨v1, hv1⟩ : ∃ v, V' x y1 = v := ⟨_, rfl⟩
                      obtain ⟨v2, hv2⟩ : ∃ v, V' x1 y = v := ⟨_, rfl⟩
                      obtain ⟨v3, hv3⟩ : ∃ v, V' x1 y1 = v := ⟨_, rfl⟩
                      rw [hv1] at k3 b1
                      rw [hv2] at k4 b2
                      rw [hv3] at k5 b3
                      obtain ⟨A2, hA2, hA2L⟩ : ∃ q : Nat, ((v1 : Int) + 2 * (v2 : Int) + (v3 : Int)) / 4 = (q : Int) ∧ q < L := ⟨(v1 + 2 * v2 + v3) / 4, by omega, by omega⟩
                      have i1 : (y1 : Int) < (SH : Int) := by omega
                      have i2 : (x1 : Int) < (SW : Int) := by omega
                      clear hv1 hv2 hv3 hy1 hx1 hyne
                      by_cases hm : mn < A2
                      · have hm' := lt_nat hm
                        go_wp2_with fail
                        go_quiet (fail)
                        go_wp2_with fail
                        go_meet
                        exact ⟨⟨A2, by rw [hA2], hA2L⟩, _, rfl⟩
                      · have hm' := not_lt_nat hm
                        go_wp2_with fail
                        go_quiet (fail)
                        go_wp2_with fail
                        go_meet
                        exact ⟨⟨A1, rfl, hA1L.out⟩, _, rfl⟩
                    · have hxz' := not_lt_nat hxz
                      go_wp2_with fail
                      go_meet
                      exact ⟨⟨A1, rfl, hA1L.out⟩, 0, rfl⟩
                  · have hyz' := not_lt_nat hyz
                    go_wp2_with fail
                    go_meet
                    exact ⟨⟨A1, rfl, hA1L.out⟩, 0, rfl⟩
                · have hA0L : A0 < L := by rw [← HA.out.1]; exact HP64.out.average (by omega)
                  go_wp2_with fail
                  go_meet
                  exact ⟨⟨A0, rfl, hA0L⟩, 0, rfl⟩
              case rest =>
                obtain ⟨⟨A, rfl, hAL⟩, q, rfl⟩ := hcut
                have Q2 := Lib.hid (Q1.out.drewN q)
                have k2 := Q2.out.rows.slot (y := y) (by omega) (by omega)
                have k3 := (Q2.out.rows.row y (by omega)).free x
                have k4 := Q2.out.rows.dot (x := x) (y := y) hxS (by omega)
                simp only [vv, if_true] at k2 k3 k4
                have N2 := Q2.out.dot (x := x) (y := y) (by omega) (.int .i64 (A : Int))
                simp only [if_true] at N2
                have N3 := Lib.hid (N2.congr (G := vv (fun x' y' => if x' = x ∧ y' = y then A else V' x' y')) (fun x' y' _ _ => by
                  unfold vv
                  by_cases e : x' = x ∧ y' = y
                  · simp only [if_pos e]
                  · simp only [if_neg e]))
                have NV : Hid (∀ x' y', (if x' = x ∧ y' = y then A else V' x' y') < L) := Lib.hid (fun x' y' => by
                  split
                  · exact hAL
                  · exact HV'.out x' y')
                have NVV : Hid (∀ x' y', (fun x' y' => if x' = x ∧ y' = y then A else V' x' y') x' y' < L) := NV
                clear N2
                go_wp2_with fail
                go_roundw
                case rel => exact ⟨x + 1, fun x' y' => if x' = x ∧ y' = y then A else V' x' y', by omega, by go_num, N3.out, NVV⟩
                case measure => simp [intOf]; omega
          · obtain rfl : x = SW := by omega
            go_wp2_with fail
            go_roundw
            case rel => exact ⟨y + 1, _, V', by omega, by go_num, Q1.out, HV'⟩
            case measure => simp [intOf]; omega
    · obtain rfl : y = SH := by omega
      clear r1
      go_wp2_with fail
      go_ret
      exact ⟨C, g, V, rfl, R1.out, HV.out⟩

end Go.Proofs.YtplpafbkalkchaaGreatDoor
