/-
  Parts of the proof (GB3).
-/
import Derived.Test.YtplpafbkalkchaaGreatDoorM06
import Derived.Test.YtplpafbkalkchaaGreatDoorM10
import Derived.Test.YtplpafbkalkchaaGreatDoorM16
import Derived.Test.YtplpafbkalkchaaGreatDoorM17
import Derived.Test.YtplpafbkalkchaaGreatDoorM19
set_option linter.unusedSimpArgs false
set_option linter.unusedVariables false

namespace Go.Proofs.YtplpafbkalkchaaGreatDoor
open Go.RowKit

theorem mW (sb : Nat) (w : World) : (method 524 228 (.pointer (some ⟨sb, 0, none⟩)) "GetWidth").run Tryz.prog w = .ok (331, .pointer (some ⟨sb, 0, none⟩)) w := by kernel_rfl
theorem mH (sb : Nat) (w : World) : (method 524 228 (.pointer (some ⟨sb, 0, none⟩)) "GetHeight").run Tryz.prog w = .ok (328, .pointer (some ⟨sb, 0, none⟩)) w := by kernel_rfl
theorem mR (sb : Nat) (w : World) : (method 524 228 (.pointer (some ⟨sb, 0, none⟩)) "GetRow").run Tryz.prog w = .ok (330, .pointer (some ⟨sb, 0, none⟩)) w := by kernel_rfl
theorem mM (sb : Nat) (w : World) : (method 524 228 (.pointer (some ⟨sb, 0, none⟩)) "GetMatrix").run Tryz.prog w = .ok (329, .pointer (some ⟨sb, 0, none⟩)) w := by kernel_rfl
theorem mB (gb : Nat) (w : World) : (method 524 156 (.pointer (some ⟨gb, 0, none⟩)) "GetBlackMatrix").run Tryz.prog w = .ok (311, .pointer (some ⟨gb, 0, none⟩)) w := by kernel_rfl
theorem mHy (gb : Nat) (w : World) : (method 524 160 (.pointer (some ⟨gb, 0, none⟩)) "GetBlackMatrix").run Tryz.prog w = .ok (319, .pointer (some ⟨gb, 0, none⟩)) w := by kernel_rfl
theorem nR (sb : Nat) (w : World) : (nilAhead 524 228 (.pointer (some ⟨sb, 0, none⟩)) "GetRow").run Tryz.prog w = .ok (some false) w := by kernel_rfl
theorem and255 (x : Nat) (hx : x < 256) : bits .and .u8 (x : Int) 255 = (x : Int) := by
  have := (bits_nat .u8 8 (by decide) wraps_u8' x 255 hx (by omega)).1
  rw [Nat.and_two_pow_sub_one_eq_mod x 8, Nat.mod_eq_of_lt hx] at this
  rw [show (255 : Int) = ((255 : Nat) : Int) from rfl, this]

def vB (B : Nat → Nat) : Nat → Value := fun k => .int .i64 (B k : Int)
theorem bump_set {w : World} {bk : Nat} {B : Nat → Nat} (h : FB w bk 32 (vB B) 3) (k : Nat) : FB (w.setCell ⟨bk, k, none⟩ (.int .i64 ((B k : Int) + 1))) bk 32 (vB (_root_.QR.bump B k)) 3 :=
  h.set k _ (fun j _ => by
    unfold vB _root_.QR.bump
    by_cases e : j = k
    · subst e; simp
    · simp [e])

set_option maxRecDepth 100000 in
set_option maxHeartbeats 4000000 in
theorem global_ok (gb sb bk lo d W H N k D L lt : Nat) (P : Nat → Nat → Bool) (w : World) (h : GBin w gb sb bk lo 0 (fun _ => .int .i64 0)) (hs : GSrc w sb d W H N k (_root_.QR.grayF P W D L)) (hN : N = W * H) (hk : N ≤ k)
    (n1 : gb ≠ bk) (n2 : sb ≠ gb) (n3 : sb ≠ bk) (n4 : d ≠ gb) (n5 : d ≠ bk) (hW1 : 21 ≤ W) (hH1 : 21 ≤ H) (hW : W ≤ 300) (hH : H ≤ 300) (hDL : 3 * D ≤ L) (hL1 : 128 ≤ L) (hL2 : L < 256) (hlt : W < 5 * lt) (hleft : ∀ x y, x < lt → P x y = false) :
    Calls Tryz.prog 311 #[.pointer (some ⟨gb, 0, none⟩)] w fun e w' => ∃ mb mc, e = .returned (.tuple #[.pointer (some ⟨mb, 0, none⟩), .nilIface]) ∧ BM w' mb mc W H P ∧ Keeps (fun i => i = gb ∨ i = bk) w w' := by
  have S0 := Lib.hid (And.intro h hs)
  have HNk := Lib.hid (And.intro hN hk)
  have HL := Lib.hid hleft
  have l1 := h.head.lt
  have l2 := h.bucks.lt
  have l3 := hs.head.lt
  have l4 := hs.row.lt
  have L0 := Lib.hid (And.intro l1 (And.intro l2 (And.intro l3 l4)))
  clear h hs hN hk hleft l1 l2 l3 l4
  have m1 := mW sb
  have m2 := mH sb
  go_enter Tryz.func311, Tryz.ntmps311
  go_wp2_with fail
  refine (gbSrc_ok gb sb bk lo 0 _ w S0.out.1).mono ?_
  rintro e w1 ⟨rfl, rfl⟩
  go_wp2_with fail
  refine (srcW_ok sb d W H N k _ w S0.out.2).mono ?_
  rintro e w1 ⟨rfl, rfl⟩
  go_wp2_with fail
  refine (srcH_ok sb d W H N k _ w S0.out.2).mono ?_
  rintro e w1 ⟨rfl, rfl⟩
  go_wp2_with fail
  refine (bmNew_ok W H w (by omega) (by omega) (by omega) (by omega) _ _ rfl rfl).mono ?_
  rintro e w1 ⟨rfl, a1, a2, a3⟩
  obtain ⟨mc, hmc⟩ : ∃ m, w.heap.size = m := ⟨_, rfl⟩
  obtain ⟨l1, l2, l3, l4⟩ := L0.out
  rw [hmc] at a1 a3 l1 l2 l3 l4 ⊢
  obtain ⟨mb, hmb⟩ : ∃ m, mc + 1 = m := ⟨_, rfl⟩
  rw [hmb] at a1 ⊢
  have A1 := Lib.hid a1
  have A2 := Lib.hid a2
  have HM := Lib.hid (And.intro hmc hmb)
  have hs1 : w1.heap.size = mb + 1 := by omega
  have q1 : gb ≠ mc := by omega
  have q2 : gb ≠ mb := by omega
  have q3 : bk ≠ mc := by omega
  have q4 : bk ≠ mb := by omega
  have q5 : sb ≠ mc := by omega
  have q6 : d ≠ mc := by omega
  clear a1 a2 a3 hmc hmb l1 l2 l3 l4
  go_wp2_with fail
  refine (gbInit_ok gb sb bk lo W _ w1 (S0.out.1.keep A2.out (fun h => h) (fun h => h)) n1 (by omega) (by omega)).mono ?_
  rintro e w2 ⟨rfl, b1, b2, b3⟩
  rw [hs1] at b1 b2
  obtain ⟨l1, l2, l3, l4⟩ := L0.out
  have hmc := HM.out.1
  have hmb := HM.out.2
  obtain ⟨lb, hlb⟩ : ∃ l, mb + 1 = l := ⟨_, rfl⟩
  rw [hlb] at b1 b2
  have q7 : lb ≠ bk := by omega
  have q8 : lb ≠ gb := by omega
  have q9 : lb ≠ mb := by omega
  have q10 : lb ≠ mc := by omega
  have q11 : sb ≠ lb := by omega
  have q12 : d ≠ lb := by omega
  have HLB := Lib.hid hlb
  have B1 := Lib.hid b1
  have B2 := Lib.hid b2
  have K2 := Lib.hid ((A2.out.mono (S' := fun i => i = gb ∨ i = bk) (fun i _ f => f.elim)).trans b3)
  have A3 := Lib.hid (A1.out.keep b3 (by rintro (e | e) <;> omega) (by rintro (e | e) <;> omega))
  have S2 := Lib.hid (S0.out.2.keep K2.out (by rintro (e | e) <;> omega) (by rintro (e | e) <;> omega))
  have g2 := b1.head.cell (i := 2) rfl
  clear b1 b2 b3 hs1 hlb m1 m2 l1 l2 l3 l4 hmc hmb
  go_wp2_with fail
  clear g2
  go_loopw [10] (fun s10 wr => ∃ (y : Nat) (B : Nat → Nat) (cs : List Value), 1 ≤ y ∧ y ≤ 5 ∧ s10 = .int .i64 (y : Int) ∧ Hid (_root_.QR.Buck B D L ((y - 1) * 300) (decide (1 < y))) ∧ FB wr bk 32 (vB B) 3 ∧ Blk wr lb cs 5 ∧ Hid (cs.length = W) ∧ Keeps (fun i => i = bk ∨ i = lb) w2 wr) (fun s10 _ => 5 - (intOf s10).toNat)
  case atStart => exact ⟨1, fun _ => 0, rep W (.int .u8 0), by omega, by omega, rfl, Lib.hid (_root_.QR.Buck.zero D L), B1.out.bucks, B2.out, Lib.hid (rep_length _ _), Keeps.refl _ _⟩
  case round =>
    obtain ⟨y, B, cs, hy1, hy5, rfl, HB, r1, r2, HC, r3⟩ := hrel
    have HD := B1.out.head.keep r3 (by rintro (e | e) <;> omega)
    have HSr := S2.out.keep r3 (by rintro (e | e) <;> omega) (by rintro (e | e) <;> omega)
    by_cases hy : y < 5
    · have hy' : (y : Int) < 5 := by omega
      obtain ⟨r, hr⟩ : ∃ r, H * y / 5 = r := ⟨_, rfl⟩
      have hrH : r < H := by rw [← hr]; exact Nat.div_lt_of_lt_mul (by have := Nat.mul_le_mul_left H (show y ≤ 4 by omega); omega)
      obtain ⟨hp, hhp⟩ : ∃ hp, H * y = hp := ⟨_, rfl⟩
      have hhpi : (H : Int) * (y : Int) = (hp : Int) := by rw [← hhp]; push_cast; rfl
      have hri : (hp : Int) / 5 = (r : Int) := by rw [← hr, hhp]; omega
      have hhp2 : hp ≤ 3000 := by rw [← hhp]; exact Nat.le_trans (Nat.mul_le_mul hH (show y ≤ 10 by omega)) (by omega)
      obtain ⟨rt, hrt⟩ : ∃ q, W * 4 / 5 = q := ⟨_, rfl⟩
      obtain ⟨x0, hx0⟩ : ∃ q, W / 5 = q := ⟨_, rfl⟩
      have hrti : (W : Int) * 4 / 5 = (rt : Int) := by omega
      have hx0i : (W : Int) / 5 = (x0 : Int) := by omega
      have hrtW : rt ≤ W := by omega
      have hx01 : x0 < rt := by omega
      have hx02 : x0 < lt := by omega
      have HX := Lib.hid (And.intro hx01 (And.intro hx02 hrtW))
      clear hr hhp
      have g1 := HD.cell (i := 1) rfl
      have hm := mR sb
      have hn := nR sb
      have S3 := Lib.hid HSr
      have R := Lib.hid (And.intro r1 (And.intro r2 r3))
      have HD2 := Lib.hid HD
      clear HSr r1 r2 r3 HD
      go_wp2_with fail
      go_upto_region 13 with fail
      go_cut [12] from 45 to 87 (fun s12 wx => s12 = .slice (some ⟨lb, 0, none⟩) W W ∧ Blk wx lb ((List.range W).map fun x => Value.int .u8 (_root_.QR.grayF P W D L (r * W + x) : Int)) 5 ∧ Keeps (fun i => i = lb) wr wx)
      case first =>
        go_region_with (go_at_call 330; refine (srcRow_ok sb d W H N k r lb _ cs _ (S3.out.keep ((Keeps.refl (fun _ => False) wr).drew) (fun h => h) (fun h => h)) R.out.2.1.drew HC.out HNk.out.1 HNk.out.2 hrH (by omega) (by omega) (by omega) _ rfl).mono ?_; rintro e w3 ⟨rfl, c1, c2⟩)
        all_goals
          go_wp2_with fail
          go_meet
          exact ⟨rfl, c1, ((Keeps.refl (fun i => i = lb) wr).drew).trans c2⟩
      case rest =>
        obtain ⟨rfl, c1, c2⟩ := hcut
        have CR := Lib.hid (And.intro c1 c2)
        have HDw := Lib.hid (HD2.out.keep c2 (fun e => q8 e.symm))
        have RB := Lib.hid (R.out.1.keep c2 (fun e => q7 e.symm))
        have RK := Lib.hid (R.out.2.2.trans (c2.mono (S' := fun i => i = bk ∨ i = lb) (fun i _ e => Or.inr e)))
        clear c1 c2 hm hn g1
        go_wp2_with fail
        go_loopw [15] (fun s15 wx => ∃ (x : Nat) (B' : Nat → Nat), x0 ≤ x ∧ x ≤ rt ∧ s15 = .int .i64 (x : Int) ∧ Hid (_root_.QR.Buck B' D L ((y - 1) * 300 + (x - x0)) (decide (1 < y) || decide (x0 < x))) ∧ FB wx bk 32 (vB B') 3 ∧ Keeps (fun i => i = bk) wc wx) (fun s15 _ => rt - (intOf s15).toNat)
        case atStart => exact ⟨x0, B, by omega, Nat.le_of_lt HX.out.1, rfl, Lib.hid (by have := HB.out; simpa using this), RB.out, Keeps.refl _ _⟩
        case round =>
          obtain ⟨x, B', hx1, hx2, rfl, HB', t1, t2⟩ := hrel
          have hx01 := HX.out.1
          have hx02 := HX.out.2.1
          have hrtW := HX.out.2.2
          by_cases hx : x < rt
          · have hx' : (x : Int) < (rt : Int) := by omega
            have hxW : (x : Int) < (W : Int) := by omega
            have cl := (CR.out.1.keep t2 q7)
            have c0 := cl.cell (i := x) (v := .int .u8 (_root_.QR.grayF P W D L (r * W + x) : Int)) (by rw [List.getElem?_map, List.getElem?_range (by omega)]; rfl)
            obtain ⟨p, hp⟩ : ∃ p, _root_.QR.grayF P W D L (r * W + x) = p := ⟨_, rfl⟩
            have hpo : p = D ∨ p = L := by rw [← hp]; exact _root_.QR.grayF_or _ _ _ _ _
            have hp256 : p < 256 := by omega
            have hp32 : p / 8 < 32 := by omega
            rw [hp] at c0
            have e255 := and255 p hp256
            have e8 : (p : Int) / 8 = ((p / 8 : Nat) : Int) := by omega
            have e32 : ((p / 8 : Nat) : Int) < 32 := by omega
            have cb := t1.cell (i := p / 8) hp32
            have fb := t1.free (p / 8)
            have hBm := HB'.out.most (p / 8)
            have hBl : B' (p / 8) ≤ 10000 := by have := Nat.mul_le_mul (show y - 1 ≤ 3 by omega) (Nat.le_refl 300); omega
            have NB := Lib.hid (bump_set t1 (p / 8))
            have NK := Lib.hid (t2.setCell (p := ⟨bk, p / 8, none⟩) (Or.inl rfl) (.int .i64 ((B' (p / 8) : Int) + 1)))
            have NU : Hid (_root_.QR.Buck (_root_.QR.bump B' (p / 8)) D L ((y - 1) * 300 + (x + 1 - x0)) (decide (1 < y) || decide (x0 < x + 1))) := Lib.hid (by
              have e1 : (y - 1) * 300 + (x + 1 - x0) = (y - 1) * 300 + (x - x0) + 1 := by omega
              rw [e1]
              by_cases hxx : x = x0
              · have hpL : p = L := by
                  rw [← hp, _root_.QR.grayF_at (by omega), HL.out x r (by omega)]; rfl
                rw [hpL]
                exact HB'.out.light _
              · have h3 := HB'.out.step (p := p) hpo
                have e2 : (decide (1 < y) || decide (x0 < x + 1)) = (decide (1 < y) || decide (x0 < x)) := by
                  rw [decide_eq_true (show x0 < x by omega), decide_eq_true (show x0 < x + 1 by omega)]
                rw [e2]; exact h3)
            simp only [vB] at cb
            obtain ⟨bv, hbv⟩ : ∃ b, B' (p / 8) = b := ⟨_, rfl⟩
            rw [hbv] at cb NB NK hBl
            obtain ⟨kp, hkp⟩ : ∃ b, p / 8 = b := ⟨_, rfl⟩
            rw [hkp] at cb NB NK NU e8 e32 fb
            clear t1 t2 cl hBm hp hbv hkp hp32 hpo
            go_wp2_with fail
            go_roundw
            case rel => exact ⟨x + 1, _, by omega, by omega, by go_num, NU, NB.out, NK.out⟩
            case measure => simp [intOf]; omega
          · obtain rfl : x = rt := by omega
            have T := Lib.hid (And.intro t1 t2)
            clear t1 t2
            go_wp2_with fail
            go_roundw
            case rel =>
              exact ⟨y + 1, B', _, by omega, by omega, by go_num, Lib.hid (by
                have h3 := HB'.out
                have e2 : (decide (1 < y) || decide (x0 < x)) = decide (1 < y + 1) := by
                  rw [decide_eq_true (show x0 < x by omega), decide_eq_true (show 1 < y + 1 by omega)]; simp
                rw [e2] at h3
                exact h3.weak (by have : (y + 1 - 1) * 300 = (y - 1) * 300 + 300 := by rw [show y + 1 - 1 = (y - 1) + 1 by omega, Nat.add_mul]
                                  omega)), T.out.1, CR.out.1.keep T.out.2 q7, Lib.hid (by simp), RK.out.trans (T.out.2.mono (fun i _ e => Or.inl e))⟩
            case measure => simp [intOf]; omega
    · obtain rfl : y = 5 := by omega
      have hB5 : _root_.QR.Buck B D L 1200 true := by have := HB.out; simpa using this
      obtain ⟨p1, p2, p3, p4⟩ := _root_.QR.black_point (B := B) (dark := D) (light := L) hDL hL1 hL2 hB5.off (hB5.has rfl)
      obtain ⟨V, hV⟩ : ∃ V, 8 * _root_.QR.valley B = V := ⟨_, rfl⟩
      have c317 := Lib.hid (estimate_ok wr (some ⟨gb, 0, none⟩) bk B r1 (fun x => Nat.le_trans (hB5.most x) (by omega)) p1 p2)
      rw [hV] at c317 p3 p4
      have m4 := mM sb
      have S3 := Lib.hid HSr
      have A4 := Lib.hid (A3.out.keep r3 (by rintro (e | e) <;> omega) (by rintro (e | e) <;> omega))
      have K4 : Hid (Keeps (fun i => i = gb ∨ i = bk) w wr) := Lib.hid (K2.out.step r3 (fun i hi e => by
        have := HM.out.1
        have := HM.out.2
        have := HLB.out
        rcases e with e | e
        · exact Or.inr e
        · omega))
      clear hV p1 p2 hB5 r1 r2 r3 HSr HD
      go_wp2_with fail
      refine c317.out.mono ?_
      rintro e w5 ⟨rfl, rfl⟩
      go_wp2_with fail
      refine (srcMat_ok sb d W H N k _ wr S3.out).mono ?_
      rintro e w5 ⟨rfl, rfl⟩
      go_wp2_with fail
      clear m4
      generalize wr = wA at *
      go_loopw [19] (fun s19 wx => ∃ y : Nat, y ≤ H ∧ s19 = .int .i64 (y : Int) ∧ BM wx mb mc W H (_root_.QR.laidTo P y 0) ∧ Keeps (fun i => i = mc) wA wx) (fun s19 _ => H - (intOf s19).toNat)
      case atStart => exact ⟨0, by omega, rfl, A4.out.congr (fun x y _ _ => _root_.QR.laid_none x y), Keeps.refl _ _⟩
      case round =>
        obtain ⟨y, hy, rfl, t1, t2⟩ := hrel
        by_cases hyH : y < H
        · have hy' : (y : Int) < (H : Int) := by omega
          obtain ⟨o, ho⟩ : ∃ o, y * W = o := ⟨_, rfl⟩
          have hoi : (y : Int) * (W : Int) = (o : Int) := by rw [← ho]; push_cast; rfl
          have ho2 : o ≤ 90000 := by rw [← ho]; exact Nat.mul_le_mul (show y ≤ 300 by omega) hW
          have hoN : o + W ≤ N := by
            have := Nat.mul_le_mul_right W (show y + 1 ≤ H by omega)
            rw [Nat.add_mul, Nat.one_mul, ho, Nat.mul_comm H W, ← HNk.out.1] at this; exact this
          have HO := Lib.hid ho
          have T := Lib.hid (And.intro t1 t2)
          clear ho t1 t2
          go_wp2_with fail
          go_loopw [21] (fun s21 wz => ∃ x : Nat, x ≤ W ∧ s21 = .int .i64 (x : Int) ∧ BM wz mb mc W H (_root_.QR.laidTo P y x) ∧ Keeps (fun i => i = mc) wA wz) (fun s21 _ => W - (intOf s21).toNat)
          case atStart => exact ⟨0, by omega, rfl, T.out.1, T.out.2⟩
          case round =>
            obtain ⟨x, hx, rfl, u1, u2⟩ := hrel
            by_cases hxW : x < W
            · have hx' : (x : Int) < (W : Int) := by omega
              have c0 := (S3.out.row.keep u2 q6).cell (o + x) (by omega)
              have hg : _root_.QR.grayF P W D L (o + x) = if P x y then D else L := by rw [← HO.out]; exact _root_.QR.grayF_at hxW
              have hlN : (o : Int) + (x : Int) < (N : Int) := by omega
              rw [hg] at c0
              have U := Lib.hid (And.intro u1 u2)
              clear hg u1 u2
              cases hP : P x y
              · have e255 := and_255 L hL2
                have hVL : ¬ (L : Int) < (V : Int) := fun h => absurd (Int.ofNat_lt.1 h) (Nat.not_lt.2 p4)
                rw [hP] at c0
                have NX := Lib.hid (U.out.1.congr (g := _root_.QR.laidTo P y (x + 1)) (fun x' y' _ _ => _root_.QR.laid_skip hP x' y'))
                simp only [Bool.false_eq_true, if_false] at c0
                clear hP
                go_wp2_with fail
                go_roundw
                case rel => exact ⟨x + 1, by omega, by go_num, NX.out, U.out.2⟩
                case measure => simp [intOf]; omega
              · have e255 := and_255 D (by omega)
                have hVD : (D : Int) < (V : Int) := Int.ofNat_lt.2 p3
                rw [hP] at c0
                simp only [if_true] at c0
                have HP := Lib.hid hP
                clear hP
                go_wp2_with fail
                refine (bmSet_ok mb mc W H x y _ _ U.out.1 hxW hyH (by omega) (by omega) _ _ rfl rfl).mono ?_
                rintro e w9 ⟨rfl, z1, z2⟩
                have Z := Lib.hid (And.intro (z1.congr (g := _root_.QR.laidTo P y (x + 1)) (fun x' y' _ _ => _root_.QR.laid_set HP.out x' y')) (U.out.2.trans z2))
                clear z1 z2
                go_wp2_with fail
                go_roundw
                case rel => exact ⟨x + 1, by omega, by go_num, Z.out.1, Z.out.2⟩
                case measure => simp [intOf]; omega
            · obtain rfl : x = W := by omega
              have U := Lib.hid (And.intro u1 u2)
              clear u1 u2
              go_wp2_with fail
              go_roundw
              case rel => exact ⟨y + 1, by omega, by go_num, U.out.1.congr (fun x' y' hx' _ => _root_.QR.laid_row x' y' hx'), U.out.2⟩
              case measure => simp [intOf]; omega
        · obtain rfl : y = H := by omega
          have T := Lib.hid (And.intro t1 t2)
          clear t1 t2
          go_wp2_with fail
          go_ret2
          exact ⟨mb, mc, rfl, T.out.1.congr (fun x' y' _ hy' => _root_.QR.laid_all x' y' hy'), K4.out.step T.out.2 (fun i hi e => by have := HM.out.1; omega)⟩

end Go.Proofs.YtplpafbkalkchaaGreatDoor
