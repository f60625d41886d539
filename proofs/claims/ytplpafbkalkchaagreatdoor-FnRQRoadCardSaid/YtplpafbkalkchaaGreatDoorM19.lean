/-
  Parts of the proof (HG2).
-/
import Derived.Test.YtplpafbkalkchaaGreatDoorM06
import Derived.Test.YtplpafbkalkchaaGreatDoorM18
set_option linter.unusedSimpArgs false
set_option linter.unusedVariables false

namespace Go.Proofs.YtplpafbkalkchaaGreatDoor
open Go.RowKit

theorem pk_lt' (B : Nat → Nat) {k : Nat} (hk : k ≤ 32) : (_root_.QR.pk B k).1 < 32 := by
  rcases Nat.eq_zero_or_pos k with rfl | h
  · exact (by decide : (0 : Nat) < 32)
  · have := _root_.QR.pk_lt B k h; omega

set_option maxRecDepth 100000 in
set_option maxHeartbeats 2000000 in
theorem estimate_ok (w : World) (tb : Option Addr) (bk : Nat) (B : Nat → Nat) (h : FB w bk 32 (fun k => .int .i64 (B k : Int)) 3) (hM : ∀ x, B x ≤ 10000) (h1 : _root_.QR.lowP B + 2 < _root_.QR.highP B) (h2 : _root_.QR.highP B < 32) :
    Calls Tryz.prog 317 #[.pointer tb, .slice (some ⟨bk, 0, none⟩) 32 32] w fun e w' => e = .returned (.tuple #[.int .i64 ((8 * _root_.QR.valley B : Nat) : Int), .nilIface]) ∧ w = w' := by
  have HB := Lib.hid h
  have HM := Lib.hid hM
  have HG := Lib.hid (And.intro h1 h2)
  clear h h1 h2 hM
  go_enter Tryz.func317, Tryz.ntmps317
  go_wp2_with fail
  go_loopw [7, 8, 9, 10] (fun s7 s8 s9 s10 wr => ∃ k p q : Nat, k ≤ 32 ∧ Hid (_root_.QR.pk B k = (p, q)) ∧ s10 = .int .i64 (k : Int) ∧ s7 = .int .i64 (q : Int) ∧ s8 = .int .i64 (p : Int) ∧ s9 = .int .i64 (q : Int) ∧ wr = w) (fun _ _ _ s10 _ => 32 - (intOf s10).toNat)
  case atStart => exact ⟨0, 0, 0, by omega, Lib.hid rfl, rfl, rfl, rfl, rfl, rfl⟩
  case round =>
    obtain ⟨k, p, q, hk, HP, rfl, rfl, rfl, rfl, rfl⟩ := hrel
    by_cases hlt : k < 32
    · have hlt' : (k : Int) < 32 := by omega
      have c0 := HB.out.cell hlt
      obtain ⟨b, hb⟩ : ∃ b, B k = b := ⟨_, rfl⟩
      rw [hb] at c0
      have HBB := Lib.hid hb
      clear hb
      by_cases hg : (q : Int) < (b : Int)
      · go_wp2
        go_roundw
        case rel => exact ⟨k + 1, k, b, by omega, Lib.hid (by have := HP.out; have := HBB.out; rw [_root_.QR.pk, HP.out]; simp only; rw [HBB.out, if_pos (by omega)]), by go_num, rfl, rfl, rfl, by simp⟩
        case measure => simp [intOf]; omega
      · go_wp2
        go_roundw
        case rel => exact ⟨k + 1, p, q, by omega, Lib.hid (by have := HP.out; have := HBB.out; rw [_root_.QR.pk, HP.out]; simp only; rw [HBB.out, if_neg (by omega)]), by go_num, rfl, rfl, rfl, by simp⟩
        case measure => simp [intOf]; omega
    · obtain rfl : k = 32 := by omega
      have hp : p < 32 := by have := pk_lt' B (Nat.le_refl 32); rw [HP.out] at this; exact this
      have HQM := Lib.hid (show ∀ x, x < 32 → B x ≤ q from fun x hx => by
        have hs := _root_.QR.pk_spec B 32
        rw [HP.out] at hs
        rcases hs with ⟨_, h0⟩ | ⟨_, _, _, h0⟩
        · have := h0 x hx; omega
        · exact h0 x hx)
      have hq : q ≤ 10000 := by have := _root_.QR.pk_le B 32 10000 HM.out; rw [HP.out] at this; exact this
      go_wp2_with fail
      go_loopw [11, 12, 13] (fun s11 s12 s13 wr' => ∃ k r s : Nat, k ≤ 32 ∧ Hid (_root_.QR.pk (_root_.QR.sc2 B p) k = (r, s)) ∧ s ≤ 9610000 ∧ s13 = .int .i64 (k : Int) ∧ s11 = .int .i64 (r : Int) ∧ s12 = .int .i64 (s : Int) ∧ wr' = wr) (fun _ _ s13 _ => 32 - (intOf s13).toNat)
      case atStart => exact ⟨0, 0, 0, by omega, Lib.hid rfl, by omega, rfl, rfl, rfl, rfl⟩
      case round =>
        obtain ⟨k, r, s, hk, HR, hs, rfl, rfl, rfl, rfl⟩ := hrel
        by_cases hlt : k < 32
        · have hlt' : (k : Int) < 32 := by omega
          have c0 := HB.out.cell hlt
          obtain ⟨q1, e1, e2, e3, e4, e5⟩ := score2 B k p 10000 hlt hp (HM.out k) (by omega)
          have hbl := HM.out k
          obtain ⟨b, hb⟩ : ∃ b, B k = b := ⟨_, rfl⟩
          obtain ⟨sc, hsc⟩ : ∃ sc, _root_.QR.sc2 B p k = sc := ⟨_, rfl⟩
          rw [hb] at c0 e1 hbl
          rw [hsc] at e4 e5
          have HSC := Lib.hid hsc
          clear hb hsc
          by_cases hg : (s : Int) < (sc : Int)
          · go_wp2
            go_roundw
            case rel => exact ⟨k + 1, k, sc, by omega, Lib.hid (by rw [_root_.QR.pk, HR.out]; simp only; rw [HSC.out, if_pos (by omega)]), by omega, by go_num, rfl, rfl, by simp⟩
            case measure => simp [intOf]; omega
          · go_wp2
            go_roundw
            case rel => exact ⟨k + 1, r, s, by omega, Lib.hid (by rw [_root_.QR.pk, HR.out]; simp only; rw [HSC.out, if_neg (by omega)]), by omega, by go_num, rfl, rfl, by simp⟩
            case measure => simp [intOf]; omega
        · obtain rfl : k = 32 := by omega
          have hr : r < 32 := by have := pk_lt' (_root_.QR.sc2 B p) (Nat.le_refl 32); rw [HR.out] at this; exact this
          by_cases hsw : r < p
          · have hsw' : (r : Int) < (p : Int) := by omega
            have LH := Lib.hid (show _root_.QR.lowP B = r ∧ _root_.QR.highP B = p by
              unfold _root_.QR.lowP _root_.QR.highP
              rw [HP.out]; simp only
              rw [HR.out]; simp only
              omega)
            have hA : r + 2 < p := by rw [← LH.out.1, ← LH.out.2]; exact HG.out.1
            have hB : p < 32 := by rw [← LH.out.2]; exact HG.out.2
            go_wp2_with fail
            go_loopw [16, 17, 18] (fun s16 s17 s18 wx => ∃ (k b : Nat) (t : Int), k ≤ p - 1 - r ∧ Hid (_root_.QR.vk B q r p k = (b, t)) ∧ -1 ≤ t ∧ t ≤ 320000000 ∧ b < 32 ∧ s18 = .int .i64 ((p : Int) - 1 - (k : Int)) ∧ s16 = .int .i64 (b : Int) ∧ s17 = .int .i64 t ∧ wx = wr) (fun _ _ s18 _ => (intOf s18).toNat)
            case atStart => exact ⟨0, p - 1, -1, by omega, Lib.hid rfl, by omega, by omega, by omega, by go_num, by go_num, rfl, rfl⟩
            case round =>
              obtain ⟨k, b, t, hk, HV, ht1, ht2, hb, rfl, rfl, rfl, rfl⟩ := hrel
              by_cases hlt : k < p - 1 - r
              · obtain ⟨x, hx⟩ : ∃ x, p - 1 - k = x := ⟨_, rfl⟩
                have hxi : (p : Int) - 1 - (k : Int) = (x : Int) := by omega
                have hx1 : r < x := by omega
                have hx2 : x < p := by omega
                have hx1i : (r : Int) < (x : Int) := by omega
                rw [hxi]
                have c0 := HB.out.cell (show x < 32 by omega)
                have hbq : B x ≤ q := by have := HQM.out x (by omega); exact this
                obtain ⟨a, c, u, p1, q1, e1, e2, e3, e4, e5, e6, e7, e8, e9, e10, e11, e12⟩ := score3 B x r p q 10000 hx1 hx2 hB hbq hq (by omega)
                obtain ⟨bx, hbx⟩ : ∃ bx, B x = bx := ⟨_, rfl⟩
                obtain ⟨sc, hsc⟩ : ∃ sc, _root_.QR.sc3 B q r p x = sc := ⟨_, rfl⟩
                rw [hbx] at c0 e3
                rw [hsc] at e6 e9
                have HSC := Lib.hid (show _root_.QR.sc3 B q r p (p - 1 - k) = sc by rw [hx]; exact hsc)
                have HX := Lib.hid hx
                clear hbx hsc hx hbq
                by_cases hg : t < (sc : Int)
                · go_wp2_with fail
                  go_roundw
                  case rel => exact ⟨k + 1, x, (sc : Int), by omega, Lib.hid (by rw [_root_.QR.vk, HV.out]; simp only; rw [HSC.out, if_pos hg, HX.out]), by omega, by omega, by omega, by go_num, rfl, rfl, by simp⟩
                  case measure => simp [intOf]; omega
                · go_wp2_with fail
                  go_roundw
                  case rel => exact ⟨k + 1, b, t, by omega, Lib.hid (by rw [_root_.QR.vk, HV.out]; simp only; rw [HSC.out, if_neg hg]), by omega, by omega, by omega, by go_num, rfl, rfl, by simp⟩
                  case measure => simp [intOf]; omega
              · obtain rfl : k = p - 1 - r := by omega
                have hend : ¬ (r : Int) < (p : Int) - 1 - ((p - 1 - r : Nat) : Int) := by omega
                have VAL := Lib.hid (show _root_.QR.valley B = b by unfold _root_.QR.valley; rw [LH.out.1, LH.out.2, HP.out]; simp only; rw [HV.out])
                go_wp2_with fail
                go_ret2
                rw [VAL.out]
                exact ⟨by simp; omega, rfl⟩
          · have hsw' : ¬ (r : Int) < (p : Int) := by omega
            have LH := Lib.hid (show _root_.QR.lowP B = p ∧ _root_.QR.highP B = r by
              unfold _root_.QR.lowP _root_.QR.highP
              rw [HP.out]; simp only
              rw [HR.out]; simp only
              omega)
            have hA : p + 2 < r := by rw [← LH.out.1, ← LH.out.2]; exact HG.out.1
            have hB : r < 32 := by rw [← LH.out.2]; exact HG.out.2
            go_wp2_with fail
            go_loopw [16, 17, 18] (fun s16 s17 s18 wx => ∃ (k b : Nat) (t : Int), k ≤ r - 1 - p ∧ Hid (_root_.QR.vk B q p r k = (b, t)) ∧ -1 ≤ t ∧ t ≤ 320000000 ∧ b < 32 ∧ s18 = .int .i64 ((r : Int) - 1 - (k : Int)) ∧ s16 = .int .i64 (b : Int) ∧ s17 = .int .i64 t ∧ wx = wr) (fun _ _ s18 _ => (intOf s18).toNat)
            case atStart => exact ⟨0, r - 1, -1, by omega, Lib.hid rfl, by omega, by omega, by omega, by go_num, by go_num, rfl, rfl⟩
            case round =>
              obtain ⟨k, b, t, hk, HV, ht1, ht2, hb, rfl, rfl, rfl, rfl⟩ := hrel
              by_cases hlt : k < r - 1 - p
              · obtain ⟨x, hx⟩ : ∃ x, r - 1 - k = x := ⟨_, rfl⟩
                have hxi : (r : Int) - 1 - (k : Int) = (x : Int) := by omega
                have hx1 : p < x := by omega
                have hx2 : x < r := by omega
                have hx1i : (p : Int) < (x : Int) := by omega
                rw [hxi]
                have c0 := HB.out.cell (show x < 32 by omega)
                have hbq : B x ≤ q := by have := HQM.out x (by omega); exact this
                obtain ⟨a, c, u, p1, q1, e1, e2, e3, e4, e5, e6, e7, e8, e9, e10, e11, e12⟩ := score3 B x p r q 10000 hx1 hx2 hB hbq hq (by omega)
                obtain ⟨bx, hbx⟩ : ∃ bx, B x = bx := ⟨_, rfl⟩
                obtain ⟨sc, hsc⟩ : ∃ sc, _root_.QR.sc3 B q p r x = sc := ⟨_, rfl⟩
                rw [hbx] at c0 e3
                rw [hsc] at e6 e9
                have HSC := Lib.hid (show _root_.QR.sc3 B q p r (r - 1 - k) = sc by rw [hx]; exact hsc)
                have HX := Lib.hid hx
                clear hbx hsc hx hbq
                by_cases hg : t < (sc : Int)
                · go_wp2_with fail
                  go_roundw
                  case rel => exact ⟨k + 1, x, (sc : Int), by omega, Lib.hid (by rw [_root_.QR.vk, HV.out]; simp only; rw [HSC.out, if_pos hg, HX.out]), by omega, by omega, by omega, by go_num, rfl, rfl, by simp⟩
                  case measure => simp [intOf]; omega
                · go_wp2_with fail
                  go_roundw
                  case rel => exact ⟨k + 1, b, t, by omega, Lib.hid (by rw [_root_.QR.vk, HV.out]; simp only; rw [HSC.out, if_neg hg]), by omega, by omega, by omega, by go_num, rfl, rfl, by simp⟩
                  case measure => simp [intOf]; omega
              · obtain rfl : k = r - 1 - p := by omega
                have hend : ¬ (p : Int) < (r : Int) - 1 - ((r - 1 - p : Nat) : Int) := by omega
                have VAL := Lib.hid (show _root_.QR.valley B = b by unfold _root_.QR.valley; rw [LH.out.1, LH.out.2, HP.out]; simp only; rw [HV.out])
                go_wp2_with fail
                go_ret2
                rw [VAL.out]
                exact ⟨by simp; omega, rfl⟩

end Go.Proofs.YtplpafbkalkchaaGreatDoor
