/-
  Parts of the proof (PN, Q0).
-/
import Derived.Test.YtplpafbkalkchaaGreatDoorM30
import Derived.Deep.QuietTactic
import Derived.BigQuiet
import Derived.KernelRfl
set_option linter.unusedSimpArgs false
set_option linter.unusedVariables false

namespace Go.Proofs.YtplpafbkalkchaaGreatDoor
open Go.RowKit

set_option maxRecDepth 100000 in
set_option maxHeartbeats 4000000 in
theorem rule1_ok (hz : Bool) (b m n : Nat) (g : Nat → Nat) (f : Nat → Nat → Int) (w : World) (h : YM w b m n g f) (hn : n ≤ 100) :
    Calls Tryz.prog 178 #[.pointer (some ⟨b, 0, none⟩), .bool hz] w fun e w' => (∃ p : Nat, e = .returned (.int .i64 (p : Int)) ∧ p ≤ 10000) ∧ w = w' := by
  have HH := Lib.hid h
  clear h
  cases hz
  all_goals
    go_enter Tryz.func178, Tryz.ntmps178
    go_wp2_with fail
    refine (ymW_ok b m n g f w HH.out).mono ?_
    rintro e w1 ⟨rfl, rfl⟩
    go_wp2_with fail
    refine (ymH_ok b m n g f w HH.out).mono ?_
    rintro e w1 ⟨rfl, rfl⟩
    go_wp2_with fail
    refine (ymArray_ok b m n g f w HH.out).mono ?_
    rintro e w1 ⟨rfl, rfl⟩
    go_wp2_with fail
    go_loopw [5, 9] (fun s5 s9 wr => ∃ k p : Nat, k ≤ n ∧ s5 = .int .i64 (p : Int) ∧ s9 = .int .i64 (k : Int) ∧ p ≤ 100 * k ∧ wr = w) (fun _ s9 _ => n - (intOf s9).toNat)
    case atStart => exact ⟨0, 0, by omega, rfl, rfl, by omega, by simp⟩
    case round =>
      obtain ⟨k, p, hk, rfl, rfl, hp, rfl⟩ := hrel
      by_cases hkn : k < n
      · have hkn' : (k : Int) < (n : Int) := by omega
        go_wp2_with fail
        go_loopw [5, 10, 11, 12] (fun s5 s10 s11 s12 wr' => ∃ (j p c : Nat) (v : Int), j ≤ n ∧ s5 = .int .i64 (p : Int) ∧ s10 = .int .i64 (c : Int) ∧ s11 = .int .i64 v ∧ s12 = .int .i64 (j : Int) ∧ p + c ≤ 100 * k + j ∧ wr' = wr) (fun _ _ _ s12 _ => n - (intOf s12).toNat)
        case atStart => exact ⟨0, p, 0, -1, by omega, rfl, rfl, rfl, rfl, by omega, by simp⟩
        case round =>
          obtain ⟨j, p, c, v, hj, rfl, rfl, rfl, rfl, hc, rfl⟩ := hrel
          by_cases hjn : j < n
          · have hjn' : (j : Int) < (n : Int) := by omega
            have a1 := HH.out.slot hkn
            have a2 := HH.out.slot hjn
            have a3 := HH.out.dot hjn hkn
            have a4 := HH.out.dot hkn hjn
            obtain ⟨u1, hu1⟩ : ∃ u, f j k = u := ⟨_, rfl⟩
            obtain ⟨u2, hu2⟩ : ∃ u, f k j = u := ⟨_, rfl⟩
            rw [hu1] at a3
            rw [hu2] at a4
            obtain ⟨z1, hz1⟩ : ∃ z, IntKind.i64.wrap u1 = z := ⟨_, rfl⟩
            obtain ⟨z2, hz2⟩ : ∃ z, IntKind.i64.wrap u2 = z := ⟨_, rfl⟩
            clear hu1 hu2
            obtain ⟨t1, ht1⟩ : ∃ t, (z1 == v) = t := ⟨_, rfl⟩
            obtain ⟨t2, ht2⟩ : ∃ t, (z2 == v) = t := ⟨_, rfl⟩
            by_cases hc5 : 5 ≤ c
            · have hc5' : (5 : Int) ≤ (c : Int) := by omega
              cases t1 <;> cases t2
              all_goals
                go_wp2
                go_roundw
                case rel =>
                  first
                    | exact ⟨j + 1, p, c + 1, v, by omega, by go_num, by go_num, rfl, by go_num, by omega, by simp⟩
                    | exact ⟨j + 1, p + (c - 2), 1, _, by omega, by go_num, by go_num, rfl, by go_num, by omega, by simp⟩
                case measure => simp [intOf]; omega
            · have hc5' : ¬ (5 : Int) ≤ (c : Int) := by omega
              cases t1 <;> cases t2
              all_goals
                go_wp2
                go_roundw
                case rel =>
                  first
                    | exact ⟨j + 1, p, c + 1, v, by omega, by go_num, by go_num, rfl, by go_num, by omega, by simp⟩
                    | exact ⟨j + 1, p, 1, _, by omega, by go_num, by go_num, rfl, by go_num, by omega, by simp⟩
                case measure => simp [intOf]; omega
          · obtain rfl : j = n := by omega
            by_cases hc5 : 5 ≤ c
            · have hc5' : (5 : Int) ≤ (c : Int) := by omega
              go_wp2
              go_roundw
              case rel => exact ⟨k + 1, p + (c - 2), by omega, by go_num, by go_num, by omega, by simp⟩
              case measure => simp [intOf]; omega
            · have hc5' : ¬ (5 : Int) ≤ (c : Int) := by omega
              go_wp2
              go_roundw
              case rel => exact ⟨k + 1, p, by omega, by go_num, by go_num, by omega, by simp⟩
              case measure => simp [intOf]; omega
      · obtain rfl : k = n := by omega
        go_wp2
        go_ret
        exact ⟨⟨p, rfl, by omega⟩, rfl⟩

theorem rule1s_ok (b m n : Nat) (g : Nat → Nat) (f : Nat → Nat → Int) (w : World) (h : YM w b m n g f) (hn : n ≤ 100) :
    Calls Tryz.prog 142 #[.pointer (some ⟨b, 0, none⟩)] w fun e w' => (∃ p : Nat, e = .returned (.int .i64 (p : Int)) ∧ p ≤ 20000) ∧ w = w' := by
  have HH := Lib.hid h
  clear h
  go_enter Tryz.func142, Tryz.ntmps142
  go_wp2_with fail
  refine (rule1_ok true b m n g f w HH.out hn).mono ?_
  rintro e w1 ⟨⟨p, rfl, hp⟩, rfl⟩
  go_wp2_with fail
  refine (rule1_ok false b m n g f w HH.out hn).mono ?_
  rintro e w1 ⟨⟨q, rfl, hq⟩, rfl⟩
  go_wp2
  go_ret
  exact ⟨⟨p + q, by go_num, by omega⟩, rfl⟩

set_option maxRecDepth 100000 in
set_option maxHeartbeats 4000000 in
theorem rule2_ok (b m n : Nat) (g : Nat → Nat) (f : Nat → Nat → Int) (w : World) (h : YM w b m n g f) (hn : n ≤ 100) :
    Calls Tryz.prog 143 #[.pointer (some ⟨b, 0, none⟩)] w fun e w' => (∃ p : Nat, e = .returned (.int .i64 (p : Int)) ∧ p ≤ 30000) ∧ w = w' := by
  have HH := Lib.hid h
  clear h
  go_enter Tryz.func143, Tryz.ntmps143
  go_wp2_with fail
  refine (ymArray_ok b m n g f w HH.out).mono ?_
  rintro e w1 ⟨rfl, rfl⟩
  go_wp2_with fail
  refine (ymW_ok b m n g f w HH.out).mono ?_
  rintro e w1 ⟨rfl, rfl⟩
  go_wp2_with fail
  refine (ymH_ok b m n g f w HH.out).mono ?_
  rintro e w1 ⟨rfl, rfl⟩
  go_wp2_with fail
  go_loopw [3, 7] (fun s3 s7 wr => ∃ k p : Nat, k ≤ n ∧ s3 = .int .i64 (p : Int) ∧ s7 = .int .i64 (k : Int) ∧ p ≤ 100 * k ∧ wr = w) (fun _ s7 _ => n - (intOf s7).toNat)
  case atStart => exact ⟨0, 0, by omega, rfl, rfl, by omega, rfl⟩
  case round =>
    obtain ⟨k, p, hk, rfl, rfl, hp, rfl⟩ := hrel
    by_cases hkn : k + 1 < n
    · have hkn' : (k : Int) < (n : Int) - 1 := by omega
      have hk2 : (k : Int) < (n : Int) := by omega
      have hk3 : (k : Int) + 1 < (n : Int) := by omega
      have hkn0 : k < n := by omega
      have a1 := HH.out.slot hkn0
      have a2 := HH.out.slot hkn
      go_wp2_with fail
      go_loopw [3, 9] (fun s3 s9 wr' => ∃ (j p : Nat), j ≤ n ∧ s3 = .int .i64 (p : Int) ∧ s9 = .int .i64 (j : Int) ∧ p ≤ 100 * k + j ∧ wr' = wr) (fun _ s9 _ => n - (intOf s9).toNat)
      case atStart => exact ⟨0, p, by omega, rfl, rfl, by omega, rfl⟩
      case round =>
        obtain ⟨j, p, hj, rfl, rfl, hc, rfl⟩ := hrel
        by_cases hjn : j + 1 < n
        · have hjn' : (j : Int) < (n : Int) - 1 := by omega
          have hj2 : (j : Int) < (n : Int) := by omega
          have hj3 : (j : Int) + 1 < (n : Int) := by omega
          have hjn0 : j < n := by omega
          have c1 := HH.out.dot hjn0 hkn0
          have c2 := HH.out.dot hjn hkn0
          have c3 := HH.out.dot hjn0 hkn
          have c4 := HH.out.dot hjn hkn
          generalize f j k = u1 at c1
          generalize f (j + 1) k = u2 at c2
          generalize f j (k + 1) = u3 at c3
          generalize f (j + 1) (k + 1) = u4 at c4
          obtain ⟨t2, ht2⟩ : ∃ t, (u1 == u2) = t := ⟨_, rfl⟩
          obtain ⟨t3, ht3⟩ : ∃ t, (u1 == u3) = t := ⟨_, rfl⟩
          obtain ⟨t4, ht4⟩ : ∃ t, (u1 == u4) = t := ⟨_, rfl⟩
          cases t2 <;> cases t3 <;> cases t4
          all_goals
            go_wp2
            go_roundw
            case rel =>
              first
                | exact ⟨j + 1, p, by omega, by go_num, by go_num, by omega, by simp⟩
                | exact ⟨j + 1, p + 1, by omega, by go_num, by go_num, by omega, by simp⟩
            case measure => simp [intOf]; omega
        · have hjn' : ¬ (j : Int) < (n : Int) - 1 := by omega
          go_wp2
          go_roundw
          case rel => exact ⟨k + 1, p, by omega, by go_num, by go_num, by omega, by simp⟩
          case measure => simp [intOf]; omega
    · have hkn' : ¬ (k : Int) < (n : Int) - 1 := by omega
      have hp3 : p ≤ 10000 := by omega
      go_wp2
      go_ret
      exact ⟨⟨3 * p, by go_num, by omega⟩, rfl⟩

/-- No black cell from j to c. -/
def whB (q : Nat → Int) (j c : Nat) : Bool := (List.range' j (c - j)).all (fun i => !(q i == 1))
theorem whB_step (q : Nat → Int) (j c : Nat) (h : j < c) : whB q j c = (!(q j == 1) && whB q (j + 1) c) := by
  unfold whB
  obtain ⟨d, rfl⟩ : ∃ d, c = j + d + 1 := ⟨c - j - 1, by omega⟩
  rw [show j + d + 1 - j = d + 1 by omega, show j + d + 1 - (j + 1) = d by omega, List.range'_succ, List.all_cons]
theorem whB_end (q : Nat → Int) (j c : Nat) (h : c ≤ j) : whB q j c = true := by
  unfold whB
  rw [show c - j = 0 by omega]; rfl

set_option maxRecDepth 100000 in
set_option maxHeartbeats 4000000 in
theorem whiteH_ok (b m n k : Nat) (g : Nat → Nat) (f : Nat → Nat → Int) (w : World) (h : YM w b m n g f) (hn : n ≤ 100) (hk : k < n) (A B : Int) (hA : -1000 ≤ A) (hA2 : A ≤ 1000) (hB : 0 ≤ B) (hB2 : B ≤ 1000) :
    Calls Tryz.prog 180 #[.slice (some ⟨g k, 0, none⟩) n n, .int .i64 A, .int .i64 B] w fun e w' => e = .returned (.bool (whB (fun i => f i k) A.toNat (min B.toNat n))) ∧ w = w' := by
  have HH := Lib.hid h
  clear h
  obtain ⟨a, ha⟩ : ∃ a : Nat, (if A < 0 then 0 else A) = (a : Int) := ⟨A.toNat, by split <;> omega⟩
  obtain ⟨c, hc⟩ : ∃ c : Nat, (if B > n then (n : Int) else B) = (c : Int) := ⟨min B.toNat n, by split <;> omega⟩
  have hcn : c ≤ n := by split at hc <;> omega
  have haa : a ≤ 1000 := by split at ha <;> omega
  have HA := Lib.hid ha
  have HAN := Lib.hid (show A.toNat = a by split at ha <;> omega)
  have HCN := Lib.hid (show min B.toNat n = c by split at hc <;> omega)
  have HC := Lib.hid hc
  clear ha hc
  go_enter Tryz.func180, Tryz.ntmps180
  by_cases h1 : A < 0 <;> by_cases h2 : B > n
  all_goals
    have h3 : Hid ((if A < 0 then 0 else A) = (a : Int)) := HA
    have e1 := HA.out
    have e2 := HC.out
    simp only [h1, h2, if_true, if_false] at e1 e2
    go_wp2_with fail
    go_loopw [7] (fun s7 wr => ∃ (j : Nat), s7 = .int .i64 (j : Int) ∧ j ≤ 1100 ∧ Hid (whB (fun i => f i k) a c = whB (fun i => f i k) j c) ∧ wr = w) (fun s7 _ => 1100 - (intOf s7).toNat)
    case atStart => exact ⟨a, by first | rfl | (rw [← e1]) | (simp [e1]), by omega, Lib.hid rfl, rfl⟩
    case round =>
      obtain ⟨j, rfl, hj, hw, rfl⟩ := hrel
      by_cases hjn : j < c
      · have hjn' : (j : Int) < (c : Int) := by omega
        have hj2 : (j : Int) < (n : Int) := by omega
        have a3 := HH.out.dot (show j < n by omega) hk
        have hst := Lib.hid (whB_step (fun i => f i k) j c hjn)
        obtain ⟨u1, hu1⟩ : ∃ u, f j k = u := ⟨_, rfl⟩
        have HU := Lib.hid hu1
        rw [hu1] at a3
        clear hu1
        obtain ⟨t1, ht1⟩ : ∃ t, (u1 == 1) = t := ⟨_, rfl⟩
        have HT := Lib.hid (show whB (fun i => f i k) a c = (!t1 && whB (fun i => f i k) (j + 1) c) by rw [hw.out, hst.out, ← ht1, ← HU.out])
        cases t1
        all_goals
          go_wp2
          first
            | (go_ret; exact ⟨by (try rw [HAN.out]); (try rw [HCN.out]); rw [HT.out]; rfl, rfl⟩)
            | (go_roundw
               case rel => exact ⟨j + 1, by go_num, by omega, Lib.hid HT.out, by simp⟩
               case measure => simp [intOf]; omega)
      · have hjn' : ¬ (j : Int) < (c : Int) := by omega
        go_wp2
        go_ret
        exact ⟨by (try rw [HAN.out]); (try rw [HCN.out]); rw [hw.out, whB_end _ _ _ (by omega)]; rfl, rfl⟩

set_option maxRecDepth 100000 in
set_option maxHeartbeats 4000000 in
theorem whiteV_ok (b m n k : Nat) (g : Nat → Nat) (f : Nat → Nat → Int) (w : World) (h : YM w b m n g f) (hn : n ≤ 100) (hk : k < n) (A B : Int) (hA : -1000 ≤ A) (hA2 : A ≤ 1000) (hB : 0 ≤ B) (hB2 : B ≤ 1000) :
    Calls Tryz.prog 181 #[.slice (some ⟨m, 0, none⟩) n n, .int .i64 (k : Int), .int .i64 A, .int .i64 B] w fun e w' => e = .returned (.bool (whB (fun i => f k i) A.toNat (min B.toNat n))) ∧ w = w' := by
  have HH := Lib.hid h
  have hkk : (k : Int) < (n : Int) := by omega
  clear h
  obtain ⟨a, ha⟩ : ∃ a : Nat, (if A < 0 then 0 else A) = (a : Int) := ⟨A.toNat, by split <;> omega⟩
  obtain ⟨c, hc⟩ : ∃ c : Nat, (if B > n then (n : Int) else B) = (c : Int) := ⟨min B.toNat n, by split <;> omega⟩
  have hcn : c ≤ n := by split at hc <;> omega
  have haa : a ≤ 1000 := by split at ha <;> omega
  have HA := Lib.hid ha
  have HAN := Lib.hid (show A.toNat = a by split at ha <;> omega)
  have HCN := Lib.hid (show min B.toNat n = c by split at hc <;> omega)
  have HC := Lib.hid hc
  clear ha hc
  go_enter Tryz.func181, Tryz.ntmps181
  by_cases h1 : A < 0 <;> by_cases h2 : B > n
  all_goals
    have h3 : Hid ((if A < 0 then 0 else A) = (a : Int)) := HA
    have e1 := HA.out
    have e2 := HC.out
    simp only [h1, h2, if_true, if_false] at e1 e2
    go_wp2_with fail
    go_loopw [9] (fun s9 wr => ∃ (j : Nat), s9 = .int .i64 (j : Int) ∧ j ≤ 1100 ∧ Hid (whB (fun i => f k i) a c = whB (fun i => f k i) j c) ∧ wr = w) (fun s9 _ => 1100 - (intOf s9).toNat)
    case atStart => exact ⟨a, by first | rfl | (rw [← e1]) | (simp [e1]), by omega, Lib.hid rfl, rfl⟩
    case round =>
      obtain ⟨j, rfl, hj, hw, rfl⟩ := hrel
      by_cases hjn : j < c
      · have hjn' : (j : Int) < (c : Int) := by omega
        have hj2 : (j : Int) < (n : Int) := by omega
        have a0 := HH.out.slot (show j < n by omega)
        have a3 := HH.out.dot hk (show j < n by omega)
        have hst := Lib.hid (whB_step (fun i => f k i) j c hjn)
        obtain ⟨u1, hu1⟩ : ∃ u, f k j = u := ⟨_, rfl⟩
        have HU := Lib.hid hu1
        rw [hu1] at a3
        clear hu1
        obtain ⟨t1, ht1⟩ : ∃ t, (u1 == 1) = t := ⟨_, rfl⟩
        have HT := Lib.hid (show whB (fun i => f k i) a c = (!t1 && whB (fun i => f k i) (j + 1) c) by rw [hw.out, hst.out, ← ht1, ← HU.out])
        cases t1
        all_goals
          go_wp2
          first
            | (go_ret; exact ⟨by (try rw [HAN.out]); (try rw [HCN.out]); rw [HT.out]; rfl, rfl⟩)
            | (go_roundw
               case rel => exact ⟨j + 1, by go_num, by omega, Lib.hid HT.out, by simp⟩
               case measure => simp [intOf]; omega)
      · have hjn' : ¬ (j : Int) < (c : Int) := by omega
        go_wp2
        go_ret
        exact ⟨by (try rw [HAN.out]); (try rw [HCN.out]); rw [hw.out, whB_end _ _ _ (by omega)]; rfl, rfl⟩

theorem abs_le (q t : Int) (hq : 0 ≤ q) (hqt : q ≤ t) : (if q * 2 - t < 0 then -(q * 2 - t) else q * 2 - t) * 10 ≤ 10 * t := by split <;> omega

set_option maxRecDepth 100000 in
set_option maxHeartbeats 4000000 in
theorem rule4_ok (b m n : Nat) (g : Nat → Nat) (f : Nat → Nat → Int) (w : World) (h : YM w b m n g f) (hn : n ≤ 100) (hn0 : 0 < n) :
    Calls Tryz.prog 145 #[.pointer (some ⟨b, 0, none⟩)] w fun e w' => (∃ p : Nat, e = .returned (.int .i64 (p : Int)) ∧ p ≤ 2000000) ∧ w = w' := by
  have HH := Lib.hid h
  clear h
  go_enter Tryz.func145, Tryz.ntmps145
  go_wp2_with fail
  refine (ymArray_ok b m n g f w HH.out).mono ?_
  rintro e w1 ⟨rfl, rfl⟩
  go_wp2_with fail
  refine (ymW_ok b m n g f w HH.out).mono ?_
  rintro e w1 ⟨rfl, rfl⟩
  go_wp2_with fail
  refine (ymH_ok b m n g f w HH.out).mono ?_
  rintro e w1 ⟨rfl, rfl⟩
  go_wp2_with fail
  go_loopw [3, 7] (fun s3 s7 wr => ∃ k p : Nat, k ≤ n ∧ s3 = .int .i64 (p : Int) ∧ s7 = .int .i64 (k : Int) ∧ p ≤ 100 * k ∧ wr = w) (fun _ s7 _ => n - (intOf s7).toNat)
  case atStart => exact ⟨0, 0, by omega, rfl, rfl, by omega, rfl⟩
  case round =>
    obtain ⟨k, p, hk, rfl, rfl, hp, rfl⟩ := hrel
    by_cases hkn : k < n
    · have hk2 : (k : Int) < (n : Int) := by omega
      have a1 := HH.out.slot hkn
      go_wp2_with fail
      go_loopw [3, 9] (fun s3 s9 wr' => ∃ (j p : Nat), j ≤ n ∧ s3 = .int .i64 (p : Int) ∧ s9 = .int .i64 (j : Int) ∧ p ≤ 100 * k + j ∧ wr' = wr) (fun _ s9 _ => n - (intOf s9).toNat)
      case atStart => exact ⟨0, p, by omega, rfl, rfl, by omega, rfl⟩
      case round =>
        obtain ⟨j, p, hj, rfl, rfl, hc, rfl⟩ := hrel
        by_cases hjn : j < n
        · have hj2 : (j : Int) < (n : Int) := by omega
          have c1 := HH.out.dot hjn hkn
          generalize f j k = u1 at c1
          obtain ⟨t2, ht2⟩ : ∃ t, (u1 == 1) = t := ⟨_, rfl⟩
          cases t2
          all_goals
            go_wp2
            go_roundw
            case rel =>
              first
                | exact ⟨j + 1, p, by omega, by go_num, by go_num, by omega, by simp⟩
                | exact ⟨j + 1, p + 1, by omega, by go_num, by go_num, by omega, by simp⟩
            case measure => simp [intOf]; omega
        · obtain rfl : j = n := by omega
          go_wp2
          go_roundw
          case rel => exact ⟨k + 1, p, by omega, by go_num, by go_num, by omega, by simp⟩
          case measure => simp [intOf]; omega
    · obtain rfl : k = n := by omega
      have hp3 : p ≤ 10000 := by omega
      have hs1 : k * k ≤ 100 * 100 := Nat.mul_le_mul hn hn
      have hs0 : 0 < k * k := Nat.mul_pos hn0 hn0
      obtain ⟨s, hs⟩ : ∃ s, k * k = s := ⟨_, rfl⟩
      rw [hs] at hs1 hs0
      have hsi : (k : Int) * (k : Int) = (s : Int) := by rw [← hs]; push_cast; rfl
      clear hs
      go_wp2_with fail
      refine (ymH_ok b m k g f _ HH.out).mono ?_
      rintro e w1 ⟨rfl, rfl⟩
      go_wp2_with fail
      refine (ymW_ok b m k g f _ HH.out).mono ?_
      rintro e w1 ⟨rfl, rfl⟩
      have hpB : p ≤ 10000 := by omega
      by_cases hneg : (p : Int) * 2 < (s : Int)
      · obtain ⟨d, hd⟩ : ∃ d : Nat, (p : Int) * 2 - (s : Int) = -(d : Int) := ⟨((s : Int) - (p : Int) * 2).toNat, by omega⟩
        have hd1 : d ≤ 10000 := by omega
        have hd0 : -(d : Int) < 0 := by omega
        obtain ⟨q, hq, hq1⟩ : ∃ q : Nat, (d : Int) * 10 / (s : Int) = (q : Int) ∧ q ≤ 100000 := ⟨d * 10 / s, by push_cast; rfl, Nat.le_trans (Nat.div_le_self _ _) (by omega)⟩
        go_wp2
        go_ret
        exact ⟨⟨q * 10, by go_num, by omega⟩, rfl⟩
      · obtain ⟨d, hd⟩ : ∃ d : Nat, (p : Int) * 2 - (s : Int) = (d : Int) := ⟨((p : Int) * 2 - (s : Int)).toNat, by omega⟩
        have hd1 : d ≤ 20000 := by omega
        obtain ⟨q, hq, hq1⟩ : ∃ q : Nat, (d : Int) * 10 / (s : Int) = (q : Int) ∧ q ≤ 200000 := ⟨d * 10 / s, by push_cast; rfl, Nat.le_trans (Nat.div_le_self _ _) (by omega)⟩
        go_wp2
        go_ret
        exact ⟨⟨q * 10, by go_num, by omega⟩, rfl⟩

end Go.Proofs.YtplpafbkalkchaaGreatDoor

namespace Go.Proofs.YtplpafbkalkchaaGreatDoor
open Go.RowKit

theorem wpList_of_quiet {P : Program} {ops : Array Oper} {C : World → Prop} {Q : Exit → Act → World → Prop} : ∀ (l : List Oper) (a : Act) (w : World), C w →
    wpQuiet P ops C (fun a' => ∀ w', C w' → Q .normal a' w') l a → wpList P ops Q l a w
  | [], a, w, hw, h => h w hw
  | o :: rest, a, w, hw, h => by
    unfold wpQuiet at h
    unfold wpList
    split
    · rename_i h1
      rw [if_pos h1] at h
      exact .inl (Oper.wp_of_quiet hw (fun a' w' hw' hk => wpList_of_quiet rest a' w' hw' hk) h)
    · rename_i h1
      rw [if_neg h1] at h
      exact wpList_of_quiet rest _ w hw h

theorem wp_region_quiet0 {P : Program} {id : Nat} {Q : Exit → Act → World → Prop} {a : Act} {w : World} {l : List Oper}
    (h : wpQuiet P l.toArray (fun w' => w' = w) (fun a' => ∀ w', w' = w → Q .normal a' w') l a) : (Code.region id l.toArray false).wp P Q a w :=
  wp_region_lit (wpList_of_quiet (C := fun w' => w' = w) l a w rfl h)

/-- The region of this number in a code. -/
def regionOf (id : Nat) : Code → Option Code
  | .region i ops b => if i = id then some (.region i ops b) else none
  | .seq a b => (regionOf id a).orElse fun _ => regionOf id b
  | .loop c => regionOf id c
  | .block _ c => regionOf id c
  | .scope c => regionOf id c
  | .cond _ a b => (regionOf id a).orElse fun _ => regionOf id b
  | _ => none

end Go.Proofs.YtplpafbkalkchaaGreatDoor
