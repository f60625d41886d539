/-
  Parts of the proof (PN3).
-/
import Derived.Test.YtplpafbkalkchaaGreatDoorM34
import Derived.Test.YtplpafbkalkchaaGreatDoorM35
import Derived.Deep.CutRange
set_option linter.unusedSimpArgs false
set_option linter.unusedVariables false

namespace Go.Proofs.YtplpafbkalkchaaGreatDoor
open Go.RowKit

set_option maxRecDepth 100000 in
set_option maxHeartbeats 40000000 in
theorem rule3_ok (b m n : Nat) (g : Nat → Nat) (f : Nat → Nat → Int) (w : World) (h : YM w b m n g f) (hn : n ≤ 100) :
    Calls Tryz.prog 144 #[.pointer (some ⟨b, 0, none⟩)] w fun e w' => (∃ p : Nat, e = .returned (.int .i64 (p : Int)) ∧ p ≤ 8000000) ∧ w = w' := by
  have HH := Lib.hid h
  clear h
  go_enter Tryz.func144, Tryz.ntmps144
  go_wp2_with fail
  refine (ymArray_ok b m n g f w HH.out).mono ?_
  rintro e w1 ⟨rfl, rfl⟩
  go_wp2_with fail
  refine (ymW_ok b m n g f w HH.out).mono ?_
  rintro e w1 ⟨rfl, rfl⟩
  go_wp2_with fail
  refine (ymH_ok b m n g f w HH.out).mono ?_
  rintro e w1 ⟨rfl, rfl⟩
  go_wp2_with fail
  go_loopw [3, 7] (fun s3 s7 wr => ∃ k p : Nat, k ≤ n ∧ s3 = .int .i64 (p : Int) ∧ s7 = .int .i64 (k : Int) ∧ p ≤ 200 * k ∧ wr = w) (fun _ s7 _ => n - (intOf s7).toNat)
  case atStart => exact ⟨0, 0, by omega, rfl, rfl, by omega, rfl⟩
  case round =>
    obtain ⟨k, p, hk, rfl, rfl, hp, rfl⟩ := hrel
    by_cases hkn : k < n
    · have hk2 : (k : Int) < (n : Int) := by omega
      go_wp2_with fail
      go_loopw [3, 8, 9] (fun s3 s8 s9 wr' => ∃ (j p : Nat), j ≤ n ∧ s3 = .int .i64 (p : Int) ∧ s8 = .int .i64 (j : Int) ∧ p ≤ 200 * k + 2 * j ∧ wr' = wr) (fun _ s8 _ _ => n - (intOf s8).toNat)
      case atStart => exact ⟨0, p, by omega, rfl, rfl, by omega, rfl⟩
      case round =>
        obtain ⟨j, p, hj, rfl, rfl, hc, rfl⟩ := hrel
        by_cases hjn : j < n
        · have hj2 : (j : Int) < (n : Int) := by omega
          have a1 := HH.out.slot hkn
          go_upto_region 12 with fail
          go_cut [103] from 21 to 204 (fun c wx => (∃ t, c = .bool t) ∧ wr = wx)
          case first =>
            refine r12_ok _ b m n k j g f _ _ _ _ _ _ _ _ _ _ _ _ _ _ _ _ _ _ _ _ _ _ _ _ _ _ _ _ _ _ _ _ _ _ _ _ _ _ _ _ _ _ _ _ _ _ _ _ _ _ _ _ _ _ _ _ _ _ _ _ _ _ _ _ _ _ _ _ _ _ _ _ _ _ _ _ _ _ _ _ _ _ _ _ _ _ _ _ _ _ _ _ _ _ _ _ _ _ _ _ _ _ _ _ _ _ _ _ _ _ _ _ _ _ _ _ _ _ _ _ _ _ _ _ _ _ _ _ _ _ _ _ _ _ _ _ _ _ _ _ _ _ _ _ _ _ _ _ _ _ _ _ _ _ _ _ _ _ _ _ _ _ _ _ _ _ _ _ _ _ _ _ _ _ _ _ _ _ _ _ _ _ _ _ _ _ _ _ _ _ _ _ _ _ _ _ _ _ _ _ _ _ HH.out hn hkn hjn (fun t _ _ _ _ _ _ _ _ _ _ _ _ _ _ _ _ _ _ _ _ _ _ _ _ _ _ _ _ _ _ _ _ _ _ _ _ _ _ _ _ _ _ _ _ _ _ _ _ _ _ _ _ _ _ _ _ _ _ _ _ _ _ _ _ _ _ _ _ _ _ _ _ _ => ?_)
            refine (‹∀ (a' : Act) (w' : World), Met _ a' w' → _› _ _ ?_)
            go_meet
            exact ⟨⟨_, rfl⟩, rfl⟩
          case rest =>
            obtain ⟨⟨t1, rfl⟩, rfl⟩ := hcut
            go_upto_if 103 with fail
            go_cut [3] from 21 to 204 (fun s3 wx => (∃ q : Nat, s3 = .int .i64 (q : Int) ∧ q ≤ p + 1) ∧ wr = wx)
            case first =>
              cases t1
              · go_wp2_with fail
                go_meet
                exact ⟨⟨p, rfl, by omega⟩, rfl⟩
              · go_wp2_with fail
                go_meet
                exact ⟨⟨p + 1, by go_num, by omega⟩, rfl⟩
            case rest =>
              obtain ⟨⟨q, rfl, hq⟩, rfl⟩ := hcut
              go_upto_region 14 with fail
              go_cut [202] from 21 to 204 (fun c wx => (∃ t, c = .bool t) ∧ wr = wx)
              case first =>
                refine r14_ok _ b m n k j g f _ _ _ _ _ _ _ _ _ _ _ _ _ _ _ _ _ _ _ _ _ _ _ _ _ _ _ _ _ _ _ _ _ _ _ _ _ _ _ _ _ _ _ _ _ _ _ _ _ _ _ _ _ _ _ _ _ _ _ _ _ _ _ _ _ _ _ _ _ _ _ _ _ _ _ _ _ _ _ _ _ _ _ _ _ _ _ _ _ _ _ _ _ _ _ _ _ _ _ _ _ _ _ _ _ _ _ _ _ _ _ _ _ _ _ _ _ _ _ _ _ _ _ _ _ _ _ _ _ _ _ _ _ _ _ _ _ _ _ _ _ _ _ _ _ _ _ _ _ _ _ _ _ _ _ _ _ _ _ _ _ _ _ _ _ _ _ _ _ _ _ _ _ _ _ _ _ _ _ _ _ _ _ _ _ _ _ _ _ _ _ _ _ _ _ _ _ _ _ _ _ _ _ HH.out hn hkn hjn (fun t _ _ _ _ _ _ _ _ _ _ _ _ _ _ _ _ _ _ _ _ _ _ _ _ _ _ _ _ _ _ _ _ _ _ _ _ _ _ _ _ _ _ _ _ _ _ _ _ _ _ _ _ _ _ _ _ _ _ _ _ _ _ _ _ _ _ _ _ _ _ _ _ _ _ _ _ _ _ _ _ _ _ _ _ _ _ _ _ _ _ _ _ _ _ _ _ => ?_)
                refine (‹∀ (a' : Act) (w' : World), Met _ a' w' → _› _ _ ?_)
                go_meet
                exact ⟨⟨_, rfl⟩, rfl⟩
              case rest =>
                obtain ⟨⟨t2, rfl⟩, rfl⟩ := hcut
                cases t2
                · go_wp2
                  go_roundw
                  case rel => exact ⟨j + 1, q, by omega, by go_num, by go_num, by omega, by simp⟩
                  case measure => simp [intOf]; omega
                · go_wp2
                  go_roundw
                  case rel => exact ⟨j + 1, q + 1, by omega, by go_num, by go_num, by omega, by simp⟩
                  case measure => simp [intOf]; omega
        · obtain rfl : j = n := by omega
          go_wp2
          go_roundw
          case rel => exact ⟨k + 1, p, by omega, by go_num, by go_num, by omega, by simp⟩
          case measure => simp [intOf]; omega
    · obtain rfl : k = n := by omega
      have hp3 : p ≤ 20000 := by omega
      go_wp2
      go_ret
      exact ⟨⟨p * 40, by go_num, by omega⟩, rfl⟩

end Go.Proofs.YtplpafbkalkchaaGreatDoor
