/-
  Parts of the proof (HG).
-/
import Derived.Test.YtplpafbkalkchaaGreatDoorM01
import Derived.Test.YtplpafbkalkchaaGreatDoorM06
import Derived.Test.YtplpafbkalkchaaGreatDoorProg
import Derived.Deep.CutRange
set_option linter.unusedSimpArgs false
set_option linter.unusedVariables false

namespace Go.Proofs.YtplpafbkalkchaaGreatDoor
open Go.RowKit

theorem dist_sq (k p : Nat) : ((k : Int) - (p : Int)) * ((k : Int) - (p : Int)) = ((_root_.QR.dist k p * _root_.QR.dist k p : Nat) : Int) := by
  unfold _root_.QR.dist
  split
  · rename_i h
    obtain ⟨d, rfl⟩ : ∃ d, p = k + d := ⟨p - k, by omega⟩
    rw [show k + d - k = d by omega, show (k : Int) - ((k + d : Nat) : Int) = -(d : Int) by omega, Int.neg_mul_neg]
    simp
  · rename_i h
    obtain ⟨d, rfl⟩ : ∃ d, k = p + d := ⟨k - p, by omega⟩
    rw [show p + d - p = d by omega, show ((p + d : Nat) : Int) - (p : Int) = (d : Int) by omega]
    simp
theorem dist_lt {k p : Nat} (hk : k < 32) (hp : p < 32) : _root_.QR.dist k p < 32 := by
  unfold _root_.QR.dist; split <;> omega
/-- What the second loop reckons. -/
theorem score2 (B : Nat → Nat) (k p M : Nat) (hk : k < 32) (hp : p < 32) (hB : B k ≤ M) (hM : M ≤ 10000) :
    ∃ q : Int, (B k : Int) * ((k : Int) - (p : Int)) = q ∧ -310000 ≤ q ∧ q ≤ 310000 ∧ q * ((k : Int) - (p : Int)) = (_root_.QR.sc2 B p k : Int) ∧ _root_.QR.sc2 B p k ≤ 9610000 := by
  have hd := dist_lt hk hp
  have h1 : _root_.QR.sc2 B p k ≤ 10000 * 31 * 31 := by
    unfold _root_.QR.sc2
    exact Nat.mul_le_mul (Nat.mul_le_mul (by omega) (by omega)) (by omega)
  refine ⟨(B k : Int) * ((k : Int) - (p : Int)), rfl, ?_, ?_, ?_, by omega⟩
  · have h2 : (B k : Int) * ((p : Int) - (k : Int)) ≤ 10000 * 31 := by
      by_cases h : (0 : Int) ≤ (p : Int) - (k : Int)
      · exact Int.mul_le_mul (by omega) (by omega) h (by omega)
      · have : (B k : Int) * ((p : Int) - (k : Int)) ≤ 0 := Int.mul_nonpos_of_nonneg_of_nonpos (by omega) (by omega)
        omega
    rw [show (p : Int) - (k : Int) = -((k : Int) - (p : Int)) by omega, Int.mul_neg] at h2
    omega
  · by_cases h : (0 : Int) ≤ (k : Int) - (p : Int)
    · have := Int.mul_le_mul (a := (B k : Int)) (b := (k : Int) - (p : Int)) (c := 10000) (d := 31) (by omega) (by omega) h (by omega)
      omega
    · have : (B k : Int) * ((k : Int) - (p : Int)) ≤ 0 := Int.mul_nonpos_of_nonneg_of_nonpos (by omega) (by omega)
      omega
  · rw [Int.mul_assoc, dist_sq]
    unfold _root_.QR.sc2
    push_cast
    rw [Int.mul_assoc]
/-- What the third loop reckons. -/
theorem score3 (B : Nat → Nat) (x lo hi mx M : Nat) (h1 : lo < x) (h2 : x < hi) (h3 : hi < 32) (hx : B x ≤ mx) (hm : mx ≤ M) (hM : M ≤ 10000) :
    ∃ a c u p q : Nat, (x : Int) - (lo : Int) = (a : Int) ∧ (hi : Int) - (x : Int) = (c : Int) ∧ (mx : Int) - (B x : Int) = (u : Int) ∧ (a : Int) * (a : Int) = (p : Int) ∧ (p : Int) * (c : Int) = (q : Int) ∧
      (q : Int) * (u : Int) = (_root_.QR.sc3 B mx lo hi x : Int) ∧ p ≤ 1000 ∧ q ≤ 32000 ∧ _root_.QR.sc3 B mx lo hi x ≤ 320000000 ∧ a ≤ 31 ∧ c ≤ 31 ∧ u ≤ 10000 := by
  refine ⟨x - lo, hi - x, mx - B x, (x - lo) * (x - lo), (x - lo) * (x - lo) * (hi - x), by omega, by omega, by omega, by push_cast; rfl, by push_cast; rfl, ?_, ?_, ?_, ?_, by omega, by omega, by omega⟩
  · unfold _root_.QR.sc3; push_cast; rfl
  · have := Nat.mul_le_mul (show x - lo ≤ 31 by omega) (show x - lo ≤ 31 by omega); omega
  · have h4 := Nat.mul_le_mul (show x - lo ≤ 31 by omega) (show x - lo ≤ 31 by omega)
    have := Nat.mul_le_mul h4 (show hi - x ≤ 31 by omega); omega
  · have h4 := Nat.mul_le_mul (show x - lo ≤ 31 by omega) (show x - lo ≤ 31 by omega)
    have h5 := Nat.mul_le_mul h4 (show hi - x ≤ 31 by omega)
    have h6 := Nat.mul_le_mul h5 (show mx - B x ≤ 10000 by omega)
    unfold _root_.QR.sc3; omega

end Go.Proofs.YtplpafbkalkchaaGreatDoor
