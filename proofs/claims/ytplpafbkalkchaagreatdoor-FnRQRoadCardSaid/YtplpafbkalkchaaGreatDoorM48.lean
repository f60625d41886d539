/-
  Parts of the proof (FL, FR).
-/
import Derived.WalkKit
import Derived.WalkLawsBesides
set_option linter.unusedSimpArgs false
set_option linter.unusedVariables false

namespace QRF
open Go

def b7 : Nat := 4619567317775286272
def b2 : Nat := 4611686018427387904
def bh : Nat := 4602678819172646912
/-- A whole number as a float. -/
def fl (k : Nat) : Nat := FloatKind.f64.nearest (k : Int)
def toI (r : Nat) : Option Int := (FloatKind.f64.decode r).toInt .zero

def chkA : Bool := (List.range 15).all fun m => FloatKind.f64.format.div (fl (7 * m)) b7 == some (fl m)
theorem chkA_ok : chkA = true := by decide +kernel
def chkB : Bool := (List.range 46).all fun n => (List.range 15).all fun m => m == 0 || FloatKind.f64.format.div (fl (n * m)) (fl m) == some (fl n)
theorem chkB_ok : chkB = true := by decide +kernel
def chkC : Bool := (List.range 46).all fun n => ((FloatKind.f64.format.add (fl n) bh).bind toI) == some (n : Int)
theorem chkC_ok : chkC = true := by decide +kernel
def chkD : Bool := (List.range 15).all fun m => ((FloatKind.f64.format.div (fl m) b2).bind toI) == some ((m / 2 : Nat) : Int)
theorem chkD_ok : chkD = true := by decide +kernel
def chkE : Bool := (List.range 46).all fun k => (List.range 15).all fun m => ((FloatKind.f64.format.mul (fl k) (fl m)).bind toI) == some ((k * m : Nat) : Int)
theorem chkE_ok : chkE = true := by decide +kernel

end QRF

namespace Go.Proofs.YtplpafbkalkchaaGreatDoor
open Go.RowKit

/-- A whole number as a float. -/
def flt (m : Nat) : Nat := floatOfInt .f64 (m : Int)
theorem toI_val {r : Nat} {n : Int} (h : QRF.toI r = some n) (h0 : 0 ≤ n) (h1 : n ≤ 100000) : floatToIntVal .f64 r .i64 = some n := by
  unfold QRF.toI at h
  unfold floatToIntVal
  rw [h]
  have h2 : IntKind.i64.min ≤ n ∧ n ≤ IntKind.i64.max := by
    have e1 : IntKind.i64.min = -9223372036854775808 := by decide
    have e2 : IntKind.i64.max = 9223372036854775807 := by decide
    omega
  show (if _ then _ else _) = _
  rw [if_pos h2]
theorem bind_val {o : Option Nat} {n : Int} (h : (o.bind QRF.toI == some n) = true) (h0 : 0 ≤ n) (h1 : n ≤ 100000) : ∃ r, o = some r ∧ floatToIntVal .f64 r .i64 = some n := by
  cases o with
  | none => exact absurd h (by simp)
  | some r => exact ⟨r, rfl, toI_val (by simpa using h) h0 h1⟩
theorem all_of {n : Nat} {p : Nat → Bool} (h : (List.range n).all p = true) {a : Nat} (ha : a < n) : p a = true := List.all_eq_true.1 h a (List.mem_range.2 ha)

theorem fltA {m : Nat} (h : m < 15) : floatBits .quo .f64 (flt (7 * m)) QRF.b7 = some (flt m) := by
  have := all_of QRF.chkA_ok h
  exact eq_of_beq this
theorem fltB {n m : Nat} (hn : n < 46) (h0 : 0 < m) (h : m < 15) : floatBits .quo .f64 (flt (n * m)) (flt m) = some (flt n) := by
  have := all_of (all_of QRF.chkB_ok hn) h
  rw [Bool.or_eq_true] at this
  rcases this with e | e
  · have := eq_of_beq e; omega
  · exact eq_of_beq e
theorem fltC {n : Nat} (hn : n < 46) : ∃ r, floatBits .add .f64 (flt n) QRF.bh = some r ∧ floatToIntVal .f64 r .i64 = some (n : Int) :=
  bind_val (all_of QRF.chkC_ok hn) (by omega) (by omega)
theorem fltD {m : Nat} (h : m < 15) : ∃ r, floatBits .quo .f64 (flt m) QRF.b2 = some r ∧ floatToIntVal .f64 r .i64 = some ((m / 2 : Nat) : Int) :=
  bind_val (all_of QRF.chkD_ok h) (by omega) (by omega)
theorem fltE {k m : Nat} (hk : k < 46) (h : m < 15) : ∃ r, floatBits .mul .f64 (flt k) (flt m) = some r ∧ floatToIntVal .f64 r .i64 = some ((k * m : Nat) : Int) :=
  bind_val (all_of (all_of QRF.chkE_ok hk) h) (by omega) (by have := Nat.mul_le_mul (show k ≤ 45 by omega) (show m ≤ 14 by omega); omega)
def chkG : Bool := (List.range 46).all fun n => (FloatKind.f64.format.order (QRF.fl n) 0 == some .lt) == false
theorem chkG_ok : chkG = true := by decide +kernel
theorem fltG {n : Nat} (hn : n < 46) : (FloatKind.f64.format.order (flt n) 0 == some .lt) = false := eq_of_beq (all_of chkG_ok hn)

end Go.Proofs.YtplpafbkalkchaaGreatDoor
