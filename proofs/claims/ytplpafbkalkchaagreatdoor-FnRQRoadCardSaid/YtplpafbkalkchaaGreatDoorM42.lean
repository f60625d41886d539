/-
  Parts of the proof (FP).
-/
import Derived.Test.YtplpafbkalkchaaGreatDoorM02
import Derived.Test.YtplpafbkalkchaaGreatDoorM06
import Derived.Test.YtplpafbkalkchaaGreatDoorM14
import Derived.Deep.CutRange
set_option linter.unusedSimpArgs false
set_option linter.unusedVariables false

namespace Go.Proofs.YtplpafbkalkchaaGreatDoor
open Go.RowKit

def skipA (L i j : Nat) : Bool := (i == 0 && (j == 0 || j == L - 1)) || (i == L - 1 && j == 0)
def oneA (c : List Nat) (i j x y : Nat) : Bool := !skipA c.length i j && _root_.QR.inR x y (c.getD j 0 - 2) (c.getD i 0 - 2) 5 5
/-- The patterns of alignment behind k rows of them, and q of row k. -/
def aF (c : List Nat) (k q x y : Nat) : Bool := (List.range k).any (fun i => (List.range c.length).any fun j => oneA c i j x y) || (List.range q).any fun j => oneA c k j x y
theorem aF_succ (c : List Nat) (k q x y : Nat) : aF c k (q + 1) x y = (aF c k q x y || oneA c k q x y) := by
  unfold aF
  rw [List.range_succ, List.any_append, Bool.or_assoc]; simp
theorem aF_row (c : List Nat) (k x y : Nat) : aF c k c.length x y = aF c (k + 1) 0 x y := by
  unfold aF
  rw [List.range_succ, List.any_append]; simp
def corn3 (n x y : Nat) : Bool := _root_.QR.inR x y 0 0 9 9 || _root_.QR.inR x y (n - 8) 0 8 9 || _root_.QR.inR x y 0 (n - 8) 9 8
theorem centers_mids (v : Nat) (h1 : 1 ≤ v) (h7 : v ≤ 7) : _root_.QR.mids7 v = QR.centers v := by
  obtain rfl | rfl | rfl | rfl | rfl | rfl | rfl : v = 1 ∨ v = 2 ∨ v = 3 ∨ v = 4 ∨ v = 5 ∨ v = 6 ∨ v = 7 := by omega
  all_goals rfl
theorem centers_facts (v : Nat) (h1 : 1 ≤ v) (h7 : v ≤ 7) : ((QR.centers v).length = 0 ∨ (QR.centers v).length = 2 ∨ (QR.centers v).length = 3) ∧ ∀ j, j < (QR.centers v).length → 6 ≤ (QR.centers v).getD j 0 ∧ (QR.centers v).getD j 0 ≤ 4 * v + 10 := by
  obtain rfl | rfl | rfl | rfl | rfl | rfl | rfl : v = 1 ∨ v = 2 ∨ v = 3 ∨ v = 4 ∨ v = 5 ∨ v = 6 ∨ v = 7 := by omega
  all_goals
    refine ⟨by decide, ?_⟩
    intro j hj
    have hj3 : j = 0 ∨ j = 1 ∨ j = 2 := by
      have h3 : ∀ v, 1 ≤ v → v ≤ 7 → (QR.centers v).length ≤ 3 := fun v a b => by
        obtain rfl | rfl | rfl | rfl | rfl | rfl | rfl : v = 1 ∨ v = 2 ∨ v = 3 ∨ v = 4 ∨ v = 5 ∨ v = 6 ∨ v = 7 := by omega
        all_goals decide
      have := h3 _ h1 h7
      omega
    rcases hj3 with rfl | rfl | rfl
    all_goals first | (exfalso; revert hj; decide) | decide
theorem fpat_eq (v x y : Nat) (h1 : 1 ≤ v) (h7 : v ≤ 7) : _root_.QR.fpat v x y =
    (corn3 (_root_.QR.side v) x y || aF (QR.centers v) (QR.centers v).length 0 x y || _root_.QR.inR x y 6 9 1 (_root_.QR.side v - 17) || _root_.QR.inR x y 9 6 (_root_.QR.side v - 17) 1 ||
      (decide (6 < v) && (_root_.QR.inR x y (_root_.QR.side v - 11) 0 3 6 || _root_.QR.inR x y 0 (_root_.QR.side v - 11) 6 3))) := by
  unfold _root_.QR.fpat corn3 aF oneA skipA
  rw [centers_mids v h1 h7]
  simp
theorem inR_dec (x y l t n m : Nat) : decide (l ≤ x ∧ x < l + n ∧ t ≤ y ∧ y < t + m) = _root_.QR.inR x y l t n m := by
  unfold _root_.QR.inR
  rw [Bool.eq_iff_iff]; simp [and_assoc]

set_option maxRecDepth 100000 in
set_option maxHeartbeats 2000000 in
theorem buildPat_ok (s b v : Nat) (w : World) (hV : Ver w s b v) (h1 : 1 ≤ v) (h7 : v ≤ 7) : Calls Tryz.prog 221 #[.pointer (some ⟨b, 0, none⟩)] w fun e w' => ∃ pb pc, e = .returned (.tuple #[.pointer (some ⟨pb, 0, none⟩), .nilIface]) ∧
    BM w' pb pc (_root_.QR.side v) (_root_.QR.side v) (_root_.QR.fpat v) ∧ Keeps (fun _ => False) w w' ∧ w.heap.size ≤ pb ∧ w.heap.size ≤ pc := by
  have V := Lib.hid hV
  obtain ⟨n, hn⟩ : ∃ n, 17 + 4 * v = n := ⟨_, rfl⟩
  have HN := Lib.hid (show _root_.QR.side v = n from hn)
  have hn1 : 21 ≤ n ∧ n ≤ 45 := by omega
  have HNV := Lib.hid (show n = 17 + 4 * v from hn.symm)
  obtain ⟨n1, n2⟩ := hn1
  obtain ⟨L, hL⟩ : ∃ L, (QR.centers v).length = L := ⟨_, rfl⟩
  have HL := Lib.hid hL
  have hcf := centers_facts v h1 h7
  rw [hL] at hcf
  have L023 := hcf.1
  have CF := Lib.hid hcf.2
  have HL3 := Lib.hid L023
  have hL3 : L ≤ 3 := by omega
  have v0 := hV.head.cell (i := 0) rfl
  have v1 := hV.head.cell (i := 1) rfl
  rw [hL] at v1
  unfold vi at v0
  have hbl := hV.ltb
  have HV1 := Lib.hid (And.intro v0 v1)
  clear hV hcf L023 hL
  go_enter Tryz.func221, Tryz.ntmps221
  go_wp2_with fail
  refine (getDim_ok s b v w V.out (by omega)).mono ?_
  rw [hn]
  rintro e w1 ⟨rfl, rfl⟩
  clear hn
  go_wp2_with fail
  refine (bmSquare_ok n w (by omega) (by omega) _ rfl).mono ?_
  rintro e w1 ⟨rfl, a1, a2, a3⟩
  obtain ⟨B, hB⟩ : ∃ B, w.heap.size = B := ⟨_, rfl⟩
  rw [hB] at a1 a3 hbl ⊢
  have M1 := Lib.hid a1
  have K1 := Lib.hid a2
  clear a1 a2 a3
  go_wp2_with fail
  refine (bmRegion_ok (B + 1) B n n 0 0 9 9 _ w1 M1.out (by omega) (by omega) (by omega) (by omega) (by omega) (by omega) _ _ _ _ rfl rfl rfl rfl).mono ?_
  rintro e w2 ⟨rfl, a1, a2⟩
  have M2 := Lib.hid a1
  have K2 := Lib.hid (show Keeps (fun _ => False) w w2 from K1.out.step a2 (fun i hi e => by omega))
  clear a1 a2
  go_wp2_with fail
  refine (bmRegion_ok (B + 1) B n n (n - 8) 0 8 9 _ w2 M2.out (by omega) (by omega) (by omega) (by omega) (by omega) (by omega) _ _ _ _ (by omega) rfl rfl rfl).mono ?_
  rintro e w3 ⟨rfl, a1, a2⟩
  have M3 := Lib.hid a1
  have K3 := Lib.hid (show Keeps (fun _ => False) w w3 from K2.out.step a2 (fun i hi e => by omega))
  clear a1 a2
  go_wp2_with fail
  refine (bmRegion_ok (B + 1) B n n 0 (n - 8) 9 8 _ w3 M3.out (by omega) (by omega) (by omega) (by omega) (by omega) (by omega) _ _ _ _ rfl (by omega) rfl rfl).mono ?_
  rintro e w4 ⟨rfl, a1, a2⟩
  have M4 := Lib.hid (a1.congr (g := fun x y => corn3 n x y || aF (QR.centers v) 0 0 x y) (fun x y _ _ => by
    simp only [inR_dec]; simp [corn3, aF]))
  have K4 := Lib.hid (show Keeps (fun _ => False) w w4 from K3.out.step a2 (fun i hi e => by omega))
  have w1v := (K4.out.cell (p := ⟨b, 1, none⟩) (by show b < w.heap.size; omega) (fun f => f)).trans HV1.out.2
  clear a1 a2
  go_wp2_with fail
  clear w1v
  go_loopw [8, 9, 10] (fun s8 _ _ wr => ∃ k : Nat, k ≤ L ∧ s8 = .int .i64 (k : Int) ∧ BM wr (B + 1) B n n (fun x y => corn3 n x y || aF (QR.centers v) k 0 x y) ∧ Keeps (fun _ => False) w wr) (fun s8 _ _ _ => L - (intOf s8).toNat)
  case atStart => exact ⟨0, by omega, rfl, M4.out, K4.out⟩
  case round =>
    obtain ⟨k, hk, rfl, a1, a2⟩ := hrel
    have A := Lib.hid (And.intro a1 a2)
    have v1 := (a2.cell (p := ⟨b, 1, none⟩) (by show b < w.heap.size; omega) (fun f => f)).trans HV1.out.2
    have v0 := (a2.cell (p := ⟨b, 0, none⟩) (by show b < w.heap.size; omega) (fun f => f)).trans HV1.out.1
    have hcen := V.out.cen.keep a2 (fun f => f)
    clear a1 a2
    by_cases hkL : k < L
    · have hkL' : (k : Int) < (L : Int) := by omega
      obtain ⟨ck, hck⟩ : ∃ c, (QR.centers v).getD k 0 = c := ⟨_, rfl⟩
      have hc0 := hcen.cell (i := k) (v := .int .i64 (ck : Int)) (by have := HL.out; simp [← hck, List.getD, vi, show k < (QR.centers v).length by omega])
      have hcb := CF.out k hkL
      rw [hck] at hcb
      have HNV' := HNV.out
      have hck3 : 6 ≤ ck ∧ ck + 3 ≤ n := by omega
      have HCK := Lib.hid hck
      obtain ⟨ck6, ck3⟩ := hck3
      clear hcb HNV' hck hcen
      go_wp2_with fail
      go_loopw [10] (fun s10 wr' => ∃ q : Nat, q ≤ L ∧ s10 = .int .i64 (q : Int) ∧ BM wr' (B + 1) B n n (fun x y => corn3 n x y || aF (QR.centers v) k q x y) ∧ Keeps (fun _ => False) w wr') (fun s10 _ => L - (intOf s10).toNat)
      case atStart => exact ⟨0, by omega, rfl, A.out⟩
      case round =>
        obtain ⟨q, hq, rfl, a1, a2⟩ := hrel
        have A := Lib.hid (And.intro a1 a2)
        have u1 := (a2.cell (p := ⟨b, 1, none⟩) (by show b < w.heap.size; omega) (fun f => f)).trans HV1.out.2
        have hcen := V.out.cen.keep a2 (fun f => f)
        clear a1 a2 v0 v1 hc0
        by_cases hqL : q < L
        · have hqL' : (q : Int) < (L : Int) := by omega
          obtain ⟨cq, hcq⟩ : ∃ c, (QR.centers v).getD q 0 = c := ⟨_, rfl⟩
          have hc0 := hcen.cell (i := q) (v := .int .i64 (cq : Int)) (by have := HL.out; simp [← hcq, List.getD, vi, show q < (QR.centers v).length by omega])
          have hcb := CF.out q hqL
          rw [hcq] at hcb
          have HNV' := HNV.out
          have hcq3 : 6 ≤ cq ∧ cq + 3 ≤ n := by omega
          have HCQ := Lib.hid hcq
          obtain ⟨cq6, cq3⟩ := hcq3
          clear hcb HNV' hcq hcen
          have hcase : skipA L k q = true ∨ skipA L k q = false := by cases skipA L k q <;> simp
          rcases hcase with hsk | hsk
          · have hs := Lib.hid (A.out.1.congr (g := fun x y => corn3 n x y || aF (QR.centers v) k (q + 1) x y) (fun x y _ _ => by
              rw [aF_succ]; unfold oneA; rw [HL.out, hsk]; simp))
            have h6 : (L = 2 ∧ k = 0 ∧ q = 0) ∨ (L = 2 ∧ k = 0 ∧ q = 1) ∨ (L = 2 ∧ k = 1 ∧ q = 0) ∨ (L = 3 ∧ k = 0 ∧ q = 0) ∨ (L = 3 ∧ k = 0 ∧ q = 2) ∨ (L = 3 ∧ k = 2 ∧ q = 0) := by
              have := HL3.out
              simp [skipA] at hsk; omega
            clear hsk u1 hc0
            rcases h6 with ⟨rfl, rfl, rfl⟩ | ⟨rfl, rfl, rfl⟩ | ⟨rfl, rfl, rfl⟩ | ⟨rfl, rfl, rfl⟩ | ⟨rfl, rfl, rfl⟩ | ⟨rfl, rfl, rfl⟩
            all_goals
              go_wp2
              go_roundw
              case rel => exact ⟨_, by omega, by go_num, hs.out, A.out.2⟩
              case measure => simp [intOf]
          · have h7 : (L = 2 ∧ k = 1 ∧ q = 1) ∨ (L = 3 ∧ k = 0 ∧ q = 1) ∨ (L = 3 ∧ k = 1 ∧ q = 0) ∨ (L = 3 ∧ k = 1 ∧ q = 1) ∨ (L = 3 ∧ k = 1 ∧ q = 2) ∨ (L = 3 ∧ k = 2 ∧ q = 1) ∨ (L = 3 ∧ k = 2 ∧ q = 2) := by
              have := HL3.out
              simp [skipA] at hsk; omega
            have HSTEP := Lib.hid (show ∀ x y, ((corn3 n x y || aF (QR.centers v) k q x y) || decide (cq - 2 ≤ x ∧ x < cq - 2 + 5 ∧ ck - 2 ≤ y ∧ y < ck - 2 + 5)) = (corn3 n x y || aF (QR.centers v) k (q + 1) x y) from fun x y => by
              rw [inR_dec, aF_succ]; unfold oneA; rw [HL.out, hsk, HCK.out, HCQ.out]
              simp [Bool.or_assoc])
            clear hsk
            rcases h7 with ⟨rfl, rfl, rfl⟩ | ⟨rfl, rfl, rfl⟩ | ⟨rfl, rfl, rfl⟩ | ⟨rfl, rfl, rfl⟩ | ⟨rfl, rfl, rfl⟩ | ⟨rfl, rfl, rfl⟩ | ⟨rfl, rfl, rfl⟩
            all_goals
              go_wp2_with fail
              refine (bmRegion_ok (B + 1) B n n (cq - 2) (ck - 2) 5 5 _ _ A.out.1 (by omega) (by omega) (by omega) (by omega) (by omega) (by omega) _ _ _ _ (by omega) (by omega) rfl rfl).mono ?_
              rintro e w5 ⟨rfl, a1, a2⟩
              have D := Lib.hid (And.intro (a1.congr (fun x y _ _ => HSTEP.out x y)) (A.out.2.step a2 (fun i hi e => by omega)))
              clear a1 a2
              go_wp2
              go_roundw
              case rel => exact ⟨_, _, _, _, _, _, _, _, _, _, _, _, _, _, _, _, _, _, _, _, _, _, _, _, _, _, _, _, _, _, _, _, _, _, _, _, _, _, _, ⟨_, by omega, rfl, D.out⟩, rfl⟩
              case measure => simp [intOf]
        · obtain rfl : q = L := by omega
          have hs := Lib.hid (A.out.1.congr (g := fun x y => corn3 n x y || aF (QR.centers v) (k + 1) 0 x y) (fun x y _ _ => by
            rw [← aF_row, HL.out]))
          clear u1 hcen
          go_wp2
          go_roundw
          case rel => exact ⟨k + 1, by omega, by go_num, hs.out, A.out.2⟩
          case measure => simp [intOf]; omega
    · obtain rfl : k = L := by omega
      clear hcen v1
      go_wp2_with fail
      refine (bmRegion_ok (B + 1) B n n 6 9 1 (n - 17) _ _ A.out.1 (by omega) (by omega) (by omega) (by omega) (by omega) (by omega) _ _ _ _ rfl rfl rfl (by omega)).mono ?_
      rintro e w5 ⟨rfl, a1, a2⟩
      have M5 := Lib.hid a1
      have K5 := Lib.hid (show Keeps (fun _ => False) w w5 from A.out.2.step a2 (fun i hi e => by omega))
      clear a1 a2
      go_wp2_with fail
      refine (bmRegion_ok (B + 1) B n n 9 6 (n - 17) 1 _ _ M5.out (by omega) (by omega) (by omega) (by omega) (by omega) (by omega) _ _ _ _ rfl rfl (by omega) rfl).mono ?_
      rintro e w6 ⟨rfl, a1, a2⟩
      have M6 := Lib.hid a1
      have K6 := Lib.hid (show Keeps (fun _ => False) w w6 from K5.out.step a2 (fun i hi e => by omega))
      have v0 := (K6.out.cell (p := ⟨b, 0, none⟩) (by show b < w.heap.size; omega) (fun f => f)).trans HV1.out.1
      clear a1 a2
      by_cases h6 : 6 < v
      · have h6' : (6 : Int) < (v : Int) := by omega
        go_wp2_with fail
        refine (bmRegion_ok (B + 1) B n n (n - 11) 0 3 6 _ _ M6.out (by omega) (by omega) (by omega) (by omega) (by omega) (by omega) _ _ _ _ (by omega) rfl rfl rfl).mono ?_
        rintro e w7 ⟨rfl, a1, a2⟩
        have M7 := Lib.hid a1
        have K7 := Lib.hid (show Keeps (fun _ => False) w w7 from K6.out.step a2 (fun i hi e => by omega))
        clear a1 a2
        go_wp2_with fail
        refine (bmRegion_ok (B + 1) B n n 0 (n - 11) 6 3 _ _ M7.out (by omega) (by omega) (by omega) (by omega) (by omega) (by omega) _ _ _ _ rfl (by omega) rfl rfl).mono ?_
        rintro e w8 ⟨rfl, a1, a2⟩
        have M8 := Lib.hid a1
        have K8 := Lib.hid (show Keeps (fun _ => False) w w8 from K7.out.step a2 (fun i hi e => by omega))
        clear a1 a2
        go_wp2
        go_ret2
        refine ⟨B + 1, B, rfl, ?_, K8.out, by omega, by omega⟩
        rw [HN.out]
        refine M8.out.congr (fun x y _ _ => ?_)
        rw [fpat_eq v x y h1 h7, HL.out, HN.out, decide_eq_true h6, Bool.true_and]
        simp only [inR_dec, Bool.or_assoc]
      · have h6' : ¬ (6 : Int) < (v : Int) := by omega
        go_wp2
        go_ret2
        refine ⟨B + 1, B, rfl, ?_, K6.out, by omega, by omega⟩
        rw [HN.out]
        refine M6.out.congr (fun x y _ _ => ?_)
        rw [fpat_eq v x y h1 h7, HL.out, HN.out, decide_eq_false h6, Bool.false_and, Bool.or_false]
        simp only [inR_dec, Bool.or_assoc]

end Go.Proofs.YtplpafbkalkchaaGreatDoor
