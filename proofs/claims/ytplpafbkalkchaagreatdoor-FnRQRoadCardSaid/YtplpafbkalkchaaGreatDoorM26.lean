/-
  Parts of the proof (TX5).
-/
import Derived.Test.YtplpafbkalkchaaGreatDoorM25
set_option linter.unusedSimpArgs false
set_option linter.unusedVariables false

namespace Go.Proofs.YtplpafbkalkchaaGreatDoor
open Go.RowKit

theorem appendBit_g (w0 wr : World) (b c : Nat) (l : List Bool) (v : Bool) (h : Grow w0 b c wr l) (hlen : l.length ≤ 100000) :
    Calls Tryz.prog 114 #[.pointer (some ⟨b, 0, none⟩), .bool v] wr fun e w' => e = .returned (.tuple #[]) ∧ Grow w0 b c w' (l ++ [v]) := by
  obtain ⟨cr, h1, h3, h4⟩ := id h
  refine (appendBit_ok b cr l v wr h1 hlen).mono fun e w' ⟨he, c', g1, g2, g3⟩ => ⟨he, ⟨c', g1, ?_, h4.step g3 (fun i hi e => ?_)⟩⟩
  · have := h4.size
    rcases g2 with g2 | g2
    · rw [g2]; exact h3
    · exact Or.inr (by omega)
  · rcases e with e | e
    · exact Or.inl e
    · rcases h3 with h3 | h3
      · exact Or.inr (by omega)
      · omega
theorem getSize_g (w0 wr : World) (b c : Nat) (l : List Bool) (h : Grow w0 b c wr l) : Calls Tryz.prog 110 #[.pointer (some ⟨b, 0, none⟩)] wr fun e w' =>
    e = .returned (.int .i64 (l.length : Int)) ∧ wr = w' := by
  obtain ⟨cr, h1, _⟩ := h
  exact getSize_ok b cr l wr h1
theorem getSizeB_g (w0 wr : World) (b c : Nat) (l : List Bool) (h : Grow w0 b c wr l) : Calls Tryz.prog 51 #[.pointer (some ⟨b, 0, none⟩)] wr fun e w' =>
    e = .returned (.int .i64 (((l.length + 7) / 8 : Nat) : Int)) ∧ wr = w' := by
  obtain ⟨cr, h1, _⟩ := h
  exact getSizeB_ok b cr l wr h1

/-- The words of the padding, j of them, as bits. -/
def padB (j : Nat) : List Bool := (List.range j).flatMap fun i => QR.bitsOf 8 (if i % 2 = 0 then 236 else 17)
theorem padB_length (j : Nat) : (padB j).length = 8 * j := by
  induction j with
  | zero => rfl
  | succ j ih =>
    unfold padB at ih ⊢
    rw [List.range_succ, List.flatMap_append, List.length_append, ih]
    simp [_root_.QR.bitsOf_length]; omega
theorem padB_succ (j : Nat) : padB (j + 1) = padB j ++ QR.bitsOf 8 (if j % 2 = 0 then 236 else 17) := by
  unfold padB; rw [List.range_succ, List.flatMap_append]; simp
def zerosB (k : Nat) : List Bool := List.replicate k false
theorem zerosB_length (k : Nat) : (zerosB k).length = k := List.length_replicate
theorem zerosB_succ (k : Nat) : zerosB (k + 1) = zerosB k ++ [false] := List.replicate_succ'

theorem term_zeros (k q p : Nat) (h : k = 4 ∨ (q = 0 ∧ p = 0)) (i : Nat) (hi : i < 4) : (zerosB k ++ zerosB q ++ padB p).getD i false = false := by
  rcases h with rfl | ⟨rfl, rfl⟩
  · simp only [List.getD]
    rw [List.append_assoc, List.getElem?_append_left (by rw [zerosB_length]; exact hi)]
    unfold zerosB; rw [List.getElem?_replicate, if_pos hi]; rfl
  · simp only [List.getD]
    by_cases h : i < k
    · simp [zerosB, padB, h]
    · simp [zerosB, padB, List.getElem?_eq_none, h]

theorem and1_i64 {x : Nat} (hx : x < 4611686018427387904) : bits .and .i64 (x : Int) 1 = ((x % 2 : Nat) : Int) := by
  have := bits_mask .i64 62 (by decide) wraps_i64 1 (by decide) (x : Int) (by omega) (by simpa using (by omega : (x : Int) < 4611686018427387904))
  simpa using this

set_option maxRecDepth 100000 in
set_option maxHeartbeats 4000000 in
theorem terminate_ok (D b c : Nat) (l : List Bool) (w : World) (h : BA w b c l) (hl : l.length ≤ 8 * D) (hD : D ≤ 200) (D' : Int) (hD' : D' = (D : Int)) :
    Calls Tryz.prog 56 #[.int .i64 D', .pointer (some ⟨b, 0, none⟩)] w fun e w' => e = .returned .nilIface ∧
      ∃ T, Grow w b c w' (l ++ T) ∧ (l ++ T).length = 8 * D ∧ ∀ i, i < 4 → T.getD i false = false := by
  subst hD'
  have HG := Lib.hid (Grow.start h)
  clear h
  have hg0 : (decide ((D : Int) * 8 < (l.length : Int))) = false := decide_eq_false (by omega)
  go_enter Tryz.func56, Tryz.ntmps56
  go_wp2_with fail
  refine (getSize_g w w b c l HG.out).mono ?_
  rintro e w1 ⟨rfl, rfl⟩
  go_wp2_with fail
  clear hg0
  go_loopw [6] (fun i wr => ∃ k : Nat, k ≤ 4 ∧ i = .int .i64 (k : Int) ∧ Grow w b c wr (l ++ zerosB k) ∧ Hid (l.length + k ≤ 8 * D)) (fun i _ => 4 - (intOf i).toNat)
  case atStart => exact ⟨0, by omega, rfl, by simpa [zerosB] using HG.out, Lib.hid (by omega)⟩
  case round =>
    obtain ⟨k, hk, rfl, hg, hkl⟩ := hrel
    have G := Lib.hid hg
    clear hg
    have hlen := Lib.hid (show (l ++ zerosB k).length = l.length + k by rw [List.length_append, zerosB_length])
    by_cases hc : k < 4 ∧ l.length + k < 8 * D
    · obtain ⟨hc1, hc2⟩ := hc
      have hd2 : decide ((l.length : Int) + (k : Int) < (D : Int) * 8) = true := decide_eq_true (by omega)
      have hc1' : (k : Int) < 4 := by omega
      go_wp2_with fail
      refine (getSize_g w _ b c _ G.out).mono ?_
      rw [hlen.out, Int.natCast_add]
      rintro e w1 ⟨rfl, rfl⟩
      go_wp2_with fail
      refine (appendBit_g w _ b c _ false G.out (by rw [hlen.out]; omega)).mono ?_
      rintro e w1 ⟨rfl, g⟩
      have G2 := Lib.hid g
      clear g
      go_wp2
      go_roundw
      case rel => exact ⟨k + 1, by omega, by go_num, by rw [zerosB_succ, ← List.append_assoc]; exact G2.out, Lib.hid (by omega)⟩
      case measure => simp [intOf]; omega
    · have HK := Lib.hid (show k = 4 ∨ l.length + k = 8 * D by have := hkl.out; omega)
      obtain ⟨l1, hl1⟩ : ∃ l1, l ++ zerosB k = l1 := ⟨_, rfl⟩
      rw [hl1] at G hlen
      have L1 := Lib.hid hl1
      obtain ⟨n1, hn1⟩ : ∃ n1, l.length + k = n1 := ⟨_, rfl⟩
      rw [hn1] at hlen HK
      have N1 := Lib.hid hn1
      have hn1D : n1 ≤ 8 * D := by have := hkl.out; omega
      have h7 := and7_i64 (x := n1) (by omega)
      obtain ⟨r, hr⟩ : ∃ r, n1 % 8 = r := ⟨_, rfl⟩
      rw [hr] at h7
      have R := Lib.hid hr
      have hr8 : r < 8 := by omega
      have hcc : ¬ k < 4 ∨ (k < 4 ∧ ¬ n1 < 8 * D) := by omega
      clear hl1 hn1 hr hc
      by_cases hc1 : k < 4
      all_goals try have hc1' : (k : Int) < 4 := by omega
      all_goals try have hc1' : ¬ (k : Int) < 4 := by omega
      all_goals try have hd2 : decide ((n1 : Int) < (D : Int) * 8) = false := decide_eq_false (by omega)
      all_goals clear hcc
      · go_wp2_with fail
        refine (getSize_g w _ b c _ G.out).mono ?_
        rw [hlen.out]
        rintro e w1 ⟨rfl, rfl⟩
        go_wp2_with fail
        refine (getSize_g w _ b c _ G.out).mono ?_
        rw [hlen.out]
        rintro e w1 ⟨rfl, rfl⟩
        by_cases hr0 : r = 0
        · subst hr0
          have G0 : Hid (Grow w b c _ (l1 ++ zerosB 0)) := Lib.hid (by simpa [zerosB] using G.out)
          obtain ⟨l2, hl2⟩ : ∃ l2, l1 ++ zerosB 0 = l2 := ⟨_, rfl⟩
          obtain ⟨m, hm⟩ : ∃ m, (n1 + 0) / 8 = m := ⟨_, rfl⟩
          have hlen2 : l2.length = 8 * m := by rw [← hl2, List.length_append, zerosB_length, hlen.out]; have := R.out; omega
          have hmD : m ≤ D := by have := R.out; omega
          have LEN2 := Lib.hid hlen2
          have FIN : Hid (∀ w', Grow w b c w' (l2 ++ padB (D - m)) → ∃ T, Grow w b c w' (l ++ T) ∧ (l ++ T).length = 8 * D ∧ ∀ i, i < 4 → T.getD i false = false) := Lib.hid (fun w' g => by
            refine ⟨zerosB k ++ zerosB 0 ++ padB (D - m), ?_, ?_, term_zeros k _ _ ?_⟩
            · rw [← List.append_assoc, ← List.append_assoc, L1.out, hl2]; exact g
            · rw [← List.append_assoc, ← List.append_assoc, L1.out, hl2, List.length_append, padB_length, hlen2]; omega
            · have h1 := HK.out
              have h2 := R.out
              have h3 := N1.out
              omega)
          have G0' : Hid (Grow w b c _ l2) := Lib.hid (hl2 ▸ G0.out)
          clear hl2 hm hlen2
          go_wp2_with fail
          refine (getSizeB_g w _ b c _ G0'.out).mono ?_
          rw [LEN2.out, show (8 * m + 7) / 8 = m by omega]
          rintro e w1 ⟨rfl, rfl⟩
          go_wp2_with fail
          go_loopw [10] (fun j wr => ∃ i : Nat, i ≤ D - m ∧ j = .int .i64 (i : Int) ∧ Grow w b c wr (l2 ++ padB i)) (fun j _ => D - (intOf j).toNat)
          case atStart => exact ⟨0, by omega, rfl, by simpa [padB] using G0'.out⟩
          case round =>
            obtain ⟨i, hi1, rfl, hg⟩ := hrel
            have G3 := Lib.hid hg
            clear hg
            by_cases hi : i < D - m
            · have h1 := and1_i64 (x := i) (by omega)
              have hi' : (i : Int) < (D : Int) - (m : Int) := by omega
              obtain ⟨u, hu⟩ : ∃ u, i % 2 = u := ⟨_, rfl⟩
              rw [hu] at h1
              have U := Lib.hid hu
              have hu2 : u = 0 ∨ u = 1 := by omega
              clear hu
              rcases hu2 with rfl | rfl
              · go_wp2_with fail
                refine (appendBits_g w _ b c 8 (l2 ++ padB i) 236 G3.out (by omega) (by omega) (by rw [List.length_append, padB_length, LEN2.out]; omega) _ _ rfl rfl).mono ?_
                rintro e w1 ⟨rfl, g⟩
                have G4 := Lib.hid g
                clear g
                go_wp2
                go_roundw
                case rel => exact ⟨i + 1, by omega, by go_num, by rw [padB_succ, U.out, ← List.append_assoc]; exact G4.out⟩
                case measure => simp [intOf]; omega
              · go_wp2_with fail
                refine (appendBits_g w _ b c 8 (l2 ++ padB i) 17 G3.out (by omega) (by omega) (by rw [List.length_append, padB_length, LEN2.out]; omega) _ _ rfl rfl).mono ?_
                rintro e w1 ⟨rfl, g⟩
                have G4 := Lib.hid g
                clear g
                go_wp2
                go_roundw
                case rel => exact ⟨i + 1, by omega, by go_num, by rw [padB_succ, U.out, ← List.append_assoc]; exact G4.out⟩
                case measure => simp [intOf]; omega
            · obtain rfl : i = D - m := by omega
              have hi' : ¬ (((D - m : Nat) : Int) < (D : Int) - (m : Int)) := by omega
              go_wp2_with fail
              refine (getSize_g w _ b c _ G3.out).mono ?_
              rw [show (((l2 ++ padB (D - m)).length : Nat) : Int) = (D : Int) * 8 by rw [List.length_append, padB_length, LEN2.out]; omega]
              rintro e w1 ⟨rfl, rfl⟩
              go_wp2
              go_ret
              exact ⟨rfl, FIN.out _ G3.out⟩
        · have hr1 : (0 : Int) < (r : Int) := by omega
          have hr3 : 0 < r := by omega
          have hr2 : decide (0 < r) = true := decide_eq_true hr3
          go_wp2_with fail
          go_loopw [8] (fun j wr => ∃ i : Nat, r ≤ i ∧ i ≤ 8 ∧ j = .int .i64 (i : Int) ∧ Grow w b c wr (l1 ++ zerosB (i - r))) (fun j _ => 8 - (intOf j).toNat)
          case atStart => exact ⟨r, by omega, by omega, rfl, by simpa [zerosB] using G.out⟩
          case round =>
            obtain ⟨i, i1, i2, rfl, hg⟩ := hrel
            have G2 := Lib.hid hg
            clear hg
            by_cases hi : i < 8
            · have hi' : (i : Int) < 8 := by omega
              go_wp2_with fail
              refine (appendBit_g w _ b c _ false G2.out (by rw [List.length_append, zerosB_length, hlen.out]; omega)).mono ?_
              rintro e w1 ⟨rfl, g⟩
              have G3 := Lib.hid g
              clear g
              go_wp2
              go_roundw
              case rel => exact ⟨i + 1, by omega, by omega, by go_num, by rw [show i + 1 - r = (i - r) + 1 by omega, zerosB_succ, ← List.append_assoc]; exact G3.out⟩
              case measure => simp [intOf]; omega
            · obtain rfl : i = 8 := by omega
              obtain ⟨l2, hl2⟩ : ∃ l2, l1 ++ zerosB (8 - r) = l2 := ⟨_, rfl⟩
              obtain ⟨m, hm⟩ : ∃ m, (n1 + (8 - r)) / 8 = m := ⟨_, rfl⟩
              have hlen2 : l2.length = 8 * m := by rw [← hl2, List.length_append, zerosB_length, hlen.out]; have := R.out; omega
              have hmD : m ≤ D := by have := R.out; omega
              have LEN2 := Lib.hid hlen2
              have FIN : Hid (∀ w', Grow w b c w' (l2 ++ padB (D - m)) → ∃ T, Grow w b c w' (l ++ T) ∧ (l ++ T).length = 8 * D ∧ ∀ i, i < 4 → T.getD i false = false) := Lib.hid (fun w' g => by
                refine ⟨zerosB k ++ zerosB (8 - r) ++ padB (D - m), ?_, ?_, term_zeros k _ _ ?_⟩
                · rw [← List.append_assoc, ← List.append_assoc, L1.out, hl2]; exact g
                · rw [← List.append_assoc, ← List.append_assoc, L1.out, hl2, List.length_append, padB_length, hlen2]; omega
                · have h1 := HK.out
                  have h2 := R.out
                  have h3 := N1.out
                  omega)
              have G2' : Hid (Grow w b c _ l2) := Lib.hid (hl2 ▸ G2.out)
              clear hl2 hm hlen2
              go_wp2_with fail
              refine (getSizeB_g w _ b c _ G2'.out).mono ?_
              rw [LEN2.out, show (8 * m + 7) / 8 = m by omega]
              rintro e w1 ⟨rfl, rfl⟩
              go_wp2_with fail
              go_loopw [10] (fun j wr => ∃ i : Nat, i ≤ D - m ∧ j = .int .i64 (i : Int) ∧ Grow w b c wr (l2 ++ padB i)) (fun j _ => D - (intOf j).toNat)
              case atStart => exact ⟨0, by omega, rfl, by simpa [padB] using G2'.out⟩
              case round =>
                obtain ⟨i, hi1, rfl, hg⟩ := hrel
                have G3 := Lib.hid hg
                clear hg
                by_cases hi : i < D - m
                · have h1 := and1_i64 (x := i) (by omega)
                  have hi' : (i : Int) < (D : Int) - (m : Int) := by omega
                  obtain ⟨u, hu⟩ : ∃ u, i % 2 = u := ⟨_, rfl⟩
                  rw [hu] at h1
                  have U := Lib.hid hu
                  have hu2 : u = 0 ∨ u = 1 := by omega
                  clear hu
                  rcases hu2 with rfl | rfl
                  · go_wp2_with fail
                    refine (appendBits_g w _ b c 8 (l2 ++ padB i) 236 G3.out (by omega) (by omega) (by rw [List.length_append, padB_length, LEN2.out]; omega) _ _ rfl rfl).mono ?_
                    rintro e w1 ⟨rfl, g⟩
                    have G4 := Lib.hid g
                    clear g
                    go_wp2
                    go_roundw
                    case rel => exact ⟨i + 1, by omega, by go_num, by rw [padB_succ, U.out, ← List.append_assoc]; exact G4.out⟩
                    case measure => simp [intOf]; omega
                  · go_wp2_with fail
                    refine (appendBits_g w _ b c 8 (l2 ++ padB i) 17 G3.out (by omega) (by omega) (by rw [List.length_append, padB_length, LEN2.out]; omega) _ _ rfl rfl).mono ?_
                    rintro e w1 ⟨rfl, g⟩
                    have G4 := Lib.hid g
                    clear g
                    go_wp2
                    go_roundw
                    case rel => exact ⟨i + 1, by omega, by go_num, by rw [padB_succ, U.out, ← List.append_assoc]; exact G4.out⟩
                    case measure => simp [intOf]; omega
                · obtain rfl : i = D - m := by omega
                  have hi' : ¬ (((D - m : Nat) : Int) < (D : Int) - (m : Int)) := by omega
                  go_wp2_with fail
                  refine (getSize_g w _ b c _ G3.out).mono ?_
                  rw [show (((l2 ++ padB (D - m)).length : Nat) : Int) = (D : Int) * 8 by rw [List.length_append, padB_length, LEN2.out]; omega]
                  rintro e w1 ⟨rfl, rfl⟩
                  go_wp2
                  go_ret
                  exact ⟨rfl, FIN.out _ G3.out⟩
      · go_wp2_with fail
        refine (getSize_g w _ b c _ G.out).mono ?_
        rw [hlen.out]
        rintro e w1 ⟨rfl, rfl⟩
        by_cases hr0 : r = 0
        · subst hr0
          have G0 : Hid (Grow w b c _ (l1 ++ zerosB 0)) := Lib.hid (by simpa [zerosB] using G.out)
          obtain ⟨l2, hl2⟩ : ∃ l2, l1 ++ zerosB 0 = l2 := ⟨_, rfl⟩
          obtain ⟨m, hm⟩ : ∃ m, (n1 + 0) / 8 = m := ⟨_, rfl⟩
          have hlen2 : l2.length = 8 * m := by rw [← hl2, List.length_append, zerosB_length, hlen.out]; have := R.out; omega
          have hmD : m ≤ D := by have := R.out; omega
          have LEN2 := Lib.hid hlen2
          have FIN : Hid (∀ w', Grow w b c w' (l2 ++ padB (D - m)) → ∃ T, Grow w b c w' (l ++ T) ∧ (l ++ T).length = 8 * D ∧ ∀ i, i < 4 → T.getD i false = false) := Lib.hid (fun w' g => by
            refine ⟨zerosB k ++ zerosB 0 ++ padB (D - m), ?_, ?_, term_zeros k _ _ ?_⟩
            · rw [← List.append_assoc, ← List.append_assoc, L1.out, hl2]; exact g
            · rw [← List.append_assoc, ← List.append_assoc, L1.out, hl2, List.length_append, padB_length, hlen2]; omega
            · have h1 := HK.out
              have h2 := R.out
              have h3 := N1.out
              omega)
          have G0' : Hid (Grow w b c _ l2) := Lib.hid (hl2 ▸ G0.out)
          clear hl2 hm hlen2
          go_wp2_with fail
          refine (getSizeB_g w _ b c _ G0'.out).mono ?_
          rw [LEN2.out, show (8 * m + 7) / 8 = m by omega]
          rintro e w1 ⟨rfl, rfl⟩
          go_wp2_with fail
          go_loopw [10] (fun j wr => ∃ i : Nat, i ≤ D - m ∧ j = .int .i64 (i : Int) ∧ Grow w b c wr (l2 ++ padB i)) (fun j _ => D - (intOf j).toNat)
          case atStart => exact ⟨0, by omega, rfl, by simpa [padB] using G0'.out⟩
          case round =>
            obtain ⟨i, hi1, rfl, hg⟩ := hrel
            have G3 := Lib.hid hg
            clear hg
            by_cases hi : i < D - m
            · have h1 := and1_i64 (x := i) (by omega)
              have hi' : (i : Int) < (D : Int) - (m : Int) := by omega
              obtain ⟨u, hu⟩ : ∃ u, i % 2 = u := ⟨_, rfl⟩
              rw [hu] at h1
              have U := Lib.hid hu
              have hu2 : u = 0 ∨ u = 1 := by omega
              clear hu
              rcases hu2 with rfl | rfl
              · go_wp2_with fail
                refine (appendBits_g w _ b c 8 (l2 ++ padB i) 236 G3.out (by omega) (by omega) (by rw [List.length_append, padB_length, LEN2.out]; omega) _ _ rfl rfl).mono ?_
                rintro e w1 ⟨rfl, g⟩
                have G4 := Lib.hid g
                clear g
                go_wp2
                go_roundw
                case rel => exact ⟨i + 1, by omega, by go_num, by rw [padB_succ, U.out, ← List.append_assoc]; exact G4.out⟩
                case measure => simp [intOf]; omega
              · go_wp2_with fail
                refine (appendBits_g w _ b c 8 (l2 ++ padB i) 17 G3.out (by omega) (by omega) (by rw [List.length_append, padB_length, LEN2.out]; omega) _ _ rfl rfl).mono ?_
                rintro e w1 ⟨rfl, g⟩
                have G4 := Lib.hid g
                clear g
                go_wp2
                go_roundw
                case rel => exact ⟨i + 1, by omega, by go_num, by rw [padB_succ, U.out, ← List.append_assoc]; exact G4.out⟩
                case measure => simp [intOf]; omega
            · obtain rfl : i = D - m := by omega
              have hi' : ¬ (((D - m : Nat) : Int) < (D : Int) - (m : Int)) := by omega
              go_wp2_with fail
              refine (getSize_g w _ b c _ G3.out).mono ?_
              rw [show (((l2 ++ padB (D - m)).length : Nat) : Int) = (D : Int) * 8 by rw [List.length_append, padB_length, LEN2.out]; omega]
              rintro e w1 ⟨rfl, rfl⟩
              go_wp2
              go_ret
              exact ⟨rfl, FIN.out _ G3.out⟩
        · have hr1 : (0 : Int) < (r : Int) := by omega
          have hr3 : 0 < r := by omega
          have hr2 : decide (0 < r) = true := decide_eq_true hr3
          go_wp2_with fail
          go_loopw [8] (fun j wr => ∃ i : Nat, r ≤ i ∧ i ≤ 8 ∧ j = .int .i64 (i : Int) ∧ Grow w b c wr (l1 ++ zerosB (i - r))) (fun j _ => 8 - (intOf j).toNat)
          case atStart => exact ⟨r, by omega, by omega, rfl, by simpa [zerosB] using G.out⟩
          case round =>
            obtain ⟨i, i1, i2, rfl, hg⟩ := hrel
            have G2 := Lib.hid hg
            clear hg
            by_cases hi : i < 8
            · have hi' : (i : Int) < 8 := by omega
              go_wp2_with fail
              refine (appendBit_g w _ b c _ false G2.out (by rw [List.length_append, zerosB_length, hlen.out]; omega)).mono ?_
              rintro e w1 ⟨rfl, g⟩
              have G3 := Lib.hid g
              clear g
              go_wp2
              go_roundw
              case rel => exact ⟨i + 1, by omega, by omega, by go_num, by rw [show i + 1 - r = (i - r) + 1 by omega, zerosB_succ, ← List.append_assoc]; exact G3.out⟩
              case measure => simp [intOf]; omega
            · obtain rfl : i = 8 := by omega
              obtain ⟨l2, hl2⟩ : ∃ l2, l1 ++ zerosB (8 - r) = l2 := ⟨_, rfl⟩
              obtain ⟨m, hm⟩ : ∃ m, (n1 + (8 - r)) / 8 = m := ⟨_, rfl⟩
              have hlen2 : l2.length = 8 * m := by rw [← hl2, List.length_append, zerosB_length, hlen.out]; have := R.out; omega
              have hmD : m ≤ D := by have := R.out; omega
              have LEN2 := Lib.hid hlen2
              have FIN : Hid (∀ w', Grow w b c w' (l2 ++ padB (D - m)) → ∃ T, Grow w b c w' (l ++ T) ∧ (l ++ T).length = 8 * D ∧ ∀ i, i < 4 → T.getD i false = false) := Lib.hid (fun w' g => by
                refine ⟨zerosB k ++ zerosB (8 - r) ++ padB (D - m), ?_, ?_, term_zeros k _ _ ?_⟩
                · rw [← List.append_assoc, ← List.append_assoc, L1.out, hl2]; exact g
                · rw [← List.append_assoc, ← List.append_assoc, L1.out, hl2, List.length_append, padB_length, hlen2]; omega
                · have h1 := HK.out
                  have h2 := R.out
                  have h3 := N1.out
                  omega)
              have G2' : Hid (Grow w b c _ l2) := Lib.hid (hl2 ▸ G2.out)
              clear hl2 hm hlen2
              go_wp2_with fail
              refine (getSizeB_g w _ b c _ G2'.out).mono ?_
              rw [LEN2.out, show (8 * m + 7) / 8 = m by omega]
              rintro e w1 ⟨rfl, rfl⟩
              go_wp2_with fail
              go_loopw [10] (fun j wr => ∃ i : Nat, i ≤ D - m ∧ j = .int .i64 (i : Int) ∧ Grow w b c wr (l2 ++ padB i)) (fun j _ => D - (intOf j).toNat)
              case atStart => exact ⟨0, by omega, rfl, by simpa [padB] using G2'.out⟩
              case round =>
                obtain ⟨i, hi1, rfl, hg⟩ := hrel
                have G3 := Lib.hid hg
                clear hg
                by_cases hi : i < D - m
                · have h1 := and1_i64 (x := i) (by omega)
                  have hi' : (i : Int) < (D : Int) - (m : Int) := by omega
                  obtain ⟨u, hu⟩ : ∃ u, i % 2 = u := ⟨_, rfl⟩
                  rw [hu] at h1
                  have U := Lib.hid hu
                  have hu2 : u = 0 ∨ u = 1 := by omega
                  clear hu
                  rcases hu2 with rfl | rfl
                  · go_wp2_with fail
                    refine (appendBits_g w _ b c 8 (l2 ++ padB i) 236 G3.out (by omega) (by omega) (by rw [List.length_append, padB_length, LEN2.out]; omega) _ _ rfl rfl).mono ?_
                    rintro e w1 ⟨rfl, g⟩
                    have G4 := Lib.hid g
                    clear g
                    go_wp2
                    go_roundw
                    case rel => exact ⟨i + 1, by omega, by go_num, by rw [padB_succ, U.out, ← List.append_assoc]; exact G4.out⟩
                    case measure => simp [intOf]; omega
                  · go_wp2_with fail
                    refine (appendBits_g w _ b c 8 (l2 ++ padB i) 17 G3.out (by omega) (by omega) (by rw [List.length_append, padB_length, LEN2.out]; omega) _ _ rfl rfl).mono ?_
                    rintro e w1 ⟨rfl, g⟩
                    have G4 := Lib.hid g
                    clear g
                    go_wp2
                    go_roundw
                    case rel => exact ⟨i + 1, by omega, by go_num, by rw [padB_succ, U.out, ← List.append_assoc]; exact G4.out⟩
                    case measure => simp [intOf]; omega
                · obtain rfl : i = D - m := by omega
                  have hi' : ¬ (((D - m : Nat) : Int) < (D : Int) - (m : Int)) := by omega
                  go_wp2_with fail
                  refine (getSize_g w _ b c _ G3.out).mono ?_
                  rw [show (((l2 ++ padB (D - m)).length : Nat) : Int) = (D : Int) * 8 by rw [List.length_append, padB_length, LEN2.out]; omega]
                  rintro e w1 ⟨rfl, rfl⟩
                  go_wp2
                  go_ret
                  exact ⟨rfl, FIN.out _ G3.out⟩

end Go.Proofs.YtplpafbkalkchaaGreatDoor
