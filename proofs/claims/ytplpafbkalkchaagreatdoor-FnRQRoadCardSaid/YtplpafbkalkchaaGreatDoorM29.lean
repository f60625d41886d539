/-
  Parts of the proof (ED).
-/
import Derived.Test.YtplpafbkalkchaaGreatDoorM28
set_option linter.unusedSimpArgs false
set_option linter.unusedVariables false

namespace Go.Proofs.YtplpafbkalkchaaGreatDoor
open Go.RowKit

/-- The columns' heads: with k pairs to come. -/
def xN (k : Nat) : Nat := if 3 ≤ k then 2 * k else 2 * k - 1
theorem xN_step (k : Nat) : (if k + 1 = 3 then 5 else xN (k + 1)) - 2 = xN k ∨ k = 0 := by
  unfold xN; repeat' split
  all_goals omega
theorem zzFrom_zero (n x : Nat) (up : Bool) : _root_.QR.zzFrom n 0 x up = [] := rfl
/-- One row of a pair of columns. -/
def rowC (n x : Nat) (up : Bool) (c : Nat) : List (Nat × Nat) := [(x, if up then n - 1 - c else c), (x - 1, if up then n - 1 - c else c)]
theorem zzFrom_succ (n k : Nat) (up : Bool) : _root_.QR.zzFrom n (k + 1) (xN (k + 1)) up = ((List.range n).drop 0).flatMap (rowC n (if k + 1 = 3 then 5 else xN (k + 1)) up) ++ _root_.QR.zzFrom n k (xN k) (!up) := by
  have e : (if xN (k + 1) = 6 then 5 else xN (k + 1)) = (if k + 1 = 3 then 5 else xN (k + 1)) := by
    unfold xN; repeat' split
    all_goals omega
  show _root_.QR.zzCol n (if xN (k + 1) = 6 then 5 else xN (k + 1)) up ++ _root_.QR.zzFrom n k ((if xN (k + 1) = 6 then 5 else xN (k + 1)) - 2) (!up) = _
  rw [e]
  rcases xN_step k with h | h
  · rw [h]; rfl
  · subst h
    rw [zzFrom_zero, zzFrom_zero]; rfl
theorem zz_start (n : Nat) (h : 21 ≤ n) (h2 : n % 2 = 1) : _root_.QR.zz n = _root_.QR.zzFrom n ((n - 1) / 2) (xN ((n - 1) / 2)) true := by
  unfold _root_.QR.zz
  congr 1
  unfold xN; rw [if_pos (by omega)]; omega
theorem drop_range (n c : Nat) (h : c < n) : (List.range n).drop c = c :: (List.range n).drop (c + 1) := by
  rw [List.drop_eq_getElem_cons (by simpa using h)]; simp

set_option maxRecDepth 100000 in
set_option maxHeartbeats 8000000 in
theorem embedData_ok (m b c yb ym n : Nat) (bits : List Bool) (g : Nat → Nat) (f FIN : Nat → Nat → Int) (w : World) (hb : BA w b c bits) (h : YM w yb ym n g f) (hm : m < 8) (hn : 21 ≤ n) (hn2 : n ≤ 100) (hod : n % 2 = 1)
    (hE : _root_.QR.embedL bits (_root_.QR.mskE m) (f, 0) (_root_.QR.zz n) = (FIN, bits.length)) (hlb : bits.length ≤ 100000) (M : Int) (hM : M = (m : Int)) :
    Calls Tryz.prog 128 #[.pointer (some ⟨b, 0, none⟩), .int .i64 M, .pointer (some ⟨yb, 0, none⟩)] w fun e w' => e = .returned .nilIface ∧ YM w' yb ym n g FIN ∧ Keeps (inRows g n) w w' := by
  subst hM
  rw [zz_start n hn hod] at hE
  have HE := Lib.hid hE
  have HB := Lib.hid hb
  have HH := Lib.hid h
  obtain ⟨K, hK⟩ : ∃ K, (n - 1) / 2 = K := ⟨_, rfl⟩
  have hKn : 2 * K + 1 = n := by omega
  have HKN := Lib.hid hKn
  have hK10 : 10 ≤ K := by omega
  have hK50 : K ≤ 50 := by omega
  rw [hK] at HE
  have hmne : ((m : Int) == -1) = false := by simp
  have hmne2 : ((m : Int) != -1) = true := by simp
  clear hE hb h hK hKn
  go_enter Tryz.func128, Tryz.ntmps128
  go_wp2_with fail
  refine (ymW_ok yb ym n g f w HH.out).mono ?_
  rintro e w1 ⟨rfl, rfl⟩
  go_wp2_with fail
  refine (ymH_ok yb ym n g f w HH.out).mono ?_
  rintro e w1 ⟨rfl, rfl⟩
  go_wp2_with fail
  go_loopw [7, 8, 9, 10] (fun s7 s8 s9 s10 wr => ∃ (k idx : Nat) (N : Nat → Nat → Int) (up : Bool) (X Y : Int), k ≤ K ∧ s7 = .int .i64 (idx : Int) ∧ s9 = .int .i64 X ∧ Hid (X = if k = 0 then -1 else (xN k : Int)) ∧
      s8 = .int .i64 (if up then -1 else 1) ∧ s10 = .int .i64 Y ∧ Hid (Y = if up then (n : Int) - 1 else 0) ∧ idx ≤ bits.length ∧ YM wr yb ym n g N ∧ Hid (_root_.QR.embedL bits (_root_.QR.mskE m) (N, idx) (_root_.QR.zzFrom n k (xN k) up) = (FIN, bits.length)) ∧ BA wr b c bits ∧ Keeps (inRows g n) w wr)
    (fun _ _ s9 _ _ => (intOf s9 + 1).toNat)
  case atStart => exact ⟨K, 0, f, true, _, _, Nat.le_refl _, rfl, rfl, Lib.hid (by rw [if_neg (by omega)]; unfold xN; rw [if_pos (by omega)]; have := HKN.out; omega), rfl, rfl, Lib.hid (by rw [if_pos rfl]), by omega, HH.out, HE, HB.out, Keeps.refl _ _⟩
  case round =>
    obtain ⟨k, idx, N, up, X, Y, hk, rfl, rfl, hX, rfl, rfl, hY, hidx, y1, hfin, y2, y3⟩ := hrel
    have A := Lib.hid (And.intro y1 (And.intro y2 y3))
    clear y1 y2 y3
    by_cases hk0 : k = 0
    · have hX0 : X = -1 := by rw [hX.out, if_pos hk0]
      subst hk0 hX0
      have hE0 : N = FIN ∧ idx = bits.length := by
        have h := hfin.out
        rw [zzFrom_zero] at h
        have h2 : (N, idx) = (FIN, bits.length) := h
        exact ⟨congrArg Prod.fst h2, congrArg Prod.snd h2⟩
      obtain ⟨e1, e2⟩ := hE0
      subst e1 e2
      have hne : ((bits.length : Int) != (bits.length : Int)) = false := by simp
      cases up
      all_goals
        go_wp2_with fail
        refine (getSize_ok b c bits _ A.out.2.1).mono ?_
        rintro e w1 ⟨rfl, rfl⟩
        go_wp2
        go_ret
        exact ⟨rfl, A.out.1, A.out.2.2⟩
    · obtain ⟨k, rfl⟩ : ∃ k', k = k' + 1 := ⟨k - 1, by omega⟩
      have hfin2 := hfin.out
      rw [zzFrom_succ] at hfin2
      have hx1 : X = (xN (k + 1) : Int) := by rw [hX.out, if_neg (by omega)]
      have hxb : 1 ≤ xN (k + 1) ∧ xN (k + 1) + 1 ≤ n := by
        have := HKN.out
        unfold xN; split <;> omega
      by_cases hk3 : k + 1 = 3
      · rw [if_pos hk3] at hfin2
        obtain rfl : k = 2 := by omega
        have hX6 : X = 6 := by rw [hx1]; rfl
        subst hX6
        have xb1 : 1 ≤ 5 := by omega
        have xb2 : 5 + 1 ≤ n := by omega
        have HST := Lib.hid (show (2 = 0 ∧ 5 = 1) ∨ (0 < 2 ∧ 5 = xN 2 + 2) from Or.inr ⟨by omega, rfl⟩)
        have HF := Lib.hid hfin2
        clear hfin2 hfin hX hx1 hxb hk3
        cases up
        · have hY2 : Y = 0 := by have := hY.out; simpa using this
          have HY2 := Lib.hid hY2
          clear hY hY2
          go_wp2_with fail
          go_loopw [7, 10] (fun s7 s10 wr => ∃ (r idx : Nat) (N : Nat → Nat → Int) (y : Int), r ≤ n ∧ s7 = .int .i64 (idx : Int) ∧ s10 = .int .i64 y ∧ Hid (y = (r : Int)) ∧ idx ≤ bits.length ∧ YM wr yb ym n g N ∧
              Hid (_root_.QR.embedL bits (_root_.QR.mskE m) (N, idx) (((List.range n).drop r).flatMap (rowC n 5 false) ++ _root_.QR.zzFrom n 2 (xN 2) (!false)) = (FIN, bits.length)) ∧ BA wr b c bits ∧ Keeps (inRows g n) w wr) (fun _ s10 _ => n - (intOf s10).toNat)
          case atStart => exact ⟨0, idx, N, Y, by omega, rfl, rfl, Lib.hid (by have := HY2.out; omega), hidx, A.out.1, HF, A.out.2⟩
          case round =>
            obtain ⟨r, idx, N, y, hr, rfl, rfl, hy, hidx, y1, hfin, y2, y3⟩ := hrel
            have A := Lib.hid (And.intro y1 (And.intro y2 y3))
            clear y1 y2 y3
            by_cases hrn : r < n
            · have hy0 : 0 ≤ y := by have := hy.out; omega
              have hyn : y < (n : Int) := by have := hy.out; omega
              obtain ⟨yN, hyN⟩ : ∃ yN : Nat, r = yN := ⟨_, rfl⟩
              have hyy : y = (yN : Int) := by have := hy.out; omega
              have hfin2 := hfin.out
              rw [drop_range n r hrn, List.flatMap_cons, List.append_assoc] at hfin2
              have erow : rowC n 5 false r = [(5, yN), (5 - 1, yN)] := by
                unfold rowC
                simp only [Bool.false_eq_true, if_true, if_false, hyN]
              rw [erow] at hfin2
              have HF2 := Lib.hid hfin2
              have hynn : yN < n := by omega
              have HYR := Lib.hid (show (yN : Int) = (r : Int) by rw [← hyy]; exact hy.out)
              subst hyy
              clear hfin hfin2 erow hy hyN
              go_wp2_with fail
              refine (ymH_ok yb ym n g N _ A.out.1).mono ?_
              rintro e w1 ⟨rfl, rfl⟩
              go_wp2_with fail
              go_loopw [7, 11] (fun s7 s11 wr => ∃ (j idx : Nat) (N : Nat → Nat → Int), j ≤ 2 ∧ s7 = .int .i64 (idx : Int) ∧ s11 = .int .i64 (j : Int) ∧ idx ≤ bits.length ∧ YM wr yb ym n g N ∧
                  Hid (_root_.QR.embedL bits (_root_.QR.mskE m) (N, idx) ([(5, yN), (5 - 1, yN)].drop j ++ (((List.range n).drop (r + 1)).flatMap (rowC n 5 false) ++ _root_.QR.zzFrom n 2 (xN 2) (!false))) = (FIN, bits.length)) ∧ BA wr b c bits ∧ Keeps (inRows g n) w wr) (fun _ s11 _ => 2 - (intOf s11).toNat)
              case atStart => exact ⟨0, idx, N, by omega, rfl, rfl, hidx, A.out.1, HF2, A.out.2⟩
              case round =>
                obtain ⟨j, idx, N, hj, rfl, rfl, hidx, y1, hfin, y2, y3⟩ := hrel
                have A := Lib.hid (And.intro y1 (And.intro y2 y3))
                clear y1 y2 y3
                by_cases hj2 : j < 2
                · have hj2' : (j : Int) < 2 := by omega
                  obtain ⟨z, hz⟩ : ∃ z, N (5 - j) yN = z := ⟨_, rfl⟩
                  have HZ := Lib.hid hz
                  have edrop : [(5, yN), (5 - 1, yN)].drop j = (5 - j, yN) :: [(5, yN), (5 - 1, yN)].drop (j + 1) := by
                    obtain rfl | rfl : j = 0 ∨ j = 1 := by omega
                    · rfl
                    · rfl
                  have hf := hfin.out
                  rw [edrop, List.cons_append] at hf
                  have HF3 := Lib.hid (show _root_.QR.embedL bits (_root_.QR.mskE m) (_root_.QR.eStep bits (_root_.QR.mskE m) (N, idx) (5 - j, yN)) ([(5, yN), (5 - 1, yN)].drop (j + 1) ++ (((List.range n).drop (r + 1)).flatMap (rowC n 5 false) ++ _root_.QR.zzFrom n 2 (xN 2) (!false))) = (FIN, bits.length) from hf)
                  clear hz hf hfin edrop
                  go_wp2_with fail
                  refine (ymGet_ok yb ym n (5 - j) yN g N _ A.out.1 (by omega) hynn _ _ (by omega) rfl z HZ.out).mono ?_
                  rintro e w1 ⟨rfl, rfl⟩
                  go_wp2_with fail
                  refine (isEmpty_ok z _).mono ?_
                  rintro e w1 ⟨rfl, rfl⟩
                  by_cases hz1 : z = -1
                  · have hzb : (z == -1) = true := by simpa using hz1
                    have HZ1 := Lib.hid hz1
                    rw [hzb]
                    clear hz1 hzb
                    obtain ⟨mb, hmb⟩ : ∃ mb, _root_.QR.mskE m (5 - j) yN = mb := ⟨_, rfl⟩
                    have HMB := Lib.hid hmb
                    obtain ⟨v, hv⟩ : ∃ v, bits.getD idx false = v := ⟨_, rfl⟩
                    have HVV := Lib.hid hv
                    have HES := Lib.hid (show _root_.QR.eStep bits (_root_.QR.mskE m) (N, idx) (5 - j, yN) = (_root_.QR.setM N (5 - j) yN (_root_.QR.b01 (v != mb)), if idx < bits.length then idx + 1 else idx) by
                      have e : N (5 - j) yN = -1 := by rw [HZ.out, HZ1.out]
                      unfold _root_.QR.eStep
                      show (if N (5 - j) yN = -1 then _ else _) = _
                      rw [if_pos e]
                      show (_root_.QR.setM N (5 - j) yN (_root_.QR.b01 ((bits.getD idx false) != _root_.QR.mskE m (5 - j) yN)), _) = _
                      rw [hmb, hv])
                    clear hmb hv
                    go_wp2_with fail
                    refine (getSize_ok b c bits _ A.out.2.1).mono ?_
                    rintro e w1 ⟨rfl, rfl⟩
                    by_cases hi : idx < bits.length
                    · have hi' : (idx : Int) < (bits.length : Int) := by omega
                      go_wp2_with fail
                      refine (get_ok b c idx bits _ A.out.2.1 hi _ rfl v HVV.out).mono ?_
                      rintro e w1 ⟨rfl, rfl⟩
                      go_wp2_with fail
                      refine (mask_ok m (5 - j) yN _ hm (by omega) (by omega) _ _ _ rfl (by omega) rfl).mono ?_
                      rw [HMB.out]
                      rintro e w1 ⟨rfl, rfl⟩
                      have HES2 := Lib.hid (HES.out.trans (by rw [if_pos hi]))
                      cases mb
                      · go_wp2_with fail
                        refine (ymSetBool_ok yb ym n (5 - j) yN g N _ A.out.1 (by omega) hynn _ _ (by omega) rfl v).mono ?_
                        rintro e w2 ⟨rfl, u1, u2⟩
                        have V2 := Lib.hid (And.intro (show YM w2 yb ym n g (_root_.QR.setM N (5 - j) yN (_root_.QR.b01 (v != false))) from u1.congr (fun x' y' _ _ => by first | rfl | (simp only [Bool.bne_true, Bool.bne_false]; rfl))) (And.intro (A.out.2.1.keepS u2 (fun i hi => ⟨145, A.out.1.rowT i hi, by decide, by decide⟩)) (A.out.2.2.trans u2)))
                        clear u1 u2
                        go_wp2
                        go_roundw
                        case rel => exact ⟨j + 1, idx + 1, _, by omega, by go_num, by go_num, by omega, V2.out.1, Lib.hid (by have h := HF3.out; rw [HES2.out] at h; exact h), V2.out.2⟩
                        case measure => first | (simp [intOf]; done) | (simp [intOf]; omega)
                      · go_wp2_with fail
                        refine (ymSetBool_ok yb ym n (5 - j) yN g N _ A.out.1 (by omega) hynn _ _ (by omega) rfl (!v)).mono ?_
                        rintro e w2 ⟨rfl, u1, u2⟩
                        have V2 := Lib.hid (And.intro (show YM w2 yb ym n g (_root_.QR.setM N (5 - j) yN (_root_.QR.b01 (v != true))) from u1.congr (fun x' y' _ _ => by first | rfl | (simp only [Bool.bne_true, Bool.bne_false]; rfl))) (And.intro (A.out.2.1.keepS u2 (fun i hi => ⟨145, A.out.1.rowT i hi, by decide, by decide⟩)) (A.out.2.2.trans u2)))
                        clear u1 u2
                        go_wp2
                        go_roundw
                        case rel => exact ⟨j + 1, idx + 1, _, by omega, by go_num, by go_num, by omega, V2.out.1, Lib.hid (by have h := HF3.out; rw [HES2.out] at h; exact h), V2.out.2⟩
                        case measure => first | (simp [intOf]; done) | (simp [intOf]; omega)
                    · have hi' : ¬ (idx : Int) < (bits.length : Int) := by omega
                      have hvf : v = false := by rw [← HVV.out]; simp [List.getD, List.getElem?_eq_none (Nat.le_of_not_lt hi)]
                      subst hvf
                      go_wp2_with fail
                      refine (mask_ok m (5 - j) yN _ hm (by omega) (by omega) _ _ _ rfl (by omega) rfl).mono ?_
                      rw [HMB.out]
                      rintro e w1 ⟨rfl, rfl⟩
                      have HES2 := Lib.hid (HES.out.trans (by rw [if_neg hi]))
                      cases mb
                      · go_wp2_with fail
                        refine (ymSetBool_ok yb ym n (5 - j) yN g N _ A.out.1 (by omega) hynn _ _ (by omega) rfl false).mono ?_
                        rintro e w2 ⟨rfl, u1, u2⟩
                        have V2 := Lib.hid (And.intro (show YM w2 yb ym n g (_root_.QR.setM N (5 - j) yN (_root_.QR.b01 (false != false))) from u1.congr (fun x' y' _ _ => by first | rfl | (simp only [Bool.bne_true, Bool.bne_false]; rfl))) (And.intro (A.out.2.1.keepS u2 (fun i hi => ⟨145, A.out.1.rowT i hi, by decide, by decide⟩)) (A.out.2.2.trans u2)))
                        clear u1 u2
                        go_wp2
                        go_roundw
                        case rel => exact ⟨j + 1, idx, _, by omega, by go_num, by go_num, by omega, V2.out.1, Lib.hid (by have h := HF3.out; rw [HES2.out] at h; exact h), V2.out.2⟩
                        case measure => first | (simp [intOf]; done) | (simp [intOf]; omega)
                      · go_wp2_with fail
                        refine (ymSetBool_ok yb ym n (5 - j) yN g N _ A.out.1 (by omega) hynn _ _ (by omega) rfl (!false)).mono ?_
                        rintro e w2 ⟨rfl, u1, u2⟩
                        have V2 := Lib.hid (And.intro (show YM w2 yb ym n g (_root_.QR.setM N (5 - j) yN (_root_.QR.b01 (false != true))) from u1.congr (fun x' y' _ _ => by first | rfl | (simp only [Bool.bne_true, Bool.bne_false]; rfl))) (And.intro (A.out.2.1.keepS u2 (fun i hi => ⟨145, A.out.1.rowT i hi, by decide, by decide⟩)) (A.out.2.2.trans u2)))
                        clear u1 u2
                        go_wp2
                        go_roundw
                        case rel => exact ⟨j + 1, idx, _, by omega, by go_num, by go_num, by omega, V2.out.1, Lib.hid (by have h := HF3.out; rw [HES2.out] at h; exact h), V2.out.2⟩
                        case measure => first | (simp [intOf]; done) | (simp [intOf]; omega)
                  · have hzb : (z == -1) = false := by simpa using hz1
                    have HES := Lib.hid (show _root_.QR.eStep bits (_root_.QR.mskE m) (N, idx) (5 - j, yN) = (N, idx) by
                      have e : N (5 - j) yN ≠ -1 := by rw [HZ.out]; exact hz1
                      unfold _root_.QR.eStep
                      show (if N (5 - j) yN = -1 then _ else _) = _
                      rw [if_neg e])
                    rw [hzb]
                    clear hz1 hzb
                    go_wp2
                    go_roundw
                    case rel => exact ⟨j + 1, idx, N, by omega, rfl, by go_num, hidx, A.out.1, Lib.hid (by have h := HF3.out; rw [HES.out] at h; exact h), A.out.2⟩
                    case measure => first | (simp [intOf]; done) | (simp [intOf]; omega)
                · obtain rfl : j = 2 := by omega
                  have hf3 : Hid (_root_.QR.embedL bits (_root_.QR.mskE m) (N, idx) (((List.range n).drop (r + 1)).flatMap (rowC n 5 false) ++ _root_.QR.zzFrom n 2 (xN 2) (!false)) = (FIN, bits.length)) := Lib.hid hfin.out
                  go_wp2
                  go_roundw
                  case rel => exact ⟨r + 1, idx, N, _, by omega, rfl, rfl, Lib.hid (by have := HYR.out; omega), hidx, A.out.1, hf3, A.out.2⟩
                  case measure => have := HYR.out; simp [intOf]; omega
            · obtain rfl : r = n := by omega
              have hyv : y = (r : Int) := by have := hy.out; omega
              have hf3 : Hid (_root_.QR.embedL bits (_root_.QR.mskE m) (N, idx) (_root_.QR.zzFrom r 2 (xN 2) (!false)) = (FIN, bits.length)) := Lib.hid (by
                have h := hfin.out
                rw [List.drop_of_length_le (by simp), List.flatMap_nil, List.nil_append] at h
                exact h)
              subst hyv
              clear hfin hy
              go_wp2_with fail
              refine (ymH_ok yb ym r g N _ A.out.1).mono ?_
              rintro e w1 ⟨rfl, rfl⟩
              go_wp2
              go_roundw
              case rel => exact ⟨2, idx, N, true, _, _, by omega, rfl, rfl, Lib.hid (by have := HST.out; split <;> omega), rfl, rfl, Lib.hid (by rw [if_pos rfl]; omega), hidx, A.out.1, hf3, A.out.2⟩
              case measure => first | (simp [intOf]; done) | (simp [intOf]; omega)
        · have hY2 : Y = (n : Int) - 1 := by have := hY.out; simpa using this
          have HY2 := Lib.hid hY2
          clear hY hY2
          go_wp2_with fail
          go_loopw [7, 10] (fun s7 s10 wr => ∃ (r idx : Nat) (N : Nat → Nat → Int) (y : Int), r ≤ n ∧ s7 = .int .i64 (idx : Int) ∧ s10 = .int .i64 y ∧ Hid (y = (n : Int) - 1 - (r : Int)) ∧ idx ≤ bits.length ∧ YM wr yb ym n g N ∧
              Hid (_root_.QR.embedL bits (_root_.QR.mskE m) (N, idx) (((List.range n).drop r).flatMap (rowC n 5 true) ++ _root_.QR.zzFrom n 2 (xN 2) (!true)) = (FIN, bits.length)) ∧ BA wr b c bits ∧ Keeps (inRows g n) w wr) (fun _ s10 _ => (intOf s10 + 1).toNat)
          case atStart => exact ⟨0, idx, N, Y, by omega, rfl, rfl, Lib.hid (by have := HY2.out; omega), hidx, A.out.1, HF, A.out.2⟩
          case round =>
            obtain ⟨r, idx, N, y, hr, rfl, rfl, hy, hidx, y1, hfin, y2, y3⟩ := hrel
            have A := Lib.hid (And.intro y1 (And.intro y2 y3))
            clear y1 y2 y3
            by_cases hrn : r < n
            · have hy0 : 0 ≤ y := by have := hy.out; omega
              have hyn : y < (n : Int) := by have := hy.out; omega
              obtain ⟨yN, hyN⟩ : ∃ yN : Nat, n - 1 - r = yN := ⟨_, rfl⟩
              have hyy : y = (yN : Int) := by have := hy.out; omega
              have hfin2 := hfin.out
              rw [drop_range n r hrn, List.flatMap_cons, List.append_assoc] at hfin2
              have erow : rowC n 5 true r = [(5, yN), (5 - 1, yN)] := by
                unfold rowC
                simp only [Bool.false_eq_true, if_true, if_false, hyN]
              rw [erow] at hfin2
              have HF2 := Lib.hid hfin2
              have hynn : yN < n := by omega
              have HYR := Lib.hid (show (yN : Int) = (n : Int) - 1 - (r : Int) by rw [← hyy]; exact hy.out)
              subst hyy
              clear hfin hfin2 erow hy hyN
              go_wp2_with fail
              refine (ymH_ok yb ym n g N _ A.out.1).mono ?_
              rintro e w1 ⟨rfl, rfl⟩
              go_wp2_with fail
              go_loopw [7, 11] (fun s7 s11 wr => ∃ (j idx : Nat) (N : Nat → Nat → Int), j ≤ 2 ∧ s7 = .int .i64 (idx : Int) ∧ s11 = .int .i64 (j : Int) ∧ idx ≤ bits.length ∧ YM wr yb ym n g N ∧
                  Hid (_root_.QR.embedL bits (_root_.QR.mskE m) (N, idx) ([(5, yN), (5 - 1, yN)].drop j ++ (((List.range n).drop (r + 1)).flatMap (rowC n 5 true) ++ _root_.QR.zzFrom n 2 (xN 2) (!true))) = (FIN, bits.length)) ∧ BA wr b c bits ∧ Keeps (inRows g n) w wr) (fun _ s11 _ => 2 - (intOf s11).toNat)
              case atStart => exact ⟨0, idx, N, by omega, rfl, rfl, hidx, A.out.1, HF2, A.out.2⟩
              case round =>
                obtain ⟨j, idx, N, hj, rfl, rfl, hidx, y1, hfin, y2, y3⟩ := hrel
                have A := Lib.hid (And.intro y1 (And.intro y2 y3))
                clear y1 y2 y3
                by_cases hj2 : j < 2
                · have hj2' : (j : Int) < 2 := by omega
                  obtain ⟨z, hz⟩ : ∃ z, N (5 - j) yN = z := ⟨_, rfl⟩
                  have HZ := Lib.hid hz
                  have edrop : [(5, yN), (5 - 1, yN)].drop j = (5 - j, yN) :: [(5, yN), (5 - 1, yN)].drop (j + 1) := by
                    obtain rfl | rfl : j = 0 ∨ j = 1 := by omega
                    · rfl
                    · rfl
                  have hf := hfin.out
                  rw [edrop, List.cons_append] at hf
                  have HF3 := Lib.hid (show _root_.QR.embedL bits (_root_.QR.mskE m) (_root_.QR.eStep bits (_root_.QR.mskE m) (N, idx) (5 - j, yN)) ([(5, yN), (5 - 1, yN)].drop (j + 1) ++ (((List.range n).drop (r + 1)).flatMap (rowC n 5 true) ++ _root_.QR.zzFrom n 2 (xN 2) (!true))) = (FIN, bits.length) from hf)
                  clear hz hf hfin edrop
                  go_wp2_with fail
                  refine (ymGet_ok yb ym n (5 - j) yN g N _ A.out.1 (by omega) hynn _ _ (by omega) rfl z HZ.out).mono ?_
                  rintro e w1 ⟨rfl, rfl⟩
                  go_wp2_with fail
                  refine (isEmpty_ok z _).mono ?_
                  rintro e w1 ⟨rfl, rfl⟩
                  by_cases hz1 : z = -1
                  · have hzb : (z == -1) = true := by simpa using hz1
                    have HZ1 := Lib.hid hz1
                    rw [hzb]
                    clear hz1 hzb
                    obtain ⟨mb, hmb⟩ : ∃ mb, _root_.QR.mskE m (5 - j) yN = mb := ⟨_, rfl⟩
                    have HMB := Lib.hid hmb
                    obtain ⟨v, hv⟩ : ∃ v, bits.getD idx false = v := ⟨_, rfl⟩
                    have HVV := Lib.hid hv
                    have HES := Lib.hid (show _root_.QR.eStep bits (_root_.QR.mskE m) (N, idx) (5 - j, yN) = (_root_.QR.setM N (5 - j) yN (_root_.QR.b01 (v != mb)), if idx < bits.length then idx + 1 else idx) by
                      have e : N (5 - j) yN = -1 := by rw [HZ.out, HZ1.out]
                      unfold _root_.QR.eStep
                      show (if N (5 - j) yN = -1 then _ else _) = _
                      rw [if_pos e]
                      show (_root_.QR.setM N (5 - j) yN (_root_.QR.b01 ((bits.getD idx false) != _root_.QR.mskE m (5 - j) yN)), _) = _
                      rw [hmb, hv])
                    clear hmb hv
                    go_wp2_with fail
                    refine (getSize_ok b c bits _ A.out.2.1).mono ?_
                    rintro e w1 ⟨rfl, rfl⟩
                    by_cases hi : idx < bits.length
                    · have hi' : (idx : Int) < (bits.length : Int) := by omega
                      go_wp2_with fail
                      refine (get_ok b c idx bits _ A.out.2.1 hi _ rfl v HVV.out).mono ?_
                      rintro e w1 ⟨rfl, rfl⟩
                      go_wp2_with fail
                      refine (mask_ok m (5 - j) yN _ hm (by omega) (by omega) _ _ _ rfl (by omega) rfl).mono ?_
                      rw [HMB.out]
                      rintro e w1 ⟨rfl, rfl⟩
                      have HES2 := Lib.hid (HES.out.trans (by rw [if_pos hi]))
                      cases mb
                      · go_wp2_with fail
                        refine (ymSetBool_ok yb ym n (5 - j) yN g N _ A.out.1 (by omega) hynn _ _ (by omega) rfl v).mono ?_
                        rintro e w2 ⟨rfl, u1, u2⟩
                        have V2 := Lib.hid (And.intro (show YM w2 yb ym n g (_root_.QR.setM N (5 - j) yN (_root_.QR.b01 (v != false))) from u1.congr (fun x' y' _ _ => by first | rfl | (simp only [Bool.bne_true, Bool.bne_false]; rfl))) (And.intro (A.out.2.1.keepS u2 (fun i hi => ⟨145, A.out.1.rowT i hi, by decide, by decide⟩)) (A.out.2.2.trans u2)))
                        clear u1 u2
                        go_wp2
                        go_roundw
                        case rel => exact ⟨j + 1, idx + 1, _, by omega, by go_num, by go_num, by omega, V2.out.1, Lib.hid (by have h := HF3.out; rw [HES2.out] at h; exact h), V2.out.2⟩
                        case measure => first | (simp [intOf]; done) | (simp [intOf]; omega)
                      · go_wp2_with fail
                        refine (ymSetBool_ok yb ym n (5 - j) yN g N _ A.out.1 (by omega) hynn _ _ (by omega) rfl (!v)).mono ?_
                        rintro e w2 ⟨rfl, u1, u2⟩
                        have V2 := Lib.hid (And.intro (show YM w2 yb ym n g (_root_.QR.setM N (5 - j) yN (_root_.QR.b01 (v != true))) from u1.congr (fun x' y' _ _ => by first | rfl | (simp only [Bool.bne_true, Bool.bne_false]; rfl))) (And.intro (A.out.2.1.keepS u2 (fun i hi => ⟨145, A.out.1.rowT i hi, by decide, by decide⟩)) (A.out.2.2.trans u2)))
                        clear u1 u2
                        go_wp2
                        go_roundw
                        case rel => exact ⟨j + 1, idx + 1, _, by omega, by go_num, by go_num, by omega, V2.out.1, Lib.hid (by have h := HF3.out; rw [HES2.out] at h; exact h), V2.out.2⟩
                        case measure => first | (simp [intOf]; done) | (simp [intOf]; omega)
                    · have hi' : ¬ (idx : Int) < (bits.length : Int) := by omega
                      have hvf : v = false := by rw [← HVV.out]; simp [List.getD, List.getElem?_eq_none (Nat.le_of_not_lt hi)]
                      subst hvf
                      go_wp2_with fail
                      refine (mask_ok m (5 - j) yN _ hm (by omega) (by omega) _ _ _ rfl (by omega) rfl).mono ?_
                      rw [HMB.out]
                      rintro e w1 ⟨rfl, rfl⟩
                      have HES2 := Lib.hid (HES.out.trans (by rw [if_neg hi]))
                      cases mb
                      · go_wp2_with fail
                        refine (ymSetBool_ok yb ym n (5 - j) yN g N _ A.out.1 (by omega) hynn _ _ (by omega) rfl false).mono ?_
                        rintro e w2 ⟨rfl, u1, u2⟩
                        have V2 := Lib.hid (And.intro (show YM w2 yb ym n g (_root_.QR.setM N (5 - j) yN (_root_.QR.b01 (false != false))) from u1.congr (fun x' y' _ _ => by first | rfl | (simp only [Bool.bne_true, Bool.bne_false]; rfl))) (And.intro (A.out.2.1.keepS u2 (fun i hi => ⟨145, A.out.1.rowT i hi, by decide, by decide⟩)) (A.out.2.2.trans u2)))
                        clear u1 u2
                        go_wp2
                        go_roundw
                        case rel => exact ⟨j + 1, idx, _, by omega, by go_num, by go_num, by omega, V2.out.1, Lib.hid (by have h := HF3.out; rw [HES2.out] at h; exact h), V2.out.2⟩
                        case measure => first | (simp [intOf]; done) | (simp [intOf]; omega)
                      · go_wp2_with fail
                        refine (ymSetBool_ok yb ym n (5 - j) yN g N _ A.out.1 (by omega) hynn _ _ (by omega) rfl (!false)).mono ?_
                        rintro e w2 ⟨rfl, u1, u2⟩
                        have V2 := Lib.hid (And.intro (show YM w2 yb ym n g (_root_.QR.setM N (5 - j) yN (_root_.QR.b01 (false != true))) from u1.congr (fun x' y' _ _ => by first | rfl | (simp only [Bool.bne_true, Bool.bne_false]; rfl))) (And.intro (A.out.2.1.keepS u2 (fun i hi => ⟨145, A.out.1.rowT i hi, by decide, by decide⟩)) (A.out.2.2.trans u2)))
                        clear u1 u2
                        go_wp2
                        go_roundw
                        case rel => exact ⟨j + 1, idx, _, by omega, by go_num, by go_num, by omega, V2.out.1, Lib.hid (by have h := HF3.out; rw [HES2.out] at h; exact h), V2.out.2⟩
                        case measure => first | (simp [intOf]; done) | (simp [intOf]; omega)
                  · have hzb : (z == -1) = false := by simpa using hz1
                    have HES := Lib.hid (show _root_.QR.eStep bits (_root_.QR.mskE m) (N, idx) (5 - j, yN) = (N, idx) by
                      have e : N (5 - j) yN ≠ -1 := by rw [HZ.out]; exact hz1
                      unfold _root_.QR.eStep
                      show (if N (5 - j) yN = -1 then _ else _) = _
                      rw [if_neg e])
                    rw [hzb]
                    clear hz1 hzb
                    go_wp2
                    go_roundw
                    case rel => exact ⟨j + 1, idx, N, by omega, rfl, by go_num, hidx, A.out.1, Lib.hid (by have h := HF3.out; rw [HES.out] at h; exact h), A.out.2⟩
                    case measure => first | (simp [intOf]; done) | (simp [intOf]; omega)
                · obtain rfl : j = 2 := by omega
                  have hf3 : Hid (_root_.QR.embedL bits (_root_.QR.mskE m) (N, idx) (((List.range n).drop (r + 1)).flatMap (rowC n 5 true) ++ _root_.QR.zzFrom n 2 (xN 2) (!true)) = (FIN, bits.length)) := Lib.hid hfin.out
                  go_wp2
                  go_roundw
                  case rel => exact ⟨r + 1, idx, N, _, by omega, rfl, rfl, Lib.hid (by have := HYR.out; omega), hidx, A.out.1, hf3, A.out.2⟩
                  case measure => have := HYR.out; simp [intOf]; omega
            · obtain rfl : r = n := by omega
              have hyv : y = -1 := by have := hy.out; omega
              have hf3 : Hid (_root_.QR.embedL bits (_root_.QR.mskE m) (N, idx) (_root_.QR.zzFrom r 2 (xN 2) (!true)) = (FIN, bits.length)) := Lib.hid (by
                have h := hfin.out
                rw [List.drop_of_length_le (by simp), List.flatMap_nil, List.nil_append] at h
                exact h)
              subst hyv
              clear hfin hy
              go_wp2
              go_roundw
              case rel => exact ⟨2, idx, N, false, _, _, by omega, rfl, rfl, Lib.hid (by have := HST.out; split <;> omega), rfl, rfl, Lib.hid (by simp), hidx, A.out.1, hf3, A.out.2⟩
              case measure => first | (simp [intOf]; done) | (simp [intOf]; omega)
      · rw [if_neg hk3] at hfin2
        have hx6 : xN (k + 1) ≠ 6 := by unfold xN; split <;> omega
        have hstep := (xN_step k)
        rw [if_neg hk3] at hstep
        obtain ⟨x, hx⟩ : ∃ x, xN (k + 1) = x := ⟨_, rfl⟩
        rw [hx] at hx1 hxb hx6 hfin2 hstep
        obtain ⟨xb1, xb2⟩ := hxb
        have hx6b : ((x : Int) == 6) = false := by simp; omega
        have hx0 : (0 : Int) < (x : Int) := by omega
        have hx0n : 0 < x := xb1
        have hx0d : decide (0 < x) = true := by simp; omega
        have HST := Lib.hid (show (k = 0 ∧ x = 1) ∨ (0 < k ∧ x = xN k + 2) by
          rcases hstep with h | h
          · by_cases h0 : k = 0
            · subst h0; left; refine ⟨rfl, ?_⟩; rw [← hx]; rfl
            · right; refine ⟨by omega, ?_⟩
              have : 1 ≤ xN k := by unfold xN; split <;> omega
              omega
          · subst h; left; refine ⟨rfl, ?_⟩; rw [← hx]; rfl)
        subst hx1
        have HF := Lib.hid hfin2
        clear hfin2 hfin hX hstep hx hk3 hx6
        cases up
        · have hY2 : Y = 0 := by have := hY.out; simpa using this
          have HY2 := Lib.hid hY2
          clear hY hY2
          go_wp2_with fail
          go_loopw [7, 10] (fun s7 s10 wr => ∃ (r idx : Nat) (N : Nat → Nat → Int) (y : Int), r ≤ n ∧ s7 = .int .i64 (idx : Int) ∧ s10 = .int .i64 y ∧ Hid (y = (r : Int)) ∧ idx ≤ bits.length ∧ YM wr yb ym n g N ∧
              Hid (_root_.QR.embedL bits (_root_.QR.mskE m) (N, idx) (((List.range n).drop r).flatMap (rowC n x false) ++ _root_.QR.zzFrom n k (xN k) (!false)) = (FIN, bits.length)) ∧ BA wr b c bits ∧ Keeps (inRows g n) w wr) (fun _ s10 _ => n - (intOf s10).toNat)
          case atStart => exact ⟨0, idx, N, Y, by omega, rfl, rfl, Lib.hid (by have := HY2.out; omega), hidx, A.out.1, HF, A.out.2⟩
          case round =>
            obtain ⟨r, idx, N, y, hr, rfl, rfl, hy, hidx, y1, hfin, y2, y3⟩ := hrel
            have A := Lib.hid (And.intro y1 (And.intro y2 y3))
            clear y1 y2 y3
            by_cases hrn : r < n
            · have hy0 : 0 ≤ y := by have := hy.out; omega
              have hyn : y < (n : Int) := by have := hy.out; omega
              obtain ⟨yN, hyN⟩ : ∃ yN : Nat, r = yN := ⟨_, rfl⟩
              have hyy : y = (yN : Int) := by have := hy.out; omega
              have hfin2 := hfin.out
              rw [drop_range n r hrn, List.flatMap_cons, List.append_assoc] at hfin2
              have erow : rowC n x false r = [(x, yN), (x - 1, yN)] := by
                unfold rowC
                simp only [Bool.false_eq_true, if_true, if_false, hyN]
              rw [erow] at hfin2
              have HF2 := Lib.hid hfin2
              have hynn : yN < n := by omega
              have HYR := Lib.hid (show (yN : Int) = (r : Int) by rw [← hyy]; exact hy.out)
              subst hyy
              clear hfin hfin2 erow hy hyN
              go_wp2_with fail
              refine (ymH_ok yb ym n g N _ A.out.1).mono ?_
              rintro e w1 ⟨rfl, rfl⟩
              go_wp2_with fail
              go_loopw [7, 11] (fun s7 s11 wr => ∃ (j idx : Nat) (N : Nat → Nat → Int), j ≤ 2 ∧ s7 = .int .i64 (idx : Int) ∧ s11 = .int .i64 (j : Int) ∧ idx ≤ bits.length ∧ YM wr yb ym n g N ∧
                  Hid (_root_.QR.embedL bits (_root_.QR.mskE m) (N, idx) ([(x, yN), (x - 1, yN)].drop j ++ (((List.range n).drop (r + 1)).flatMap (rowC n x false) ++ _root_.QR.zzFrom n k (xN k) (!false))) = (FIN, bits.length)) ∧ BA wr b c bits ∧ Keeps (inRows g n) w wr) (fun _ s11 _ => 2 - (intOf s11).toNat)
              case atStart => exact ⟨0, idx, N, by omega, rfl, rfl, hidx, A.out.1, HF2, A.out.2⟩
              case round =>
                obtain ⟨j, idx, N, hj, rfl, rfl, hidx, y1, hfin, y2, y3⟩ := hrel
                have A := Lib.hid (And.intro y1 (And.intro y2 y3))
                clear y1 y2 y3
                by_cases hj2 : j < 2
                · have hj2' : (j : Int) < 2 := by omega
                  obtain ⟨z, hz⟩ : ∃ z, N (x - j) yN = z := ⟨_, rfl⟩
                  have HZ := Lib.hid hz
                  have edrop : [(x, yN), (x - 1, yN)].drop j = (x - j, yN) :: [(x, yN), (x - 1, yN)].drop (j + 1) := by
                    obtain rfl | rfl : j = 0 ∨ j = 1 := by omega
                    · rfl
                    · rfl
                  have hf := hfin.out
                  rw [edrop, List.cons_append] at hf
                  have HF3 := Lib.hid (show _root_.QR.embedL bits (_root_.QR.mskE m) (_root_.QR.eStep bits (_root_.QR.mskE m) (N, idx) (x - j, yN)) ([(x, yN), (x - 1, yN)].drop (j + 1) ++ (((List.range n).drop (r + 1)).flatMap (rowC n x false) ++ _root_.QR.zzFrom n k (xN k) (!false))) = (FIN, bits.length) from hf)
                  clear hz hf hfin edrop
                  go_wp2_with fail
                  refine (ymGet_ok yb ym n (x - j) yN g N _ A.out.1 (by omega) hynn _ _ (by omega) rfl z HZ.out).mono ?_
                  rintro e w1 ⟨rfl, rfl⟩
                  go_wp2_with fail
                  refine (isEmpty_ok z _).mono ?_
                  rintro e w1 ⟨rfl, rfl⟩
                  by_cases hz1 : z = -1
                  · have hzb : (z == -1) = true := by simpa using hz1
                    have HZ1 := Lib.hid hz1
                    rw [hzb]
                    clear hz1 hzb
                    obtain ⟨mb, hmb⟩ : ∃ mb, _root_.QR.mskE m (x - j) yN = mb := ⟨_, rfl⟩
                    have HMB := Lib.hid hmb
                    obtain ⟨v, hv⟩ : ∃ v, bits.getD idx false = v := ⟨_, rfl⟩
                    have HVV := Lib.hid hv
                    have HES := Lib.hid (show _root_.QR.eStep bits (_root_.QR.mskE m) (N, idx) (x - j, yN) = (_root_.QR.setM N (x - j) yN (_root_.QR.b01 (v != mb)), if idx < bits.length then idx + 1 else idx) by
                      have e : N (x - j) yN = -1 := by rw [HZ.out, HZ1.out]
                      unfold _root_.QR.eStep
                      show (if N (x - j) yN = -1 then _ else _) = _
                      rw [if_pos e]
                      show (_root_.QR.setM N (x - j) yN (_root_.QR.b01 ((bits.getD idx false) != _root_.QR.mskE m (x - j) yN)), _) = _
                      rw [hmb, hv])
                    clear hmb hv
                    go_wp2_with fail
                    refine (getSize_ok b c bits _ A.out.2.1).mono ?_
                    rintro e w1 ⟨rfl, rfl⟩
                    by_cases hi : idx < bits.length
                    · have hi' : (idx : Int) < (bits.length : Int) := by omega
                      go_wp2_with fail
                      refine (get_ok b c idx bits _ A.out.2.1 hi _ rfl v HVV.out).mono ?_
                      rintro e w1 ⟨rfl, rfl⟩
                      go_wp2_with fail
                      refine (mask_ok m (x - j) yN _ hm (by omega) (by omega) _ _ _ rfl (by omega) rfl).mono ?_
                      rw [HMB.out]
                      rintro e w1 ⟨rfl, rfl⟩
                      have HES2 := Lib.hid (HES.out.trans (by rw [if_pos hi]))
                      cases mb
                      · go_wp2_with fail
                        refine (ymSetBool_ok yb ym n (x - j) yN g N _ A.out.1 (by omega) hynn _ _ (by omega) rfl v).mono ?_
                        rintro e w2 ⟨rfl, u1, u2⟩
                        have V2 := Lib.hid (And.intro (show YM w2 yb ym n g (_root_.QR.setM N (x - j) yN (_root_.QR.b01 (v != false))) from u1.congr (fun x' y' _ _ => by first | rfl | (simp only [Bool.bne_true, Bool.bne_false]; rfl))) (And.intro (A.out.2.1.keepS u2 (fun i hi => ⟨145, A.out.1.rowT i hi, by decide, by decide⟩)) (A.out.2.2.trans u2)))
                        clear u1 u2
                        go_wp2
                        go_roundw
                        case rel => exact ⟨j + 1, idx + 1, _, by omega, by go_num, by go_num, by omega, V2.out.1, Lib.hid (by have h := HF3.out; rw [HES2.out] at h; exact h), V2.out.2⟩
                        case measure => first | (simp [intOf]; done) | (simp [intOf]; omega)
                      · go_wp2_with fail
                        refine (ymSetBool_ok yb ym n (x - j) yN g N _ A.out.1 (by omega) hynn _ _ (by omega) rfl (!v)).mono ?_
                        rintro e w2 ⟨rfl, u1, u2⟩
                        have V2 := Lib.hid (And.intro (show YM w2 yb ym n g (_root_.QR.setM N (x - j) yN (_root_.QR.b01 (v != true))) from u1.congr (fun x' y' _ _ => by first | rfl | (simp only [Bool.bne_true, Bool.bne_false]; rfl))) (And.intro (A.out.2.1.keepS u2 (fun i hi => ⟨145, A.out.1.rowT i hi, by decide, by decide⟩)) (A.out.2.2.trans u2)))
                        clear u1 u2
                        go_wp2
                        go_roundw
                        case rel => exact ⟨j + 1, idx + 1, _, by omega, by go_num, by go_num, by omega, V2.out.1, Lib.hid (by have h := HF3.out; rw [HES2.out] at h; exact h), V2.out.2⟩
                        case measure => first | (simp [intOf]; done) | (simp [intOf]; omega)
                    · have hi' : ¬ (idx : Int) < (bits.length : Int) := by omega
                      have hvf : v = false := by rw [← HVV.out]; simp [List.getD, List.getElem?_eq_none (Nat.le_of_not_lt hi)]
                      subst hvf
                      go_wp2_with fail
                      refine (mask_ok m (x - j) yN _ hm (by omega) (by omega) _ _ _ rfl (by omega) rfl).mono ?_
                      rw [HMB.out]
                      rintro e w1 ⟨rfl, rfl⟩
                      have HES2 := Lib.hid (HES.out.trans (by rw [if_neg hi]))
                      cases mb
                      · go_wp2_with fail
                        refine (ymSetBool_ok yb ym n (x - j) yN g N _ A.out.1 (by omega) hynn _ _ (by omega) rfl false).mono ?_
                        rintro e w2 ⟨rfl, u1, u2⟩
                        have V2 := Lib.hid (And.intro (show YM w2 yb ym n g (_root_.QR.setM N (x - j) yN (_root_.QR.b01 (false != false))) from u1.congr (fun x' y' _ _ => by first | rfl | (simp only [Bool.bne_true, Bool.bne_false]; rfl))) (And.intro (A.out.2.1.keepS u2 (fun i hi => ⟨145, A.out.1.rowT i hi, by decide, by decide⟩)) (A.out.2.2.trans u2)))
                        clear u1 u2
                        go_wp2
                        go_roundw
                        case rel => exact ⟨j + 1, idx, _, by omega, by go_num, by go_num, by omega, V2.out.1, Lib.hid (by have h := HF3.out; rw [HES2.out] at h; exact h), V2.out.2⟩
                        case measure => first | (simp [intOf]; done) | (simp [intOf]; omega)
                      · go_wp2_with fail
                        refine (ymSetBool_ok yb ym n (x - j) yN g N _ A.out.1 (by omega) hynn _ _ (by omega) rfl (!false)).mono ?_
                        rintro e w2 ⟨rfl, u1, u2⟩
                        have V2 := Lib.hid (And.intro (show YM w2 yb ym n g (_root_.QR.setM N (x - j) yN (_root_.QR.b01 (false != true))) from u1.congr (fun x' y' _ _ => by first | rfl | (simp only [Bool.bne_true, Bool.bne_false]; rfl))) (And.intro (A.out.2.1.keepS u2 (fun i hi => ⟨145, A.out.1.rowT i hi, by decide, by decide⟩)) (A.out.2.2.trans u2)))
                        clear u1 u2
                        go_wp2
                        go_roundw
                        case rel => exact ⟨j + 1, idx, _, by omega, by go_num, by go_num, by omega, V2.out.1, Lib.hid (by have h := HF3.out; rw [HES2.out] at h; exact h), V2.out.2⟩
                        case measure => first | (simp [intOf]; done) | (simp [intOf]; omega)
                  · have hzb : (z == -1) = false := by simpa using hz1
                    have HES := Lib.hid (show _root_.QR.eStep bits (_root_.QR.mskE m) (N, idx) (x - j, yN) = (N, idx) by
                      have e : N (x - j) yN ≠ -1 := by rw [HZ.out]; exact hz1
                      unfold _root_.QR.eStep
                      show (if N (x - j) yN = -1 then _ else _) = _
                      rw [if_neg e])
                    rw [hzb]
                    clear hz1 hzb
                    go_wp2
                    go_roundw
                    case rel => exact ⟨j + 1, idx, N, by omega, rfl, by go_num, hidx, A.out.1, Lib.hid (by have h := HF3.out; rw [HES.out] at h; exact h), A.out.2⟩
                    case measure => first | (simp [intOf]; done) | (simp [intOf]; omega)
                · obtain rfl : j = 2 := by omega
                  have hf3 : Hid (_root_.QR.embedL bits (_root_.QR.mskE m) (N, idx) (((List.range n).drop (r + 1)).flatMap (rowC n x false) ++ _root_.QR.zzFrom n k (xN k) (!false)) = (FIN, bits.length)) := Lib.hid hfin.out
                  go_wp2
                  go_roundw
                  case rel => exact ⟨r + 1, idx, N, _, by omega, rfl, rfl, Lib.hid (by have := HYR.out; omega), hidx, A.out.1, hf3, A.out.2⟩
                  case measure => have := HYR.out; simp [intOf]; omega
            · obtain rfl : r = n := by omega
              have hyv : y = (r : Int) := by have := hy.out; omega
              have hf3 : Hid (_root_.QR.embedL bits (_root_.QR.mskE m) (N, idx) (_root_.QR.zzFrom r k (xN k) (!false)) = (FIN, bits.length)) := Lib.hid (by
                have h := hfin.out
                rw [List.drop_of_length_le (by simp), List.flatMap_nil, List.nil_append] at h
                exact h)
              subst hyv
              clear hfin hy
              go_wp2_with fail
              refine (ymH_ok yb ym r g N _ A.out.1).mono ?_
              rintro e w1 ⟨rfl, rfl⟩
              go_wp2
              go_roundw
              case rel => exact ⟨k, idx, N, true, _, _, by omega, rfl, rfl, Lib.hid (by have := HST.out; split <;> omega), rfl, rfl, Lib.hid (by rw [if_pos rfl]; omega), hidx, A.out.1, hf3, A.out.2⟩
              case measure => first | (simp [intOf]; done) | (simp [intOf]; omega)
        · have hY2 : Y = (n : Int) - 1 := by have := hY.out; simpa using this
          have HY2 := Lib.hid hY2
          clear hY hY2
          go_wp2_with fail
          go_loopw [7, 10] (fun s7 s10 wr => ∃ (r idx : Nat) (N : Nat → Nat → Int) (y : Int), r ≤ n ∧ s7 = .int .i64 (idx : Int) ∧ s10 = .int .i64 y ∧ Hid (y = (n : Int) - 1 - (r : Int)) ∧ idx ≤ bits.length ∧ YM wr yb ym n g N ∧
              Hid (_root_.QR.embedL bits (_root_.QR.mskE m) (N, idx) (((List.range n).drop r).flatMap (rowC n x true) ++ _root_.QR.zzFrom n k (xN k) (!true)) = (FIN, bits.length)) ∧ BA wr b c bits ∧ Keeps (inRows g n) w wr) (fun _ s10 _ => (intOf s10 + 1).toNat)
          case atStart => exact ⟨0, idx, N, Y, by omega, rfl, rfl, Lib.hid (by have := HY2.out; omega), hidx, A.out.1, HF, A.out.2⟩
          case round =>
            obtain ⟨r, idx, N, y, hr, rfl, rfl, hy, hidx, y1, hfin, y2, y3⟩ := hrel
            have A := Lib.hid (And.intro y1 (And.intro y2 y3))
            clear y1 y2 y3
            by_cases hrn : r < n
            · have hy0 : 0 ≤ y := by have := hy.out; omega
              have hyn : y < (n : Int) := by have := hy.out; omega
              obtain ⟨yN, hyN⟩ : ∃ yN : Nat, n - 1 - r = yN := ⟨_, rfl⟩
              have hyy : y = (yN : Int) := by have := hy.out; omega
              have hfin2 := hfin.out
              rw [drop_range n r hrn, List.flatMap_cons, List.append_assoc] at hfin2
              have erow : rowC n x true r = [(x, yN), (x - 1, yN)] := by
                unfold rowC
                simp only [Bool.false_eq_true, if_true, if_false, hyN]
              rw [erow] at hfin2
              have HF2 := Lib.hid hfin2
              have hynn : yN < n := by omega
              have HYR := Lib.hid (show (yN : Int) = (n : Int) - 1 - (r : Int) by rw [← hyy]; exact hy.out)
              subst hyy
              clear hfin hfin2 erow hy hyN
              go_wp2_with fail
              refine (ymH_ok yb ym n g N _ A.out.1).mono ?_
              rintro e w1 ⟨rfl, rfl⟩
              go_wp2_with fail
              go_loopw [7, 11] (fun s7 s11 wr => ∃ (j idx : Nat) (N : Nat → Nat → Int), j ≤ 2 ∧ s7 = .int .i64 (idx : Int) ∧ s11 = .int .i64 (j : Int) ∧ idx ≤ bits.length ∧ YM wr yb ym n g N ∧
                  Hid (_root_.QR.embedL bits (_root_.QR.mskE m) (N, idx) ([(x, yN), (x - 1, yN)].drop j ++ (((List.range n).drop (r + 1)).flatMap (rowC n x true) ++ _root_.QR.zzFrom n k (xN k) (!true))) = (FIN, bits.length)) ∧ BA wr b c bits ∧ Keeps (inRows g n) w wr) (fun _ s11 _ => 2 - (intOf s11).toNat)
              case atStart => exact ⟨0, idx, N, by omega, rfl, rfl, hidx, A.out.1, HF2, A.out.2⟩
              case round =>
                obtain ⟨j, idx, N, hj, rfl, rfl, hidx, y1, hfin, y2, y3⟩ := hrel
                have A := Lib.hid (And.intro y1 (And.intro y2 y3))
                clear y1 y2 y3
                by_cases hj2 : j < 2
                · have hj2' : (j : Int) < 2 := by omega
                  obtain ⟨z, hz⟩ : ∃ z, N (x - j) yN = z := ⟨_, rfl⟩
                  have HZ := Lib.hid hz
                  have edrop : [(x, yN), (x - 1, yN)].drop j = (x - j, yN) :: [(x, yN), (x - 1, yN)].drop (j + 1) := by
                    obtain rfl | rfl : j = 0 ∨ j = 1 := by omega
                    · rfl
                    · rfl
                  have hf := hfin.out
                  rw [edrop, List.cons_append] at hf
                  have HF3 := Lib.hid (show _root_.QR.embedL bits (_root_.QR.mskE m) (_root_.QR.eStep bits (_root_.QR.mskE m) (N, idx) (x - j, yN)) ([(x, yN), (x - 1, yN)].drop (j + 1) ++ (((List.range n).drop (r + 1)).flatMap (rowC n x true) ++ _root_.QR.zzFrom n k (xN k) (!true))) = (FIN, bits.length) from hf)
                  clear hz hf hfin edrop
                  go_wp2_with fail
                  refine (ymGet_ok yb ym n (x - j) yN g N _ A.out.1 (by omega) hynn _ _ (by omega) rfl z HZ.out).mono ?_
                  rintro e w1 ⟨rfl, rfl⟩
                  go_wp2_with fail
                  refine (isEmpty_ok z _).mono ?_
                  rintro e w1 ⟨rfl, rfl⟩
                  by_cases hz1 : z = -1
                  · have hzb : (z == -1) = true := by simpa using hz1
                    have HZ1 := Lib.hid hz1
                    rw [hzb]
                    clear hz1 hzb
                    obtain ⟨mb, hmb⟩ : ∃ mb, _root_.QR.mskE m (x - j) yN = mb := ⟨_, rfl⟩
                    have HMB := Lib.hid hmb
                    obtain ⟨v, hv⟩ : ∃ v, bits.getD idx false = v := ⟨_, rfl⟩
                    have HVV := Lib.hid hv
                    have HES := Lib.hid (show _root_.QR.eStep bits (_root_.QR.mskE m) (N, idx) (x - j, yN) = (_root_.QR.setM N (x - j) yN (_root_.QR.b01 (v != mb)), if idx < bits.length then idx + 1 else idx) by
                      have e : N (x - j) yN = -1 := by rw [HZ.out, HZ1.out]
                      unfold _root_.QR.eStep
                      show (if N (x - j) yN = -1 then _ else _) = _
                      rw [if_pos e]
                      show (_root_.QR.setM N (x - j) yN (_root_.QR.b01 ((bits.getD idx false) != _root_.QR.mskE m (x - j) yN)), _) = _
                      rw [hmb, hv])
                    clear hmb hv
                    go_wp2_with fail
                    refine (getSize_ok b c bits _ A.out.2.1).mono ?_
                    rintro e w1 ⟨rfl, rfl⟩
                    by_cases hi : idx < bits.length
                    · have hi' : (idx : Int) < (bits.length : Int) := by omega
                      go_wp2_with fail
                      refine (get_ok b c idx bits _ A.out.2.1 hi _ rfl v HVV.out).mono ?_
                      rintro e w1 ⟨rfl, rfl⟩
                      go_wp2_with fail
                      refine (mask_ok m (x - j) yN _ hm (by omega) (by omega) _ _ _ rfl (by omega) rfl).mono ?_
                      rw [HMB.out]
                      rintro e w1 ⟨rfl, rfl⟩
                      have HES2 := Lib.hid (HES.out.trans (by rw [if_pos hi]))
                      cases mb
                      · go_wp2_with fail
                        refine (ymSetBool_ok yb ym n (x - j) yN g N _ A.out.1 (by omega) hynn _ _ (by omega) rfl v).mono ?_
                        rintro e w2 ⟨rfl, u1, u2⟩
                        have V2 := Lib.hid (And.intro (show YM w2 yb ym n g (_root_.QR.setM N (x - j) yN (_root_.QR.b01 (v != false))) from u1.congr (fun x' y' _ _ => by first | rfl | (simp only [Bool.bne_true, Bool.bne_false]; rfl))) (And.intro (A.out.2.1.keepS u2 (fun i hi => ⟨145, A.out.1.rowT i hi, by decide, by decide⟩)) (A.out.2.2.trans u2)))
                        clear u1 u2
                        go_wp2
                        go_roundw
                        case rel => exact ⟨j + 1, idx + 1, _, by omega, by go_num, by go_num, by omega, V2.out.1, Lib.hid (by have h := HF3.out; rw [HES2.out] at h; exact h), V2.out.2⟩
                        case measure => first | (simp [intOf]; done) | (simp [intOf]; omega)
                      · go_wp2_with fail
                        refine (ymSetBool_ok yb ym n (x - j) yN g N _ A.out.1 (by omega) hynn _ _ (by omega) rfl (!v)).mono ?_
                        rintro e w2 ⟨rfl, u1, u2⟩
                        have V2 := Lib.hid (And.intro (show YM w2 yb ym n g (_root_.QR.setM N (x - j) yN (_root_.QR.b01 (v != true))) from u1.congr (fun x' y' _ _ => by first | rfl | (simp only [Bool.bne_true, Bool.bne_false]; rfl))) (And.intro (A.out.2.1.keepS u2 (fun i hi => ⟨145, A.out.1.rowT i hi, by decide, by decide⟩)) (A.out.2.2.trans u2)))
                        clear u1 u2
                        go_wp2
                        go_roundw
                        case rel => exact ⟨j + 1, idx + 1, _, by omega, by go_num, by go_num, by omega, V2.out.1, Lib.hid (by have h := HF3.out; rw [HES2.out] at h; exact h), V2.out.2⟩
                        case measure => first | (simp [intOf]; done) | (simp [intOf]; omega)
                    · have hi' : ¬ (idx : Int) < (bits.length : Int) := by omega
                      have hvf : v = false := by rw [← HVV.out]; simp [List.getD, List.getElem?_eq_none (Nat.le_of_not_lt hi)]
                      subst hvf
                      go_wp2_with fail
                      refine (mask_ok m (x - j) yN _ hm (by omega) (by omega) _ _ _ rfl (by omega) rfl).mono ?_
                      rw [HMB.out]
                      rintro e w1 ⟨rfl, rfl⟩
                      have HES2 := Lib.hid (HES.out.trans (by rw [if_neg hi]))
                      cases mb
                      · go_wp2_with fail
                        refine (ymSetBool_ok yb ym n (x - j) yN g N _ A.out.1 (by omega) hynn _ _ (by omega) rfl false).mono ?_
                        rintro e w2 ⟨rfl, u1, u2⟩
                        have V2 := Lib.hid (And.intro (show YM w2 yb ym n g (_root_.QR.setM N (x - j) yN (_root_.QR.b01 (false != false))) from u1.congr (fun x' y' _ _ => by first | rfl | (simp only [Bool.bne_true, Bool.bne_false]; rfl))) (And.intro (A.out.2.1.keepS u2 (fun i hi => ⟨145, A.out.1.rowT i hi, by decide, by decide⟩)) (A.out.2.2.trans u2)))
                        clear u1 u2
                        go_wp2
                        go_roundw
                        case rel => exact ⟨j + 1, idx, _, by omega, by go_num, by go_num, by omega, V2.out.1, Lib.hid (by have h := HF3.out; rw [HES2.out] at h; exact h), V2.out.2⟩
                        case measure => first | (simp [intOf]; done) | (simp [intOf]; omega)
                      · go_wp2_with fail
                        refine (ymSetBool_ok yb ym n (x - j) yN g N _ A.out.1 (by omega) hynn _ _ (by omega) rfl (!false)).mono ?_
                        rintro e w2 ⟨rfl, u1, u2⟩
                        have V2 := Lib.hid (And.intro (show YM w2 yb ym n g (_root_.QR.setM N (x - j) yN (_root_.QR.b01 (false != true))) from u1.congr (fun x' y' _ _ => by first | rfl | (simp only [Bool.bne_true, Bool.bne_false]; rfl))) (And.intro (A.out.2.1.keepS u2 (fun i hi => ⟨145, A.out.1.rowT i hi, by decide, by decide⟩)) (A.out.2.2.trans u2)))
                        clear u1 u2
                        go_wp2
                        go_roundw
                        case rel => exact ⟨j + 1, idx, _, by omega, by go_num, by go_num, by omega, V2.out.1, Lib.hid (by have h := HF3.out; rw [HES2.out] at h; exact h), V2.out.2⟩
                        case measure => first | (simp [intOf]; done) | (simp [intOf]; omega)
                  · have hzb : (z == -1) = false := by simpa using hz1
                    have HES := Lib.hid (show _root_.QR.eStep bits (_root_.QR.mskE m) (N, idx) (x - j, yN) = (N, idx) by
                      have e : N (x - j) yN ≠ -1 := by rw [HZ.out]; exact hz1
                      unfold _root_.QR.eStep
                      show (if N (x - j) yN = -1 then _ else _) = _
                      rw [if_neg e])
                    rw [hzb]
                    clear hz1 hzb
                    go_wp2
                    go_roundw
                    case rel => exact ⟨j + 1, idx, N, by omega, rfl, by go_num, hidx, A.out.1, Lib.hid (by have h := HF3.out; rw [HES.out] at h; exact h), A.out.2⟩
                    case measure => first | (simp [intOf]; done) | (simp [intOf]; omega)
                · obtain rfl : j = 2 := by omega
                  have hf3 : Hid (_root_.QR.embedL bits (_root_.QR.mskE m) (N, idx) (((List.range n).drop (r + 1)).flatMap (rowC n x true) ++ _root_.QR.zzFrom n k (xN k) (!true)) = (FIN, bits.length)) := Lib.hid hfin.out
                  go_wp2
                  go_roundw
                  case rel => exact ⟨r + 1, idx, N, _, by omega, rfl, rfl, Lib.hid (by have := HYR.out; omega), hidx, A.out.1, hf3, A.out.2⟩
                  case measure => have := HYR.out; simp [intOf]; omega
            · obtain rfl : r = n := by omega
              have hyv : y = -1 := by have := hy.out; omega
              have hf3 : Hid (_root_.QR.embedL bits (_root_.QR.mskE m) (N, idx) (_root_.QR.zzFrom r k (xN k) (!true)) = (FIN, bits.length)) := Lib.hid (by
                have h := hfin.out
                rw [List.drop_of_length_le (by simp), List.flatMap_nil, List.nil_append] at h
                exact h)
              subst hyv
              clear hfin hy
              go_wp2
              go_roundw
              case rel => exact ⟨k, idx, N, false, _, _, by omega, rfl, rfl, Lib.hid (by have := HST.out; split <;> omega), rfl, rfl, Lib.hid (by simp), hidx, A.out.1, hf3, A.out.2⟩
              case measure => first | (simp [intOf]; done) | (simp [intOf]; omega)

end Go.Proofs.YtplpafbkalkchaaGreatDoor
