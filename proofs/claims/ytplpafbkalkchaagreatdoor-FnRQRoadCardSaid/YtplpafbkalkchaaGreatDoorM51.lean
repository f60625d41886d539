/-
  Parts of the proof (LW1, LW2).
-/
import Derived.Test.YtplpafbkalkchaaGreatDoorM01
import Derived.Test.YtplpafbkalkchaaGreatDoorM06
import Derived.Test.YtplpafbkalkchaaGreatDoorM40
set_option linter.unusedSimpArgs false
set_option linter.unusedVariables false

namespace Go.Proofs.YtplpafbkalkchaaGreatDoor
open Go.RowKit

theorem level4_ok (a : Nat) (w : World) (ha : a < 256) : Calls Tryz.prog 6 #[.int .u8 (a : Int)] w fun e w' => e = .returned (.int .i64 ((a % 4 : Nat) : Int)) ∧ w = w' := by
  have h1 := wrap64_u8 a ha
  have h2 : (a : Int) % 4 = ((a % 4 : Nat) : Int) := by omega
  go_enter Tryz.func6, Tryz.ntmps6
  go_wp2
  go_ret
  exact ⟨rfl, rfl⟩

set_option maxRecDepth 100000 in
theorem tones_ok (n0 n1 n2 n3 n4 : Int) (dk lg : Nat) (pt : Bool) (h1 : dk < 256) (h2 : lg < 256) (w : World) :
    Calls Tryz.prog 8 #[.agg #[.int .u8 n0, .int .u8 n1, .int .u8 n2, .int .u8 n3, .int .u8 n4, .int .u8 (dk : Int), .int .u8 (lg : Int), .bool pt]] w fun e w' => ∃ D L : Nat, e = .returned (.tuple #[.int .u8 (D : Int), .int .u8 (L : Int)]) ∧ 3 * D ≤ L ∧ 128 ≤ L ∧ L < 256 ∧ Keeps (fun _ => False) w w' := by
  obtain ⟨L, hL⟩ : ∃ L, 128 + lg % 128 = L := ⟨_, rfl⟩
  have e1 : 128 + (lg : Int) % 128 = (L : Int) := by omega
  obtain ⟨q, hq⟩ : ∃ q, L / 3 = q := ⟨_, rfl⟩
  have e2 : (L : Int) / 3 = (q : Int) := by omega
  obtain ⟨D, hD⟩ : ∃ D, dk % (q + 1) = D := ⟨_, rfl⟩
  have e3 : (dk : Int) % ((q : Int) + 1) = (D : Int) := by
    rw [← hD, show (q : Int) + 1 = ((q + 1 : Nat) : Int) by omega, ← Int.natCast_emod]
  have hDq : D ≤ q := by rw [← hD]; have := Nat.mod_lt dk (show 0 < q + 1 by omega); omega
  have hb1 : L < 256 := by omega
  have hb2 : q < 86 := by omega
  have hq0 : ((q : Int) + 1 == 0) = false := beq_eq_false_iff_ne.2 (by omega)
  have HX := Lib.hid (show 3 * D ≤ L ∧ 128 ≤ L ∧ L < 256 by omega)
  clear hL hq hD
  go_enter Tryz.func8, Tryz.ntmps8
  go_wp2_with fail
  go_ret2
  exact ⟨D, L, by rw [← e3]; rfl, HX.out.1, HX.out.2.1, HX.out.2.2, (Keeps.refl _ w).alloc _⟩

set_option maxRecDepth 100000 in
set_option maxHeartbeats 1000000 in
theorem even_ok (m W H : Nat) (g : Nat → Nat) (F : Nat → Nat → Value) (w : World) (h : RowsK w m W H H g F 57 4) (h1 : 21 ≤ W) (h2 : W ≤ 300) (h3 : 21 ≤ H) (h4 : H ≤ 300) :
    Calls Tryz.prog 7 #[.slice (some ⟨m, 0, none⟩) H H, .int .i64 21, .int .i64 300] w fun e w' => e = .returned (.bool true) ∧ w = w' := by
  have s0 := h.slot (y := 0) (by omega) (Nat.le_refl _)
  have HH := Lib.hid h
  have d1 : ¬ (H : Int) < 21 := by omega
  have d2 : ¬ (300 : Int) < (H : Int) := by omega
  have d3 : ¬ (W : Int) < 21 := by omega
  have d4 : ¬ (300 : Int) < (W : Int) := by omega
  have d5 : ((W : Int) != (W : Int)) = false := by simp
  have d6 : (0 : Int) < (H : Int) := by omega
  clear h
  go_enter Tryz.func7, Tryz.ntmps7
  go_wp2_with fail
  go_loopw [22] (fun s22 wr => ∃ y : Nat, y ≤ H ∧ s22 = .int .i64 (y : Int) ∧ wr = w) (fun s22 _ => H - (intOf s22).toNat)
  case atStart => exact ⟨0, by omega, rfl, by simp⟩
  case round =>
    obtain ⟨y, hy, rfl, rfl⟩ := hrel
    by_cases hyH : y < H
    · have hy' : (y : Int) < (H : Int) := by omega
      have sy := HH.out.slot hyH (Nat.le_refl _)
      go_wp2_with fail
      go_roundw
      case rel => exact ⟨y + 1, by omega, by go_num, by simp⟩
      case measure => simp [intOf]; omega
    · obtain rfl : y = H := by omega
      go_wp2_with fail
      go_ret
      exact ⟨rfl, rfl⟩

/-- What the answer tells. -/
def Told9 (pt : Bool) (W H D lt : Nat) (e : Ending) : Prop := ∃ t : Bool, e = .returned (.bool t) ∧ (t = true → (pt = false ∧ W < 5 * lt) ∨ (pt = true ∧ 40 ≤ W ∧ 40 ≤ H ∧ D = 0))
theorem Told9.no {pt : Bool} {W H D lt : Nat} {e : Ending} (h : e = .returned (.bool false)) : Told9 pt W H D lt e := ⟨false, h, fun h => by cases h⟩
theorem Told9.row {W H D lt : Nat} {e : Ending} (h : e = .returned (.bool true)) (hw : W < 5 * lt) : Told9 false W H D lt e := ⟨true, h, fun _ => Or.inl ⟨rfl, hw⟩⟩
theorem Told9.part {W H D lt : Nat} {e : Ending} (h : e = .returned (.bool true)) (h1 : 40 ≤ W) (h2 : 40 ≤ H) (h3 : D = 0) : Told9 true W H D lt e := ⟨true, h, fun _ => Or.inr ⟨rfl, h1, h2, h3⟩⟩

set_option maxRecDepth 100000 in
set_option maxHeartbeats 2000000 in
theorem told_ok (m W H D lt tp : Nat) (g : Nat → Nat) (P : Nat → Nat → Bool) (pt : Bool) (w : World) (h : RowsK w m W H H g (fun x y => .bool (P x y)) 57 4) (h1 : 21 ≤ W) (h2 : W ≤ 300) (h3 : 21 ≤ H) (h4 : H ≤ 300) (hlt : lt < W) (htp : tp < H) (on : P lt tp = true) (hD : D < 256) :
    Calls Tryz.prog 9 #[.slice (some ⟨m, 0, none⟩) H H, .int .u8 (D : Int), .bool pt] w fun e w' => Told9 pt W H D lt e ∧ w = w' := by
  have s0 := h.slot (y := 0) (by omega) (Nat.le_refl _)
  have HH := Lib.hid h
  have HON := Lib.hid on
  have d0 : ((H : Int) == 0) = false := beq_eq_false_iff_ne.2 (by omega)
  have d6 : (0 : Int) < (H : Int) := by omega
  clear h on
  go_enter Tryz.func9, Tryz.ntmps9
  go_wp2_with fail
  go_loopw [9, 25] (fun s9 s25 wr => ∃ y b : Nat, y ≤ H ∧ s25 = .int .i64 (y : Int) ∧ s9 = .int .i64 (b : Int) ∧ b ≤ W ∧ Hid (tp < y → b ≤ lt) ∧ wr = w) (fun _ s25 _ => H - (intOf s25).toNat)
  case atStart => exact ⟨0, W, by omega, rfl, rfl, by omega, Lib.hid (fun h => by omega), by simp⟩
  case round =>
    obtain ⟨y, b, hy, rfl, rfl, hb, HB, rfl⟩ := hrel
    by_cases hyH : y < H
    · have hy' : (y : Int) < (H : Int) := by omega
      have sy := HH.out.slot hyH (Nat.le_refl _)
      go_wp2_with fail
      go_loopw [9, 31] (fun s9 s31 wz => ∃ x b : Nat, x ≤ W ∧ s31 = .int .i64 (x : Int) ∧ s9 = .int .i64 (b : Int) ∧ b ≤ W ∧ Hid ((tp < y ∨ (tp = y ∧ lt < x)) → b ≤ lt) ∧ wz = wr) (fun _ s31 _ => W - (intOf s31).toNat)
      case atStart => exact ⟨0, b, by omega, rfl, rfl, hb, Lib.hid (fun h => HB.out (by omega)), by simp⟩
      case round =>
        obtain ⟨x, b, hx, rfl, rfl, hb, HB2, rfl⟩ := hrel
        by_cases hxW : x < W
        · have hx' : (x : Int) < (W : Int) := by omega
          have c0 := HH.out.dot hxW hyH
          cases hP : P x y
          · rw [hP] at c0
            have NB := Lib.hid (show (tp < y ∨ (tp = y ∧ lt < x + 1)) → b ≤ lt from fun h => by
              by_cases e : tp = y ∧ lt = x
              · obtain ⟨rfl, rfl⟩ := e
                have := HON.out; rw [hP] at this; cases this
              · exact HB2.out (by omega))
            clear hP
            go_wp2_with fail
            go_roundw
            case rel => exact ⟨x + 1, b, by omega, by go_num, rfl, hb, NB, by simp⟩
            case measure => simp [intOf]; omega
          · rw [hP] at c0
            clear hP
            by_cases hxb : x < b
            · have hxb' : (x : Int) < (b : Int) := by omega
              have NB := Lib.hid (show (tp < y ∨ (tp = y ∧ lt < x + 1)) → x ≤ lt from fun h => by
                by_cases e : tp < y ∨ (tp = y ∧ lt < x)
                · have := HB2.out e; omega
                · omega)
              go_wp2_with fail
              go_roundw
              case rel => exact ⟨x + 1, x, by omega, by go_num, rfl, by omega, NB, by simp⟩
              case measure => simp [intOf]; omega
            · have hxb' : ¬ (x : Int) < (b : Int) := by omega
              have NB := Lib.hid (show (tp < y ∨ (tp = y ∧ lt < x + 1)) → b ≤ lt from fun h => by
                by_cases e : tp < y ∨ (tp = y ∧ lt < x)
                · exact HB2.out e
                · omega)
              go_wp2_with fail
              go_roundw
              case rel => exact ⟨x + 1, b, by omega, by go_num, rfl, hb, NB, by simp⟩
              case measure => simp [intOf]; omega
        · obtain rfl : x = W := by omega
          go_wp2_with fail
          go_roundw
          case rel => exact ⟨y + 1, b, by omega, by go_num, rfl, hb, Lib.hid (fun h => HB2.out (by omega)), by simp⟩
          case measure => simp [intOf]; omega
    · obtain rfl : y = H := by omega
      have hbl := HB.out htp
      cases pt
      · by_cases h5 : W < 5 * b
        · have h5' : (W : Int) < 5 * (b : Int) := by omega
          go_wp2_with fail
          go_ret
          exact ⟨Told9.row rfl (by omega), rfl⟩
        · have h5' : ¬ (W : Int) < 5 * (b : Int) := by omega
          go_wp2_with fail
          go_ret
          exact ⟨Told9.no rfl, rfl⟩
      · by_cases hc1 : 40 ≤ W
        · have hc1' : (40 : Int) ≤ (W : Int) := by omega
          by_cases hc2 : 40 ≤ y
          · have hc2' : (40 : Int) ≤ (y : Int) := by omega
            by_cases hc3 : D = 0
            · have hc3' : ((D : Int) == 0) = true := by rw [hc3]; rfl
              go_wp2_with fail
              go_ret
              exact ⟨Told9.part rfl hc1 hc2 hc3, rfl⟩
            · have hc3' : ((D : Int) == 0) = false := beq_eq_false_iff_ne.2 (by omega)
              go_wp2_with fail
              go_ret
              exact ⟨Told9.no rfl, rfl⟩
          · have hc2' : ¬ (40 : Int) ≤ (y : Int) := by omega
            go_wp2_with fail
            go_ret
            exact ⟨Told9.no rfl, rfl⟩
        · have hc1' : ¬ (40 : Int) ≤ (W : Int) := by omega
          go_wp2_with fail
          go_ret
          exact ⟨Told9.no rfl, rfl⟩

theorem range_gray (G : Nat → Nat) (n : Nat) (v : Nat) (h : G n = v) : ((List.range n).map fun i => Value.int .u8 (G i : Int)) ++ [Value.int .u8 (v : Int)] = (List.range (n + 1)).map fun i => Value.int .u8 (G i : Int) := by
  rw [List.range_succ, List.map_append, ← h]; rfl

set_option maxRecDepth 100000 in
set_option maxHeartbeats 4000000 in
theorem grays_ok (m W H D L : Nat) (g : Nat → Nat) (P : Nat → Nat → Bool) (w : World) (h : RowsK w m W H H g (fun x y => .bool (P x y)) 57 4) (h1 : 21 ≤ W) (h2 : W ≤ 300) (h3 : 21 ≤ H) (h4 : H ≤ 300) :
    Calls Tryz.prog 10 #[.slice (some ⟨m, 0, none⟩) H H, .int .u8 (D : Int), .int .u8 (L : Int)] w fun e w' => ∃ d k, e = .returned (.tuple #[.int .i64 (W : Int), .int .i64 (H : Int), .slice (some ⟨d, 0, none⟩) (H * W) k]) ∧
      Row8 w' d (H * W) (_root_.QR.grayF P W D L) ∧ Keeps (fun _ => False) w w' := by
  have HH := Lib.hid h
  have d6 : (0 : Int) < (H : Int) := by omega
  obtain ⟨i0, hi0, hz0, hz1, hz2⟩ := info_parts info5
  obtain ⟨B, hB⟩ : ∃ B, w.heap.size = B := ⟨_, rfl⟩
  have HB := Lib.hid hB
  clear h hB
  go_enter Tryz.func10, Tryz.ntmps10
  go_wp2_with fail
  go_loopw [9, 10, 17] (fun s9 s10 s17 wr => ∃ (y n : Nat) (v4 : Value), y ≤ H ∧ s9 = v4 ∧ s17 = .int .i64 (y : Int) ∧ s10 = .int .i64 (((if y = 0 then 0 else W) : Nat) : Int) ∧ Hid (n = y * W) ∧ n ≤ 90000 ∧ Hid (wr.ownsRow B 5 1 v4 n ((List.range n).map fun i => .int .u8 (_root_.QR.grayF P W D L i : Int))) ∧ Hid (Keeps (fun _ => False) w wr)) (fun _ _ s17 _ => H - (intOf s17).toNat)
  case atStart => exact ⟨0, 0, _, by omega, rfl, rfl, by simp, Lib.hid (by simp), by omega, Lib.hid ⟨rfl, Or.inl ⟨rfl, rfl⟩⟩, Lib.hid (Keeps.refl _ _)⟩
  case round =>
    obtain ⟨y, n, v4, hy, rfl, rfl, rfl, HN, hn, HO, HK⟩ := hrel
    by_cases hyH : y < H
    · have hy' : (y : Int) < (H : Int) := by omega
      have HR := Lib.hid (HH.out.keep HK.out (fun h => h) (fun _ _ h => h))
      have sy := HR.out.slot hyH (Nat.le_refl _)
      have HYH := Lib.hid hyH
      go_wp2_with fail
      clear sy
      go_loopw [9, 25] (fun s9 s25 wz => ∃ (x n' : Nat) (v5 : Value), x ≤ W ∧ s9 = v5 ∧ s25 = .int .i64 (x : Int) ∧ n' ≤ 90300 ∧ Hid (n' = n + x) ∧ Hid (wz.ownsRow B 5 1 v5 n' ((List.range n').map fun i => .int .u8 (_root_.QR.grayF P W D L i : Int))) ∧ Hid (Keeps (fun _ => False) w wz)) (fun _ s25 _ => W - (intOf s25).toNat)
      case atStart => exact ⟨0, n, _, by omega, rfl, rfl, by omega, Lib.hid rfl, HO, HK⟩
      case round =>
        obtain ⟨x, n', v5, hx, h9, rfl, hn9, HN', HO2, HK2⟩ := hrel
        replace h9 := h9.symm
        subst h9
        by_cases hxW : x < W
        · have hx' : (x : Int) < (W : Int) := by omega
          have HR2 := Lib.hid (HH.out.keep HK2.out (fun h => h) (fun _ _ h => h))
          have c0 := HR2.out.dot hxW HYH.out
          have hBw : B ≤ wr.heap.size := by have := HK2.out.size; have := HB.out; omega
          have hG : _root_.QR.grayF P W D L n' = if P x y then D else L := by rw [HN'.out, HN.out]; exact _root_.QR.grayF_at hxW
          cases hP : P x y
          · rw [hP] at c0
            have hGL : _root_.QR.grayF P W D L n' = L := by rw [hG, hP]; rfl
            have RG := Lib.hid (range_gray (_root_.QR.grayF P W D L) n' L hGL)
            clear hP hG hGL
            go_wp2_with (at_builtin; refine wpList_append_own _ rfl _ _ 35 rfl B 5 i0 (.int .u8 0) 1 1 Tryz.underlying35 hi0 hz0 hz1 hz2 rfl (by decide) _ _ _ rfl (HO2.out.alloc _) ⟨wr.heap.size, 0, none⟩ 1 1 [.int .u8 (L : Int)] rfl rfl ?c1 ?c2 ?c3 ?c4 ?c5 ?_)
            case c1 => exact cell_one_new _ _ _
            case c2 => intro u hu; simp at hu; subst hu; rfl
            case c3 => unfold maxLen; omega
            case c4 => omega
            case c5 => simp; omega
            intro v6 w6 hown6 hgrow _
            rw [RG.out] at hown6
            have k6 : Keeps (fun _ => False) w w6 := (HK2.out.alloc _).step (S' := fun i' => v5.ownBlock = some i') ((Keeps.refl _ _).grown hgrow (fun k hk => Or.inl hk)) (fun i' hi' e => by have := (own_typ HO2.out _ e).2; have := HB.out; omega)
            have O6 := Lib.hid hown6
            have K6 := Lib.hid k6
            clear hown6 hgrow k6
            go_wp2_with fail
            go_roundw
            case rel => exact ⟨x + 1, n' + 1, v6, by omega, rfl, by go_num, by have := HN'.out; omega, Lib.hid (by have := HN'.out; omega), O6, K6⟩
            case measure => simp [intOf]; omega
          · rw [hP] at c0
            have hGL : _root_.QR.grayF P W D L n' = D := by rw [hG, hP]; rfl
            have RG := Lib.hid (range_gray (_root_.QR.grayF P W D L) n' D hGL)
            clear hP hG hGL
            go_wp2_with (at_builtin; refine wpList_append_own _ rfl _ _ 35 rfl B 5 i0 (.int .u8 0) 1 1 Tryz.underlying35 hi0 hz0 hz1 hz2 rfl (by decide) _ _ _ rfl (HO2.out.alloc _) ⟨wr.heap.size, 0, none⟩ 1 1 [.int .u8 (D : Int)] rfl rfl ?c1 ?c2 ?c3 ?c4 ?c5 ?_)
            case c1 => exact cell_one_new _ _ _
            case c2 => intro u hu; simp at hu; subst hu; rfl
            case c3 => unfold maxLen; omega
            case c4 => omega
            case c5 => simp; omega
            intro v6 w6 hown6 hgrow _
            rw [RG.out] at hown6
            have k6 : Keeps (fun _ => False) w w6 := (HK2.out.alloc _).step (S' := fun i' => v5.ownBlock = some i') ((Keeps.refl _ _).grown hgrow (fun k hk => Or.inl hk)) (fun i' hi' e => by have := (own_typ HO2.out _ e).2; have := HB.out; omega)
            have O6 := Lib.hid hown6
            have K6 := Lib.hid k6
            clear hown6 hgrow k6
            go_wp2_with fail
            go_roundw
            case rel => exact ⟨x + 1, n' + 1, v6, by omega, rfl, by go_num, by have := HN'.out; omega, Lib.hid (by have := HN'.out; omega), O6, K6⟩
            case measure => simp [intOf]; omega
        · obtain rfl : x = W := by omega
          go_wp2_with fail
          go_roundw
          case rel => exact ⟨y + 1, n', _, by omega, rfl, by go_num, by simp, Lib.hid (by rw [HN'.out, HN.out, Nat.add_mul, Nat.one_mul]), by rw [HN'.out, HN.out]; have := Nat.mul_le_mul (show y + 1 ≤ 300 by omega) h2; rw [Nat.add_mul, Nat.one_mul] at this; omega, HO2, HK2⟩
          case measure => simp [intOf]; omega
    · obtain rfl : y = H := by omega
      have hn1 : n = y * W := HN.out
      have hpos : 0 < n := by rw [hn1]; exact Nat.mul_pos (by omega) (by omega)
      obtain ⟨d, k, rfl, hk, hr⟩ := Row8.of_own HO.out hpos
      have R := Lib.hid hr
      have hy0 : (if y = 0 then 0 else W) = W := by rw [if_neg (by omega)]
      rw [hy0]
      clear hr hy0
      go_wp2_with fail
      go_ret3
      rw [← hn1]
      exact ⟨d, k, rfl, R.out, HK.out⟩

end Go.Proofs.YtplpafbkalkchaaGreatDoor

namespace Go.Proofs.YtplpafbkalkchaaGreatDoor
open Go.RowKit

def IntEnd (e : Ending) : Prop := ∃ r : Int, e = .returned (.int .i64 r)
def ByteEnd (e : Ending) : Prop := ∃ r : Nat, e = .returned (.int .u8 (r : Int)) ∧ r < 256

theorem idx98 (k : Nat) (hk : k < 9) : ∃ c : Nat, c < 256 ∧ ∀ w : World, (Instr.index 98 (.agg #[.int .u8 32, .int .u8 36, .int .u8 37, .int .u8 42, .int .u8 43, .int .u8 45, .int .u8 46, .int .u8 47, .int .u8 58]) (.int .i64 (k : Int))).run Tryz.prog w = .ok (.int .u8 (c : Int)) w := by
  obtain rfl | rfl | rfl | rfl | rfl | rfl | rfl | rfl | rfl : k = 0 ∨ k = 1 ∨ k = 2 ∨ k = 3 ∨ k = 4 ∨ k = 5 ∨ k = 6 ∨ k = 7 ∨ k = 8 := by omega
  · exact ⟨32, by omega, fun w => by kernel_rfl⟩
  · exact ⟨36, by omega, fun w => by kernel_rfl⟩
  · exact ⟨37, by omega, fun w => by kernel_rfl⟩
  · exact ⟨42, by omega, fun w => by kernel_rfl⟩
  · exact ⟨43, by omega, fun w => by kernel_rfl⟩
  · exact ⟨45, by omega, fun w => by kernel_rfl⟩
  · exact ⟨46, by omega, fun w => by kernel_rfl⟩
  · exact ⟨47, by omega, fun w => by kernel_rfl⟩
  · exact ⟨58, by omega, fun w => by kernel_rfl⟩

set_option maxRecDepth 100000 in
set_option maxHeartbeats 2000000 in
theorem alpha_ok (b : Nat) (hb : b < 256) (w : World) : Calls Tryz.prog 20 #[.int .u8 (b : Int)] w fun e w' => IntEnd e ∧ w = w' := by
  by_cases h1 : 48 ≤ b ∧ b ≤ 57
  · have d1 : (48 : Int) ≤ (b : Int) := by omega
    have d2 : (b : Int) ≤ 57 := by omega
    go_enter Tryz.func20, Tryz.ntmps20
    go_wp2_with fail
    go_ret
    exact ⟨⟨_, rfl⟩, rfl⟩
  · by_cases h2 : 65 ≤ b ∧ b ≤ 90
    · have d0 : (48 : Int) ≤ (b : Int) := by omega
      have d0' : ¬ (b : Int) ≤ 57 := by omega
      have d1 : (65 : Int) ≤ (b : Int) := by omega
      have d2 : (b : Int) ≤ 90 := by omega
      go_enter Tryz.func20, Tryz.ntmps20
      go_wp2_with fail
      go_ret
      exact ⟨⟨_, rfl⟩, rfl⟩
    · by_cases c1 : b < 48
      · have a1 : ¬ (48 : Int) ≤ (b : Int) := by omega
        have b1 : ¬ (65 : Int) ≤ (b : Int) := by omega
        clear h1 h2 c1
        go_enter Tryz.func20, Tryz.ntmps20
        go_wp2_with fail
        go_loopw [27] (fun s27 wr => ∃ k : Nat, k ≤ 9 ∧ s27 = .int .i64 (k : Int) ∧ wr = w) (fun s27 _ => 9 - (intOf s27).toNat)
        case atStart => exact ⟨0, by omega, rfl, by simp⟩
        case round =>
          obtain ⟨k, hk, rfl, rfl⟩ := hrel
          by_cases hk9 : k < 9
          · have hk' : (k : Int) < 9 := by omega
            obtain ⟨c, hc, hi⟩ := idx98 k hk9
            cases hbc : ((b : Int) == (c : Int))
            · go_wp2_with fail
              go_roundw
              case rel => exact ⟨k + 1, by omega, by go_num, by simp⟩
              case measure => simp [intOf]; omega
            · go_wp2_with fail
              go_ret
              exact ⟨⟨_, rfl⟩, rfl⟩
          · obtain rfl : k = 9 := by omega
            go_wp2_with fail
            go_ret
            exact ⟨⟨_, rfl⟩, rfl⟩
      · by_cases c2 : b < 65
        · have a1 : (48 : Int) ≤ (b : Int) := by omega
          have a2 : ¬ (b : Int) ≤ 57 := by omega
          have b1 : ¬ (65 : Int) ≤ (b : Int) := by omega
          clear h1 h2 c1 c2
          go_enter Tryz.func20, Tryz.ntmps20
          go_wp2_with fail
          go_loopw [27] (fun s27 wr => ∃ k : Nat, k ≤ 9 ∧ s27 = .int .i64 (k : Int) ∧ wr = w) (fun s27 _ => 9 - (intOf s27).toNat)
          case atStart => exact ⟨0, by omega, rfl, by simp⟩
          case round =>
            obtain ⟨k, hk, rfl, rfl⟩ := hrel
            by_cases hk9 : k < 9
            · have hk' : (k : Int) < 9 := by omega
              obtain ⟨c, hc, hi⟩ := idx98 k hk9
              cases hbc : ((b : Int) == (c : Int))
              · go_wp2_with fail
                go_roundw
                case rel => exact ⟨k + 1, by omega, by go_num, by simp⟩
                case measure => simp [intOf]; omega
              · go_wp2_with fail
                go_ret
                exact ⟨⟨_, rfl⟩, rfl⟩
            · obtain rfl : k = 9 := by omega
              go_wp2_with fail
              go_ret
              exact ⟨⟨_, rfl⟩, rfl⟩
        · have a1 : (48 : Int) ≤ (b : Int) := by omega
          have a2 : ¬ (b : Int) ≤ 57 := by omega
          have b1 : (65 : Int) ≤ (b : Int) := by omega
          have b2 : ¬ (b : Int) ≤ 90 := by omega
          clear h1 h2 c1 c2
          go_enter Tryz.func20, Tryz.ntmps20
          go_wp2_with fail
          go_loopw [27] (fun s27 wr => ∃ k : Nat, k ≤ 9 ∧ s27 = .int .i64 (k : Int) ∧ wr = w) (fun s27 _ => 9 - (intOf s27).toNat)
          case atStart => exact ⟨0, by omega, rfl, by simp⟩
          case round =>
            obtain ⟨k, hk, rfl, rfl⟩ := hrel
            by_cases hk9 : k < 9
            · have hk' : (k : Int) < 9 := by omega
              obtain ⟨c, hc, hi⟩ := idx98 k hk9
              cases hbc : ((b : Int) == (c : Int))
              · go_wp2_with fail
                go_roundw
                case rel => exact ⟨k + 1, by omega, by go_num, by simp⟩
                case measure => simp [intOf]; omega
              · go_wp2_with fail
                go_ret
                exact ⟨⟨_, rfl⟩, rfl⟩
            · obtain rfl : k = 9 := by omega
              go_wp2_with fail
              go_ret
              exact ⟨⟨_, rfl⟩, rfl⟩

set_option maxRecDepth 100000 in
set_option maxHeartbeats 2000000 in
theorem alphaByte_ok (n : Int) (w : World) : Calls Tryz.prog 12 #[.int .i64 n] w fun e w' => ByteEnd e ∧ w = w' := by
  go_enter Tryz.func12, Tryz.ntmps12
  go_wp2_with fail
  go_loopw [3] (fun s3 wr => ∃ k : Nat, k ≤ 91 ∧ s3 = .int .u8 (k : Int) ∧ wr = w) (fun s3 _ => 91 - (intOf s3).toNat)
  case atStart => exact ⟨32, by omega, rfl, by simp⟩
  case round =>
    obtain ⟨k, hk, rfl, rfl⟩ := hrel
    by_cases hk9 : k ≤ 90
    · have hk' : (k : Int) ≤ 90 := by omega
      go_wp2_with fail
      refine (alpha_ok k (by omega) wr).mono ?_
      rintro e w1 ⟨⟨r, rfl⟩, rfl⟩
      cases hrn : (r == n)
      · go_wp2_with fail
        go_roundw
        case rel => exact ⟨k + 1, by omega, by go_num, by simp⟩
        case measure => simp [intOf]; omega
      · go_wp2_with fail
        go_ret
        exact ⟨⟨k, rfl, by omega⟩, rfl⟩
    · obtain rfl : k = 91 := by omega
      go_wp2_with fail
      go_ret
      exact ⟨⟨0, rfl, by omega⟩, rfl⟩

def StrEnd (e : Ending) : Prop := ∃ t : ByteArray, e = .returned (.string t) ∧ 1 ≤ t.size ∧ t.size ≤ 60
theorem by_snoc {cs : List Nat} {c : Nat} (h : ∀ x ∈ cs, x < 256) (hc : c < 256) : ∀ x ∈ cs ++ [c], x < 256 := by
  intro x hx
  rw [List.mem_append] at hx
  rcases hx with hx | hx
  · exact h x hx
  · simp at hx; omega
theorem text_of (cs : List Nat) (h : ∀ x ∈ cs, x < 256) : ∃ t : ByteArray, codes t = cs := by
  refine ⟨⟨(cs.map UInt8.ofNat).toArray⟩, ?_⟩
  unfold codes
  simp only [List.map_map]
  have : ∀ x ∈ cs, ((fun b : UInt8 => b.toNat) ∘ UInt8.ofNat) x = id x := fun x hx => by
    have := h x hx
    simp [Nat.mod_eq_of_lt this]
  rw [List.map_congr_left this, List.map_id]

set_option maxRecDepth 100000 in
set_option maxHeartbeats 4000000 in
theorem ascii_ok (s : ByteArray) (kd : Nat) (hkd : kd < 256) (w : World) : Calls Tryz.prog 4 #[.string s, .int .u8 (kd : Int), .int .i64 60] w fun e w' => StrEnd e ∧ Keeps (fun _ => False) w w' := by
  obtain ⟨i0, hi0, hz0, hz1, hz2⟩ := info_parts info5
  obtain ⟨B, hB⟩ : ∃ B, w.heap.size = B := ⟨_, rfl⟩
  have HB := Lib.hid hB
  have hsz : s.size ≤ s.size := Nat.le_refl _
  clear hB
  go_enter Tryz.func4, Tryz.ntmps4
  go_wp2_with fail
  go_loopw [7, 8] (fun s7 s8 wr => ∃ (k : Nat) (v4 : Value) (cs : List Nat), k ≤ s.size ∧ k ≤ 60 ∧ s7 = v4 ∧ s8 = .int .i64 (k : Int) ∧ Hid (cs.length = k) ∧ Hid (∀ x ∈ cs, x < 256) ∧ Hid (wr.ownsRow B 5 1 v4 k (cs.map vu8)) ∧ Hid (Keeps (fun _ => False) w wr)) (fun _ s8 _ => 60 - (intOf s8).toNat)
  case atStart => exact ⟨0, _, [], by omega, by omega, rfl, rfl, Lib.hid rfl, Lib.hid (fun x hx => by cases hx), Lib.hid ⟨rfl, Or.inl ⟨rfl, rfl⟩⟩, Lib.hid (Keeps.refl _ _)⟩
  case round =>
    obtain ⟨k, v5, cs, hk1, hk2, h9, rfl, HL, HC, HO, HK⟩ := hrel
    replace h9 := h9.symm
    subst h9
    have hBw : B ≤ wr.heap.size := by have := HK.out.size; have := HB.out; omega
    by_cases hks : k < s.size
    · have hks' : (k : Int) < (s.size : Int) := by omega
      by_cases hk60 : k < 60
      · have hk' : (k : Int) < 60 := by omega
        obtain ⟨x, hx⟩ : ∃ x, s[k].toNat = x := ⟨_, rfl⟩
        have hx256 : x < 256 := by rw [← hx]; exact UInt8.toNat_lt _
        by_cases m0 : kd % 3 = 0
        · have e0 : ((kd : Int) % 3 == 0) = true := by rw [beq_iff_eq]; omega
          obtain ⟨c, hc, hc256⟩ : ∃ c : Nat, 48 + (x : Int) % 10 = (c : Int) ∧ c < 256 := ⟨48 + x % 10, by omega, by omega⟩
          clear m0
          go_wp2_with (at_builtin; refine wpList_append_own _ rfl _ _ 35 rfl B 5 i0 (.int .u8 0) 1 1 Tryz.underlying35 hi0 hz0 hz1 hz2 rfl (by decide) _ _ _ rfl (HO.out.alloc _) ⟨wr.heap.size, 0, none⟩ 1 1 [.int .u8 (c : Int)] rfl rfl ?c1 ?c2 ?c3 ?c4 ?c5 ?_)
          case c1 => exact cell_one_new _ _ _
          case c2 => intro u hu; simp at hu; subst hu; rfl
          case c3 => unfold maxLen; omega
          case c4 => omega
          case c5 => simp; omega
          intro v6 w6 hown6 hgrow _
          have k6 : Keeps (fun _ => False) w w6 := (HK.out.alloc _).step (S' := fun i' => v5.ownBlock = some i') ((Keeps.refl _ _).grown hgrow (fun k hk => Or.inl hk)) (fun i' hi' e => by have := (own_typ HO.out _ e).2; have := HB.out; omega)
          have O6 : Hid (w6.ownsRow B 5 1 v6 (k + 1) ((cs ++ [c]).map vu8)) := Lib.hid (by rw [List.map_append]; exact hown6)
          have K6 := Lib.hid k6
          have C6 := Lib.hid (by_snoc HC.out hc256)
          have L6 := Lib.hid (show (cs ++ [c]).length = k + 1 by rw [List.length_append, HL.out]; rfl)
          clear hown6 hgrow k6
          go_wp2_with fail
          go_roundw
          case rel => exact ⟨k + 1, v6, cs ++ [c], by omega, by omega, rfl, by go_num, L6, C6, O6, K6⟩
          case measure => simp [intOf]; omega
        · have e0 : ((kd : Int) % 3 == 0) = false := beq_eq_false_iff_ne.2 (by omega)
          by_cases m1 : kd % 3 = 1
          · have e1 : ((kd : Int) % 3 == 1) = true := by rw [beq_iff_eq]; omega
            clear m0 m1
            go_wp2_with fail
            refine (alphaByte_ok _ wr).mono ?_
            rintro e w1 ⟨⟨c, rfl, hc256⟩, rfl⟩
            go_wp2_with (at_builtin; refine wpList_append_own _ rfl _ _ 35 rfl B 5 i0 (.int .u8 0) 1 1 Tryz.underlying35 hi0 hz0 hz1 hz2 rfl (by decide) _ _ _ rfl (HO.out.alloc _) ⟨wr.heap.size, 0, none⟩ 1 1 [.int .u8 (c : Int)] rfl rfl ?c1 ?c2 ?c3 ?c4 ?c5 ?_)
            case c1 => exact cell_one_new _ _ _
            case c2 => intro u hu; simp at hu; subst hu; rfl
            case c3 => unfold maxLen; omega
            case c4 => omega
            case c5 => simp; omega
            intro v6 w6 hown6 hgrow _
            have k6 : Keeps (fun _ => False) w w6 := (HK.out.alloc _).step (S' := fun i' => v5.ownBlock = some i') ((Keeps.refl _ _).grown hgrow (fun k hk => Or.inl hk)) (fun i' hi' e => by have := (own_typ HO.out _ e).2; have := HB.out; omega)
            have O6 : Hid (w6.ownsRow B 5 1 v6 (k + 1) ((cs ++ [c]).map vu8)) := Lib.hid (by rw [List.map_append]; exact hown6)
            have K6 := Lib.hid k6
            have C6 := Lib.hid (by_snoc HC.out hc256)
            have L6 := Lib.hid (show (cs ++ [c]).length = k + 1 by rw [List.length_append, HL.out]; rfl)
            clear hown6 hgrow k6
            go_wp2_with fail
            go_roundw
            case rel => exact ⟨k + 1, v6, cs ++ [c], by omega, by omega, rfl, by go_num, L6, C6, O6, K6⟩
            case measure => simp [intOf]; omega
          · have e1 : ((kd : Int) % 3 == 1) = false := beq_eq_false_iff_ne.2 (by omega)
            obtain ⟨c, hc, hc256⟩ : ∃ c : Nat, 32 + (x : Int) % 95 = (c : Int) ∧ c < 256 := ⟨32 + x % 95, by omega, by omega⟩
            clear m0 m1
            go_wp2_with (at_builtin; refine wpList_append_own _ rfl _ _ 35 rfl B 5 i0 (.int .u8 0) 1 1 Tryz.underlying35 hi0 hz0 hz1 hz2 rfl (by decide) _ _ _ rfl (HO.out.alloc _) ⟨wr.heap.size, 0, none⟩ 1 1 [.int .u8 (c : Int)] rfl rfl ?c1 ?c2 ?c3 ?c4 ?c5 ?_)
            case c1 => exact cell_one_new _ _ _
            case c2 => intro u hu; simp at hu; subst hu; rfl
            case c3 => unfold maxLen; omega
            case c4 => omega
            case c5 => simp; omega
            intro v6 w6 hown6 hgrow _
            have k6 : Keeps (fun _ => False) w w6 := (HK.out.alloc _).step (S' := fun i' => v5.ownBlock = some i') ((Keeps.refl _ _).grown hgrow (fun k hk => Or.inl hk)) (fun i' hi' e => by have := (own_typ HO.out _ e).2; have := HB.out; omega)
            have O6 : Hid (w6.ownsRow B 5 1 v6 (k + 1) ((cs ++ [c]).map vu8)) := Lib.hid (by rw [List.map_append]; exact hown6)
            have K6 := Lib.hid k6
            have C6 := Lib.hid (by_snoc HC.out hc256)
            have L6 := Lib.hid (show (cs ++ [c]).length = k + 1 by rw [List.length_append, HL.out]; rfl)
            clear hown6 hgrow k6
            go_wp2_with fail
            go_roundw
            case rel => exact ⟨k + 1, v6, cs ++ [c], by omega, by omega, rfl, by go_num, L6, C6, O6, K6⟩
            case measure => simp [intOf]; omega
      · obtain rfl : k = 60 := by omega
        have hne : ((60 : Int) == 0) = false := rfl
        obtain ⟨t, ht⟩ := text_of cs HC.out
        obtain ⟨r, cap, hv, _⟩ := own_cell HO.out (by omega)
        have HO2 := HO.out
        rw [hv] at HO2
        have cv := conv_text HO2 HL.out (by omega) ht
        have HT := Lib.hid (show t.size = 60 by rw [← codes_length, ht]; exact HL.out)
        subst hv
        clear HO2 ht
        go_wp2_with fail
        go_ret
        exact ⟨⟨t, rfl, by have := HT.out; omega, by have := HT.out; omega⟩, HK.out⟩
    · have hks' : ¬ (k : Int) < (s.size : Int) := by omega
      obtain ⟨ra, rk, hsh⟩ := own_shape HO.out
      by_cases hk0 : k = 0
      · have hz : ((k : Int) == 0) = true := by rw [hk0]; rfl
        subst hsh
        clear hk0
        go_wp2_with fail
        go_ret
        exact ⟨⟨⟨#[55]⟩, rfl, by decide, by decide⟩, HK.out⟩
      · have hz : ((k : Int) == 0) = false := beq_eq_false_iff_ne.2 (by omega)
        obtain ⟨t, ht⟩ := text_of cs HC.out
        obtain ⟨r, cap, hv, _⟩ := own_cell HO.out (by omega)
        have HO2 := HO.out
        rw [hv] at HO2
        have cv := conv_text HO2 HL.out (by omega) ht
        have HT := Lib.hid (show t.size = k by rw [← codes_length, ht]; exact HL.out)
        clear HO2 ht hsh
        subst hv
        go_wp2_with fail
        go_ret
        exact ⟨⟨t, rfl, by have := HT.out; omega, by have := HT.out; omega⟩, HK.out⟩

end Go.Proofs.YtplpafbkalkchaaGreatDoor
