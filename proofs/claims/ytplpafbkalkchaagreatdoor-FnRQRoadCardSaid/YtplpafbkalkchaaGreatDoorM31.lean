/-
  Parts of the proof (Wd).
-/
import Derived.Test.YtplpafbkalkchaaGreatDoorM06
set_option linter.unusedSimpArgs false
set_option linter.unusedVariables false

namespace Go.Proofs.YtplpafbkalkchaaGreatDoor
open Go.RowKit

structure FirstAt (f : Nat → Nat → Bool) (W H x0 y0 : Nat) : Prop where
  hx : x0 < W
  hy : y0 < H
  on : f x0 y0 = true
  above : ∀ x y, x < W → y < y0 → f x y = false
  left : ∀ x, x < x0 → f x y0 = false
structure LastAt (f : Nat → Nat → Bool) (W H x1 y1 : Nat) : Prop where
  hx : x1 < W
  hy : y1 < H
  on : f x1 y1 = true
  below : ∀ x y, x < W → y1 < y → y < H → f x y = false
  right : ∀ x, x1 < x → x < W → f x y1 = false

theorem word_zero {ws : List Nat} {o : Nat} (hw : ∀ x ∈ ws, x < 4294967296) (h : ∀ i, i < 32 → wbit ws (32 * o + i) = false) : ws.getD o 0 = 0 := by
  apply Nat.eq_of_testBit_eq
  intro i
  rw [Nat.zero_testBit]
  by_cases hi : i < 32
  · have h1 := h i hi
    unfold wbit at h1
    rwa [show (32 * o + i) / 32 = o by omega, show (32 * o + i) % 32 = i by omega] at h1
  · refine Nat.testBit_lt_two_pow (Nat.lt_of_lt_of_le (lt_of_getD hw o) ?_)
    have := Nat.pow_le_pow_right (n := 2) (by omega) (show 32 ≤ i by omega)
    simpa using this
theorem word_at {W o : Nat} (hR : 0 < rows32 W) (i : Nat) : 32 * o + i = place W (32 * (o % rows32 W) + i) (o / rows32 W) := by
  unfold place
  have := Nat.div_add_mod o (rows32 W)
  have e : 32 * (rows32 W * (o / rows32 W)) + 32 * (o % rows32 W) = 32 * o := by omega
  omega
theorem word_row {W o y k : Nat} (hR : 0 < rows32 W) (h : o < y * rows32 W + k) (hk : k < rows32 W) : o / rows32 W < y ∨ (o / rows32 W = y ∧ o % rows32 W < k) := by
  have h1 := Nat.div_add_mod o (rows32 W)
  have h2 := Nat.mod_lt o hR
  rw [Nat.mul_comm] at h1
  rcases Nat.lt_trichotomy (o / rows32 W) y with a | a | a
  · exact Or.inl a
  · right; rw [a] at h1; exact ⟨a, by omega⟩
  · exfalso
    have := Nat.mul_le_mul_right (rows32 W) (show y + 1 ≤ o / rows32 W by omega)
    rw [Nat.add_mul] at this; omega
theorem word_row2 {W o y k : Nat} (hR : 0 < rows32 W) (h : y * rows32 W + k < o) (hk : k < rows32 W) : y < o / rows32 W ∨ (o / rows32 W = y ∧ k < o % rows32 W) := by
  have h1 := Nat.div_add_mod o (rows32 W)
  have h2 := Nat.mod_lt o hR
  rw [Nat.mul_comm] at h1
  rcases Nat.lt_trichotomy (o / rows32 W) y with a | a | a
  · exfalso
    have := Nat.mul_le_mul_right (rows32 W) (show o / rows32 W + 1 ≤ y by omega)
    rw [Nat.add_mul] at this; omega
  · right; rw [a] at h1; exact ⟨a, by omega⟩
  · exact Or.inl a
theorem mod32 {x k : Nat} (h : k = x / 32) (i : Nat) : 32 * k + i < x ↔ i < x % 32 := by omega

theorem BM.first {w : World} {b c W H : Nat} {f : Nat → Nat → Bool} (h : BM w b c W H f) {x0 y0 : Nat} (a : FirstAt f W H x0 y0) :
    (∀ o, o < y0 * rows32 W + x0 / 32 → w.cell? ⟨c, o, none⟩ = some (.int .u32 0)) ∧
      ∃ v : Nat, v < 4294967296 ∧ w.cell? ⟨c, y0 * rows32 W + x0 / 32, none⟩ = some (.int .u32 (v : Int)) ∧ v.testBit (x0 % 32) = true ∧ ∀ i, i < x0 % 32 → v.testBit i = false := by
  obtain ⟨ws, h1, h2, h3, h4, h5, h6, h7⟩ := h
  obtain ⟨hx, hy, on, above, left⟩ := a
  have hlt := word_lt hx hy
  have hR : 0 < rows32 W := by unfold rows32; omega
  have hk : x0 / 32 < rows32 W := by unfold rows32; omega
  constructor
  · intro o ho
    have hl : o < ws.length := by omega
    have hz : ws.getD o 0 = 0 := by
      refine word_zero h2 (fun i hi => ?_)
      rw [word_at hR i]
      have hm := Nat.mod_lt o hR
      have hyo : o / rows32 W < H := by rcases word_row hR ho hk with q | ⟨q, _⟩ <;> omega
      by_cases hw : 32 * (o % rows32 W) + i < W
      · rw [h6 _ _ hw hyo]
        rcases word_row hR ho hk with q | ⟨q, q2⟩
        · exact above _ _ hw q
        · rw [q]; exact left _ (by omega)
      · exact h7 _ _ (by omega) (by omega) hyo
    rw [h5.cell (map_u32_get hl), hz]; rfl
  · refine ⟨ws.getD (y0 * rows32 W + x0 / 32) 0, lt_of_getD h2 _, h5.cell (map_u32_get (by omega)), ?_, ?_⟩
    · rw [← on, ← h6 x0 y0 hx hy]; unfold wbit; rw [place_div, place_mod]
    · intro i hi
      have e := h6 (32 * (x0 / 32) + i) y0 (by omega) hy
      rw [left _ (by omega)] at e
      unfold wbit at e
      rw [place_div, place_mod, show (32 * (x0 / 32) + i) / 32 = x0 / 32 by omega, show (32 * (x0 / 32) + i) % 32 = i by omega] at e
      exact e
theorem BM.last {w : World} {b c W H : Nat} {f : Nat → Nat → Bool} (h : BM w b c W H f) {x1 y1 : Nat} (a : LastAt f W H x1 y1) :
    (∀ o, y1 * rows32 W + x1 / 32 < o → o < rows32 W * H → w.cell? ⟨c, o, none⟩ = some (.int .u32 0)) ∧
      ∃ v : Nat, v < 4294967296 ∧ w.cell? ⟨c, y1 * rows32 W + x1 / 32, none⟩ = some (.int .u32 (v : Int)) ∧ v.testBit (x1 % 32) = true ∧ ∀ i, x1 % 32 < i → v.testBit i = false := by
  obtain ⟨ws, h1, h2, h3, h4, h5, h6, h7⟩ := h
  obtain ⟨hx, hy, on, below, right⟩ := a
  have hlt := word_lt hx hy
  have hR : 0 < rows32 W := by unfold rows32; omega
  have hk : x1 / 32 < rows32 W := by unfold rows32; omega
  have hv := lt_of_getD h2 (y1 * rows32 W + x1 / 32)
  constructor
  · intro o ho ho2
    have hz : ws.getD o 0 = 0 := by
      refine word_zero h2 (fun i hi => ?_)
      rw [word_at hR i]
      have hm := Nat.mod_lt o hR
      have hyo : o / rows32 W < H := by rw [Nat.div_lt_iff_lt_mul hR, Nat.mul_comm]; exact ho2
      by_cases hw : 32 * (o % rows32 W) + i < W
      · rw [h6 _ _ hw hyo]
        rcases word_row2 hR ho hk with q | ⟨q, q2⟩
        · exact below _ _ hw q hyo
        · rw [q]; exact right _ (by omega) hw
      · exact h7 _ _ (by omega) (by omega) hyo
    rw [h5.cell (map_u32_get (by omega)), hz]; rfl
  · refine ⟨ws.getD (y1 * rows32 W + x1 / 32) 0, hv, h5.cell (map_u32_get (by omega)), ?_, ?_⟩
    · rw [← on, ← h6 x1 y1 hx hy]; unfold wbit; rw [place_div, place_mod]
    · intro i hi
      by_cases hi2 : i < 32
      · have e : wbit ws (place W (32 * (x1 / 32) + i) y1) = false := by
          by_cases hw : 32 * (x1 / 32) + i < W
          · rw [h6 _ y1 hw hy]; exact right _ (by omega) hw
          · exact h7 _ _ (by omega) (by omega) hy
        unfold wbit at e
        rw [place_div, place_mod, show (32 * (x1 / 32) + i) / 32 = x1 / 32 by omega, show (32 * (x1 / 32) + i) % 32 = i by omega] at e
        exact e
      · refine Nat.testBit_lt_two_pow (Nat.lt_of_lt_of_le hv ?_)
        have := Nat.pow_le_pow_right (n := 2) (by omega) (show 32 ≤ i by omega)
        simpa using this

/-! The bit in its word. -/
theorem low_mod {v k : Nat} (h : ∀ i, i < k → v.testBit i = false) : v % 2 ^ k = 0 := by
  apply Nat.eq_of_testBit_eq
  intro i
  rw [Nat.testBit_mod_two_pow, Nat.zero_testBit]
  by_cases hi : i < k
  · simp [h i hi]
  · simp [hi]
theorem shl_zero {v k b : Nat} (h : ∀ i, i < k → v.testBit i = false) (hb : b < k) (hk : k < 32) : v * 2 ^ (31 - b) % 4294967296 = 0 := by
  have h1 := Nat.div_add_mod v (2 ^ k)
  rw [low_mod h, Nat.add_zero] at h1
  rw [← h1, Nat.mul_right_comm, ← Nat.pow_add, show k + (31 - b) = 32 + (k - b - 1) by omega, Nat.pow_add, show (2 : Nat) ^ 32 = 4294967296 from rfl, Nat.mul_assoc]
  exact Nat.mul_mod_right _ _
theorem shl_one {v k : Nat} (h : ∀ i, i < k → v.testBit i = false) (on : v.testBit k = true) (hk : k < 32) : v * 2 ^ (31 - k) % 4294967296 = 2147483648 := by
  have h1 := Nat.div_add_mod v (2 ^ k)
  rw [low_mod h, Nat.add_zero] at h1
  rw [Nat.testBit_eq_decide_div_mod_eq, decide_eq_true_eq] at on
  rw [← h1, Nat.mul_right_comm, ← Nat.pow_add, show k + (31 - k) = 31 by omega, show (2 : Nat) ^ 31 = 2147483648 from rfl]
  generalize v / 2 ^ k = q at on
  omega
theorem high_lt {v k : Nat} (hv : v < 4294967296) (h : ∀ i, k < i → v.testBit i = false) : v < 2 ^ (k + 1) := by
  apply Nat.lt_pow_two_of_testBit
  intro i hi
  exact h i (by omega)
theorem shr_zero {v k b : Nat} (hv : v < 4294967296) (h : ∀ i, k < i → v.testBit i = false) (hb : k < b) : v / 2 ^ b = 0 := by
  have h1 := high_lt hv h
  have h2 := Nat.pow_le_pow_right (n := 2) (by omega) (show k + 1 ≤ b by omega)
  exact Nat.div_eq_of_lt (by omega)
theorem shr_one {v k : Nat} (on : v.testBit k = true) : v / 2 ^ k ≠ 0 := by
  rw [Nat.testBit_eq_decide_div_mod_eq, decide_eq_true_eq] at on
  omega

end Go.Proofs.YtplpafbkalkchaaGreatDoor
