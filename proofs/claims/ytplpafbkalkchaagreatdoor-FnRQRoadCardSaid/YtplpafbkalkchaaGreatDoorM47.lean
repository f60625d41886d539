/-
  Parts of the proof (PB1).
-/
import Derived.Test.YtplpafbkalkchaaGreatDoorM31
set_option linter.unusedSimpArgs false
set_option linter.unusedVariables false

namespace Go.Proofs.YtplpafbkalkchaaGreatDoor
open Go.RowKit

theorem row_div {y0 R k : Nat} (hk : k < R) : (((y0 * R + k : Nat) : Int)) / (R : Int) = (y0 : Int) ∧ (((y0 * R + k : Nat) : Int)) % (R : Int) = (k : Int) := by
  have h1 : (y0 * R + k) / R = y0 := by rw [Nat.add_comm, Nat.add_mul_div_right _ _ (by omega), Nat.div_eq_of_lt hk, Nat.zero_add]
  have h2 : (y0 * R + k) % R = k := by rw [Nat.add_comm, Nat.add_mul_mod_self_right, Nat.mod_eq_of_lt hk]
  constructor
  · rw [← Int.natCast_ediv, h1]
  · rw [← Int.natCast_emod, h2]

theorem shl_int (v e : Nat) : ((v : Int) * (2 : Int) ^ e % 4294967296) = ((v * 2 ^ e % 4294967296 : Nat) : Int) := by rw [Int.natCast_emod, Int.natCast_mul, Int.natCast_pow]; rfl
theorem shr_int (v e : Nat) : ((v : Int) / (2 : Int) ^ e) = ((v / 2 ^ e : Nat) : Int) := by push_cast; rfl

set_option maxRecDepth 100000 in
set_option maxHeartbeats 2000000 in
theorem bmFirst_ok (b c W H x0 y0 : Nat) (f : Nat → Nat → Bool) (w : World) (h : BM w b c W H f) (a : FirstAt f W H x0 y0) (hW : W ≤ 1000000) (hH : H ≤ 1000000) :
    Calls Tryz.prog 78 #[.pointer (some ⟨b, 0, none⟩)] w fun e w' => e = .returned (.slice (some ⟨w.heap.size, 0, none⟩) 2 2) ∧ Blk w' w.heap.size [.int .i64 (x0 : Int), .int .i64 (y0 : Int)] 3 ∧ Keeps (fun _ => False) w w' := by
  obtain ⟨a0, a1, a2, a3⟩ := h.head
  obtain ⟨z, v, hv, hc, on, low⟩ := h.first a
  have hlt := word_lt a.hx a.hy
  have hR1 : rows32 W ≤ 40000 := by unfold rows32; omega
  have hk : x0 / 32 < rows32 W := by have := a.hx; unfold rows32; omega
  have hmul : rows32 W * H ≤ 40000 * 1000000 := Nat.mul_le_mul hR1 hH
  have hx := a.hx
  have hy0 : y0 < 1000000 := by have := a.hy; omega
  clear h a a0 a1
  generalize rows32 W = R at *
  obtain ⟨N, hN⟩ : ∃ N, R * H = N := ⟨_, rfl⟩
  rw [hN] at a3 hlt hmul
  obtain ⟨q1, q2⟩ := row_div (y0 := y0) hk
  obtain ⟨o, ho⟩ : ∃ o, y0 * R + x0 / 32 = o := ⟨_, rfl⟩
  rw [ho] at q1 q2 hlt hc z
  have hlt' : (o : Int) < (N : Int) := by omega
  have hne : ((o : Int) == (N : Int)) = false := beq_eq_false_iff_ne.2 (by omega)
  have hR0 : ((R : Int) == 0) = false := beq_eq_false_iff_ne.2 (by omega)
  obtain ⟨k, hk0⟩ : ∃ k, x0 % 32 = k := ⟨_, rfl⟩
  obtain ⟨m, hm⟩ : ∃ m, x0 / 32 = m := ⟨_, rfl⟩
  rw [hk0] at on low
  rw [hm] at q2 hk
  have hk32 : k < 32 := by omega
  have hxx : (m : Int) * 32 + (k : Int) = (x0 : Int) := by omega
  have hv0 : ((v : Int) == 0) = false := beq_eq_false_iff_ne.2 (fun e => by
    have : v = 0 := by omega
    rw [this] at on; simp at on)
  have Z := Lib.hid z
  have LOW := Lib.hid low
  have ON := Lib.hid on
  have Hq := Lib.hid (And.intro q1 q2)
  clear z low on hN ho hk0 hm hx
  go_enter Tryz.func78, Tryz.ntmps78
  go_wp2_with fail
  go_loopw [3] (fun s3 wr => ∃ j : Nat, j ≤ o ∧ s3 = .int .i64 (j : Int) ∧ wr = w) (fun s3 _ => o - (intOf s3).toNat)
  case atStart => exact ⟨0, by omega, rfl, by simp⟩
  case round =>
    obtain ⟨j, hj, rfl, rfl⟩ := hrel
    by_cases hjo : j < o
    · have hjn : (j : Int) < (N : Int) := by omega
      have cz := Z.out j hjo
      go_wp2_with fail
      go_roundw
      case rel => exact ⟨j + 1, by omega, by go_num, by simp⟩
      case measure => simp [intOf]; omega
    · obtain rfl : j = o := by omega
      have hq1 := Hq.out.1
      have hq2 := Hq.out.2
      go_wp2_with fail
      go_loopw [7] (fun s7 wr' => ∃ i : Nat, i ≤ k ∧ s7 = .int .u64 (i : Int) ∧ wr' = wr) (fun s7 _ => k - (intOf s7).toNat)
      case atStart => exact ⟨0, by omega, rfl, rfl⟩
      case round =>
        obtain ⟨i, hi, rfl, rfl⟩ := hrel
        by_cases hik : i < k
        · have e1 : ((v : Int) * (2 : Int) ^ (31 - i) % 4294967296 == 0) = true := by
            rw [beq_iff_eq, shl_int, shl_zero LOW.out hik hk32]; rfl
          go_wp2_with fail
          go_roundw
          case rel => exact ⟨i + 1, by omega, by go_num, by simp⟩
          case measure => simp [intOf]; omega
        · obtain rfl : i = k := by omega
          have e1 : ((v : Int) * (2 : Int) ^ (31 - i) % 4294967296 == 0) = false := by
            rw [shl_int, shl_one LOW.out ON.out hk32]; rfl
          go_wp2_with fail
          go_ret
          exact ⟨rfl, Blk.new _ [.int .i64 (x0 : Int), .int .i64 (y0 : Int)] 3, (Keeps.refl _ _).alloc _⟩

set_option maxRecDepth 100000 in
set_option maxHeartbeats 2000000 in
theorem bmLast_ok (b c W H x0 y0 : Nat) (f : Nat → Nat → Bool) (w : World) (h : BM w b c W H f) (a : LastAt f W H x0 y0) (hW : W ≤ 1000000) (hH : H ≤ 1000000) :
    Calls Tryz.prog 79 #[.pointer (some ⟨b, 0, none⟩)] w fun e w' => e = .returned (.slice (some ⟨w.heap.size, 0, none⟩) 2 2) ∧ Blk w' w.heap.size [.int .i64 (x0 : Int), .int .i64 (y0 : Int)] 3 ∧ Keeps (fun _ => False) w w' := by
  obtain ⟨a0, a1, a2, a3⟩ := h.head
  obtain ⟨z, v, hv, hc, on, high⟩ := h.last a
  have hlt := word_lt a.hx a.hy
  have hR1 : rows32 W ≤ 40000 := by unfold rows32; omega
  have hk : x0 / 32 < rows32 W := by have := a.hx; unfold rows32; omega
  have hmul : rows32 W * H ≤ 40000 * 1000000 := Nat.mul_le_mul hR1 hH
  have hx := a.hx
  have hy0 : y0 < 1000000 := by have := a.hy; omega
  clear h a a0 a1
  generalize rows32 W = R at *
  obtain ⟨N, hN⟩ : ∃ N, R * H = N := ⟨_, rfl⟩
  rw [hN] at a3 hlt hmul z
  obtain ⟨q1, q2⟩ := row_div (y0 := y0) hk
  obtain ⟨o, ho⟩ : ∃ o, y0 * R + x0 / 32 = o := ⟨_, rfl⟩
  rw [ho] at q1 q2 hlt hc z
  have hlt' : (o : Int) < (N : Int) := by omega
  have hR0 : ((R : Int) == 0) = false := beq_eq_false_iff_ne.2 (by omega)
  obtain ⟨k, hk0⟩ : ∃ k, x0 % 32 = k := ⟨_, rfl⟩
  obtain ⟨m, hm⟩ : ∃ m, x0 / 32 = m := ⟨_, rfl⟩
  rw [hk0] at on high
  rw [hm] at q2 hk
  have hk32 : k < 32 := by omega
  have hxx : (m : Int) * 32 + (k : Int) = (x0 : Int) := by omega
  have hv0 : ((v : Int) == 0) = false := beq_eq_false_iff_ne.2 (fun e => by
    have : v = 0 := by omega
    rw [this] at on; simp at on)
  have Z := Lib.hid z
  have HIGH := Lib.hid high
  have ON := Lib.hid on
  have HV := Lib.hid hv
  have Hq := Lib.hid (And.intro q1 q2)
  clear z high on hN ho hk0 hm hx
  go_enter Tryz.func79, Tryz.ntmps79
  go_wp2_with fail
  go_loopw [3] (fun s3 wr => ∃ j : Nat, o ≤ j ∧ j < N ∧ s3 = .int .i64 (j : Int) ∧ wr = w) (fun s3 _ => (intOf s3).toNat)
  case atStart => exact ⟨N - 1, by omega, by omega, by go_num, by simp⟩
  case round =>
    obtain ⟨j, hj, hjN, rfl, rfl⟩ := hrel
    by_cases hjo : o < j
    · have hjn : (0 : Int) ≤ (j : Int) := by omega
      have hjn2 : (j : Int) < (N : Int) := by omega
      have cz := Z.out j hjo hjN
      go_wp2_with fail
      go_roundw
      case rel => exact ⟨j - 1, by omega, by omega, by go_num, by simp⟩
      case measure => simp [intOf]; omega
    · obtain rfl : j = o := by omega
      have hjn : (0 : Int) ≤ (j : Int) := by omega
      have hjn3 : ¬ (j : Int) < 0 := by omega
      have hq1 := Hq.out.1
      have hq2 := Hq.out.2
      go_wp2_with fail
      go_loopw [7] (fun s7 wr' => ∃ i : Nat, k ≤ i ∧ i < 32 ∧ s7 = .int .u64 (i : Int) ∧ wr' = wr) (fun s7 _ => (intOf s7).toNat)
      case atStart => exact ⟨31, by omega, by omega, rfl, rfl⟩
      case round =>
        obtain ⟨i, hi, hi2, rfl, rfl⟩ := hrel
        by_cases hik : k < i
        · have e1 : ((v : Int) / (2 : Int) ^ i == 0) = true := by
            rw [beq_iff_eq, shr_int, shr_zero HV.out HIGH.out hik]; rfl
          go_wp2_with fail
          go_roundw
          case rel => exact ⟨i - 1, by omega, by omega, by go_num, by simp⟩
          case measure => simp [intOf]; omega
        · obtain rfl : i = k := by omega
          have e1 : ((v : Int) / (2 : Int) ^ i == 0) = false := by
            refine beq_eq_false_iff_ne.2 (fun e => ?_)
            rw [shr_int] at e
            exact shr_one ON.out (by omega)
          go_wp2_with fail
          go_ret
          exact ⟨rfl, Blk.new _ [.int .i64 (x0 : Int), .int .i64 (y0 : Int)] 3, (Keeps.refl _ _).alloc _⟩

end Go.Proofs.YtplpafbkalkchaaGreatDoor
