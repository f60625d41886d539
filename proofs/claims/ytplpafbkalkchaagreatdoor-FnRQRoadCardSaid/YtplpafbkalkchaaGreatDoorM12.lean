/-
  Parts of the proof (BA2).
-/
import Derived.Test.YtplpafbkalkchaaGreatDoorM06
set_option linter.unusedSimpArgs false
set_option linter.unusedVariables false

namespace Go.Proofs.YtplpafbkalkchaaGreatDoor
open Go.RowKit

set_option maxRecDepth 100000 in
set_option maxHeartbeats 400000 in
/-- All bits of another array behind those of this one. -/
theorem appendArray_ok (b c b2 c2 : Nat) (l l2 : List Bool) (w : World) (h : BA w b c l) (h2 : BA w b2 c2 l2) (hlen : l.length + l2.length ≤ 100000) (hb2 : b2 ≠ b ∧ b2 ≠ c ∧ c2 ≠ b ∧ c2 ≠ c) :
    Calls Tryz.prog 50 #[.pointer (some ⟨b, 0, none⟩), .pointer (some ⟨b2, 0, none⟩)] w fun e w' => e = .returned (.tuple #[]) ∧
      ∃ c', BA w' b c' (l ++ l2) ∧ (c' = c ∨ w.heap.size ≤ c') ∧ Keeps (fun i => i = b ∨ i = c) w w' := by
  have q1 : w.cell? ⟨b2, 1, none⟩ = some (.int .i64 (l2.length : Int)) := by obtain ⟨_, _, _, ws, _, _, _, h4, _⟩ := h2; exact h4.cell rfl
  have q2 : w.cell? ⟨b, 1, none⟩ = some (.int .i64 (l.length : Int)) := by obtain ⟨_, _, _, ws, _, _, _, h4, _⟩ := h; exact h4.cell rfl
  have hs2 := h2.ltb
  have hs3 := h2.ltc
  obtain ⟨m, hl0, hm, hB⟩ := h
  have HB := Lib.hid hB
  have H2 := Lib.hid h2
  have HN := Lib.hid hb2
  clear h2 hB hb2
  go_enter Tryz.func50, Tryz.ntmps50
  go_wp2_with fail
  refine (ensure_ok b c l.length (l.length + l2.length) l w m hm HB.out (by omega) _ (by omega)).mono ?_
  rintro e w1 ⟨rfl, c1, n1, g1, g2, g3, g4, g5, _⟩
  have HG := Lib.hid (show BA w1 b c1 l from ⟨n1, by omega, g3, g1⟩)
  have hz := g5.size
  have H4 := Lib.hid g4
  have H5 := Lib.hid g5
  have H6 := Lib.hid (H2.out.keep g5 HN.out.1 HN.out.2.2.1)
  clear g1 g4 g5 q1 q2
  go_wp2_with fail
  go_loopw [5] (fun i wr => ∃ k : Nat, k ≤ l2.length ∧ i = .int .i64 (k : Int) ∧ ∃ cr, BA wr b cr (l ++ l2.take k) ∧ BA wr b2 c2 l2 ∧ (cr = c1 ∨ w1.heap.size ≤ cr) ∧ Keeps (fun i => i = b ∨ i = c1) w1 wr) (fun i _ => l2.length - (intOf i).toNat)
  case atStart => exact ⟨0, Nat.zero_le _, rfl, c1, by simpa using HG.out, H6.out, Or.inl rfl, Keeps.refl _ _⟩
  case round =>
    obtain ⟨k, hk, rfl, cr, r1, r2, r3, r4⟩ := hrel
    have R1 := Lib.hid r1
    have R2 := Lib.hid r2
    have R3 := Lib.hid r3
    have R4 := Lib.hid r4
    have hrs := r4.size
    clear r1 r2 r3 r4
    by_cases hlt : k < l2.length
    · obtain ⟨v, hv⟩ : ∃ v, l2.getD k false = v := ⟨_, rfl⟩
      have HV := Lib.hid hv
      clear hv
      go_wp2_with fail
      refine (get_ok b2 c2 k l2 wr R2.out hlt _ rfl v HV.out).mono ?_
      rintro e w2 ⟨rfl, rfl⟩
      go_wp2_with fail
      refine (appendBit_ok b cr (l ++ l2.take k) v wr R1.out (by simp; omega)).mono ?_
      rintro e w2 ⟨rfl, c3, t1, t2, t3⟩
      have hnb : ¬ (b2 = b ∨ b2 = cr) := by
        rintro (h | h)
        · exact HN.out.1 h
        · rcases R3.out with h3 | h3
          · rcases H4.out with h4 | h4
            · exact HN.out.2.1 (by omega)
            · omega
          · omega
      have hnc : ¬ (c2 = b ∨ c2 = cr) := by
        rintro (h | h)
        · exact HN.out.2.2.1 h
        · rcases R3.out with h3 | h3
          · rcases H4.out with h4 | h4
            · exact HN.out.2.2.2 (by omega)
            · omega
          · omega
      have T0 := Lib.hid (R2.out.keep t3 hnb hnc)
      have e : l2.take (k + 1) = l2.take k ++ [v] := by
        rw [← HV.out]
        rw [List.take_succ_eq_append_getElem hlt]; simp [List.getD, hlt]
      have T1 := Lib.hid (show BA w2 b c3 (l ++ l2.take (k + 1)) by rw [e, ← List.append_assoc]; exact t1)
      have T2 : Hid (c3 = c1 ∨ w1.heap.size ≤ c3) := Lib.hid (by
        rcases t2 with h | h
        · rw [h]; exact R3.out
        · exact Or.inr (by omega))
      have T3 : Hid (Keeps (fun i => i = b ∨ i = c1) w1 w2) := Lib.hid (by
        refine R4.out.step t3 (fun i hi h => ?_)
        rcases h with h | h
        · exact Or.inl h
        · rcases R3.out with h3 | h3
          · exact Or.inr (by omega)
          · omega)
      clear t1 t2 t3 hnb hnc e
      go_wp2
      go_roundw
      case rel => exact ⟨k + 1, by omega, by go_num, c3, T1.out, T0.out, T2.out, T3.out⟩
      case measure => simp [intOf]; omega
    · go_wp2
      go_end0
      obtain rfl : k = l2.length := by omega
      have r1 := R1.out
      rw [List.take_length] at r1
      refine ⟨rfl, cr, r1, ?_, (H5.out.mono (S' := fun i => i = b ∨ i = c) (fun i _ h => Or.inl h)).step R4.out (fun i hi h => ?_)⟩
      · rcases R3.out with h3 | h3
        · rcases H4.out with h4 | h4
          · exact Or.inl (by omega)
          · exact Or.inr (by omega)
        · exact Or.inr (by omega)
      · rcases h with h | h
        · exact Or.inl h
        · rcases H4.out with h4 | h4
          · exact Or.inr (by omega)
          · omega

theorem wraps_u8' (n : Int) (h₀ : 0 ≤ n) (h₁ : n < 2 ^ 8) : IntKind.u8.wrap n = n := wraps_u8 n h₀ h₁
theorem or_u8 {x k : Nat} (hx : x < 256) (hk : k < 8) : bits .or .u8 (x : Int) ((2 : Int) ^ k % 256) = ((x ||| 2 ^ k : Nat) : Int) := by
  have h2 : 2 ^ k < 2 ^ 8 := Nat.pow_lt_pow_right (by omega) hk
  have e : ((2 : Int) ^ k % 256) = ((2 ^ k : Nat) : Int) := by
    have e : ((2 : Int) ^ k) = ((2 ^ k : Nat) : Int) := by simp
    rw [e]; generalize (2 ^ k : Nat) = m at h2 ⊢; omega
  rw [e, (bits_nat .u8 8 (by decide) wraps_u8 x (2 ^ k) (by simpa using hx) h2).2]
theorem or_add {a i : Nat} : a * 2 ^ (i + 1) ||| 2 ^ i = a * 2 ^ (i + 1) + 2 ^ i := by
  have := Nat.two_pow_add_eq_or_of_lt (i := i + 1) (b := 2 ^ i) (Nat.pow_lt_pow_right (by omega) (by omega)) a
  rw [Nat.mul_comm, this]

/-- What j of eight bits make of a byte, the highest one first. -/
def part8 (l : List Bool) (j : Nat) : Nat := QR.numOf (l.take j) * 2 ^ (8 - j)
theorem part8_lt (l : List Bool) (j : Nat) (h : j ≤ 8) : part8 l j < 256 := by
  have h1 := QR.numOf_lt (l.take j)
  have h2 : (l.take j).length ≤ j := List.length_take_le _ _
  have h3 : 2 ^ (l.take j).length ≤ 2 ^ j := Nat.pow_le_pow_right (by omega) h2
  have h4 : 2 ^ j * 2 ^ (8 - j) = 256 := by rw [← Nat.pow_add, show j + (8 - j) = 8 by omega]
  unfold part8
  have : QR.numOf (l.take j) * 2 ^ (8 - j) < 2 ^ j * 2 ^ (8 - j) := Nat.mul_lt_mul_of_pos_right (by omega) (Nat.two_pow_pos _)
  omega
theorem part8_step (l : List Bool) (j : Nat) (h : j < 8) (hl : j < l.length) :
    part8 l (j + 1) = if l.getD j false then part8 l j ||| 2 ^ (7 - j) else part8 l j := by
  have e : l.take (j + 1) = l.take j ++ [l.getD j false] := by rw [List.take_succ_eq_append_getElem hl]; simp [List.getD, hl]
  unfold part8
  rw [e, QR.numOf_append]
  obtain ⟨i, hi⟩ : ∃ i, 7 - j = i := ⟨_, rfl⟩
  rw [show 8 - (j + 1) = i by omega, show 8 - j = i + 1 by omega, hi]
  cases l.getD j false
  · simp only [List.length_singleton, Nat.pow_one, QR.numOf, QR.numOfF, Bool.toNat_false, Nat.pow_succ, if_neg Bool.false_ne_true]
    rw [Nat.add_zero, Nat.mul_assoc, Nat.mul_comm 2]
  · simp only [List.length_singleton, Nat.pow_one, if_true]
    rw [or_add]
    simp only [QR.numOf, QR.numOfF, Bool.toNat_true, Nat.pow_succ, Nat.add_mul]
    rw [Nat.mul_assoc, Nat.mul_comm 2]
    omega

def vu8 (n : Nat) : Value := .int .u8 (n : Int)
/-- The bytes of bits from o on, so many. -/
def bytesAt (l : List Bool) (o n : Nat) : List Nat := (List.range n).map fun j => QR.numOf ((l.drop (o + 8 * j)).take 8)

set_option maxRecDepth 100000 in
set_option maxHeartbeats 400000 in
theorem toBytes_ok (b c g o n : Nat) (l : List Bool) (ds : List Value) (w : World) (h : BA w b c l) (hg : Blk w g ds 5) (hd : ds.length = n) (hl : o + 8 * n ≤ l.length) (hlen : l.length ≤ 1000000) (hgb : g ≠ b ∧ g ≠ c)
    (O M : Int) (hO : O = (o : Int)) (hM : M = (n : Int)) :
    Calls Tryz.prog 117 #[.pointer (some ⟨b, 0, none⟩), .int .i64 O, .slice (some ⟨g, 0, none⟩) n n, .int .i64 0, .int .i64 M] w fun e w' => e = .returned (.tuple #[]) ∧
      Blk w' g ((bytesAt l o n).map vu8) 5 ∧ Keeps (fun i => i = g) w w' := by
  subst hO hM
  have HA := Lib.hid h
  have HG := Lib.hid hg
  have HD := Lib.hid hd
  have HN := Lib.hid hgb
  clear h hg hd hgb
  go_enter Tryz.func117, Tryz.ntmps117
  go_wp2_with fail
  go_loopw [1, 10] (fun q i wr => ∃ k p : Nat, k ≤ n ∧ i = .int .i64 (k : Int) ∧ q = .int .i64 (p : Int) ∧ Hid (p = o + 8 * k) ∧ BA wr b c l ∧ Blk wr g ((bytesAt l o k).map vu8 ++ ds.drop k) 5 ∧ Keeps (fun i => i = g) w wr) (fun _ i _ => n - (intOf i).toNat)
  case atStart => exact ⟨0, o, Nat.zero_le _, rfl, rfl, Lib.hid (by omega), HA.out, by simpa [bytesAt] using HG.out, Keeps.refl _ _⟩
  case round =>
    obtain ⟨k, p, hk, rfl, rfl, HP, r1, r2, r3⟩ := hrel
    by_cases hlt : k < n
    · have hcell : ∃ u, wr.cell? ⟨g, k, none⟩ = some u := by
        have e : ((bytesAt l o k).map vu8 ++ ds.drop k)[k]? = ds[k]? := by
          rw [List.getElem?_append_right (by simp [bytesAt])]
          simp [bytesAt]
        obtain ⟨u, hu⟩ : ∃ u, ds[k]? = some u := ⟨ds[k]'(by rw [HD.out]; exact hlt), List.getElem?_eq_getElem _⟩
        exact ⟨u, r2.cell (e.trans hu)⟩
      obtain ⟨u, hu⟩ := hcell
      have hfz := r2.free k
      have hk' : ((k : Nat) : Int) < (n : Int) := by omega
      have hnext : ∀ y, y = QR.numOf ((l.drop (o + 8 * k)).take 8) → Blk (wr.setCell ⟨g, k, none⟩ (.int .u8 ((y : Nat) : Int))) g ((bytesAt l o (k + 1)).map vu8 ++ ds.drop (k + 1)) 5 := fun y hy => by
        have h1 := r2.set k (.int .u8 ((y : Nat) : Int))
        have e : ((bytesAt l o k).map vu8 ++ ds.drop k).set k (.int .u8 ((y : Nat) : Int)) = (bytesAt l o (k + 1)).map vu8 ++ ds.drop (k + 1) := by
          have hlen : ((bytesAt l o k).map vu8).length = k := by simp [bytesAt]
          have hdr : ds.drop k = ds[k]'(by rw [HD.out]; exact hlt) :: ds.drop (k + 1) := by rw [List.drop_eq_getElem_cons]
          rw [List.set_append_right _ _ (by omega), hlen, Nat.sub_self, hdr, List.set_cons_zero]
          have e2 : bytesAt l o (k + 1) = bytesAt l o k ++ [y] := by simp [bytesAt, List.range_succ, hy]
          rw [e2]; simp [vu8]
        rw [e] at h1; exact h1
      have hkeep : ∀ v, Keeps (fun i => i = g) w (wr.setCell ⟨g, k, none⟩ v) := fun v => r3.setCell (Or.inl rfl) v
      have hba : ∀ v, BA (wr.setCell ⟨g, k, none⟩ v) b c l := fun v => r1.keep ((Keeps.refl (fun i => i = g) wr).setCell (Or.inl rfl) v) (fun h => HN.out.1 h.symm) (fun h => HN.out.2 h.symm)
      have R1 := Lib.hid r1
      have K1 := Lib.hid hnext
      have K2 := Lib.hid hkeep
      have K3 := Lib.hid hba
      clear r1 r2 r3 hnext hkeep hba
      go_wp2_with fail
      go_loop [1, 11, 12] (fun q t i => ∃ j p x : Nat, j ≤ 8 ∧ i = .int .i64 (j : Int) ∧ q = .int .i64 (p : Int) ∧ Hid (p = o + 8 * k + j) ∧ t = .int .u8 (x : Int) ∧ x < 256 ∧ Hid (x = part8 (l.drop (o + 8 * k)) j)) (fun _ _ i => 8 - (intOf i).toNat)
      case atStart => exact ⟨0, p, 0, by omega, rfl, rfl, Lib.hid (by have := HP.out; omega), rfl, by omega, Lib.hid (by simp [part8, QR.numOf, QR.numOfF])⟩
      case round =>
        obtain ⟨j, p, x, hj, rfl, rfl, HQ, rfl, hx, HX⟩ := hrel
        by_cases hj8 : j < 8
        · obtain ⟨v, hv⟩ : ∃ v, l.getD p false = v := ⟨_, rfl⟩
          have hp : p < l.length := by have := HQ.out; omega
          have hst := part8_step (l.drop (o + 8 * k)) j hj8 (by simp; omega)
          rw [show (l.drop (o + 8 * k)).getD j false = v by rw [← hv, HQ.out]; simp [List.getD], ← HX.out] at hst
          have hor := or_u8 hx (show 7 - j < 8 by omega)
          have hlt2 := part8_lt (l.drop (o + 8 * k)) (j + 1) (by omega)
          have HV := Lib.hid hv
          have HS := Lib.hid hst
          have HO := Lib.hid hor
          have HL := Lib.hid hlt2
          clear hv hst hor hlt2
          go_wp2_with fail
          refine (get_ok b c p l wr R1.out hp _ rfl v HV.out).mono ?_
          rintro e w2 ⟨rfl, rfl⟩
          cases v
          · go_wp2
            go_round
            case rel => exact ⟨j + 1, p + 1, x, by omega, by go_num, by go_num, Lib.hid (by have := HQ.out; omega), rfl, hx, Lib.hid (by have := HS.out; simpa using this.symm)⟩
            case measure => simp [intOf]; omega
          · go_wp2
            go_round
            case rel =>
              have e : part8 (l.drop (o + 8 * k)) (j + 1) = x ||| 2 ^ (7 - j) := by simpa using HS.out
              exact ⟨j + 1, p + 1, x ||| 2 ^ (7 - j), by omega, by go_num, by go_num, Lib.hid (by have := HQ.out; omega), by rw [HO.out], by rw [← e]; exact HL.out, Lib.hid e.symm⟩
            case measure => simp [intOf]; omega
        · obtain rfl : j = 8 := by omega
          have hx8 : x = QR.numOf ((l.drop (o + 8 * k)).take 8) := by rw [HX.out]; simp [part8]
          have HZ := Lib.hid hx8
          clear hx8
          go_wp2
          go_roundw
          case rel => exact ⟨k + 1, p, by omega, by go_num, rfl, Lib.hid (by have := HQ.out; omega), K3.out _, K1.out x HZ.out, K2.out _⟩
          case measure => simp [intOf]; omega
    · obtain rfl : k = n := by omega
      go_wp2
      go_end0
      refine ⟨rfl, ?_, r3⟩
      rw [← HD.out, List.drop_length, List.append_nil] at r2
      rw [HD.out] at r2
      exact r2

theorem xor_u32 {x y : Nat} (hx : x < 4294967296) (hy : y < 4294967296) : bits .xor .u32 (x : Int) (y : Int) = ((x ^^^ y : Nat) : Int) := by
  have hl : x ^^^ y < 2 ^ 32 := Nat.xor_lt_two_pow (by omega) (by omega)
  have h1 : (BitVec.ofInt 32 (x : Int)).toNat = x := by
    rw [BitVec.ofInt_natCast, BitVec.toNat_ofNat]; exact Nat.mod_eq_of_lt (by omega)
  have h2 : (BitVec.ofInt 32 (y : Int)).toNat = y := by
    rw [BitVec.ofInt_natCast, BitVec.toNat_ofNat]; exact Nat.mod_eq_of_lt (by omega)
  show IntKind.u32.wrap ((BitVec.ofInt 32 (x : Int) ^^^ BitVec.ofInt 32 (y : Int)).toNat : Int) = _
  rw [BitVec.toNat_xor, h1, h2, wraps_u32 _ (by omega) (by exact_mod_cast hl)]
def xorL (l m : List Bool) : List Bool := List.zipWith (fun a b => a != b) l m
theorem xorL_get (l m : List Bool) (h : l.length = m.length) (i : Nat) : (xorL l m).getD i false = (l.getD i false != m.getD i false) := by
  unfold xorL
  simp only [List.getD, List.getElem?_zipWith]
  by_cases hi : i < l.length
  · rw [List.getElem?_eq_getElem hi, List.getElem?_eq_getElem (by omega)]; rfl
  · rw [List.getElem?_eq_none (by omega), List.getElem?_eq_none (l := m) (by omega)]; rfl

set_option maxRecDepth 100000 in
set_option maxHeartbeats 400000 in
theorem xor_ok (b c b2 c2 n : Nat) (l l2 : List Bool) (w : World) (h : BAn w b c n l.length l) (h2 : BAn w b2 c2 n l2.length l2) (hlen : l.length = l2.length) (hn : n ≤ 100000) (hne : b2 ≠ c ∧ c2 ≠ c) :
    Calls Tryz.prog 191 #[.pointer (some ⟨b, 0, none⟩), .pointer (some ⟨b2, 0, none⟩)] w fun e w' => e = .returned .nilIface ∧
      BAn w' b c n l.length (xorL l l2) ∧ Keeps (fun i => i = c) w w' := by
  obtain ⟨ws, h1, h2', h3, h4, h5, h6⟩ := h
  obtain ⟨vs, k1, k2, k3, k4, k5, k6⟩ := h2
  have q1 := h4.cell (i := 1) rfl
  have q2 := k4.cell (i := 1) rfl
  have hb : (((l.length : Nat) : Int) != ((l2.length : Nat) : Int)) = false := by rw [hlen]; simp
  have X := Lib.hid (And.intro h1 (And.intro h2' (And.intro h3 (And.intro h4 (And.intro h5 h6)))))
  have Y := Lib.hid (And.intro k1 (And.intro k2 (And.intro k3 (And.intro k4 (And.intro k5 k6)))))
  have HN := Lib.hid hne
  have HL := Lib.hid hlen
  clear h1 h2' h3 h4 h5 h6 k1 k2 k3 k4 k5 k6 hne hlen
  go_enter Tryz.func191, Tryz.ntmps191
  go_wp2_with fail
  go_quiet (fail)
  go_wp2_with fail
  clear q1 q2
  go_loopw [5] (fun i wr => ∃ k : Nat, k ≤ n ∧ i = .int .i64 (k : Int) ∧ ∃ xs : List Nat, xs.length = n ∧ (∀ x ∈ xs, x < 4294967296) ∧ Blk wr c (xs.map vu32) 151 ∧ (∀ j, xs.getD j 0 = if j < k then ws.getD j 0 ^^^ vs.getD j 0 else ws.getD j 0) ∧ Keeps (fun i => i = c) w wr) (fun i _ => n - (intOf i).toNat)
  case atStart => exact ⟨0, Nat.zero_le _, rfl, ws, X.out.1, X.out.2.1, X.out.2.2.2.2.1.drewN _, fun j => by simp, (Keeps.refl _ _).drewN _⟩
  case round =>
    obtain ⟨k, hk, rfl, xs, r1, r2, r3, r4, r5⟩ := hrel
    have hB := X.out.2.2.2.1.keep r5 (fun e => X.out.2.2.1 e.symm)
    have hB2 := Y.out.2.2.2.1.keep r5 HN.out.1
    have hC2 := Y.out.2.2.2.2.1.keep r5 HN.out.2
    have t0 := hB.cell (i := 0) rfl
    have t1 := hB2.cell (i := 0) rfl
    by_cases hlt : k < n
    · have hk' : ((k : Nat) : Int) < (n : Int) := by omega
      obtain ⟨x, hx⟩ : ∃ x, xs.getD k 0 = x := ⟨_, rfl⟩
      obtain ⟨y, hy⟩ : ∃ y, vs.getD k 0 = y := ⟨_, rfl⟩
      have c1 := r3.cell (map_u32_get (i := k) (by omega))
      have c2' := hC2.cell (map_u32_get (i := k) (by have := Y.out.1; omega))
      have f1 := r3.free k
      rw [hx] at c1
      rw [hy] at c2'
      have hxl : x < 4294967296 := by rw [← hx]; exact lt_of_getD r2 _
      have hyl : y < 4294967296 := by rw [← hy]; exact lt_of_getD Y.out.2.1 _
      have hxor := xor_u32 hxl hyl
      have hset := r3.set k (.int .u32 ((x ^^^ y : Nat) : Int))
      have hkp : Keeps (fun i => i = c) w (wr.setCell ⟨c, k, none⟩ (.int .u32 ((x ^^^ y : Nat) : Int))) := r5.setCell (Or.inl rfl) _
      have hxx : x ^^^ y < 4294967296 := by
        have := Nat.xor_lt_two_pow (n := 32) (by simpa using hxl) (by simpa using hyl)
        simpa using this
      have hnew : ∀ j, (xs.set k (x ^^^ y)).getD j 0 = if j < k + 1 then ws.getD j 0 ^^^ vs.getD j 0 else ws.getD j 0 := fun j => by
        rw [List.getD_eq_getElem?_getD, List.getElem?_set]
        by_cases e : k = j
        · subst e
          have hw := r4 k
          rw [if_neg (by omega), hx] at hw
          rw [if_pos rfl, if_pos (by omega), if_pos (by omega), ← hw, ← hy]; rfl
        · rw [if_neg e, ← List.getD_eq_getElem?_getD, r4 j]
          by_cases e2 : j < k
          · rw [if_pos e2, if_pos (by omega)]
          · rw [if_neg e2, if_neg (by omega)]
      have hmap : (xs.map vu32).set k (.int .u32 ((x ^^^ y : Nat) : Int)) = (xs.set k (x ^^^ y)).map vu32 := by rw [List.map_set]; rfl
      rw [hmap] at hset
      have Z := Lib.hid (show (∃ xs : List Nat, xs.length = n ∧ (∀ x ∈ xs, x < 4294967296) ∧ Blk (wr.setCell ⟨c, k, none⟩ (.int .u32 ((x ^^^ y : Nat) : Int))) c (xs.map vu32) 151 ∧ (∀ j, xs.getD j 0 = if j < k + 1 then ws.getD j 0 ^^^ vs.getD j 0 else ws.getD j 0) ∧ Keeps (fun i => i = c) w (wr.setCell ⟨c, k, none⟩ (.int .u32 ((x ^^^ y : Nat) : Int)))) from ⟨xs.set k (x ^^^ y), by simpa using r1, lt_set r2 hxx, hset, hnew, hkp⟩)
      clear hset hkp hnew hmap r1 r2 r3 r4 r5 hx hy hB hB2 hC2
      go_wp2
      go_region
      all_goals go_wp2
      all_goals
        go_roundw
        case rel =>
          obtain ⟨ys, z1, z2, z3, z4, z5⟩ := Z.out
          exact ⟨k + 1, by omega, by go_num, ys, z1, z2, z3.drew, z4, z5.drew⟩
        case measure => simp [intOf]; omega
    · obtain rfl : k = n := by omega
      have fin : BAn wr b c k l.length (xorL l l2) := by
        refine ⟨xs, r1, r2, X.out.2.2.1, hB, r3, fun i => ?_⟩
        rw [xorL_get _ _ HL.out, ← X.out.2.2.2.2.2 i, ← Y.out.2.2.2.2.2 i]
        unfold wbit
        rw [r4]
        by_cases e : i / 32 < k
        · rw [if_pos e, Nat.testBit_xor]
        · have e1 : ws.getD (i / 32) 0 = 0 := by have := X.out.1; simp [List.getD, List.getElem?_eq_none (l := ws) (i := i / 32) (by omega)]
          have e2 : vs.getD (i / 32) 0 = 0 := by have := Y.out.1; simp [List.getD, List.getElem?_eq_none (l := vs) (i := i / 32) (by omega)]
          rw [if_neg e, e1, e2]; simp
      have F := Lib.hid (And.intro fin r5)
      clear fin r1 r2 r3 r4 r5 hB hB2 hC2
      go_wp2
      go_ret
      exact ⟨rfl, F.out⟩

end Go.Proofs.YtplpafbkalkchaaGreatDoor
