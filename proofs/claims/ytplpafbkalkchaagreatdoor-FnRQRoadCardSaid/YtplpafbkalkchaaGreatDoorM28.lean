/-
  Parts of the proof (IL, IL2, TI, TI2, MK).
-/
import Derived.Test.YtplpafbkalkchaaGreatDoorM04
import Derived.Test.YtplpafbkalkchaaGreatDoorM17
import Derived.Test.YtplpafbkalkchaaGreatDoorM26
import Derived.Test.YtplpafbkalkchaaGreatDoorM27
set_option linter.unusedSimpArgs false
set_option linter.unusedVariables false

namespace Go.Proofs.YtplpafbkalkchaaGreatDoor
open Go.RowKit

/-- How data words are parted: k1 blocks of s words, k2 of s + 1; ec words of correction each. -/
structure Shape (T D nb k1 k2 s ec : Nat) : Prop where
  hnb : nb = k1 + k2
  hk1 : 1 ≤ k1
  hn8 : nb ≤ 8
  hs1 : 1 ≤ s
  hs2 : s ≤ 150
  he1 : 1 ≤ ec
  he2 : ec ≤ 60
  hd : D = s * nb + k2
  ht : T = (s + ec) * nb + k2

def lenJ (k1 s j : Nat) : Nat := if j < k1 then s else s + 1
theorem lenJ_le (k1 s j : Nat) : lenJ k1 s j ≤ s + 1 ∧ s ≤ lenJ k1 s j := by unfold lenJ; split <;> omega

theorem div_rem {a n q r : Nat} (h : a = q * n + r) (hr : r < n) : a / n = q ∧ a % n = r := by
  subst h
  constructor
  · rw [Nat.mul_comm, Nat.mul_add_div (by omega), Nat.div_eq_of_lt hr, Nat.add_zero]
  · rw [Nat.mul_comm, Nat.mul_add_mod, Nat.mod_eq_of_lt hr]

set_option maxRecDepth 100000 in
set_option maxHeartbeats 1600000 in
theorem blockSizes_ok (T D nb k1 k2 s ec j : Nat) (w : World) (h : Shape T D nb k1 k2 s ec) (hj : j < nb) (T' D' N' J' : Int) (hT : T' = (T : Int)) (hD : D' = (D : Int)) (hN : N' = (nb : Int)) (hJ : J' = (j : Int)) :
    Calls Tryz.prog 116 #[.int .i64 T', .int .i64 D', .int .i64 N', .int .i64 J'] w fun e w' => e = .returned (.tuple #[.int .i64 (lenJ k1 s j : Nat), .int .i64 (ec : Int), .nilIface]) ∧ w = w' := by
  subst hT hD hN hJ
  have hk2 : k2 < nb := by have := h.hnb; have := h.hk1; omega
  obtain ⟨t1, t2⟩ := div_rem h.ht hk2
  obtain ⟨d1, d2⟩ := div_rem h.hd hk2
  have e1 : (T : Int) % (nb : Int) = (k2 : Int) := by rw [← Int.natCast_emod, t2]
  have e2 : (T : Int) / (nb : Int) = (s : Int) + (ec : Int) := by rw [← Int.natCast_ediv, t1]; omega
  have e3 : (D : Int) / (nb : Int) = (s : Int) := by rw [← Int.natCast_ediv, d1]
  have e4 : (nb : Int) - (k2 : Int) = (k1 : Int) := by have := h.hnb; omega
  have e5 : (s : Int) + (ec : Int) + 1 - ((s : Int) + 1) = (ec : Int) := by omega
  have e8 : (s : Int) + (ec : Int) - (s : Int) = (ec : Int) := by omega
  have e6 : (k1 : Int) + (k2 : Int) = (nb : Int) := by have := h.hnb; omega
  have e7n : (s + ec) * k1 + (s + 1 + ec) * k2 = T := by
    rw [h.ht, h.hnb, show s + 1 + ec = s + ec + 1 by omega, Nat.add_mul (s + ec) 1 k2, Nat.mul_add]; omega
  obtain ⟨p, hp⟩ : ∃ p, (s + ec) * k1 = p := ⟨_, rfl⟩
  obtain ⟨q, hq⟩ : ∃ q, (s + 1 + ec) * k2 = q := ⟨_, rfl⟩
  have e7 : ((s : Int) + (ec : Int)) * (k1 : Int) = (p : Int) := by rw [← hp]; simp
  have e9 : ((s : Int) + 1 + (ec : Int)) * (k2 : Int) = (q : Int) := by rw [← hq]; simp
  have e10 : (p : Int) + (q : Int) = (T : Int) := by omega
  have b1 := h.hn8
  have b2 := h.hs2
  have b3 := h.he2
  have b4 : (T : Int) ≤ 10000 := by
    have h1 : (s + ec) * nb ≤ 210 * 8 := Nat.mul_le_mul (by omega) (by omega)
    have := h.ht; omega
  have b5 : (D : Int) ≤ 10000 := by
    have h1 : s * nb ≤ 210 * 8 := Nat.mul_le_mul (by omega) (by omega)
    have := h.hd; omega
  have b6 : 1 ≤ nb := by omega
  have b7 : k1 ≤ 8 := by have := h.hnb; omega
  have b8 : k2 ≤ 8 := by omega
  have d1 : decide ((nb : Int) ≤ (j : Int)) = false := decide_eq_false (by omega)
  have d2 : decide (nb ≤ j) = false := decide_eq_false (by omega)
  clear t1 t2 e7n h hp hq
  by_cases hjk : j < k1
  · have hl : lenJ k1 s j = s := by unfold lenJ; rw [if_pos hjk]
    rw [hl]
    clear hl
    go_enter Tryz.func116, Tryz.ntmps116
    go_wp2
    go_ret3
    exact ⟨rfl, rfl⟩
  · have hl : lenJ k1 s j = s + 1 := by unfold lenJ; rw [if_neg hjk]
    rw [hl]
    clear hl
    go_enter Tryz.func116, Tryz.ntmps116
    go_wp2
    go_ret3
    exact ⟨rfl, rfl⟩

end Go.Proofs.YtplpafbkalkchaaGreatDoor

namespace Go.Proofs.YtplpafbkalkchaaGreatDoor
open Go.RowKit

/-- Blocks of types that are none of a BitArray's are as they were. -/
def Rest (w w' : World) : Prop := ∀ (B : Nat) (cs : Array Value) (t : TypeId) (m : Nat × Nat), t ≠ 151 → t ≠ 193 → w.heap[B]? = some (.cells cs t m) → w'.heap[B]? = some (.cells cs t m)
theorem Rest.refl (w : World) : Rest w w := fun _ _ _ _ _ _ h => h
theorem Rest.trans {a b c : World} (h : Rest a b) (k : Rest b c) : Rest a c := fun B cs t m h1 h2 h3 => k B cs t m h1 h2 (h B cs t m h1 h2 h3)
theorem Rest.of_keeps {w w' : World} (h : Keeps (fun _ => False) w w') : Rest w w' := fun B cs t m _ _ hB => by
  have hlt : B < w.heap.size := by
    rcases Nat.lt_or_ge B w.heap.size with h | h
    · exact h
    · rw [Array.getElem?_eq_none h] at hB; cases hB
  rw [h.block B hlt (fun h => h), hB]
theorem Blk.rest {w w' : World} {b : Nat} {cs : List Value} {t : TypeId} (h : Blk w b cs t) (hr : Rest w w') (h1 : t ≠ 151) (h2 : t ≠ 193) : Blk w' b cs t := hr b _ t _ h1 h2 h

theorem newPair_ok (a c n m : Nat) (w : World) : Calls Tryz.prog 119 #[.slice (some ⟨a, 0, none⟩) n n, .slice (some ⟨c, 0, none⟩) m m] w fun e w' => e = .returned (.pointer (some ⟨w.heap.size, 0, none⟩)) ∧
    w.alloc (.cells #[.slice (some ⟨a, 0, none⟩) n n, .slice (some ⟨c, 0, none⟩) m m] 254) = w' := by
  go_enter Tryz.func119, Tryz.ntmps119
  go_wp2
  go_ret
  exact ⟨rfl, rfl⟩
theorem pairData_ok (p : Nat) (a : Option Addr) (n c : Nat) (w : World) (h : w.cell? ⟨p, 0, none⟩ = some (.slice a n c)) : Calls Tryz.prog 120 #[.pointer (some ⟨p, 0, none⟩)] w fun e w' => e = .returned (.slice a n c) ∧ w = w' := by
  go_enter Tryz.func120, Tryz.ntmps120
  go_wp2
  go_ret
  exact ⟨rfl, rfl⟩
theorem pairEC_ok (p : Nat) (a : Option Addr) (n c : Nat) (w : World) (h : w.cell? ⟨p, 1, none⟩ = some (.slice a n c)) : Calls Tryz.prog 121 #[.pointer (some ⟨p, 0, none⟩)] w fun e w' => e = .returned (.slice a n c) ∧ w = w' := by
  go_enter Tryz.func121, Tryz.ntmps121
  go_wp2
  go_ret
  exact ⟨rfl, rfl⟩

/-- A pair of data and correction at block p. -/
def BP (w : World) (p : Nat) (d e : List Nat) : Prop :=
  ∃ a c, Blk w p [.slice (some ⟨a, 0, none⟩) d.length d.length, .slice (some ⟨c, 0, none⟩) e.length e.length] 254 ∧ Blk w a (d.map vu8) 5 ∧ Blk w c (e.map vu8) 5
theorem BP.rest {w w' : World} {p : Nat} {d e : List Nat} (h : BP w p d e) (hr : Rest w w') : BP w' p d e := by
  obtain ⟨a, c, h1, h2, h3⟩ := h
  exact ⟨a, c, h1.rest hr (by decide) (by decide), h2.rest hr (by decide) (by decide), h3.rest hr (by decide) (by decide)⟩
theorem BP.keep {S : Nat → Prop} {w w' : World} {p : Nat} {d e : List Nat} (h : BP w p d e) (hk : Keeps S w w') (hS : ∀ i, S i → ∃ t, TypeAt w i t ∧ t ≠ 254 ∧ t ≠ 5) : BP w' p d e := by
  obtain ⟨a, c, h1, h2, h3⟩ := h
  have n1 : ¬ S p := fun h => by obtain ⟨t, ht, hn, _⟩ := hS p h; exact ht.ne h1.typ hn rfl
  have n2 : ¬ S a := fun h => by obtain ⟨t, ht, _, hn⟩ := hS a h; exact ht.ne h2.typ hn rfl
  have n3 : ¬ S c := fun h => by obtain ⟨t, ht, _, hn⟩ := hS c h; exact ht.ne h3.typ hn rfl
  exact ⟨a, c, h1.keep hk n1, h2.keep hk n2, h3.keep hk n3⟩

/-- The pairs, as a slice. -/
structure BPs (w : World) (B : Nat) (v : Value) (ds es : List (List Nat)) (ps : List Nat) : Prop where
  lp : ps.length = ds.length
  le : es.length = ds.length
  own : w.ownsRow B 214 1 v ds.length (ps.map fun p => .pointer (some ⟨p, 0, none⟩))
  at' : ∀ i, i < ds.length → BP w (ps.getD i 0) (ds.getD i []) (es.getD i [])
theorem own_rest {w w' : World} {base : Nat} {e : TypeId} {v : Value} {n : Nat} {xs : List Value} (h : w.ownsRow base e 1 v n xs) (hk : Rest w w') (h1 : e ≠ 151) (h2 : e ≠ 193) : w'.ownsRow base e 1 v n xs := by
  obtain ⟨hl, h | ⟨g, cap, cur, hv, hb0, hb, a1, a2, hsz, hx⟩⟩ := h
  · exact ⟨hl, Or.inl h⟩
  · exact ⟨hl, Or.inr ⟨g, cap, cur, hv, hb0, hk _ _ _ _ h1 h2 hb, a1, a2, hsz, hx⟩⟩
theorem BPs.rest {w w' : World} {B : Nat} {v : Value} {ds es : List (List Nat)} {ps : List Nat} (h : BPs w B v ds es ps) (hr : Rest w w') : BPs w' B v ds es ps :=
  ⟨h.lp, h.le, own_rest h.own hr (by decide) (by decide), fun i hi => (h.at' i hi).rest hr⟩
/-- What a walk reads of a pair. -/
theorem BPs.read {w : World} {B : Nat} {v : Value} {ds es : List (List Nat)} {ps : List Nat} (h : BPs w B v ds es ps) (hn : 0 < ds.length) :
    ∃ r cap, v = .slice (some ⟨r, 0, none⟩) ds.length cap ∧ ∀ i, i < ds.length → w.cell? ⟨r, i, none⟩ = some (.pointer (some ⟨ps.getD i 0, 0, none⟩)) := by
  obtain ⟨r, cap, hv, _, hx, _, _⟩ := own_cell h.own hn
  refine ⟨r, cap, hv, fun i hi => hx i _ ?_⟩
  have := h.lp
  simp [List.getD, show i < ps.length by omega]

theorem bytesBits_append : ∀ (l m : List Nat), _root_.QR.bytesBits (l ++ m) = _root_.QR.bytesBits l ++ _root_.QR.bytesBits m
  | [], m => rfl
  | d :: l, m => by simp [_root_.QR.bytesBits, bytesBits_append l m]
theorem bytesBits_one (x : Nat) : _root_.QR.bytesBits [x] = QR.bitsOf 8 x := by simp [_root_.QR.bytesBits]
theorem col_take_succ (bs : List (List Nat)) (i j : Nat) (hj : j < bs.length) : _root_.QR.col (bs.take (j + 1)) i = _root_.QR.col (bs.take j) i ++ (if i < (bs.getD j []).length then [(bs.getD j []).getD i 0] else []) := by
  rw [List.take_succ_eq_append_getElem hj, _root_.QR.col_append]
  congr 1
  have e : bs.getD j [] = bs[j] := by simp [List.getD, hj]
  rw [e]
  by_cases h : i < bs[j].length
  · rw [if_pos h]; simp [_root_.QR.col, h, List.getD]
  · rw [if_neg h]; simp [_root_.QR.col, h]

/-- The data of block j of the bits' words. -/
def dataJ (l : List Bool) (k1 s j : Nat) : List Nat := bytesAt l (8 * (s * j + (j - k1))) (lenJ k1 s j)
theorem dataJ_length (l : List Bool) (k1 s j : Nat) : (dataJ l k1 s j).length = lenJ k1 s j := by simp [dataJ, bytesAt]
theorem bytesAt_bytes (l : List Bool) (o n : Nat) : _root_.QR.Bytes (bytesAt l o n) := fun c hc => by
  obtain ⟨j, _, rfl⟩ := List.mem_map.1 hc
  have h := _root_.QR.numOf_lt ((l.drop (o + 8 * j)).take 8)
  have h2 : ((l.drop (o + 8 * j)).take 8).length ≤ 8 := List.length_take_le _ _
  have h3 : 2 ^ ((l.drop (o + 8 * j)).take 8).length ≤ 2 ^ 8 := Nat.pow_le_pow_right (by omega) h2
  omega

def maxJ (k1 s j : Nat) : Nat := if j = 0 then 0 else if j ≤ k1 then s else s + 1
theorem maxJ_step (k1 s j : Nat) (hk : 1 ≤ k1) (hs : 1 ≤ s) : (maxJ k1 s j < lenJ k1 s j → maxJ k1 s (j + 1) = lenJ k1 s j) ∧ (¬ maxJ k1 s j < lenJ k1 s j → maxJ k1 s (j + 1) = maxJ k1 s j) := by
  unfold maxJ lenJ
  constructor
  · intro h; repeat' split at h
    all_goals (repeat' split)
    all_goals omega
  · intro h; repeat' split at h
    all_goals (repeat' split)
    all_goals omega
theorem offJ_step (k1 s j : Nat) : s * j + (j - k1) + lenJ k1 s j = s * (j + 1) + (j + 1 - k1) := by
  unfold lenJ; rw [Nat.mul_add]; split <;> omega
theorem info214 : (Tryz.prog.info? 214).map (fun i => (i.zero, i.size, i.bytes)) = some (some (.pointer none), 1, 8) := by kernel_rfl

theorem off_le {T D nb k1 k2 s ec j : Nat} (h : Shape T D nb k1 k2 s ec) (hj : j < nb) : s * j + (j - k1) + lenJ k1 s j ≤ D := by
  rw [offJ_step]
  have h1 : s * (j + 1) ≤ s * nb := Nat.mul_le_mul_left _ hj
  have := h.hd; have := h.hnb
  omega
theorem off_last {T D nb k1 k2 s ec : Nat} (h : Shape T D nb k1 k2 s ec) : s * nb + (nb - k1) = D := by
  have := h.hd; have := h.hnb; omega

end Go.Proofs.YtplpafbkalkchaaGreatDoor

namespace Go.Proofs.YtplpafbkalkchaaGreatDoor
open Go.RowKit

theorem newEmpty_n (w : World) : Calls Tryz.prog 41 #[] w fun e w' =>
    e = .returned (.pointer (some ⟨w.heap.size + 1, 0, none⟩)) ∧ BAn w' (w.heap.size + 1) w.heap.size 1 0 [] ∧ Keeps (fun _ => False) w w' ∧ w'.heap.size = w.heap.size + 2 :=
  (newEmpty_raw w).mono fun e w' ⟨he, hw⟩ => by
    subst hw
    have h1 := (Blk.new w (rep 1 (.int .u32 0)) 151).alloc (.cells #[.slice (some ⟨w.heap.size, 0, none⟩) 1 1, .int .i64 0] 193)
    have h2 := Blk.new (w.alloc (.cells (rep 1 (.int .u32 0)).toArray 151)) [.slice (some ⟨w.heap.size, 0, none⟩) 1 1, .int .i64 0] 193
    have hs : (w.alloc (.cells (rep 1 (.int .u32 0)).toArray 151)).heap.size = w.heap.size + 1 := by simp
    rw [hs] at h2
    exact ⟨he, ⟨[0], rfl, by simp, by omega, h2, h1, fun i => by rw [show ([0] : List Nat) = List.replicate 1 0 from rfl, wbit_zeros]; simp⟩,
      ((Keeps.refl _ w).alloc _).alloc _, by simp⟩
theorem BAn.ba {w : World} {b c n : Nat} {l : List Bool} (h : BAn w b c n l.length l) (h1 : l.length ≤ 32 * n) (h2 : n ≤ 100000) : BA w b c l := ⟨n, h1, h2, h⟩
theorem BAn.lt {w : World} {b c n k : Nat} {l : List Bool} (h : BAn w b c n k l) : b < w.heap.size ∧ c < w.heap.size := by
  obtain ⟨ws, _, _, _, h4, h5, _⟩ := h; exact ⟨h4.lt, h5.lt⟩
theorem BAn.keepS {S : Nat → Prop} {w w' : World} {b c n k : Nat} {l : List Bool} (h : BAn w b c n k l) (hk : Keeps S w w') (hS : ∀ i, S i → ∃ t, TypeAt w i t ∧ t ≠ 193 ∧ t ≠ 151) : BAn w' b c n k l := by
  refine h.keep hk ?_ ?_
  · obtain ⟨ws, _, _, _, h4, _, _⟩ := h
    intro hs; obtain ⟨t, ht, hn, _⟩ := hS b hs; exact ht.ne h4.typ hn rfl
  · obtain ⟨ws, _, _, _, _, h5, _⟩ := h
    intro hs; obtain ⟨t, ht, _, hn⟩ := hS c hs; exact ht.ne h5.typ hn rfl
theorem BA.keepS {S : Nat → Prop} {w w' : World} {b c : Nat} {l : List Bool} (h : BA w b c l) (hk : Keeps S w w') (hS : ∀ i, S i → ∃ t, TypeAt w i t ∧ t ≠ 193 ∧ t ≠ 151) : BA w' b c l := by
  obtain ⟨n, h1, h2, h3⟩ := h
  exact ⟨n, h1, h2, h3.keepS hk hS⟩
theorem YM.rowT {w : World} {b m n : Nat} {g : Nat → Nat} {f : Nat → Nat → Int} (h : YM w b m n g f) (i : Nat) (hi : inRows g n i) : TypeAt w i 145 := by
  obtain ⟨y, hy, rfl⟩ := hi
  exact Blk.typ (h.rows.row y hy)

/-- The format's code, and all of its bits. -/
def bchT (a : Nat) : Nat := (bchRun 20 (a * 2 ^ (Lib.bitLen 1335 - 1)) 1335).getD 0
def chkB : Bool := (List.range 32).all fun a => (bchRun 20 (a * 2 ^ (Lib.bitLen 1335 - 1)) 1335 == some (bchT a)) && decide (bchT a < 1024) && (xorL (QR.bitsOf 5 a ++ QR.bitsOf 10 (bchT a)) (QR.bitsOf 15 21522) == QR.bitsOf 15 (_root_.QR.formatOf a))
theorem chkB_ok : chkB = true := by decide +kernel
theorem bchT_ok (a : Nat) (h : a < 32) : bchRun 20 (a * 2 ^ (Lib.bitLen 1335 - 1)) 1335 = some (bchT a) ∧ bchT a < 1024 ∧ xorL (QR.bitsOf 5 a ++ QR.bitsOf 10 (bchT a)) (QR.bitsOf 15 21522) = QR.bitsOf 15 (_root_.QR.formatOf a) := by
  have := _root_.QR.all_range' chkB_ok h
  simp only [Bool.and_eq_true, beq_iff_eq, decide_eq_true_eq] at this
  exact ⟨this.1.1, this.1.2, this.2⟩
def bchV : Nat := (bchRun 20 (7 * 2 ^ (Lib.bitLen 7973 - 1)) 7973).getD 0
theorem bchV_ok : bchRun 20 (7 * 2 ^ (Lib.bitLen 7973 - 1)) 7973 = some bchV ∧ bchV < 4096 ∧ QR.bitsOf 6 7 ++ QR.bitsOf 12 bchV = QR.bitsOf 18 31892 := by decide +kernel

theorem validMask_ok (m : Nat) (hm : m < 8) (w : World) : Calls Tryz.prog 65 #[.int .i64 (m : Int)] w fun e w' => e = .returned (.bool true) ∧ w = w' := by
  have h : (m : Int) < 8 := by omega
  go_enter Tryz.func65, Tryz.ntmps65
  go_wp2
  go_ret
  exact ⟨rfl, rfl⟩

theorem or_mask (l m : Nat) (hl : l < 4) (hm : m < 8) : bits .or .i64 (wrap64 ((l : Int) * 8)) (m : Int) = ((l * 8 + m : Nat) : Int) := by
  have e : wrap64 ((l : Int) * 8) = ((l * 8 : Nat) : Int) := by unfold wrap64; omega
  rw [e, (bits_nat .i64 62 (by decide) wraps_i64 (l * 8) m (by omega) (by omega)).2]
  have := Nat.two_pow_add_eq_or_of_lt (i := 3) (b := m) hm l
  rw [Nat.mul_comm l, ← this]

set_option maxRecDepth 100000 in
set_option maxHeartbeats 1600000 in
theorem typeBits_ok (l m b c : Nat) (w : World) (h : BAn w b c 1 0 []) (hl : l < 4) (hm : m < 8) (L M : Int) (hL : L = (l : Int)) (hM : M = (m : Int)) :
    Calls Tryz.prog 151 #[.int .i64 L, .int .i64 M, .pointer (some ⟨b, 0, none⟩)] w fun e w' => e = .returned .nilIface ∧ BA w' b c (QR.bitsOf 15 (_root_.QR.formatOf (l * 8 + m))) ∧ Keeps (fun i => i = b ∨ i = c) w w' := by
  subst hL hM
  have HB := Lib.hid h
  have hor := or_mask l m hl hm
  obtain ⟨a, ha⟩ : ∃ a, l * 8 + m = a := ⟨_, rfl⟩
  have ha32 : a < 32 := by omega
  have hor2 : bits .or .i64 ((l : Int) * 8) (m : Int) = (a : Int) := by
    have e : wrap64 ((l : Int) * 8) = ((l : Int) * 8) := by unfold wrap64; omega
    rw [← e, hor, ha]
  rw [ha] at hor
  rw [ha]
  obtain ⟨t1, t2, t3⟩ := bchT_ok a ha32
  obtain ⟨r, hr⟩ : ∃ r, bchT a = r := ⟨_, rfl⟩
  rw [hr] at t1 t2 t3
  have T1 := Lib.hid t1
  have T3 := Lib.hid t3
  have hbl := h.lt
  clear h ha hr t1 t3
  go_enter Tryz.func151, Tryz.ntmps151
  go_wp2_with fail
  refine (validMask_ok m hm w).mono ?_
  rintro e w1 ⟨rfl, rfl⟩
  go_wp2_with fail
  refine (levelBits_ok _ w).mono ?_
  rintro e w1 ⟨rfl, rfl⟩
  go_wp2_with fail
  refine (appendBits_in b c 1 5 [] a w (by omega) HB.out (by omega) (by simp) (by omega) _ _ (by first | exact hor2 | exact hor | rfl) rfl).mono ?_
  rintro e w1 ⟨rfl, g1, g2⟩
  have G1 := Lib.hid g1
  have K1 := Lib.hid g2
  have hs1 := g2.size
  clear g1 g2
  go_wp2_with fail
  refine (bch_ok a 1335 r (by omega) (by omega) (by omega) (by decide) (by decide) T1.out w1 _ _ (by first | exact hor2 | exact hor | rfl) rfl).mono ?_
  rintro e w2 ⟨rfl, rfl⟩
  go_wp2_with fail
  refine (appendBits_in b c 1 10 ([] ++ QR.bitsOf 5 a) r w1 (by omega) G1.out (by omega) (by simp [_root_.QR.bitsOf_length]) (by omega) _ _ rfl rfl).mono ?_
  rintro e w2 ⟨rfl, g1, g2⟩
  have G2 := Lib.hid g1
  have K2 := Lib.hid (K1.out.trans g2)
  have hs2 := g2.size
  clear g1 g2
  go_wp2_with fail
  refine (newEmpty_n w2).mono ?_
  rintro e w3 ⟨rfl, n1, n2, n3⟩
  have N1 := Lib.hid n1
  have G3 := Lib.hid (G2.out.keep n2 (fun h => h) (fun h => h))
  have K3 := Lib.hid (K2.out.trans (n2.mono (fun _ _ h => h.elim)))
  clear n1 n2 n3
  go_wp2_with fail
  refine (appendBits_in (w2.heap.size + 1) w2.heap.size 1 15 [] 21522 w3 (by omega) N1.out (by omega) (by simp) (by omega) _ _ rfl rfl).mono ?_
  rintro e w4 ⟨rfl, g1, g2⟩
  have N2 := Lib.hid g1
  have G4 := Lib.hid (G3.out.keep g2 (by omega) (by omega))
  have K4 := Lib.hid (K3.out.step g2 (fun i hi h => by omega))
  clear g1 g2
  go_wp2_with fail
  refine (xor_ok b c (w2.heap.size + 1) w2.heap.size 1 ([] ++ QR.bitsOf 5 a ++ QR.bitsOf 10 r) ([] ++ QR.bitsOf 15 21522) w4 G4.out N2.out (by simp [_root_.QR.bitsOf_length]) (by omega) (by omega)).mono ?_
  rintro e w5 ⟨rfl, g1, g2⟩
  have e1 : ([] ++ QR.bitsOf 5 a ++ QR.bitsOf 10 r : List Bool).length = 15 := by simp [_root_.QR.bitsOf_length]
  rw [List.nil_append, List.nil_append, T3.out] at g1
  have e2 : (QR.bitsOf 15 (_root_.QR.formatOf a)).length = 15 := _root_.QR.bitsOf_length _ _
  rw [List.nil_append] at e1
  rw [e1, ← e2] at g1
  have G5 := Lib.hid (g1.ba (by rw [e2]; omega) (by omega))
  have K5 := Lib.hid (K4.out.trans (g2.mono (S' := fun i => i = b ∨ i = c) (fun _ _ h => Or.inr h)))
  have E2 := Lib.hid e2
  clear g1 g2 e1 e2
  go_wp2_with fail
  refine (getSize_ok b c _ w5 G5.out).mono ?_
  rw [E2.out]
  rintro e w6 ⟨rfl, rfl⟩
  go_wp2
  go_ret
  exact ⟨rfl, G5.out, K5.out⟩

set_option maxRecDepth 100000 in
set_option maxHeartbeats 4000000 in
theorem tcoords_ok (w : World) : Calls Tryz.prog 152 #[] w fun e w' => ∃ m g, e = .returned (.slice (some ⟨m, 0, none⟩) 15 15) ∧
    RowsK w' m 2 15 15 g (fun x y => vi (if x = 0 then (_root_.QR.tcoord.getD y (0, 0)).1 else (_root_.QR.tcoord.getD y (0, 0)).2)) 157 3 ∧ Keeps (fun _ => False) w w' ∧ w.heap.size ≤ m ∧ ∀ y, y < 15 → w.heap.size ≤ g y := by
  go_enter Tryz.func152, Tryz.ntmps152
  go_wp2
  go_ret
  refine ⟨w.heap.size + 15, fun y => w.heap.size + y, rfl, ⟨?_, ?_⟩, ?_, by omega, fun y _ => Nat.le_add_right _ _⟩
  · show Blk _ _ _ _
    exact Blk.newAt (by simp) [.slice (some ⟨w.heap.size, 0, none⟩) 2 2, .slice (some ⟨w.heap.size + 1, 0, none⟩) 2 2, .slice (some ⟨w.heap.size + 2, 0, none⟩) 2 2, .slice (some ⟨w.heap.size + 3, 0, none⟩) 2 2, .slice (some ⟨w.heap.size + 4, 0, none⟩) 2 2, .slice (some ⟨w.heap.size + 5, 0, none⟩) 2 2, .slice (some ⟨w.heap.size + 6, 0, none⟩) 2 2, .slice (some ⟨w.heap.size + 7, 0, none⟩) 2 2, .slice (some ⟨w.heap.size + 8, 0, none⟩) 2 2, .slice (some ⟨w.heap.size + 9, 0, none⟩) 2 2, .slice (some ⟨w.heap.size + 10, 0, none⟩) 2 2, .slice (some ⟨w.heap.size + 11, 0, none⟩) 2 2, .slice (some ⟨w.heap.size + 12, 0, none⟩) 2 2, .slice (some ⟨w.heap.size + 13, 0, none⟩) 2 2, .slice (some ⟨w.heap.size + 14, 0, none⟩) 2 2] 157
  · intro y hy
    obtain rfl | rfl | rfl | rfl | rfl | rfl | rfl | rfl | rfl | rfl | rfl | rfl | rfl | rfl | rfl : y = 0 ∨ y = 1 ∨ y = 2 ∨ y = 3 ∨ y = 4 ∨ y = 5 ∨ y = 6 ∨ y = 7 ∨ y = 8 ∨ y = 9 ∨ y = 10 ∨ y = 11 ∨ y = 12 ∨ y = 13 ∨ y = 14 := by omega
    · exact (((((((((((((((Blk.newAt (by simp) _ _).alloc _).alloc _).alloc _).alloc _).alloc _).alloc _).alloc _).alloc _).alloc _).alloc _).alloc _).alloc _).alloc _).alloc _).alloc _
    · exact ((((((((((((((Blk.newAt (by simp) _ _).alloc _).alloc _).alloc _).alloc _).alloc _).alloc _).alloc _).alloc _).alloc _).alloc _).alloc _).alloc _).alloc _).alloc _
    · exact (((((((((((((Blk.newAt (by simp) _ _).alloc _).alloc _).alloc _).alloc _).alloc _).alloc _).alloc _).alloc _).alloc _).alloc _).alloc _).alloc _).alloc _
    · exact ((((((((((((Blk.newAt (by simp) _ _).alloc _).alloc _).alloc _).alloc _).alloc _).alloc _).alloc _).alloc _).alloc _).alloc _).alloc _).alloc _
    · exact (((((((((((Blk.newAt (by simp) _ _).alloc _).alloc _).alloc _).alloc _).alloc _).alloc _).alloc _).alloc _).alloc _).alloc _).alloc _
    · exact ((((((((((Blk.newAt (by simp) _ _).alloc _).alloc _).alloc _).alloc _).alloc _).alloc _).alloc _).alloc _).alloc _).alloc _
    · exact (((((((((Blk.newAt (by simp) _ _).alloc _).alloc _).alloc _).alloc _).alloc _).alloc _).alloc _).alloc _).alloc _
    · exact ((((((((Blk.newAt (by simp) _ _).alloc _).alloc _).alloc _).alloc _).alloc _).alloc _).alloc _).alloc _
    · exact (((((((Blk.newAt (by simp) _ _).alloc _).alloc _).alloc _).alloc _).alloc _).alloc _).alloc _
    · exact ((((((Blk.newAt (by simp) _ _).alloc _).alloc _).alloc _).alloc _).alloc _).alloc _
    · exact (((((Blk.newAt (by simp) _ _).alloc _).alloc _).alloc _).alloc _).alloc _
    · exact ((((Blk.newAt (by simp) _ _).alloc _).alloc _).alloc _).alloc _
    · exact (((Blk.newAt (by simp) _ _).alloc _).alloc _).alloc _
    · exact ((Blk.newAt (by simp) _ _).alloc _).alloc _
    · exact (Blk.newAt (by simp) _ _).alloc _
  · exact ((((((((((((((((Keeps.refl _ w).alloc _).alloc _).alloc _).alloc _).alloc _).alloc _).alloc _).alloc _).alloc _).alloc _).alloc _).alloc _).alloc _).alloc _).alloc _).alloc _


end Go.Proofs.YtplpafbkalkchaaGreatDoor

namespace Go.Proofs.YtplpafbkalkchaaGreatDoor
open Go.RowKit

theorem tcoord_lt (i : Nat) (h : i < 15) : (_root_.QR.tcoord.getD i (0, 0)).1 ≤ 8 ∧ (_root_.QR.tcoord.getD i (0, 0)).2 ≤ 8 := by
  have : ∀ i, i < 15 → (_root_.QR.tcoord.getD i (0, 0)).1 ≤ 8 ∧ (_root_.QR.tcoord.getD i (0, 0)).2 ≤ 8 := by decide
  exact this i h

set_option maxRecDepth 100000 in
set_option maxHeartbeats 2400000 in
theorem typeInfo_ok (l m yb ym n : Nat) (g : Nat → Nat) (f : Nat → Nat → Int) (w : World) (h : YM w yb ym n g f) (hl : l < 4) (hm : m < 8) (hn : 21 ≤ n) (hn2 : n ≤ 1000) (L M : Int) (hL : L = (l : Int)) (hM : M = (m : Int)) :
    Calls Tryz.prog 126 #[.int .i64 L, .int .i64 M, .pointer (some ⟨yb, 0, none⟩)] w fun e w' => e = .returned .nilIface ∧
      YM w' yb ym n g (_root_.QR.tinfo n (QR.bitsOf 15 (_root_.QR.formatOf (l * 8 + m))) 15 0 f) ∧ Keeps (inRows g n) w w' := by
  subst hL hM
  have HH := Lib.hid h
  clear h
  obtain ⟨bits, hbits⟩ : ∃ bits, QR.bitsOf 15 (_root_.QR.formatOf (l * 8 + m)) = bits := ⟨_, rfl⟩
  have HLEN := Lib.hid (show bits.length = 15 by rw [← hbits]; exact _root_.QR.bitsOf_length _ _)
  have HBITS := Lib.hid hbits
  rw [hbits]
  obtain ⟨FIN, hFIN⟩ : ∃ F, _root_.QR.tinfo n bits 15 0 f = F := ⟨_, rfl⟩
  have HFIN := Lib.hid hFIN
  rw [hFIN]
  clear hbits hFIN
  go_enter Tryz.func126, Tryz.ntmps126
  go_wp2_with fail
  refine (newEmpty_n w).mono ?_
  rintro e w1 ⟨rfl, n1, n2, n3⟩
  obtain ⟨b, hb⟩ : ∃ b, w.heap.size + 1 = b := ⟨_, rfl⟩
  obtain ⟨c, hc⟩ : ∃ c, w.heap.size = c := ⟨_, rfl⟩
  rw [hb] at n1
  rw [hc] at n1
  rw [hb]
  have HBC := Lib.hid (And.intro hb hc)
  have N1 := Lib.hid n1
  have Y1 := Lib.hid (HH.out.keep n2 (fun h => h) (fun h => h) (fun _ _ h => h))
  have K1 := Lib.hid n2
  clear n1 n2 n3 hb hc
  go_wp2_with fail
  refine (typeBits_ok l m b c w1 N1.out hl hm _ _ rfl rfl).mono ?_
  rw [HBITS.out]
  rintro e w2 ⟨rfl, t1, t2⟩
  have T2 := Lib.hid t1
  have hbc : Hid (∀ i, (i = b ∨ i = c) → w.heap.size ≤ i) := Lib.hid (fun i hi => by have := HBC.out; omega)
  have hnr : ∀ y, y < n → ¬ (g y = b ∨ g y = c) := fun y hy h => by have := (HH.out.rows.row y hy).lt; have := hbc.out _ h; omega
  have Y2 := Lib.hid (Y1.out.keep t2 (fun h => by have := HH.out.head.lt; have := hbc.out _ h; omega) (fun h => by have := HH.out.rows.top.lt; have := hbc.out _ h; omega) hnr)
  have K2 := Lib.hid ((K1.out.step t2 (fun i hi h => by have := hbc.out i h; omega)).mono (S' := inRows g n) (fun _ _ h => h.elim))
  clear t1 t2 hnr
  go_wp2_with fail
  go_loopw [9] (fun s9 wr => ∃ (k : Nat) (N : Nat → Nat → Int), k ≤ 15 ∧ s9 = .int .i64 (k : Int) ∧ YM wr yb ym n g N ∧ Hid (_root_.QR.tinfo n bits (15 - k) k N = FIN) ∧ BA wr b c bits ∧ Keeps (inRows g n) w wr) (fun s9 _ => 15 - (intOf s9).toNat)
  case atStart => exact ⟨0, f, by omega, rfl, Y2.out, HFIN, T2.out, K2.out⟩
  case round =>
    obtain ⟨k, N, hk, rfl, y1, hfin, y2, y3⟩ := hrel
    have Y := Lib.hid (And.intro y1 (And.intro y2 y3))
    clear y1 y2 y3
    go_wp2_with fail
    refine (getSize_ok b c bits wr Y.out.2.1).mono ?_
    rw [HLEN.out]
    rintro e w3 ⟨rfl, rfl⟩
    by_cases hk15 : k < 15
    · have hk' : (k : Int) < 15 := by omega
      obtain ⟨v, hv⟩ : ∃ v, bits.getD (14 - k) false = v := ⟨_, rfl⟩
      have HV := Lib.hid hv
      have hstep : _root_.QR.tinfo n bits (15 - (k + 1)) (k + 1) (_root_.QR.tstep n N k v) = FIN := by
        have h := hfin.out
        rw [show 15 - k = (15 - (k + 1)) + 1 by omega] at h
        rw [← hv]; exact h
      have HSTEP := Lib.hid hstep
      have hcl := tcoord_lt k hk15
      clear hstep hv
      go_wp2_with fail
      refine (getSize_ok b c bits wr Y.out.2.1).mono ?_
      rw [HLEN.out]
      rintro e w3 ⟨rfl, rfl⟩
      go_wp2_with fail
      refine (get_ok b c (14 - k) bits wr Y.out.2.1 (by rw [HLEN.out]; omega) _ (by omega) v HV.out).mono ?_
      rintro e w3 ⟨rfl, rfl⟩
      go_wp2_with fail
      refine (tcoords_ok wr).mono ?_
      rintro e w3 ⟨tm, tg, rfl, t1, t2, t3, t4⟩
      have a1 := t1.slot hk15 (Nat.le_refl _)
      obtain ⟨q, hq⟩ : ∃ q, tg k = q := ⟨_, rfl⟩
      have c0 := t1.dot (x := 0) (y := k) (by omega) hk15
      have c1 := t1.dot (x := 1) (y := k) (by omega) hk15
      rw [hq] at a1 c0 c1
      simp only [if_pos, if_neg (show ¬ (1 : Nat) = 0 by omega)] at c0 c1
      obtain ⟨cx, hcx⟩ : ∃ x, (_root_.QR.tcoord.getD k (0, 0)).1 = x := ⟨_, rfl⟩
      obtain ⟨cy, hcy⟩ : ∃ x, (_root_.QR.tcoord.getD k (0, 0)).2 = x := ⟨_, rfl⟩
      rw [hcx] at c0 hcl
      rw [hcy] at c1 hcl
      unfold vi at c0 c1
      have HC := Lib.hid (And.intro hcx hcy)
      obtain ⟨hcl1, hcl2⟩ := hcl
      have YK := Lib.hid (And.intro (Y.out.1.keep t2 (fun h => h) (fun h => h) (fun _ _ h => h)) (And.intro (Y.out.2.1.keep t2 (fun h => h) (fun h => h)) (Y.out.2.2.trans (t2.mono (fun _ _ h => h.elim)))))
      clear t1 t2 t3 t4 hq hcx hcy
      go_wp2_with fail
      refine (ymSetBool_ok yb ym n cx cy g N w3 YK.out.1 (by omega) (by omega) _ _ rfl rfl v).mono ?_
      rintro e w4 ⟨rfl, u1, u2⟩
      have U := Lib.hid (And.intro u1 (And.intro (YK.out.2.1.keepS u2 (fun i hi => ⟨145, YK.out.1.rowT i hi, by decide, by decide⟩)) (YK.out.2.2.trans u2)))
      clear u1 u2 a1 c0 c1
      by_cases hk8 : k < 8
      · have hk8' : (k : Int) < 8 := by omega
        go_wp2_with fail
        refine (ymW_ok yb ym n g _ w4 U.out.1).mono ?_
        rintro e w5 ⟨rfl, rfl⟩
        go_wp2_with fail
        refine (ymSetBool_ok yb ym n (n - k - 1) 8 g _ w4 U.out.1 (by omega) (by omega) _ _ (by omega) rfl v).mono ?_
        rintro e w5 ⟨rfl, u1, u2⟩
        have hM : Hid (YM w5 yb ym n g (_root_.QR.tstep n N k v)) := Lib.hid (u1.congr (fun x y _ _ => by
          show _ = (if k < 8 then _root_.QR.setM (_root_.QR.setM N _ _ _) _ _ _ else _root_.QR.setM (_root_.QR.setM N _ _ _) _ _ _) x y
          rw [if_pos hk8, HC.out.1, HC.out.2]; rfl))
        have V2 := Lib.hid (And.intro (U.out.2.1.keepS u2 (fun i hi => ⟨145, U.out.1.rowT i hi, by decide, by decide⟩)) (U.out.2.2.trans u2))
        clear u1 u2
        go_wp2
        go_roundw
        case rel => exact ⟨k + 1, _, by omega, by go_num, hM.out, HSTEP, V2.out⟩
        case measure => simp [intOf]; omega
      · have hk8' : ¬ (k : Int) < 8 := by omega
        go_wp2_with fail
        refine (ymH_ok yb ym n g _ w4 U.out.1).mono ?_
        rintro e w5 ⟨rfl, rfl⟩
        go_wp2_with fail
        refine (ymSetBool_ok yb ym n 8 (n - 7 + (k - 8)) g _ w4 U.out.1 (by omega) (by omega) _ _ rfl (by omega) v).mono ?_
        rintro e w5 ⟨rfl, u1, u2⟩
        have V1 := Lib.hid (And.intro u1 (And.intro (U.out.2.1.keepS u2 (fun i hi => ⟨145, U.out.1.rowT i hi, by decide, by decide⟩)) (U.out.2.2.trans u2)))
        clear u1 u2
        go_wp2_with fail
        refine (ymSetBool_ok yb ym n 8 (n - 7 + (k - 8)) g _ w5 V1.out.1 (by omega) (by omega) _ _ rfl (by omega) v).mono ?_
        rintro e w6 ⟨rfl, u1, u2⟩
        have hM : Hid (YM w6 yb ym n g (_root_.QR.tstep n N k v)) := Lib.hid (u1.congr (fun x y _ _ => by
          show _ = (if k < 8 then _root_.QR.setM (_root_.QR.setM N _ _ _) _ _ _ else _root_.QR.setM (_root_.QR.setM N _ _ _) _ _ _) x y
          rw [if_neg hk8, HC.out.1, HC.out.2]
          unfold _root_.QR.setM
          by_cases e : x = 8 ∧ y = n - 7 + (k - 8)
          · rw [if_pos e, if_pos e]; rfl
          · rw [if_neg e, if_neg e, if_neg e]; rfl))
        have V2 := Lib.hid (And.intro (V1.out.2.1.keepS u2 (fun i hi => ⟨145, V1.out.1.rowT i hi, by decide, by decide⟩)) (V1.out.2.2.trans u2))
        clear u1 u2
        go_wp2
        go_roundw
        case rel => exact ⟨k + 1, _, by omega, by go_num, hM.out, HSTEP, V2.out⟩
        case measure => simp [intOf]; omega
    · obtain rfl : k = 15 := by omega
      have hM : Hid (N = FIN) := Lib.hid hfin.out
      go_wp2
      go_ret
      exact ⟨rfl, by rw [← hM.out]; exact Y.out.1, Y.out.2.2⟩

end Go.Proofs.YtplpafbkalkchaaGreatDoor

namespace Go.Proofs.YtplpafbkalkchaaGreatDoor
open Go.RowKit

theorem ret_tb {a b : Bool} (h : a = b) : Ending.returned (.tuple #[.bool a, .nilIface]) = .returned (.tuple #[.bool b, .nilIface]) := by rw [h]

set_option maxRecDepth 100000 in
theorem mask0_ok (x y : Nat) (w : World) (hx : x < 1000) (hy : y < 1000) : Calls Tryz.prog 156 #[.int .i64 0, .int .i64 (x : Int), .int .i64 (y : Int)] w fun e w' => e = .returned (.tuple #[.bool (_root_.QR.mskE 0 x y), .nilIface]) ∧ w = w' := by
  have h1 := and1_i64 (x := y + x) (by omega)
  rw [Int.natCast_add] at h1
  obtain ⟨r, hr⟩ : ∃ r, (y + x) % 2 = r := ⟨_, rfl⟩
  rw [hr] at h1
  have HR := Lib.hid hr
  clear hr
  by_cases hr0 : r = 0
  · have hv := Lib.hid (show _root_.QR.mskE 0 x y = true by
      show (_ == 0) = true
      rw [beq_iff_eq]; have := HR.out; omega)
    subst hr0
    go_enter Tryz.func156, Tryz.ntmps156
    go_wp2
    go_ret2
    exact ⟨ret_tb hv.out.symm, rfl⟩
  · have hv := Lib.hid (show _root_.QR.mskE 0 x y = false by
      show (_ == 0) = false
      rw [beq_eq_false_iff_ne]; have := HR.out; omega)
    have hb : ((r : Int) == 0) = false := by simp; omega
    go_enter Tryz.func156, Tryz.ntmps156
    go_wp2
    go_ret2
    exact ⟨ret_tb hv.out.symm, rfl⟩

set_option maxRecDepth 100000 in
theorem mask1_ok (x y : Nat) (w : World) (hx : x < 1000) (hy : y < 1000) : Calls Tryz.prog 156 #[.int .i64 1, .int .i64 (x : Int), .int .i64 (y : Int)] w fun e w' => e = .returned (.tuple #[.bool (_root_.QR.mskE 1 x y), .nilIface]) ∧ w = w' := by
  have h1 := and1_i64 (x := y) (by omega)
  obtain ⟨r, hr⟩ : ∃ r, y % 2 = r := ⟨_, rfl⟩
  rw [hr] at h1
  have HR := Lib.hid hr
  clear hr
  by_cases hr0 : r = 0
  · have hv := Lib.hid (show _root_.QR.mskE 1 x y = true by
      show (_ == 0) = true
      rw [beq_iff_eq]; have := HR.out; omega)
    subst hr0
    go_enter Tryz.func156, Tryz.ntmps156
    go_wp2
    go_ret2
    exact ⟨ret_tb hv.out.symm, rfl⟩
  · have hv := Lib.hid (show _root_.QR.mskE 1 x y = false by
      show (_ == 0) = false
      rw [beq_eq_false_iff_ne]; have := HR.out; omega)
    have hb : ((r : Int) == 0) = false := by simp; omega
    go_enter Tryz.func156, Tryz.ntmps156
    go_wp2
    go_ret2
    exact ⟨ret_tb hv.out.symm, rfl⟩

set_option maxRecDepth 100000 in
theorem mask2_ok (x y : Nat) (w : World) (hx : x < 1000) (hy : y < 1000) : Calls Tryz.prog 156 #[.int .i64 2, .int .i64 (x : Int), .int .i64 (y : Int)] w fun e w' => e = .returned (.tuple #[.bool (_root_.QR.mskE 2 x y), .nilIface]) ∧ w = w' := by
  obtain ⟨r, hr⟩ : ∃ r, x % 3 = r := ⟨_, rfl⟩
  have h1 : (x : Int) % 3 = (r : Int) := by omega
  have HR := Lib.hid hr
  clear hr
  by_cases hr0 : r = 0
  · have hv := Lib.hid (show _root_.QR.mskE 2 x y = true by
      show (_ == 0) = true
      rw [beq_iff_eq]; have := HR.out; omega)
    subst hr0
    go_enter Tryz.func156, Tryz.ntmps156
    go_wp2
    go_ret2
    exact ⟨ret_tb hv.out.symm, rfl⟩
  · have hv := Lib.hid (show _root_.QR.mskE 2 x y = false by
      show (_ == 0) = false
      rw [beq_eq_false_iff_ne]; have := HR.out; omega)
    have hb : ((r : Int) == 0) = false := by simp; omega
    go_enter Tryz.func156, Tryz.ntmps156
    go_wp2
    go_ret2
    exact ⟨ret_tb hv.out.symm, rfl⟩

set_option maxRecDepth 100000 in
theorem mask3_ok (x y : Nat) (w : World) (hx : x < 1000) (hy : y < 1000) : Calls Tryz.prog 156 #[.int .i64 3, .int .i64 (x : Int), .int .i64 (y : Int)] w fun e w' => e = .returned (.tuple #[.bool (_root_.QR.mskE 3 x y), .nilIface]) ∧ w = w' := by
  obtain ⟨r, hr⟩ : ∃ r, (y + x) % 3 = r := ⟨_, rfl⟩
  have h1 : ((y : Int) + (x : Int)) % 3 = (r : Int) := by omega
  have HR := Lib.hid hr
  clear hr
  by_cases hr0 : r = 0
  · have hv := Lib.hid (show _root_.QR.mskE 3 x y = true by
      show (_ == 0) = true
      rw [beq_iff_eq]; have := HR.out; omega)
    subst hr0
    go_enter Tryz.func156, Tryz.ntmps156
    go_wp2
    go_ret2
    exact ⟨ret_tb hv.out.symm, rfl⟩
  · have hv := Lib.hid (show _root_.QR.mskE 3 x y = false by
      show (_ == 0) = false
      rw [beq_eq_false_iff_ne]; have := HR.out; omega)
    have hb : ((r : Int) == 0) = false := by simp; omega
    go_enter Tryz.func156, Tryz.ntmps156
    go_wp2
    go_ret2
    exact ⟨ret_tb hv.out.symm, rfl⟩

set_option maxRecDepth 100000 in
theorem mask4_ok (x y : Nat) (w : World) (hx : x < 1000) (hy : y < 1000) : Calls Tryz.prog 156 #[.int .i64 4, .int .i64 (x : Int), .int .i64 (y : Int)] w fun e w' => e = .returned (.tuple #[.bool (_root_.QR.mskE 4 x y), .nilIface]) ∧ w = w' := by
  have h1 := and1_i64 (x := y / 2 + x / 3) (by omega)
  rw [show ((y / 2 + x / 3 : Nat) : Int) = (y : Int) / 2 + (x : Int) / 3 by omega] at h1
  obtain ⟨r, hr⟩ : ∃ r, (y / 2 + x / 3) % 2 = r := ⟨_, rfl⟩
  rw [hr] at h1
  have HR := Lib.hid hr
  clear hr
  by_cases hr0 : r = 0
  · have hv := Lib.hid (show _root_.QR.mskE 4 x y = true by
      show (_ == 0) = true
      rw [beq_iff_eq]; have := HR.out; omega)
    subst hr0
    go_enter Tryz.func156, Tryz.ntmps156
    go_wp2
    go_ret2
    exact ⟨ret_tb hv.out.symm, rfl⟩
  · have hv := Lib.hid (show _root_.QR.mskE 4 x y = false by
      show (_ == 0) = false
      rw [beq_eq_false_iff_ne]; have := HR.out; omega)
    have hb : ((r : Int) == 0) = false := by simp; omega
    go_enter Tryz.func156, Tryz.ntmps156
    go_wp2
    go_ret2
    exact ⟨ret_tb hv.out.symm, rfl⟩

set_option maxRecDepth 100000 in
theorem mask5_ok (x y : Nat) (w : World) (hx : x < 1000) (hy : y < 1000) : Calls Tryz.prog 156 #[.int .i64 5, .int .i64 (x : Int), .int .i64 (y : Int)] w fun e w' => e = .returned (.tuple #[.bool (_root_.QR.mskE 5 x y), .nilIface]) ∧ w = w' := by
  obtain ⟨p, hp⟩ : ∃ p, y * x = p := ⟨_, rfl⟩
  have hpl : p ≤ 1000000 := by rw [← hp]; exact Nat.mul_le_mul (show y ≤ 1000 by omega) (show x ≤ 1000 by omega)
  have h0 : (y : Int) * (x : Int) = (p : Int) := by rw [← hp]; simp
  have h1 := and1_i64 (x := p) (by omega)
  obtain ⟨a, ha⟩ : ∃ a, p % 2 = a := ⟨_, rfl⟩
  obtain ⟨c, hc⟩ : ∃ c, p % 3 = c := ⟨_, rfl⟩
  rw [ha] at h1
  have h2 : (p : Int) % 3 = (c : Int) := by omega
  obtain ⟨r, hr⟩ : ∃ r, a + c = r := ⟨_, rfl⟩
  have h3 : (a : Int) + (c : Int) = (r : Int) := by omega
  have HR := Lib.hid (show (y * x) % 2 + (y * x) % 3 = r by rw [hp, ha, hc, hr])
  have ha2 : a < 2 := by omega
  have hc2 : c < 3 := by omega
  clear hr ha hc hp
  by_cases hr0 : r = 0
  · have hv := Lib.hid (show _root_.QR.mskE 5 x y = true by
      show (_ == 0) = true
      rw [beq_iff_eq]; have := HR.out; omega)
    subst hr0
    go_enter Tryz.func156, Tryz.ntmps156
    go_wp2
    go_ret2
    exact ⟨ret_tb hv.out.symm, rfl⟩
  · have hv := Lib.hid (show _root_.QR.mskE 5 x y = false by
      show (_ == 0) = false
      rw [beq_eq_false_iff_ne]; have := HR.out; omega)
    have hb : ((r : Int) == 0) = false := by simp; omega
    go_enter Tryz.func156, Tryz.ntmps156
    go_wp2
    go_ret2
    exact ⟨ret_tb hv.out.symm, rfl⟩

set_option maxRecDepth 100000 in
theorem mask6_ok (x y : Nat) (w : World) (hx : x < 1000) (hy : y < 1000) : Calls Tryz.prog 156 #[.int .i64 6, .int .i64 (x : Int), .int .i64 (y : Int)] w fun e w' => e = .returned (.tuple #[.bool (_root_.QR.mskE 6 x y), .nilIface]) ∧ w = w' := by
  obtain ⟨p, hp⟩ : ∃ p, y * x = p := ⟨_, rfl⟩
  have hpl : p ≤ 1000000 := by rw [← hp]; exact Nat.mul_le_mul (show y ≤ 1000 by omega) (show x ≤ 1000 by omega)
  have h0 : (y : Int) * (x : Int) = (p : Int) := by rw [← hp]; simp
  have h1 := and1_i64 (x := p) (by omega)
  obtain ⟨a, ha⟩ : ∃ a, p % 2 = a := ⟨_, rfl⟩
  obtain ⟨c, hc⟩ : ∃ c, p % 3 = c := ⟨_, rfl⟩
  rw [ha] at h1
  have h2 : (p : Int) % 3 = (c : Int) := by omega
  have h3 := and1_i64 (x := a + c) (by omega)
  rw [Int.natCast_add] at h3
  obtain ⟨r, hr⟩ : ∃ r, (a + c) % 2 = r := ⟨_, rfl⟩
  rw [hr] at h3
  have HR := Lib.hid (show ((y * x) % 2 + (y * x) % 3) % 2 = r by rw [hp, ha, hc, hr])
  have ha2 : a < 2 := by omega
  have hc2 : c < 3 := by omega
  clear hr ha hc hp
  by_cases hr0 : r = 0
  · have hv := Lib.hid (show _root_.QR.mskE 6 x y = true by
      show (_ == 0) = true
      rw [beq_iff_eq]; have := HR.out; omega)
    subst hr0
    go_enter Tryz.func156, Tryz.ntmps156
    go_wp2
    go_ret2
    exact ⟨ret_tb hv.out.symm, rfl⟩
  · have hv := Lib.hid (show _root_.QR.mskE 6 x y = false by
      show (_ == 0) = false
      rw [beq_eq_false_iff_ne]; have := HR.out; omega)
    have hb : ((r : Int) == 0) = false := by simp; omega
    go_enter Tryz.func156, Tryz.ntmps156
    go_wp2
    go_ret2
    exact ⟨ret_tb hv.out.symm, rfl⟩

set_option maxRecDepth 100000 in
theorem mask7_ok (x y : Nat) (w : World) (hx : x < 1000) (hy : y < 1000) : Calls Tryz.prog 156 #[.int .i64 7, .int .i64 (x : Int), .int .i64 (y : Int)] w fun e w' => e = .returned (.tuple #[.bool (_root_.QR.mskE 7 x y), .nilIface]) ∧ w = w' := by
  obtain ⟨p, hp⟩ : ∃ p, y * x = p := ⟨_, rfl⟩
  have hpl : p ≤ 1000000 := by rw [← hp]; exact Nat.mul_le_mul (show y ≤ 1000 by omega) (show x ≤ 1000 by omega)
  have h0 : (y : Int) * (x : Int) = (p : Int) := by rw [← hp]; simp
  have h1 := and1_i64 (x := y + x) (by omega)
  rw [Int.natCast_add] at h1
  obtain ⟨a, ha⟩ : ∃ a, (y + x) % 2 = a := ⟨_, rfl⟩
  obtain ⟨c, hc⟩ : ∃ c, p % 3 = c := ⟨_, rfl⟩
  rw [ha] at h1
  have h2 : (p : Int) % 3 = (c : Int) := by omega
  have h3 := and1_i64 (x := c + a) (by omega)
  rw [Int.natCast_add] at h3
  obtain ⟨r, hr⟩ : ∃ r, (c + a) % 2 = r := ⟨_, rfl⟩
  rw [hr] at h3
  have HR := Lib.hid (show ((y * x) % 3 + (y + x) % 2) % 2 = r by rw [hp, ha, hc, hr])
  have ha2 : a < 2 := by omega
  have hc2 : c < 3 := by omega
  clear hr ha hc hp
  by_cases hr0 : r = 0
  · have hv := Lib.hid (show _root_.QR.mskE 7 x y = true by
      show (_ == 0) = true
      rw [beq_iff_eq]; have := HR.out; omega)
    subst hr0
    go_enter Tryz.func156, Tryz.ntmps156
    go_wp2
    go_ret2
    exact ⟨ret_tb hv.out.symm, rfl⟩
  · have hv := Lib.hid (show _root_.QR.mskE 7 x y = false by
      show (_ == 0) = false
      rw [beq_eq_false_iff_ne]; have := HR.out; omega)
    have hb : ((r : Int) == 0) = false := by simp; omega
    go_enter Tryz.func156, Tryz.ntmps156
    go_wp2
    go_ret2
    exact ⟨ret_tb hv.out.symm, rfl⟩

theorem mask_ok (m x y : Nat) (w : World) (hm : m < 8) (hx : x < 1000) (hy : y < 1000) (M X Y : Int) (hM : M = (m : Int)) (hX : X = (x : Int)) (hY : Y = (y : Int)) :
    Calls Tryz.prog 156 #[.int .i64 M, .int .i64 X, .int .i64 Y] w fun e w' => e = .returned (.tuple #[.bool (_root_.QR.mskE m x y), .nilIface]) ∧ w = w' := by
  subst hM hX hY
  obtain rfl | rfl | rfl | rfl | rfl | rfl | rfl | rfl : m = 0 ∨ m = 1 ∨ m = 2 ∨ m = 3 ∨ m = 4 ∨ m = 5 ∨ m = 6 ∨ m = 7 := by omega
  · exact mask0_ok x y w hx hy
  · exact mask1_ok x y w hx hy
  · exact mask2_ok x y w hx hy
  · exact mask3_ok x y w hx hy
  · exact mask4_ok x y w hx hy
  · exact mask5_ok x y w hx hy
  · exact mask6_ok x y w hx hy
  · exact mask7_ok x y w hx hy

set_option maxRecDepth 100000 in
set_option maxHeartbeats 800000 in
theorem versionBits_ok (s vb b c : Nat) (w : World) (hV : Ver w s vb 7) (hvb : vb < b) (hc : vb < c) (h : BA w b c []) :
    Calls Tryz.prog 154 #[.pointer (some ⟨vb, 0, none⟩), .pointer (some ⟨b, 0, none⟩)] w fun e w' => e = .returned .nilIface ∧ Grow w b c w' (QR.bitsOf 18 31892) := by
  have HV := Lib.hid hV
  have G0 := Lib.hid (Grow.start h)
  have hlt := Lib.hid (And.intro hvb hc)
  have hVk : Hid (∀ w', Keeps (fun i => i = b ∨ i = c) w w' → Ver w' s vb 7) := Lib.hid (fun w' hk => HV.out.keep hk (fun i h1 h2 h => by have := hlt.out; omega))
  obtain ⟨t1, t2, t3⟩ := bchV_ok
  have T1 := Lib.hid t1
  have T3 := Lib.hid t3
  clear hV hvb hc h t1 t3
  generalize bchV = r at *
  go_enter Tryz.func154, Tryz.ntmps154
  go_wp2_with fail
  refine (getNumber_ok s vb 7 w HV.out).mono ?_
  rintro e w1 ⟨rfl, rfl⟩
  go_wp2_with fail
  refine (appendBits_g w w b c 6 [] 7 G0.out (by omega) (by omega) (by simp) _ _ rfl rfl).mono ?_
  rintro e w1 ⟨rfl, g⟩
  have G1 := Lib.hid g
  clear g
  go_wp2_with fail
  refine (getNumber_ok s vb 7 w1 (hVk.out _ G1.out.keeps)).mono ?_
  rintro e w2 ⟨rfl, rfl⟩
  go_wp2_with fail
  refine (bch_ok 7 7973 r (by omega) (by omega) (by omega) (by decide) (by decide) T1.out w1 _ _ rfl rfl).mono ?_
  rintro e w2 ⟨rfl, rfl⟩
  go_wp2_with fail
  refine (appendBits_g w w1 b c 12 _ r G1.out (by omega) (by omega) (by simp [_root_.QR.bitsOf_length]) _ _ rfl rfl).mono ?_
  rintro e w2 ⟨rfl, g⟩
  have G2 := Lib.hid (g.congr (l' := QR.bitsOf 18 31892) (by rw [List.nil_append]; exact T3.out))
  clear g
  go_wp2_with fail
  refine (getSize_g w w2 b c _ G2.out).mono ?_
  rw [show (QR.bitsOf 18 31892).length = 18 from _root_.QR.bitsOf_length _ _]
  rintro e w3 ⟨rfl, rfl⟩
  go_wp2
  go_ret
  exact ⟨rfl, G2.out⟩

set_option maxRecDepth 100000 in
set_option maxHeartbeats 2400000 in
theorem versionInfo_ok (s vb v yb ym n : Nat) (g : Nat → Nat) (f : Nat → Nat → Int) (w : World) (hV : Ver w s vb v) (h1 : 1 ≤ v) (h7 : v ≤ 7) (h : YM w yb ym n g f) (hn : n = _root_.QR.side v) :
    Calls Tryz.prog 127 #[.pointer (some ⟨vb, 0, none⟩), .pointer (some ⟨yb, 0, none⟩)] w fun e w' => e = .returned .nilIface ∧
      YM w' yb ym n g (if v < 7 then f else _root_.QR.vinfo n (QR.bitsOf 18 31892) 18 0 f) ∧ Keeps (inRows g n) w w' := by
  have HV := Lib.hid hV
  have HH := Lib.hid h
  have HN := Lib.hid hn
  clear hV h hn
  by_cases hv : v < 7
  · rw [if_pos hv]
    have hv' : (v : Int) < 7 := by omega
    go_enter Tryz.func127, Tryz.ntmps127
    go_wp2_with fail
    refine (getNumber_ok s vb v w HV.out).mono ?_
    rintro e w1 ⟨rfl, rfl⟩
    go_wp2
    go_ret
    exact ⟨rfl, HH.out, Keeps.refl _ _⟩
  · obtain rfl : v = 7 := by omega
    rw [if_neg (by omega)]
    have hn45 : n ≤ 45 := by rw [HN.out]; decide
    have hn21 : 21 ≤ n := by rw [HN.out]; decide
    obtain ⟨bits, hbits⟩ : ∃ bits, QR.bitsOf 18 31892 = bits := ⟨_, rfl⟩
    have HLEN := Lib.hid (show bits.length = 18 by rw [← hbits]; exact _root_.QR.bitsOf_length _ _)
    have HBITS := Lib.hid hbits
    rw [hbits]
    obtain ⟨FIN, hFIN⟩ : ∃ F, _root_.QR.vinfo n bits 18 0 f = F := ⟨_, rfl⟩
    have HFIN := Lib.hid hFIN
    rw [hFIN]
    have hvl := HV.out.ltb
    clear hbits hFIN
    go_enter Tryz.func127, Tryz.ntmps127
    go_wp2_with fail
    refine (getNumber_ok s vb 7 w HV.out).mono ?_
    rintro e w1 ⟨rfl, rfl⟩
    go_wp2_with fail
    refine (newEmpty_ok w).mono ?_
    rintro e w1 ⟨rfl, n1, n2, n3⟩
    have V1 := Lib.hid (HV.out.keep n2 (fun _ _ _ h => h))
    have N1 := Lib.hid n1
    have Y1 := Lib.hid (HH.out.keep n2 (fun h => h) (fun h => h) (fun _ _ h => h))
    have K1 := Lib.hid n2
    clear n1 n2 n3
    go_wp2_with fail
    refine (versionBits_ok s vb (w.heap.size + 1) w.heap.size w1 V1.out (by omega) (by omega) N1.out).mono ?_
    rw [HBITS.out]
    rintro e w2 ⟨rfl, t1⟩
    obtain ⟨c', q1, q2, q3⟩ := t1
    have hk2 : Keeps (fun _ => False) w w2 := K1.out.step q3 (fun i hi h => by omega)
    have T2 := Lib.hid q1
    have Y2 := Lib.hid (HH.out.keep hk2 (fun h => h) (fun h => h) (fun _ _ h => h))
    have K2 := Lib.hid (hk2.mono (S' := inRows g n) (fun _ _ h => h.elim))
    obtain ⟨b, hb⟩ : ∃ b, w.heap.size + 1 = b := ⟨_, rfl⟩
    rw [hb] at T2
    rw [hb]
    clear q1 q2 q3 hk2 hb
    go_wp2_with fail
    go_loopw [7, 8] (fun s7 s8 wr => ∃ (i : Nat) (N : Nat → Nat → Int), i ≤ 6 ∧ s8 = .int .i64 (i : Int) ∧ s7 = .int .i64 (17 - 3 * (i : Int)) ∧ YM wr yb ym n g N ∧ Hid (_root_.QR.vinfo n bits (18 - 3 * i) (3 * i) N = FIN) ∧ BA wr b c' bits ∧ Keeps (inRows g n) w wr) (fun _ s8 _ => 6 - (intOf s8).toNat)
    case atStart => exact ⟨0, f, by omega, rfl, rfl, Y2.out, HFIN, T2.out, K2.out⟩
    case round =>
      obtain ⟨i, N, hi6, rfl, rfl, y1, hfin, y2, y3⟩ := hrel
      have Y := Lib.hid (And.intro y1 (And.intro y2 y3))
      clear y1 y2 y3
      by_cases hi : i < 6
      · have hi' : (i : Int) < 6 := by omega
        go_wp2_with fail
        go_loopw [7, 9] (fun s7 s9 wr => ∃ (j : Nat) (N : Nat → Nat → Int), j ≤ 3 ∧ s9 = .int .i64 (j : Int) ∧ s7 = .int .i64 (17 - 3 * (i : Int) - (j : Int)) ∧ YM wr yb ym n g N ∧ Hid (_root_.QR.vinfo n bits (18 - (3 * i + j)) (3 * i + j) N = FIN) ∧ BA wr b c' bits ∧ Keeps (inRows g n) w wr) (fun _ s9 _ => 3 - (intOf s9).toNat)
        case atStart => exact ⟨0, N, by omega, rfl, by congr 1; omega, Y.out.1, hfin, Y.out.2⟩
        case round =>
          obtain ⟨j, N, hj3, rfl, rfl, y1, hfin, y2, y3⟩ := hrel
          have Y := Lib.hid (And.intro y1 (And.intro y2 y3))
          clear y1 y2 y3
          by_cases hj : j < 3
          · have hj' : (j : Int) < 3 := by omega
            obtain ⟨v, hv⟩ : ∃ v, bits.getD (17 - (3 * i + j)) false = v := ⟨_, rfl⟩
            have HVV := Lib.hid hv
            have HSTEP := Lib.hid (show _root_.QR.vinfo n bits (18 - (3 * i + j + 1)) (3 * i + j + 1) (_root_.QR.vstep n N i j v) = FIN by
              have h := hfin.out
              rw [show 18 - (3 * i + j) = (18 - (3 * i + j + 1)) + 1 by omega] at h
              have e1 : (3 * i + j) / 3 = i := by omega
              have e2 : (3 * i + j) % 3 = j := by omega
              have h2 : _root_.QR.vinfo n bits (18 - (3 * i + j + 1)) (3 * i + j + 1) (_root_.QR.vstep n N ((3 * i + j) / 3) ((3 * i + j) % 3) (bits.getD (17 - (3 * i + j)) false)) = FIN := h
              rw [e1, e2, hv] at h2
              exact h2)
            clear hv
            go_wp2_with fail
            refine (get_ok b c' (17 - (3 * i + j)) bits _ Y.out.2.1 (by rw [HLEN.out]; omega) _ (by omega) v HVV.out).mono ?_
            rintro e w3 ⟨rfl, rfl⟩
            go_wp2_with fail
            refine (ymH_ok yb ym n g _ _ Y.out.1).mono ?_
            rintro e w3 ⟨rfl, rfl⟩
            go_wp2_with fail
            refine (ymSetBool_ok yb ym n i (n - 11 + j) g N _ Y.out.1 (by omega) (by omega) _ _ rfl (by omega) v).mono ?_
            rintro e w4 ⟨rfl, u1, u2⟩
            have U := Lib.hid (And.intro u1 (And.intro (Y.out.2.1.keepS u2 (fun i hi => ⟨145, Y.out.1.rowT i hi, by decide, by decide⟩)) (Y.out.2.2.trans u2)))
            clear u1 u2
            go_wp2_with fail
            refine (ymH_ok yb ym n g _ _ U.out.1).mono ?_
            rintro e w5 ⟨rfl, rfl⟩
            go_wp2_with fail
            refine (ymSetBool_ok yb ym n (n - 11 + j) i g _ _ U.out.1 (by omega) (by omega) _ _ (by omega) rfl v).mono ?_
            rintro e w5 ⟨rfl, u1, u2⟩
            have hM : Hid (YM w5 yb ym n g (_root_.QR.vstep n N i j v)) := Lib.hid u1
            have V2 := Lib.hid (And.intro (U.out.2.1.keepS u2 (fun i hi => ⟨145, U.out.1.rowT i hi, by decide, by decide⟩)) (U.out.2.2.trans u2))
            clear u1 u2
            go_wp2
            go_roundw
            case rel => exact ⟨j + 1, _, by omega, by go_num, by congr 1; omega, hM.out, HSTEP, V2.out⟩
            case measure => simp [intOf]; omega
          · obtain rfl : j = 3 := by omega
            go_wp2
            go_roundw
            case rel => exact ⟨i + 1, N, by omega, by go_num, by congr 1; omega, Y.out.1, hfin, Y.out.2⟩
            case measure => simp [intOf]; omega
      · obtain rfl : i = 6 := by omega
        have hM : Hid (N = FIN) := Lib.hid hfin.out
        go_wp2
        go_ret
        exact ⟨rfl, by rw [← hM.out]; exact Y.out.1, Y.out.2.2⟩

end Go.Proofs.YtplpafbkalkchaaGreatDoor
