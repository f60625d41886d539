/-
  Parts of the proof (BA, BM, FB, BM3, BM4).
-/
import Derived.Test.YtplpafbkalkchaaGreatDoorM01
import Derived.Test.YtplpafbkalkchaaGreatDoorM05
import Derived.Test.YtplpafbkalkchaaGreatDoorProg
set_option linter.unusedSimpArgs false
set_option linter.unusedVariables false

namespace Go.Proofs.YtplpafbkalkchaaGreatDoor
open Go.RowKit

theorem info151 : (Tryz.prog.info? 151).map (fun i => (i.zero, i.size, i.bytes)) = some (some (.int .u32 0), 1, 4) := by kernel_rfl

set_option maxRecDepth 100000 in
theorem makeArray_raw (n : Nat) (hn : n ≤ 1000000) (w : World) : Calls Tryz.prog 101 #[.int .i64 n] w fun e w' =>
    e = .returned (.slice (some ⟨w.heap.size, 0, none⟩) ((n + 31) / 32) ((n + 31) / 32)) ∧ w.alloc (.cells (rep ((n + 31) / 32) (.int .u32 0)).toArray 151) = w' := by
  have hmk := make_rep (P := Tryz.prog) 148 151 (.int .u32 0) 4 Tryz.underlying148 info151 rfl ((n + 31) / 32) (by omega) (by omega)
  rw [show (((n + 31) / 32 : Nat) : Int) = ((n : Int) + 31) / 32 by omega] at hmk
  go_enter Tryz.func101, Tryz.ntmps101
  go_wp2
  go_ret
  exact ⟨rfl, rfl⟩

theorem newEmpty_raw (w : World) : Calls Tryz.prog 41 #[] w fun e w' =>
    e = .returned (.pointer (some ⟨w.heap.size + 1, 0, none⟩)) ∧ (w.alloc (.cells (rep 1 (.int .u32 0)).toArray 151)).alloc (.cells #[.slice (some ⟨w.heap.size, 0, none⟩) 1 1, .int .i64 0] 193) = w' := by
  go_enter Tryz.func41, Tryz.ntmps41
  go_wp2_with (go_at_call 101; refine (makeArray_raw 1 (by omega) _).mono ?_; rintro e w' ⟨rfl, rfl⟩)
  go_ret
  exact ⟨rfl, rfl⟩

theorem getSize_raw (b : Nat) (n : Int) (w : World) (h1 : w.cell? ⟨b, 1, none⟩ = some (.int .i64 n)) : Calls Tryz.prog 110 #[.pointer (some ⟨b, 0, none⟩)] w fun e w' =>
    e = .returned (.int .i64 n) ∧ w = w' := by
  go_enter Tryz.func110, Tryz.ntmps110
  go_wp2
  go_ret
  exact ⟨rfl, rfl⟩

/-- There is room. -/
theorem ensure_room (b n : Nat) (cp : Option Addr) (k : Nat) (w : World) (hk : k ≤ n * 32) (hn : n ≤ 1000000) (h0 : w.cell? ⟨b, 0, none⟩ = some (.slice cp n n)) :
    Calls Tryz.prog 113 #[.pointer (some ⟨b, 0, none⟩), .int .i64 k] w fun e w' => e = .returned (.tuple #[]) ∧ w = w' := by
  have hd : ¬ ((n : Int) * 32 < k) := by omega
  go_enter Tryz.func113, Tryz.ntmps113
  go_wp2
  go_end0
  exact ⟨rfl, rfl⟩

set_option maxRecDepth 100000 in
theorem ensure_more (b n c : Nat) (k : Nat) (w : World) (cs : List Value) (hk : n * 32 < k) (hk2 : k ≤ 1000000) (hn : cs.length = n) (hc : Blk w c cs 151) (hcb : c ≠ b) (h1 : ∀ v ∈ cs, v.oneCell' = true) (x1 : Value) (hb : Blk w b [.slice (some ⟨c, 0, none⟩) n n, x1] 193) :
    Calls Tryz.prog 113 #[.pointer (some ⟨b, 0, none⟩), .int .i64 k] w fun e w' => e = .returned (.tuple #[]) ∧
      Blk w' b [.slice (some ⟨w.heap.size, 0, none⟩) ((k + 31) / 32) ((k + 31) / 32), x1] 193 ∧ Blk w' w.heap.size (cs ++ rep ((k + 31) / 32 - n) (.int .u32 0)) 151 ∧ Keeps (fun i => i = b) w w' := by
  have hd : ((n : Int) * 32 < k) := by omega
  have h0 : w.cell? ⟨b, 0, none⟩ = some (.slice (some ⟨c, 0, none⟩) n n) := hb.cell rfl
  have hbl := hb.lt
  have hcl := hc.lt
  have hnew := Blk.new w (rep ((k + 31) / 32) (.int .u32 0)) 151
  have hcp := copy_blk (P := Tryz.prog) _ 148 148 3 151 Tryz.underlying148 (by kernel_rfl) w.heap.size 0 ((k + 31) / 32) ((k + 31) / 32) c 0 n n _ _ hnew cs (by omega)
    (fun j v hj => by rw [Nat.zero_add]; exact (hc.alloc _).cell hj) (by rw [rep_length]; omega) h1
  have hrow := hnew.setRow ((rep ((k + 31) / 32) (.int .u32 0)).take 0 ++ cs ++ (rep ((k + 31) / 32) (.int .u32 0)).drop (0 + cs.length))
  have hb2 := (hb.alloc (.cells (rep ((k + 31) / 32) (.int .u32 0)).toArray 151)).setRow_far (g := w.heap.size) (by omega) ((rep ((k + 31) / 32) (.int .u32 0)).take 0 ++ cs ++ (rep ((k + 31) / 32) (.int .u32 0)).drop (0 + cs.length)).toArray
  have hkk : Keeps (fun i => i = b) w ((w.alloc (.cells (rep ((k + 31) / 32) (.int .u32 0)).toArray 151)).setRow w.heap.size ((rep ((k + 31) / 32) (.int .u32 0)).take 0 ++ cs ++ (rep ((k + 31) / 32) (.int .u32 0)).drop (0 + cs.length)).toArray) :=
    ((Keeps.refl _ w).alloc _).setRow (Or.inr (Nat.le_refl _)) _
  generalize (w.alloc (.cells (rep ((k + 31) / 32) (.int .u32 0)).toArray 151)).setRow w.heap.size ((rep ((k + 31) / 32) (.int .u32 0)).take 0 ++ cs ++ (rep ((k + 31) / 32) (.int .u32 0)).drop (0 + cs.length)).toArray = W2 at *
  have g0 := hb2.cell (i := 0) rfl
  have g1 := hb2.free 0
  go_enter Tryz.func113, Tryz.ntmps113
  go_wp2_with (go_at_call 101; refine (makeArray_raw k (by omega) _).mono ?_; rintro e w' ⟨rfl, rfl⟩)
  go_end0
  refine ⟨rfl, by simpa using hb2.set 0 _, ?_, hkk.setCell (Or.inl rfl) _⟩
  have e : (rep ((k + 31) / 32) (Value.int .u32 0)).take 0 ++ cs ++ (rep ((k + 31) / 32) (Value.int .u32 0)).drop (0 + cs.length) = cs ++ rep ((k + 31) / 32 - n) (.int .u32 0) := by
    simp [rep, hn]
  rw [e] at hrow
  exact hrow.far (by show w.heap.size ≠ b; omega) _


/-- A BitArray at block b, its words in block c, n of them: its size, and its bits. -/
def BAn (w : World) (b c n len : Nat) (l : List Bool) : Prop :=
  ∃ ws : List Nat, ws.length = n ∧ (∀ x ∈ ws, x < 4294967296) ∧ c ≠ b ∧ Blk w b [.slice (some ⟨c, 0, none⟩) n n, .int .i64 (len : Int)] 193 ∧ Blk w c (ws.map vu32) 151 ∧ ∀ i, wbit ws i = l.getD i false
def BA (w : World) (b c : Nat) (l : List Bool) : Prop := ∃ n, l.length ≤ 32 * n ∧ n ≤ 100000 ∧ BAn w b c n l.length l
theorem BAn.keep {S : Nat → Prop} {w w' : World} {b c n len : Nat} {l : List Bool} (h : BAn w b c n len l) (hk : Keeps S w w') (hb : ¬ S b) (hc : ¬ S c) : BAn w' b c n len l := by
  obtain ⟨ws, h1, h2, h3, h4, h5, h6⟩ := h
  exact ⟨ws, h1, h2, h3, h4.keep hk hb, h5.keep hk hc, h6⟩
theorem BA.keep {S : Nat → Prop} {w w' : World} {b c : Nat} {l : List Bool} (h : BA w b c l) (hk : Keeps S w w') (hb : ¬ S b) (hc : ¬ S c) : BA w' b c l := by
  obtain ⟨n, h1, h2, h3⟩ := h
  exact ⟨n, h1, h2, h3.keep hk hb hc⟩
theorem BA.ltb {w : World} {b c : Nat} {l : List Bool} (h : BA w b c l) : b < w.heap.size := by
  obtain ⟨n, _, _, ws, _, _, _, h4, _⟩ := h; exact h4.lt
theorem BA.ltc {w : World} {b c : Nat} {l : List Bool} (h : BA w b c l) : c < w.heap.size := by
  obtain ⟨n, _, _, ws, _, _, _, _, h5, _⟩ := h; exact h5.lt
theorem BA.ne {w : World} {b c : Nat} {l : List Bool} (h : BA w b c l) : c ≠ b := by
  obtain ⟨n, _, _, ws, _, _, h3, _⟩ := h; exact h3

theorem newEmpty_ok (w : World) : Calls Tryz.prog 41 #[] w fun e w' =>
    e = .returned (.pointer (some ⟨w.heap.size + 1, 0, none⟩)) ∧ BA w' (w.heap.size + 1) w.heap.size [] ∧ Keeps (fun _ => False) w w' ∧ w'.heap.size = w.heap.size + 2 :=
  (newEmpty_raw w).mono fun e w' ⟨he, hw⟩ => by
    subst hw
    have h1 := (Blk.new w (rep 1 (.int .u32 0)) 151).alloc (.cells #[.slice (some ⟨w.heap.size, 0, none⟩) 1 1, .int .i64 0] 193)
    have h2 := Blk.new (w.alloc (.cells (rep 1 (.int .u32 0)).toArray 151)) [.slice (some ⟨w.heap.size, 0, none⟩) 1 1, .int .i64 0] 193
    have hs : (w.alloc (.cells (rep 1 (.int .u32 0)).toArray 151)).heap.size = w.heap.size + 1 := by simp
    rw [hs] at h2
    exact ⟨he, ⟨1, by simp, by omega, [0], rfl, by simp, by omega, h2, h1, fun i => by rw [show ([0] : List Nat) = List.replicate 1 0 from rfl, wbit_zeros]; simp⟩,
      ((Keeps.refl _ w).alloc _).alloc _, by simp⟩

theorem getSize_ok (b c : Nat) (l : List Bool) (w : World) (h : BA w b c l) : Calls Tryz.prog 110 #[.pointer (some ⟨b, 0, none⟩)] w fun e w' =>
    e = .returned (.int .i64 (l.length : Int)) ∧ w = w' := by
  obtain ⟨n, _, _, ws, _, _, _, h4, _⟩ := h
  exact getSize_raw b _ w (h4.cell rfl)

theorem getSizeB_ok (b c : Nat) (l : List Bool) (w : World) (h : BA w b c l) : Calls Tryz.prog 51 #[.pointer (some ⟨b, 0, none⟩)] w fun e w' =>
    e = .returned (.int .i64 (((l.length + 7) / 8 : Nat) : Int)) ∧ w = w' := by
  obtain ⟨n, hl, hn, ws, _, _, _, h4, _⟩ := h
  have h1 := h4.cell (i := 1) rfl
  go_enter Tryz.func51, Tryz.ntmps51
  go_wp2
  go_ret
  exact ⟨by congr 2, rfl⟩

set_option maxRecDepth 100000 in
/-- Room for k bits. -/
theorem ensure_ok (b c len k : Nat) (l : List Bool) (w : World) (n : Nat) (hn : n ≤ 100000) (h : BAn w b c n len l) (hk : k ≤ 1000000) (K : Int) (hK : K = (k : Int)) :
    Calls Tryz.prog 113 #[.pointer (some ⟨b, 0, none⟩), .int .i64 K] w fun e w' => e = .returned (.tuple #[]) ∧
      ∃ c' n', BAn w' b c' n' len l ∧ k ≤ 32 * n' ∧ n' ≤ 100000 ∧ (c' = c ∨ c' = w.heap.size) ∧ Keeps (fun i => i = b) w w' ∧ (k ≤ 32 * n → c' = c ∧ n' = n) := by
  subst hK
  obtain ⟨ws, h1, h2, h3, h4, h5, h6⟩ := h
  by_cases hr : k ≤ n * 32
  · refine (ensure_room b n _ k w hr (by omega) (h4.cell rfl)).mono fun e w' ⟨he, hw⟩ => ?_
    subst hw
    exact ⟨he, c, n, ⟨ws, h1, h2, h3, h4, h5, h6⟩, by omega, hn, Or.inl rfl, Keeps.refl _ _, fun _ => ⟨rfl, rfl⟩⟩
  · refine (ensure_more b n c k w (ws.map vu32) (by omega) hk (by simpa using h1) h5 h3 (one_u32 ws) _ h4).mono fun e w' ⟨he, k1, k2, k3⟩ => ?_
    refine ⟨he, w.heap.size, (k + 31) / 32, ⟨ws ++ List.replicate ((k + 31) / 32 - n) 0, by simp; omega, ?_, ?_, k1, ?_, fun i => by rw [wbit_append]; exact h6 i⟩, by omega, by omega, Or.inr rfl, k3, fun h => by omega⟩
    · intro x hx
      rcases List.mem_append.1 hx with hx | hx
      · exact h2 x hx
      · have := List.eq_of_mem_replicate hx; omega
    · have := h4.lt; omega
    · have e : (ws ++ List.replicate ((k + 31) / 32 - n) 0).map vu32 = ws.map vu32 ++ rep ((k + 31) / 32 - n) (.int .u32 0) := by simp [rep, vu32]
      rw [e]; exact k2

/-- What the loop of AppendBits keeps: the words, while the size stands. -/
def AppRel (w0 : World) (b c n len : Nat) (l : List Bool) (wr : World) : Prop := BAn wr b c n len l ∧ Keeps (fun k => k = b ∨ k = c) w0 wr
theorem AppRel.words {w0 wr : World} {b c n len : Nat} {l : List Bool} (h : AppRel w0 b c n len l wr) (i : Nat) (hi : i < 32 * n) :
    ∃ x : Nat, x < 4294967296 ∧ wr.cell? ⟨b, 0, none⟩ = some (.slice (some ⟨c, 0, none⟩) n n) ∧ wr.cell? ⟨c, i / 32, none⟩ = some (.int .u32 (x : Int)) ∧ wr.frozen? ⟨c, i / 32, none⟩ = false ∧
      (i = l.length → AppRel w0 b c n len (l ++ [true]) (wr.setCell ⟨c, i / 32, none⟩ (.int .u32 ((x ||| 2 ^ (i % 32) : Nat) : Int)))) := by
  obtain ⟨⟨ws, h1, h2, h3, h4, h5, h6⟩, hk⟩ := h
  have hlt : i / 32 < ws.length := by omega
  refine ⟨ws.getD (i / 32) 0, lt_of_getD h2 _, h4.cell rfl, h5.cell (map_u32_get hlt), h5.free _, fun hi => ?_⟩
  have hb := h5.set (i / 32) (.int .u32 ((ws.getD (i / 32) 0 ||| 2 ^ (i % 32) : Nat) : Int))
  refine ⟨⟨ws.set (i / 32) (ws.getD (i / 32) 0 ||| 2 ^ (i % 32)), by simpa using h1, lt_set h2 (or_lt (lt_of_getD h2 _) (by omega)), h3, h4.far (fun e => h3 e.symm) _, ?_, fun j => ?_⟩, hk.setCell (Or.inl (Or.inr rfl)) _⟩
  · rw [List.map_set]; exact hb
  · rw [wbit_set hlt, h6 j, getD_snoc]
    by_cases e : j = i
    · rw [if_pos e, if_pos (by omega)]
    · rw [if_neg e, if_neg (by omega)]
theorem AppRel.zero {w0 wr : World} {b c n len : Nat} {l : List Bool} (h : AppRel w0 b c n len l wr) : AppRel w0 b c n len (l ++ [false]) wr := by
  obtain ⟨⟨ws, h1, h2, h3, h4, h5, h6⟩, hk⟩ := h
  refine ⟨⟨ws, h1, h2, h3, h4, h5, fun j => ?_⟩, hk⟩
  rw [h6 j, getD_snoc]
  by_cases e : j = l.length
  · subst e; simp [List.getD]
  · rw [if_neg e]
theorem AppRel.drew {w0 wr : World} {b c n len : Nat} {l : List Bool} (h : AppRel w0 b c n len l wr) : AppRel w0 b c n len l wr.drew := ⟨h.1, h.2.drew⟩
theorem AppRel.doneN {w0 wr : World} {b c n len : Nat} {l : List Bool} (h : AppRel w0 b c n len l wr) :
    BAn (wr.setCell ⟨b, 1, none⟩ (.int .i64 (l.length : Int))) b c n l.length l ∧ Keeps (fun k => k = b ∨ k = c) w0 (wr.setCell ⟨b, 1, none⟩ (.int .i64 (l.length : Int))) := by
  obtain ⟨⟨ws, h1, h2, h3, h4, h5, h6⟩, hk⟩ := h
  exact ⟨⟨ws, h1, h2, h3, by simpa using h4.set 1 (.int .i64 (l.length : Int)), h5.far h3 _, h6⟩, hk.setCell (Or.inl (Or.inl rfl)) _⟩
/-- The size is laid. -/
theorem AppRel.done {w0 wr : World} {b c n len : Nat} {l : List Bool} (h : AppRel w0 b c n len l wr) (hl : l.length ≤ 32 * n) (hn : n ≤ 100000) :
    BA (wr.setCell ⟨b, 1, none⟩ (.int .i64 (l.length : Int))) b c l ∧ Keeps (fun k => k = b ∨ k = c) w0 (wr.setCell ⟨b, 1, none⟩ (.int .i64 (l.length : Int))) := by
  obtain ⟨⟨ws, h1, h2, h3, h4, h5, h6⟩, hk⟩ := h
  exact ⟨⟨n, hl, hn, ws, h1, h2, h3, by simpa using h4.set 1 (.int .i64 (l.length : Int)), h5.far h3 _, h6⟩, hk.setCell (Or.inl (Or.inl rfl)) _⟩

theorem bitsOf_take (n v j : Nat) (h : j < n) : (QR.bitsOf n v).take (j + 1) = (QR.bitsOf n v).take j ++ [v.testBit (n - 1 - j)] := by
  induction n generalizing j with
  | zero => omega
  | succ n ih =>
    cases j with
    | zero => simp [QR.bitsOf]
    | succ j => simp only [QR.bitsOf, List.take_succ_cons, ih j (by omega), List.cons_append]; congr 4; omega

set_option maxRecDepth 100000 in
set_option maxHeartbeats 400000 in
theorem appendBits_walk (b c m k : Nat) (l : List Bool) (v : Nat) (w : World) (hk : k ≤ 32) (hv : v < 4611686018427387904) (hm : m ≤ 100000) (h : BAn w b c m l.length l) (hlen2 : l.length ≤ 100000) :
    Calls Tryz.prog 103 #[.pointer (some ⟨b, 0, none⟩), .int .i64 v, .int .i64 k] w fun e w' => e = .returned .nilIface ∧
      ∃ c' n', BAn w' b c' n' (l ++ QR.bitsOf k v).length (l ++ QR.bitsOf k v) ∧ l.length + k ≤ 32 * n' ∧ n' ≤ 100000 ∧ (c' = c ∨ c' = w.heap.size) ∧ Keeps (fun i => i = b ∨ i = c) w w' ∧ (l.length + k ≤ 32 * m → c' = c ∧ n' = m) := by
  have h1 : w.cell? ⟨b, 1, none⟩ = some (.int .i64 (l.length : Int)) := by obtain ⟨ws, _, _, _, h4, _⟩ := h; exact h4.cell rfl
  have hc1 : (decide ((k : Int) < 0)) = false := by simp
  have hc2 : (decide ((32 : Int) < k)) = false := by simp; omega
  have HW := Lib.hid h
  clear h
  go_enter Tryz.func103, Tryz.ntmps103
  go_wp2_with fail
  refine (ensure_ok b c l.length (l.length + k) l w m hm HW.out (by omega) _ (by omega)).mono ?_
  rintro e w1 ⟨rfl, c1, n1, g1, g2, g3, g4, g5, g6⟩
  have H6 := Lib.hid g6
  clear g6
  have HG := Lib.hid g1
  have hb1 := g5.size
  have hb0 : w1.cell? ⟨b, 1, none⟩ = some (.int .i64 (l.length : Int)) := by obtain ⟨ws, _, _, _, h4, _⟩ := g1; exact h4.cell rfl
  have hf0 : w1.frozen? ⟨b, 1, none⟩ = false := by obtain ⟨ws, _, _, _, h4, _⟩ := g1; exact h4.free 1
  have H4 := Lib.hid g4
  have H5 := Lib.hid g5
  clear g1 g4 h1 g5
  go_wp2_with fail
  go_loopw [7, 8] (fun s i wr => ∃ j q : Nat, j ≤ k ∧ Hid (q + j = l.length + k) ∧ s = .int .i64 (q : Int) ∧ i = .int .i64 ((j : Int) - 1) ∧ AppRel w1 b c1 n1 l.length (l ++ (QR.bitsOf k v).take (k - j)) wr) (fun _ i _ => (intOf i + 1).toNat)
  case atStart => exact ⟨k, l.length, Nat.le_refl _, Lib.hid rfl, rfl, rfl, by simpa using ⟨HG.out, Keeps.refl _ _⟩⟩
  case round =>
    obtain ⟨j, q, hj, HQ, rfl, rfl, hR⟩ := hrel
    by_cases hj0 : 0 < j
    · have hqn : q < 32 * n1 := by have := HQ.out; omega
      have hq6 : q < 300000 := by have := HQ.out; omega
      have hqd : q / 32 < n1 := by omega
      have hqd' : ((q / 32 : Nat) : Int) < (n1 : Int) := by omega
      obtain ⟨x, hx, q0, q1, q2, q3⟩ := hR.words q hqn
      have HR := Lib.hid hR
      have HS := Lib.hid q3
      have h31 := and31_i64 (x := q) (by omega)
      have hm31 : q % 32 < 32 := by omega
      clear hR q3
      have hbt := bitsOf_take k v (k - j) (by omega)
      rw [show k - 1 - (k - j) = j - 1 by omega, show k - j + 1 = k - (j - 1) by omega] at hbt
      have HT := Lib.hid hbt
      clear hbt
      by_cases hb : v.testBit (j - 1) = true
      · have ht : (bits BinOp.and IntKind.i64 (v : Int) (wrap64 (2 ^ (j - 1))) != 0) = true := by rw [and_i64 hv (by omega)]; exact hb
        have HB := Lib.hid hb
        clear hb
        go_wp2
        go_region
        all_goals go_wp2
        all_goals
          go_roundw
          case rel =>
            refine ⟨j - 1, q + 1, by omega, Lib.hid (by have := HQ.out; omega), by go_num, by go_num, ?_⟩
            rw [HT.out, HB.out, ← List.append_assoc, or_u32 hx hm31]
            exact (HS.out (by have := HQ.out; simp [QR.bitsOf_length]; omega)).drew
          case measure => simp [intOf]; omega
      · have ht : (bits BinOp.and IntKind.i64 (v : Int) (wrap64 (2 ^ (j - 1))) != 0) = false := by rw [and_i64 hv (by omega)]; simpa using hb
        have HB := Lib.hid (show v.testBit (j - 1) = false by simpa using hb)
        clear hb
        go_wp2
        go_roundw
        case rel =>
          refine ⟨j - 1, q + 1, by omega, Lib.hid (by have := HQ.out; omega), by go_num, by go_num, ?_⟩
          rw [HT.out, HB.out, ← List.append_assoc]
          exact HR.out.zero
        case measure => simp [intOf]; omega
    · obtain rfl : j = 0 := by omega
      have hq : q = l.length + k := by have := HQ.out; omega
      have e1 : (l ++ (QR.bitsOf k v).take (k - 0)) = l ++ QR.bitsOf k v := by rw [Nat.sub_zero, List.take_of_length_le (by rw [QR.bitsOf_length]; omega)]
      rw [e1] at hR
      have r1 : wr.cell? ⟨b, 1, none⟩ = some (.int .i64 (l.length : Int)) := by obtain ⟨⟨ws, _, _, _, h4, _⟩, _⟩ := hR; exact h4.cell rfl
      have r2 : wr.frozen? ⟨b, 1, none⟩ = false := by obtain ⟨⟨ws, _, _, _, h4, _⟩, _⟩ := hR; exact h4.free 1
      have hd := hR.doneN
      rw [show (((l ++ QR.bitsOf k v).length : Nat) : Int) = (q : Int) by simp [QR.bitsOf_length]; omega] at hd
      have HD := Lib.hid hd
      clear hd hR e1 hq
      have hneg : decide ((0 : Int) ≤ ((0 : Nat) : Int) - 1) = false := by decide
      go_wp2
      go_ret
      refine ⟨rfl, c1, n1, HD.out.1, by omega, g3, H4.out, (H5.out.mono (S' := fun i => i = b ∨ i = c) (fun i _ h => Or.inl h)).step (HD.out.2.mono (S' := fun i => i = b ∨ i = c1) (fun i _ h => h)) (fun i hi h => ?_), H6.out⟩
      rcases h with h | h
      · exact Or.inl h
      · rcases H4.out with h4 | h4
        · exact Or.inr (by omega)
        · omega

theorem appendBits_ok (b c k : Nat) (l : List Bool) (v : Nat) (w : World) (hk : k ≤ 32) (hv : v < 4611686018427387904) (h : BA w b c l) (hlen : l.length ≤ 100000) (V K : Int) (hV : V = (v : Int)) (hK : K = (k : Int)) :
    Calls Tryz.prog 103 #[.pointer (some ⟨b, 0, none⟩), .int .i64 V, .int .i64 K] w fun e w' => e = .returned .nilIface ∧
      ∃ c', BA w' b c' (l ++ QR.bitsOf k v) ∧ (c' = c ∨ c' = w.heap.size) ∧ Keeps (fun i => i = b ∨ i = c) w w' := by
  subst hV hK
  obtain ⟨n, _, hn, h3⟩ := h
  refine (appendBits_walk b c n k l v w hk hv hn h3 hlen).mono fun e w' ⟨he, c', n', g1, g2, g3, g4, g5, _⟩ => ⟨he, c', ⟨n', by simp [QR.bitsOf_length]; omega, g3, g1⟩, g4, g5⟩

/-- .. where the words do not grow. -/
theorem appendBits_in (b c n k : Nat) (l : List Bool) (v : Nat) (w : World) (hv : v < 4611686018427387904) (h : BAn w b c n l.length l) (hn : n ≤ 3000) (hlen : l.length + k ≤ 32 * n) (hk : k ≤ 32) (V K : Int) (hV : V = (v : Int)) (hK : K = (k : Int)) :
    Calls Tryz.prog 103 #[.pointer (some ⟨b, 0, none⟩), .int .i64 V, .int .i64 K] w fun e w' => e = .returned .nilIface ∧
      BAn w' b c n (l ++ QR.bitsOf k v).length (l ++ QR.bitsOf k v) ∧ Keeps (fun i => i = b ∨ i = c) w w' := by
  subst hV hK
  refine (appendBits_walk b c n k l v w hk hv (by omega) h (by omega)).mono fun e w' ⟨he, c', n', g1, g2, g3, g4, g5, g6⟩ => ?_
  obtain ⟨rfl, rfl⟩ := g6 hlen
  exact ⟨he, g1, g5⟩

set_option maxRecDepth 100000 in
set_option maxHeartbeats 400000 in
theorem appendBit_ok (b c : Nat) (l : List Bool) (v : Bool) (w : World) (h : BA w b c l) (hlen : l.length ≤ 100000) :
    Calls Tryz.prog 114 #[.pointer (some ⟨b, 0, none⟩), .bool v] w fun e w' => e = .returned (.tuple #[]) ∧
      ∃ c', BA w' b c' (l ++ [v]) ∧ (c' = c ∨ c' = w.heap.size) ∧ Keeps (fun i => i = b ∨ i = c) w w' := by
  obtain ⟨m, _, hm, h⟩ := h
  have h1 : w.cell? ⟨b, 1, none⟩ = some (.int .i64 (l.length : Int)) := by obtain ⟨ws, _, _, _, h4, _⟩ := h; exact h4.cell rfl
  have HW := Lib.hid h
  clear h
  go_enter Tryz.func114, Tryz.ntmps114
  go_wp2_with fail
  refine (ensure_ok b c l.length (l.length + 1) l w m hm HW.out (by omega) _ (by omega)).mono ?_
  rintro e w1 ⟨rfl, c1, n1, g1, g2, g3, g4, g5, _⟩
  have hR : AppRel w1 b c1 n1 l.length l w1 := ⟨g1, Keeps.refl _ _⟩
  have hb0 : w1.cell? ⟨b, 1, none⟩ = some (.int .i64 (l.length : Int)) := by obtain ⟨ws, _, _, _, h4, _⟩ := g1; exact h4.cell rfl
  have hf0 : w1.frozen? ⟨b, 1, none⟩ = false := by obtain ⟨ws, _, _, _, h4, _⟩ := g1; exact h4.free 1
  obtain ⟨x, hx, q0, q1, q2, q3⟩ := hR.words l.length (by omega)
  have hqd' : ((l.length / 32 : Nat) : Int) < (n1 : Int) := by omega
  have hne : c1 ≠ b := by obtain ⟨ws, _, _, h3, _⟩ := g1; exact h3
  have fin : ∀ wr : World, AppRel w1 b c1 n1 l.length (l ++ [v]) wr → BA (wr.setCell ⟨b, 1, none⟩ (.int .i64 ((l.length : Int) + 1))) b c1 (l ++ [v]) ∧ Keeps (fun i => i = b ∨ i = c) w (wr.setCell ⟨b, 1, none⟩ (.int .i64 ((l.length : Int) + 1))) := fun wr hr => by
    have hd := hr.done (by simp; omega) g3
    rw [show (((l ++ [v]).length : Nat) : Int) = (l.length : Int) + 1 by simp] at hd
    refine ⟨hd.1, (g5.mono (S' := fun i => i = b ∨ i = c) (fun i _ h => Or.inl h)).step hd.2 (fun i hi h => ?_)⟩
    rcases h with h | h
    · exact Or.inl h
    · rcases g4 with h4 | h4
      · exact Or.inr (by omega)
      · omega
  have HR := Lib.hid hR
  have HS := Lib.hid (q3 rfl)
  have HF := Lib.hid fin
  have H4 := Lib.hid g4
  have hm31 : l.length % 32 < 32 := by omega
  clear hR q3 g1 g4 g5 fin h1
  cases v
  · go_wp2
    go_end0
    exact ⟨rfl, c1, (HF.out _ HR.out.zero).1, H4.out, (HF.out _ HR.out.zero).2⟩
  · have hbs : (w1.setCell ⟨c1, l.length / 32, none⟩ (.int .u32 (bits BinOp.or .u32 (x : Int) (2 ^ (l.length % 32) % 4294967296)))).cell? ⟨b, 1, none⟩ = some (.int .i64 (l.length : Int)) := by
      rw [World.cell?_setCell_other _ _ _ _ (fun e => hne (congrArg Addr.block e))]; exact hb0
    have hbf : (w1.setCell ⟨c1, l.length / 32, none⟩ (.int .u32 (bits BinOp.or .u32 (x : Int) (2 ^ (l.length % 32) % 4294967296)))).frozen? ⟨b, 1, none⟩ = false := by
      rw [World.frozen?_setCell]; exact hf0
    go_wp2
    go_region
    all_goals go_wp2
    all_goals go_end0
    all_goals rw [or_u32 hx hm31]
    all_goals exact ⟨rfl, c1, (HF.out _ HS.out).1, H4.out, (HF.out _ HS.out).2.drew⟩

theorem get_ok (b c i : Nat) (l : List Bool) (w : World) (h : BA w b c l) (hi : i < l.length) (I : Int) (hI : I = (i : Int)) (v : Bool) (hv : l.getD i false = v) :
    Calls Tryz.prog 115 #[.pointer (some ⟨b, 0, none⟩), .int .i64 I] w fun e w' => e = .returned (.bool v) ∧ w = w' := by
  subst hI hv
  obtain ⟨n, hl, hn, ws, h1, h2, _, h4, h5, h6⟩ := h
  have h0 := h4.cell (i := 0) rfl
  have hlt : i / 32 < ws.length := by omega
  have hx := h5.cell (map_u32_get hlt)
  have hi' : ((i / 32 : Nat) : Int) < n := by omega
  have hb : (bits .and .u32 ((ws.getD (i / 32) 0 : Nat) : Int) (2 ^ (i % 32) % 4294967296) != 0) = l.getD i false := by
    rw [and_u32 (lt_of_getD h2 _) (by omega), ← h6 i]; rfl
  generalize ws.getD (i / 32) 0 = x at hx hb
  have HB := Lib.hid hb
  clear hb h6
  go_enter Tryz.func115, Tryz.ntmps115
  go_wp2
  go_ret
  exact ⟨ret_bool HB.out, rfl⟩


end Go.Proofs.YtplpafbkalkchaaGreatDoor

namespace Go.Proofs.YtplpafbkalkchaaGreatDoor
open Go.RowKit

/-- The words of a row of W dots. -/
def rows32 (W : Nat) : Nat := (W + 31) / 32
theorem rows32_le (W : Nat) : W ≤ 32 * rows32 W := by unfold rows32; omega
/-- The place of a dot in the words' bits. -/
def place (W x y : Nat) : Nat := 32 * (rows32 W * y) + x
theorem place_div (W x y : Nat) : place W x y / 32 = y * rows32 W + x / 32 := by
  unfold place; rw [Nat.mul_comm y]; omega
theorem place_mod (W x y : Nat) : place W x y % 32 = x % 32 := by
  unfold place; omega
theorem place_inj {W x y x' y' : Nat} (hx : x < W) (hx' : x' < W) (h : place W x y = place W x' y') : x = x' ∧ y = y' := by
  unfold place at h
  have := rows32_le W
  rw [← Nat.mul_assoc, ← Nat.mul_assoc] at h
  generalize 32 * rows32 W = R at *
  have hy : y = y' := by
    have h1 : (R * y + x) / R = y := by rw [Nat.mul_add_div (by omega), Nat.div_eq_of_lt (by omega), Nat.add_zero]
    have h2 : (R * y' + x') / R = y' := by rw [Nat.mul_add_div (by omega), Nat.div_eq_of_lt (by omega), Nat.add_zero]
    rw [← h1, ← h2, h]
  subst hy; omega
theorem word_lt {W H x y : Nat} (hx : x < W) (hy : y < H) : y * rows32 W + x / 32 < rows32 W * H := by
  have h1 : x / 32 < rows32 W := by unfold rows32; omega
  have h2 : (y + 1) * rows32 W ≤ H * rows32 W := Nat.mul_le_mul_right _ hy
  rw [Nat.mul_comm (rows32 W) H]
  rw [Nat.add_mul] at h2
  omega

/-- A BitMatrix at block b, its words in block c, of W by H dots. -/
def BM (w : World) (b c W H : Nat) (f : Nat → Nat → Bool) : Prop :=
  ∃ ws : List Nat, ws.length = rows32 W * H ∧ (∀ x ∈ ws, x < 4294967296) ∧ c ≠ b ∧
    Blk w b [.int .i64 (W : Int), .int .i64 (H : Int), .int .i64 (rows32 W : Int), .slice (some ⟨c, 0, none⟩) (rows32 W * H) (rows32 W * H)] 150 ∧ Blk w c (ws.map vu32) 151 ∧
    (∀ x y, x < W → y < H → wbit ws (place W x y) = f x y) ∧ (∀ x y, W ≤ x → x < 32 * rows32 W → y < H → wbit ws (place W x y) = false)
theorem BM.keep {S : Nat → Prop} {w w' : World} {b c W H : Nat} {f : Nat → Nat → Bool} (h : BM w b c W H f) (hk : Keeps S w w') (hb : ¬ S b) (hc : ¬ S c) : BM w' b c W H f := by
  obtain ⟨ws, h1, h2, h3, h4, h5, h6, h7⟩ := h
  exact ⟨ws, h1, h2, h3, h4.keep hk hb, h5.keep hk hc, h6, h7⟩
theorem BM.congr {w : World} {b c W H : Nat} {f g : Nat → Nat → Bool} (h : BM w b c W H f) (e : ∀ x y, x < W → y < H → f x y = g x y) : BM w b c W H g := by
  obtain ⟨ws, h1, h2, h3, h4, h5, h6, h7⟩ := h
  exact ⟨ws, h1, h2, h3, h4, h5, fun x y hx hy => (h6 x y hx hy).trans (e x y hx hy), h7⟩
theorem BM.ltb {w : World} {b c W H : Nat} {f : Nat → Nat → Bool} (h : BM w b c W H f) : b < w.heap.size := by
  obtain ⟨_, _, _, _, h4, _⟩ := h; exact h4.lt
theorem BM.ltc {w : World} {b c W H : Nat} {f : Nat → Nat → Bool} (h : BM w b c W H f) : c < w.heap.size := by
  obtain ⟨_, _, _, _, _, h5, _⟩ := h; exact h5.lt
theorem BM.ne {w : World} {b c W H : Nat} {f : Nat → Nat → Bool} (h : BM w b c W H f) : c ≠ b := by
  obtain ⟨_, _, _, h3, _⟩ := h; exact h3
theorem BM.head {w : World} {b c W H : Nat} {f : Nat → Nat → Bool} (h : BM w b c W H f) :
    w.cell? ⟨b, 0, none⟩ = some (.int .i64 (W : Int)) ∧ w.cell? ⟨b, 1, none⟩ = some (.int .i64 (H : Int)) ∧ w.cell? ⟨b, 2, none⟩ = some (.int .i64 (rows32 W : Int)) ∧
      w.cell? ⟨b, 3, none⟩ = some (.slice (some ⟨c, 0, none⟩) (rows32 W * H) (rows32 W * H)) := by
  obtain ⟨_, _, _, _, h4, _⟩ := h
  exact ⟨h4.cell rfl, h4.cell rfl, h4.cell rfl, h4.cell rfl⟩
theorem BM.word {w : World} {b c W H : Nat} {f : Nat → Nat → Bool} (h : BM w b c W H f) {x y : Nat} (hx : x < W) (hy : y < H) :
    ∃ v : Nat, v < 4294967296 ∧ w.cell? ⟨c, y * rows32 W + x / 32, none⟩ = some (.int .u32 (v : Int)) ∧ w.frozen? ⟨c, y * rows32 W + x / 32, none⟩ = false ∧ v.testBit (x % 32) = f x y ∧
      BM (w.setCell ⟨c, y * rows32 W + x / 32, none⟩ (.int .u32 ((v ||| 2 ^ (x % 32) : Nat) : Int))) b c W H (fun x' y' => if x' = x ∧ y' = y then true else f x' y') ∧
      BM (w.setCell ⟨c, y * rows32 W + x / 32, none⟩ (.int .u32 ((v ^^^ 2 ^ (x % 32) : Nat) : Int))) b c W H (fun x' y' => if x' = x ∧ y' = y then !f x' y' else f x' y') := by
  obtain ⟨ws, h1, h2, h3, h4, h5, h6, h7⟩ := h
  have hlt := word_lt hx hy
  rw [← h1] at hlt
  have hp := place_div W x y
  have hm := place_mod W x y
  have hlt' : place W x y / 32 < ws.length := by rw [hp]; exact hlt
  have hinj : ∀ x' y', x' < W → y' < H → (place W x' y' = place W x y ↔ x' = x ∧ y' = y) := fun x' y' hx' _ =>
    ⟨fun e => place_inj hx' hx e, fun ⟨a, b⟩ => by rw [a, b]⟩
  have hfar : ∀ x' y', W ≤ x' → x' < 32 * rows32 W → place W x' y' ≠ place W x y := fun x' y' hx1 hx2 e => by
    have hr := rows32_le W
    unfold place at e
    rw [← Nat.mul_assoc, ← Nat.mul_assoc] at e
    generalize 32 * rows32 W = R at *
    have hy : y' = y := by
      have h1 : (R * y + x) / R = y := by rw [Nat.mul_add_div (by omega), Nat.div_eq_of_lt (by omega), Nat.add_zero]
      have h2 : (R * y' + x') / R = y' := by rw [Nat.mul_add_div (by omega), Nat.div_eq_of_lt (by omega), Nat.add_zero]
      rw [← h1, ← h2, e]
    subst hy; omega
  have hxor : ∀ j, wbit (ws.set (place W x y / 32) (ws.getD (place W x y / 32) 0 ^^^ 2 ^ (place W x y % 32))) j = if j = place W x y then !wbit ws j else wbit ws j := fun j => by
    unfold wbit
    rw [List.getD_eq_getElem?_getD, List.getElem?_set]
    by_cases e : place W x y / 32 = j / 32
    · rw [if_pos e, if_pos hlt']
      simp only [Option.getD_some, Nat.testBit_xor, e]
      by_cases e2 : j = place W x y
      · rw [if_pos e2, e2, Nat.testBit_two_pow_self]; simp
      · rw [if_neg e2, Nat.testBit_two_pow]
        have : ¬ place W x y % 32 = j % 32 := by omega
        simp [this]
    · rw [if_neg e, if_neg (by rintro rfl; exact e rfl), List.getD_eq_getElem?_getD]
  have hx32 : ws.getD (place W x y / 32) 0 ^^^ 2 ^ (place W x y % 32) < 4294967296 := by
    have := Nat.xor_lt_two_pow (n := 32) (by simpa using lt_of_getD h2 (place W x y / 32)) (Nat.pow_lt_pow_right (a := 2) (by omega) (show place W x y % 32 < 32 by omega))
    simpa using this
  refine ⟨ws.getD (y * rows32 W + x / 32) 0, lt_of_getD h2 _, h5.cell (map_u32_get hlt), h5.free _, ?_, ?_, ?_⟩
  · rw [← h6 x y hx hy]; unfold wbit; rw [hp, hm]
  · have hb := h5.set (y * rows32 W + x / 32) (.int .u32 ((ws.getD (y * rows32 W + x / 32) 0 ||| 2 ^ (x % 32) : Nat) : Int))
    have e : (ws.map vu32).set (y * rows32 W + x / 32) (.int .u32 ((ws.getD (y * rows32 W + x / 32) 0 ||| 2 ^ (x % 32) : Nat) : Int)) = (ws.set (place W x y / 32) (ws.getD (place W x y / 32) 0 ||| 2 ^ (place W x y % 32))).map vu32 := by
      rw [List.map_set, hp, hm]; rfl
    rw [e] at hb
    refine ⟨_, by simpa using h1, lt_set h2 (or_lt (lt_of_getD h2 _) (by omega)), h3, h4.far (fun e => h3 e.symm) _, hb, fun x' y' hx' hy' => ?_, fun x' y' hx1 hx2 hy' => ?_⟩
    · rw [wbit_set hlt', h6 x' y' hx' hy']
      show _ = if x' = x ∧ y' = y then _ else _
      by_cases e : x' = x ∧ y' = y
      · rw [if_pos e, if_pos ((hinj x' y' hx' hy').2 e)]
      · rw [if_neg e, if_neg (fun h => e ((hinj x' y' hx' hy').1 h))]
    · rw [wbit_set hlt', if_neg (hfar x' y' hx1 hx2), h7 x' y' hx1 hx2 hy']
  · have hb := h5.set (y * rows32 W + x / 32) (.int .u32 ((ws.getD (y * rows32 W + x / 32) 0 ^^^ 2 ^ (x % 32) : Nat) : Int))
    have e : (ws.map vu32).set (y * rows32 W + x / 32) (.int .u32 ((ws.getD (y * rows32 W + x / 32) 0 ^^^ 2 ^ (x % 32) : Nat) : Int)) = (ws.set (place W x y / 32) (ws.getD (place W x y / 32) 0 ^^^ 2 ^ (place W x y % 32))).map vu32 := by
      rw [List.map_set, hp, hm]; rfl
    rw [e] at hb
    refine ⟨_, by simpa using h1, lt_set h2 hx32, h3, h4.far (fun e => h3 e.symm) _, hb, fun x' y' hx' hy' => ?_, fun x' y' hx1 hx2 hy' => ?_⟩
    · rw [hxor, h6 x' y' hx' hy']
      show _ = if x' = x ∧ y' = y then _ else _
      by_cases e : x' = x ∧ y' = y
      · rw [if_pos e, if_pos ((hinj x' y' hx' hy').2 e)]
      · rw [if_neg e, if_neg (fun h => e ((hinj x' y' hx' hy').1 h))]
    · rw [hxor, if_neg (hfar x' y' hx1 hx2), h7 x' y' hx1 hx2 hy']

theorem shr_and1 {x k : Nat} (hx : x < 4294967296) : (bits .and .u32 ((x : Int) / (2 : Int) ^ k) 1 != 0) = x.testBit k := by
  have h1 : ((x : Int) / (2 : Int) ^ k) = ((x / 2 ^ k : Nat) : Int) := by simp
  have h2 : x / 2 ^ k < 2 ^ 32 := Nat.lt_of_le_of_lt (Nat.div_le_self _ _) (by simpa using hx)
  have := (bits_nat .u32 32 (by decide) wraps_u32 (x / 2 ^ k) 1 h2 (by decide)).1
  rw [h1, show (1 : Int) = ((1 : Nat) : Int) from rfl, this, Nat.and_one_is_mod, Nat.testBit_eq_decide_div_mod_eq]
  by_cases h : x / 2 ^ k % 2 = 1
  · simp [h]
  · have : x / 2 ^ k % 2 = 0 := by omega
    simp [this]

set_option maxRecDepth 100000 in
theorem width_ok (b c W H : Nat) (f : Nat → Nat → Bool) (w : World) (h : BM w b c W H f) : Calls Tryz.prog 27 #[.pointer (some ⟨b, 0, none⟩)] w fun e w' =>
    e = .returned (.int .i64 (W : Int)) ∧ w = w' := by
  have h0 := h.head.1
  clear h
  go_enter Tryz.func27, Tryz.ntmps27
  go_wp2
  go_ret
  exact ⟨rfl, rfl⟩
set_option maxRecDepth 100000 in
theorem height_ok (b c W H : Nat) (f : Nat → Nat → Bool) (w : World) (h : BM w b c W H f) : Calls Tryz.prog 26 #[.pointer (some ⟨b, 0, none⟩)] w fun e w' =>
    e = .returned (.int .i64 (H : Int)) ∧ w = w' := by
  have h0 := h.head.2.1
  clear h
  go_enter Tryz.func26, Tryz.ntmps26
  go_wp2
  go_ret
  exact ⟨rfl, rfl⟩

/-- What a walk at a dot needs: the word's place and value, the bounds. -/
theorem BM.dot {w : World} {b c W H : Nat} {f : Nat → Nat → Bool} (h : BM w b c W H f) {x y : Nat} (hx : x < W) (hy : y < H) (hW : W ≤ 1000000) (hH : H ≤ 1000000) :
    ∃ r n i v : Nat, r ≤ 40000 ∧ y * r ≤ 40000000000 ∧ i = y * r + x / 32 ∧ ((y * r + x / 32 : Nat) : Int) < (n : Int) ∧ w.cell? ⟨b, 0, none⟩ = some (.int .i64 (W : Int)) ∧ w.cell? ⟨b, 1, none⟩ = some (.int .i64 (H : Int)) ∧
      w.cell? ⟨b, 2, none⟩ = some (.int .i64 (r : Int)) ∧ w.cell? ⟨b, 3, none⟩ = some (.slice (some ⟨c, 0, none⟩) n n) ∧ v < 4294967296 ∧ w.cell? ⟨c, y * r + x / 32, none⟩ = some (.int .u32 (v : Int)) ∧
      w.frozen? ⟨c, y * r + x / 32, none⟩ = false ∧ v.testBit (x % 32) = f x y ∧
      BM (w.setCell ⟨c, y * r + x / 32, none⟩ (.int .u32 ((v ||| 2 ^ (x % 32) : Nat) : Int))) b c W H (fun x' y' => if x' = x ∧ y' = y then true else f x' y') ∧
      BM (w.setCell ⟨c, y * r + x / 32, none⟩ (.int .u32 ((v ^^^ 2 ^ (x % 32) : Nat) : Int))) b c W H (fun x' y' => if x' = x ∧ y' = y then !f x' y' else f x' y') := by
  obtain ⟨a0, a1, a2, a3⟩ := h.head
  obtain ⟨u, hu, q1, q2, q3, q4, q5⟩ := h.word hx hy
  have hlt := word_lt hx hy
  have hrs : rows32 W ≤ 40000 := by unfold rows32; omega
  have hn1 : y * rows32 W ≤ 1000000 * 40000 := Nat.mul_le_mul (by omega) hrs
  exact ⟨rows32 W, rows32 W * H, y * rows32 W + x / 32, u, hrs, hn1, rfl, Int.ofNat_lt.2 hlt, a0, a1, a2, a3, hu, q1, q2, q3, q4, q5⟩

set_option maxRecDepth 100000 in
set_option maxHeartbeats 400000 in
theorem bmGet_ok (b c W H x y : Nat) (f : Nat → Nat → Bool) (w : World) (h : BM w b c W H f) (hx : x < W) (hy : y < H) (hW : W ≤ 1000000) (hH : H ≤ 1000000) (X Y : Int) (hX : X = (x : Int)) (hY : Y = (y : Int)) (v : Bool) (hv : f x y = v) :
    Calls Tryz.prog 28 #[.pointer (some ⟨b, 0, none⟩), .int .i64 X, .int .i64 Y] w fun e w' => e = .returned (.bool v) ∧ w = w' := by
  subst hX hY
  obtain ⟨r, n, i, u, hr, hyr, hi, hlt, a0, a1, a2, a3, hu, q1, q2, q3, _, _⟩ := h.dot hx hy hW hH
  have d1 : (decide ((W : Int) ≤ (x : Int))) = false := by simp; omega
  have d2 : (decide ((H : Int) ≤ (y : Int))) = false := by simp; omega
  have hb := shr_and1 (k := x % 32) hu
  rw [q3, hv] at hb
  clear h hv q3 hi
  go_enter Tryz.func28, Tryz.ntmps28
  go_wp2
  go_ret
  exact ⟨rfl, rfl⟩

set_option maxRecDepth 100000 in
set_option maxHeartbeats 400000 in
theorem bmSet_ok (b c W H x y : Nat) (f : Nat → Nat → Bool) (w : World) (h : BM w b c W H f) (hx : x < W) (hy : y < H) (hW : W ≤ 1000000) (hH : H ≤ 1000000) (X Y : Int) (hX : X = (x : Int)) (hY : Y = (y : Int)) :
    Calls Tryz.prog 83 #[.pointer (some ⟨b, 0, none⟩), .int .i64 X, .int .i64 Y] w fun e w' => e = .returned (.tuple #[]) ∧
      BM w' b c W H (fun x' y' => if x' = x ∧ y' = y then true else f x' y') ∧ Keeps (fun i => i = c) w w' := by
  subst hX hY
  obtain ⟨r, n, i, u, hr, hyr, hi, hlt, a0, a1, a2, a3, hu, q1, q2, q3, q4, _⟩ := h.dot hx hy hW hH
  have hb := or_u32 (k := x % 32) hu (by omega)
  have hk : Keeps (fun i => i = c) w (w.setCell ⟨c, y * r + x / 32, none⟩ (.int .u32 ((u ||| 2 ^ (x % 32) : Nat) : Int))) := (Keeps.refl (fun i => i = c) w).setCell (Or.inl rfl) _
  have HB := Lib.hid hb
  have HK := Lib.hid hk
  have HQ := Lib.hid q4
  clear h q3 hi hb hk q4
  go_enter Tryz.func83, Tryz.ntmps83
  go_wp2
  rw [HB.out]
  go_end0
  exact ⟨rfl, HQ.out, HK.out⟩

theorem xor_u32p {x k : Nat} (hx : x < 4294967296) (hk : k < 32) : bits .xor .u32 (x : Int) ((2 : Int) ^ k % 4294967296) = ((x ^^^ 2 ^ k : Nat) : Int) := by
  have hy : 2 ^ k < 2 ^ 32 := Nat.pow_lt_pow_right (by omega) hk
  have hl : x ^^^ 2 ^ k < 2 ^ 32 := Nat.xor_lt_two_pow (by omega) hy
  have h1 : (BitVec.ofInt 32 (x : Int)).toNat = x := by
    rw [BitVec.ofInt_natCast, BitVec.toNat_ofNat]; exact Nat.mod_eq_of_lt (by omega)
  have h2 : (BitVec.ofInt 32 ((2 ^ k : Nat) : Int)).toNat = 2 ^ k := by
    rw [BitVec.ofInt_natCast, BitVec.toNat_ofNat]; exact Nat.mod_eq_of_lt hy
  rw [p32 hk]
  show IntKind.u32.wrap ((BitVec.ofInt 32 (x : Int) ^^^ BitVec.ofInt 32 ((2 ^ k : Nat) : Int)).toNat : Int) = _
  rw [BitVec.toNat_xor, h1, h2, wraps_u32 _ (by omega) (by exact_mod_cast hl)]

set_option maxRecDepth 100000 in
set_option maxHeartbeats 400000 in
theorem bmFlip_ok (b c W H x y : Nat) (f : Nat → Nat → Bool) (w : World) (h : BM w b c W H f) (hx : x < W) (hy : y < H) (hW : W ≤ 1000000) (hH : H ≤ 1000000) (X Y : Int) (hX : X = (x : Int)) (hY : Y = (y : Int)) :
    Calls Tryz.prog 206 #[.pointer (some ⟨b, 0, none⟩), .int .i64 X, .int .i64 Y] w fun e w' => e = .returned (.tuple #[]) ∧
      BM w' b c W H (fun x' y' => if x' = x ∧ y' = y then !f x' y' else f x' y') ∧ Keeps (fun i => i = c) w w' := by
  subst hX hY
  obtain ⟨r, n, i, u, hr, hyr, hi, hlt, a0, a1, a2, a3, hu, q1, q2, q3, _, q4⟩ := h.dot hx hy hW hH
  have hb := xor_u32p (k := x % 32) hu (by omega)
  have hk : Keeps (fun i => i = c) w (w.setCell ⟨c, y * r + x / 32, none⟩ (.int .u32 ((u ^^^ 2 ^ (x % 32) : Nat) : Int))) := (Keeps.refl (fun i => i = c) w).setCell (Or.inl rfl) _
  have HB := Lib.hid hb
  have HK := Lib.hid hk
  have HQ := Lib.hid q4
  clear h q3 hi hb hk q4
  go_enter Tryz.func206, Tryz.ntmps206
  go_wp2
  rw [HB.out]
  go_end0
  exact ⟨rfl, HQ.out, HK.out⟩

set_option maxRecDepth 100000 in
set_option maxHeartbeats 400000 in
theorem bmNew_ok (W H : Nat) (w : World) (hW : 0 < W) (hH : 0 < H) (hW2 : W ≤ 1000000) (hH2 : H ≤ 1000000) (X Y : Int) (hX : X = (W : Int)) (hY : Y = (H : Int)) :
    Calls Tryz.prog 73 #[.int .i64 X, .int .i64 Y] w fun e w' => e = .returned (.tuple #[.pointer (some ⟨w.heap.size + 1, 0, none⟩), .nilIface]) ∧
      BM w' (w.heap.size + 1) w.heap.size W H (fun _ _ => false) ∧ Keeps (fun _ => False) w w' ∧ w'.heap.size = w.heap.size + 2 := by
  subst hX hY
  have hrs : rows32 W ≤ 40000 := by unfold rows32; omega
  have hr : rows32 W = (W + 31) / 32 := rfl
  have hmul : rows32 W * H ≤ 40000 * 1000000 := Nat.mul_le_mul hrs hH2
  have hmk := make_rep (P := Tryz.prog) 148 151 (.int .u32 0) 4 Tryz.underlying148 info151 rfl (rows32 W * H) (by omega) (by omega) w
  have hB : BM ((w.alloc (.cells (rep (rows32 W * H) (.int .u32 0)).toArray 151)).alloc (.cells #[.int .i64 (W : Int), .int .i64 (H : Int), .int .i64 (rows32 W : Int), .slice (some ⟨w.heap.size, 0, none⟩) (rows32 W * H) (rows32 W * H)] 150))
      (w.heap.size + 1) w.heap.size W H (fun _ _ => false) := by
    have h1 := (Blk.new w (rep (rows32 W * H) (.int .u32 0)) 151).alloc (.cells #[.int .i64 (W : Int), .int .i64 (H : Int), .int .i64 (rows32 W : Int), .slice (some ⟨w.heap.size, 0, none⟩) (rows32 W * H) (rows32 W * H)] 150)
    have h2 := Blk.new (w.alloc (.cells (rep (rows32 W * H) (.int .u32 0)).toArray 151)) [.int .i64 (W : Int), .int .i64 (H : Int), .int .i64 (rows32 W : Int), .slice (some ⟨w.heap.size, 0, none⟩) (rows32 W * H) (rows32 W * H)] 150
    have hs : (w.alloc (.cells (rep (rows32 W * H) (.int .u32 0)).toArray 151)).heap.size = w.heap.size + 1 := by simp
    rw [hs] at h2
    refine ⟨List.replicate (rows32 W * H) 0, by simp, ?_, by omega, h2, ?_, fun x y _ _ => wbit_zeros _ _, fun x y _ _ _ => wbit_zeros _ _⟩
    · intro x hx; have := List.eq_of_mem_replicate hx; omega
    · have e : (List.replicate (rows32 W * H) 0).map vu32 = rep (rows32 W * H) (.int .u32 0) := by simp [rep, vu32]
      rw [e]; exact h1
  have hK : Keeps (fun _ => False) w ((w.alloc (.cells (rep (rows32 W * H) (.int .u32 0)).toArray 151)).alloc (.cells #[.int .i64 (W : Int), .int .i64 (H : Int), .int .i64 (rows32 W : Int), .slice (some ⟨w.heap.size, 0, none⟩) (rows32 W * H) (rows32 W * H)] 150)) :=
    ((Keeps.refl _ w).alloc _).alloc _
  generalize rows32 W = r at *
  have hrr : ((r : Nat) : Int) = ((W : Int) + 31) / 32 := by omega
  rw [show ((r * H : Nat) : Int) = (((W : Int) + 31) / 32) * (H : Int) by rw [Int.natCast_mul, hrr]] at hmk
  have d1 : (decide ((W : Int) < 1)) = false := decide_eq_false (by omega)
  have d2 : (decide ((H : Int) < 1)) = false := decide_eq_false (by omega)
  have HB := Lib.hid hB
  have HK := Lib.hid hK
  have HR := Lib.hid hrr
  have hmul2 : ((W : Int) + 31) / 32 * (H : Int) ≤ 40000000000 := by rw [← hrr, ← Int.natCast_mul]; omega
  have hmul3 : 0 ≤ ((W : Int) + 31) / 32 * (H : Int) := by rw [← hrr, ← Int.natCast_mul]; omega
  clear hB hK hr hrr
  go_enter Tryz.func73, Tryz.ntmps73
  go_wp2
  go_ret2
  rw [← HR.out]
  exact ⟨rfl, HB.out, HK.out, by simp⟩

end Go.Proofs.YtplpafbkalkchaaGreatDoor

namespace Go.Proofs.YtplpafbkalkchaaGreatDoor
open Go.RowKit

def FB (w : World) (b n : Nat) (F : Nat → Value) (t : TypeId) : Prop := Blk w b ((List.range n).map F) t
theorem FB.lt {w : World} {b n : Nat} {F : Nat → Value} {t : TypeId} (h : FB w b n F t) : b < w.heap.size := Blk.lt h
theorem FB.cell {w : World} {b n : Nat} {F : Nat → Value} {t : TypeId} (h : FB w b n F t) {i : Nat} (hi : i < n) : w.cell? ⟨b, i, none⟩ = some (F i) :=
  Blk.cell h (by simp [hi])
theorem FB.cellv {w : World} {b n : Nat} {F : Nat → Value} {t : TypeId} (h : FB w b n F t) {i : Nat} (hi : i < n) {v : Value} (hv : F i = v) : w.cell? ⟨b, i, none⟩ = some v :=
  (h.cell hi).trans (by rw [hv])
theorem FB.free {w : World} {b n : Nat} {F : Nat → Value} {t : TypeId} (h : FB w b n F t) (i : Nat) : w.frozen? ⟨b, i, none⟩ = false := Blk.free h i
theorem FB.congr {w : World} {b n : Nat} {F G : Nat → Value} {t : TypeId} (h : FB w b n F t) (e : ∀ i, i < n → F i = G i) : FB w b n G t := by
  unfold FB at *
  rw [← List.map_congr_left (fun i hi => e i (List.mem_range.1 hi))]
  exact h
theorem FB.keep {S : Nat → Prop} {w w' : World} {b n : Nat} {F : Nat → Value} {t : TypeId} (h : FB w b n F t) (hk : Keeps S w w') (hn : ¬ S b) : FB w' b n F t := Blk.keep h hk hn
theorem FB.set {w : World} {b n : Nat} {F G : Nat → Value} {t : TypeId} (h : FB w b n F t) (i : Nat) (v : Value) (e : ∀ j, j < n → (if j = i then v else F j) = G j) : FB (w.setCell ⟨b, i, none⟩ v) b n G t := by
  have h1 := Blk.set h i v
  have e2 : ((List.range n).map F).set i v = (List.range n).map G := by
    apply List.ext_getElem?
    intro j
    rw [List.getElem?_set]
    by_cases hj : j < n
    · by_cases e1 : i = j
      · subst e1; have := e i hj; rw [if_pos rfl] at this; simp [hj, this]
      · have := e j hj; rw [if_neg (fun h => e1 h.symm)] at this; simp [hj, e1, this]
    · by_cases e1 : i = j
      · subst e1; simp [hj]
      · simp [hj, e1]
  rw [e2] at h1; exact h1
theorem FB.far {w : World} {b n : Nat} {F : Nat → Value} {t : TypeId} (h : FB w b n F t) {p : Addr} (hp : b ≠ p.block) (v : Value) : FB (w.setCell p v) b n F t := Blk.far h hp v
theorem FB.alloc {w : World} {b n : Nat} {F : Nat → Value} {t : TypeId} (h : FB w b n F t) (o : Obj) : FB (w.alloc o) b n F t := Blk.alloc h o
theorem FB.drew {w : World} {b n : Nat} {F : Nat → Value} {t : TypeId} (h : FB w b n F t) : FB w.drew b n F t := h
theorem FB.drewN {w : World} {b n : Nat} {F : Nat → Value} {t : TypeId} (h : FB w b n F t) (k : Nat) : FB (w.drewN k) b n F t := h
theorem FB.new (w : World) (n : Nat) (z : Value) (t : TypeId) : FB (w.alloc (.cells (rep n z).toArray t)) w.heap.size n (fun _ => z) t := by
  have h := Blk.new w (rep n z) t
  unfold FB
  have e : (List.range n).map (fun _ => z) = rep n z := by
    apply List.ext_getElem?
    intro j
    by_cases hj : j < n <;> simp [rep, hj]
  rw [e]; exact h

/-- Rows of W things each, H of them, the first k laid: at block m the slices, at g y the row. -/
structure RowsK (w : World) (m W H k : Nat) (g : Nat → Nat) (F : Nat → Nat → Value) (t u : TypeId) : Prop where
  top : FB w m H (fun y => if y < k then .slice (some ⟨g y, 0, none⟩) W W else .slice none 0 0) t
  row : ∀ y, y < k → FB w (g y) W (fun x => F x y) u
theorem RowsK.keep {S : Nat → Prop} {w w' : World} {m W H k : Nat} {g : Nat → Nat} {F : Nat → Nat → Value} {t u : TypeId} (h : RowsK w m W H k g F t u) (hk : Keeps S w w') (hm : ¬ S m) (hg : ∀ y, y < k → ¬ S (g y)) :
    RowsK w' m W H k g F t u := ⟨h.top.keep hk hm, fun y hy => (h.row y hy).keep hk (hg y hy)⟩
theorem RowsK.congr {w : World} {m W H k : Nat} {g : Nat → Nat} {F G : Nat → Nat → Value} {t u : TypeId} (h : RowsK w m W H k g F t u) (e : ∀ x y, x < W → y < k → F x y = G x y) :
    RowsK w m W H k g G t u := ⟨h.top, fun y hy => (h.row y hy).congr (fun x hx => e x y hx hy)⟩
theorem RowsK.slot {w : World} {m W H k : Nat} {g : Nat → Nat} {F : Nat → Nat → Value} {t u : TypeId} (h : RowsK w m W H k g F t u) {y : Nat} (hy : y < k) (hk : k ≤ H) :
    w.cell? ⟨m, y, none⟩ = some (.slice (some ⟨g y, 0, none⟩) W W) := h.top.cellv (by omega) (by simp [hy])
theorem RowsK.dot {w : World} {m W H k : Nat} {g : Nat → Nat} {F : Nat → Nat → Value} {t u : TypeId} (h : RowsK w m W H k g F t u) {x y : Nat} (hx : x < W) (hy : y < k) :
    w.cell? ⟨g y, x, none⟩ = some (F x y) := (h.row y hy).cell hx
/-- One dot is laid. -/
theorem RowsK.setDot {w : World} {m W H k : Nat} {g : Nat → Nat} {F : Nat → Nat → Value} {t u : TypeId} (h : RowsK w m W H k g F t u) (hm : ∀ y, y < k → g y ≠ m) (hg : ∀ y y', y < k → y' < k → g y = g y' → y = y')
    {x y : Nat} (hy : y < k) (v : Value) : RowsK (w.setCell ⟨g y, x, none⟩ v) m W H k g (fun x' y' => if x' = x ∧ y' = y then v else F x' y') t u := by
  refine ⟨h.top.far (fun e => hm y hy e.symm) v, fun y' hy' => ?_⟩
  by_cases e : y' = y
  · subst e
    exact (h.row y' hy').set x v (fun j _ => by simp)
  · refine ((h.row y' hy').far (fun e2 => e (hg y' y hy' hy e2)) v).congr (fun j _ => ?_)
    rw [if_neg (fun hh => e hh.2)]
/-- One more row is laid: its block is known, and its slot is set. -/
theorem RowsK.addRow {w : World} {m W H k : Nat} {g : Nat → Nat} {F : Nat → Nat → Value} {t u : TypeId} (h : RowsK w m W H k g F t u) (hm : ∀ y, y < k → g y ≠ m)
    {r : Nat} (hr : r ≠ m) (hrow : FB w r W (fun x => F x k) u) :
    RowsK (w.setCell ⟨m, k, none⟩ (.slice (some ⟨r, 0, none⟩) W W)) m W H (k + 1) (fun y => if y = k then r else g y) F t u := by
  refine ⟨h.top.set k _ (fun j _ => ?_), fun y hy => ?_⟩
  · by_cases e : j = k
    · subst e; simp
    · by_cases e2 : j < k
      · simp [e, e2, show j < k + 1 by omega]
      · simp [e, e2, show ¬ j < k + 1 by omega]
  · by_cases e : y = k
    · subst e
      simpa using hrow.far hr _
    · simpa [e] using (h.row y (by omega)).far (hm y (by omega)) _

end Go.Proofs.YtplpafbkalkchaaGreatDoor

namespace Go.Proofs.YtplpafbkalkchaaGreatDoor
open Go.RowKit

/-- A region laid, up to the dot (x, y) of it, row by row. -/
def regF (f : Nat → Nat → Bool) (l r t y x : Nat) : Nat → Nat → Bool := fun x' y' => f x' y' || decide (l ≤ x' ∧ x' < r ∧ t ≤ y' ∧ (y' < y ∨ (y' = y ∧ x' < x)))

set_option maxRecDepth 100000 in
set_option maxHeartbeats 400000 in
theorem bmRegion_ok (b c W H l t n m : Nat) (f : Nat → Nat → Bool) (w : World) (h : BM w b c W H f) (hx : l + n ≤ W) (hy : t + m ≤ H) (hn : 0 < n) (hm : 0 < m) (hW : W ≤ 1000000) (hH : H ≤ 1000000)
    (L T N M : Int) (hL : L = (l : Int)) (hT : T = (t : Int)) (hN : N = (n : Int)) (hM : M = (m : Int)) :
    Calls Tryz.prog 75 #[.pointer (some ⟨b, 0, none⟩), .int .i64 L, .int .i64 T, .int .i64 N, .int .i64 M] w fun e w' => e = .returned .nilIface ∧
      BM w' b c W H (fun x y => f x y || decide (l ≤ x ∧ x < l + n ∧ t ≤ y ∧ y < t + m)) ∧ Keeps (fun i => i = c) w w' := by
  subst hL hT hN hM
  have a0 := h.head.1
  have a1 := h.head.2.1
  have d1 : (decide ((t : Int) < 0)) = false := decide_eq_false (by omega)
  have d2 : (decide ((l : Int) < 0)) = false := decide_eq_false (by omega)
  have d3 : (decide ((m : Int) < 1)) = false := decide_eq_false (by omega)
  have d4 : (decide ((n : Int) < 1)) = false := decide_eq_false (by omega)
  have d5 : (decide ((H : Int) < (t : Int) + (m : Int))) = false := decide_eq_false (by omega)
  have d6 : (decide ((W : Int) < (l : Int) + (n : Int))) = false := decide_eq_false (by omega)
  have HB := Lib.hid h
  clear h
  go_enter Tryz.func75, Tryz.ntmps75
  go_wp2_with fail
  clear a0 a1 d1 d2 d3 d4 d5 d6
  go_loopw [13] (fun y wr => ∃ k : Nat, t ≤ k ∧ k ≤ t + m ∧ y = .int .i64 (k : Int) ∧ BM wr b c W H (regF f l (l + n) t k l) ∧ Keeps (fun i => i = c) w wr) (fun y _ => t + m - (intOf y).toNat)
  case atStart => exact ⟨t, by omega, by omega, rfl, HB.out.congr (fun x y _ _ => by
      have : ¬ (l ≤ x ∧ x < l + n ∧ t ≤ y ∧ (y < t ∨ (y = t ∧ x < l))) := by omega
      simp only [regF, this, decide_false, Bool.or_false]), Keeps.refl _ _⟩
  case round =>
    obtain ⟨k, k1, k2, rfl, r1, r2⟩ := hrel
    have b2 := r1.head.2.2.1
    have hrs : rows32 W ≤ 40000 := by unfold rows32; omega
    have R1 := Lib.hid r1
    have R2 := Lib.hid r2
    generalize hr : rows32 W = r at *
    have hkr : k * r ≤ 1000000 * 40000 := Nat.mul_le_mul (by omega) hrs
    by_cases hlt : k < t + m
    · clear r1 r2
      go_wp2_with fail
      go_loopw [15] (fun x w2 => ∃ j : Nat, l ≤ j ∧ j ≤ l + n ∧ x = .int .i64 (j : Int) ∧ BM w2 b c W H (regF f l (l + n) t k j) ∧ Keeps (fun i => i = c) w w2) (fun x _ => l + n - (intOf x).toNat)
      case atStart => exact ⟨l, by omega, by omega, rfl, R1.out, R2.out⟩
      case round =>
        obtain ⟨j, j1, j2, rfl, s1, s2⟩ := hrel
        by_cases hj : j < l + n
        · obtain ⟨r', n', i, u, hr2, hyr, hi, hix, a0, a1, a2, a3, hu, q1, q2, q3, q4, _⟩ := s1.dot (x := j) (y := k) (by omega) (by omega) hW hH
          have e := s1.head.2.2.1
          rw [a2, hr] at e
          have e' : (r' : Int) = r := by simpa using e
          obtain rfl : r' = r := by omega
          clear e'
          have hb := or_u32 (k := j % 32) hu (by omega)
          have hk := s2.setCell (p := ⟨c, k * r' + j / 32, none⟩) (Or.inl rfl) (.int .u32 ((u ||| 2 ^ (j % 32) : Nat) : Int))
          have hq : BM (wr.setCell ⟨c, k * r' + j / 32, none⟩ (.int .u32 ((u ||| 2 ^ (j % 32) : Nat) : Int))) b c W H (regF f l (l + n) t k (j + 1)) := q4.congr (fun x y _ _ => by
            show (if x = j ∧ y = k then true else _) = _
            unfold regF
            by_cases e : x = j ∧ y = k
            · rw [if_pos e]
              have : l ≤ x ∧ x < l + n ∧ t ≤ y ∧ (y < k ∨ (y = k ∧ x < j + 1)) := by omega
              simp [this]
            · rw [if_neg e]
              congr 1
              exact decide_eq_decide.2 (by omega))
          have KB := Lib.hid hb
          have KK := Lib.hid hk
          have KQ := Lib.hid hq
          clear hb hk hq q3 q4 s1 s2 hi e hr R1 R2 HB b2
          go_wp2
          go_roundw
          case rel =>
            rw [KB.out]
            exact ⟨j + 1, by omega, by omega, by go_num, KQ.out, KK.out⟩
          case measure => simp [intOf]; omega
        · obtain rfl : j = l + n := by omega
          have S1 := Lib.hid s1
          have S2 := Lib.hid s2
          clear s1 s2
          go_wp2
          go_roundw
          case rel => exact ⟨k + 1, by omega, by omega, by go_num, S1.out.congr (fun x y _ _ => by unfold regF; congr 1; exact decide_eq_decide.2 (by omega)), S2.out⟩
          case measure => simp [intOf]; omega
    · obtain rfl : k = t + m := by omega
      have fin : BM wr b c W H (fun x y => f x y || decide (l ≤ x ∧ x < l + n ∧ t ≤ y ∧ y < t + m)) := r1.congr (fun x y _ _ => by unfold regF; congr 1; exact decide_eq_decide.2 (by omega))
      have F := Lib.hid (And.intro fin r2)
      clear fin r1 r2 R1 R2 HB b2
      go_wp2
      go_ret
      exact ⟨rfl, F.out⟩

end Go.Proofs.YtplpafbkalkchaaGreatDoor

namespace Go.Proofs.YtplpafbkalkchaaGreatDoor
open Go.RowKit

set_option maxRecDepth 100000 in
theorem bmSquare_ok (W : Nat) (w : World) (hW : 0 < W) (hW2 : W ≤ 1000000) (X : Int) (hX : X = (W : Int)) :
    Calls Tryz.prog 255 #[.int .i64 X] w fun e w' => e = .returned (.tuple #[.pointer (some ⟨w.heap.size + 1, 0, none⟩), .nilIface]) ∧
      BM w' (w.heap.size + 1) w.heap.size W W (fun _ _ => false) ∧ Keeps (fun _ => False) w w' ∧ w'.heap.size = w.heap.size + 2 := by
  subst hX
  go_enter Tryz.func255, Tryz.ntmps255
  go_wp2_with fail
  refine (bmNew_ok W W w hW hW hW2 hW2 _ _ rfl rfl).mono ?_
  rintro e w1 ⟨rfl, h⟩
  have H := Lib.hid h
  clear h
  go_wp2
  go_ret2
  exact ⟨rfl, H.out⟩

def vb (b : Bool) : Value := .bool b
/-- A map of bools: H rows of W. -/
def BMap (w : World) (m W H : Nat) (g : Nat → Nat) (f : Nat → Nat → Bool) : Prop := RowsK w m W H H g (fun x y => .bool (f x y)) 57 4

set_option maxRecDepth 100000 in
set_option maxHeartbeats 400000 in
theorem bmParse_ok (m W H : Nat) (g : Nat → Nat) (f : Nat → Nat → Bool) (w : World) (h : BMap w m W H g f) (hW : 0 < W) (hH : 0 < H) (hW2 : W ≤ 1000000) (hH2 : H ≤ 1000000) :
    Calls Tryz.prog 131 #[.slice (some ⟨m, 0, none⟩) H H] w fun e w' => e = .returned (.tuple #[.pointer (some ⟨w.heap.size + 1, 0, none⟩), .nilIface]) ∧
      BM w' (w.heap.size + 1) w.heap.size W H f ∧ Keeps (fun _ => False) w w' := by
  have a0 := h.slot (y := 0) hH (Nat.le_refl _)
  have d0 : (decide ((0 : Int) < (H : Int))) = true := decide_eq_true (by omega)
  have hH' : ((0 : Nat) : Int) < (H : Int) := by omega
  have hml := h.top.lt
  have hgl : ∀ y, y < H → g y < w.heap.size := fun y hy => (h.row y hy).lt
  have HM := Lib.hid (And.intro h (And.intro hml hgl))
  clear h hml hgl
  generalize g 0 = g0 at a0
  go_enter Tryz.func131, Tryz.ntmps131
  go_wp2_with fail
  refine (bmNew_ok W H w hW hH hW2 hH2 _ _ rfl rfl).mono ?_
  rintro e w1 ⟨rfl, h1, h2, h3⟩
  have H1 := Lib.hid h1
  have H2 := Lib.hid h2
  generalize hB : w.heap.size + 1 = B at *
  generalize hC : w.heap.size = C at *
  clear h1 h2 h3 a0 d0
  have HBC := Lib.hid (And.intro hB hC)
  clear hB hC
  go_wp2_with fail
  go_loopw [8] (fun y wr => ∃ k : Nat, k ≤ H ∧ y = .int .i64 (k : Int) ∧ BM wr B C W H (fun x' y' => if y' < k then f x' y' else false) ∧ Keeps (fun i => i = C) w1 wr) (fun y _ => H - (intOf y).toNat)
  case atStart => exact ⟨0, by omega, rfl, H1.out.congr (fun x y _ _ => by simp), Keeps.refl _ _⟩
  case round =>
    obtain ⟨k, k1, rfl, r1, r2⟩ := hrel
    have hk : Keeps (fun i => i = C) w wr := (H2.out.mono (fun _ _ h => h.elim)).trans r2
    have R1 := Lib.hid r1
    have R2 := Lib.hid r2
    by_cases hlt : k < H
    · have hmap : BMap wr m W H g f := RowsK.keep HM.out.1 hk (by have := HM.out.2.1; have := HBC.out; omega) (fun y hy => by have := HM.out.2.2 y hy; have := HBC.out; omega)
      have a0 := hmap.slot (y := k) hlt (Nat.le_refl _)
      have hk' : ((k : Nat) : Int) < (H : Int) := by omega
      have HP := Lib.hid hmap
      have HK := Lib.hid hk
      clear r1 r2 hmap hk
      obtain ⟨gk, hgk⟩ : ∃ gk, g k = gk := ⟨_, rfl⟩
      have HG := Lib.hid hgk
      rw [hgk] at a0
      clear hgk
      go_wp2_with fail
      clear a0
      go_loopw [10] (fun x wr => ∃ j : Nat, j ≤ W ∧ x = .int .i64 (j : Int) ∧ BM wr B C W H (fun x' y' => if y' < k then f x' y' else if y' = k ∧ x' < j then f x' y' else false) ∧ Keeps (fun i => i = C) w1 wr) (fun x _ => W - (intOf x).toNat)
      case atStart => exact ⟨0, by omega, rfl, R1.out.congr (fun x y _ _ => by by_cases e : y < k <;> simp [e]), R2.out⟩
      case round =>
        obtain ⟨j, j1, rfl, s1, s2⟩ := hrel
        have S1 := Lib.hid s1
        have S2 := Lib.hid s2
        by_cases hj : j < W
        · have hk2 : Keeps (fun i => i = C) w wr := (H2.out.mono (fun _ _ h => h.elim)).trans s2
          have hrow := (HM.out.1.row k hlt).keep hk2 (by have := HM.out.2.2 k hlt; have := HBC.out; omega)
          rw [HG.out] at hrow
          have hj' : ((j : Nat) : Int) < (W : Int) := by omega
          obtain ⟨v, hv⟩ : ∃ v, f j k = v := ⟨_, rfl⟩
          have hc := hrow.cellv (i := j) hj (v := .bool v) (by rw [hv])
          have HV := Lib.hid hv
          clear s1 s2 hrow hk2 hv
          cases v
          · go_wp2
            go_roundw
            case rel =>
              refine ⟨j + 1, by omega, by go_num, S1.out.congr (fun x y _ _ => ?_), S2.out⟩
              have := HV.out
              by_cases e : y = k ∧ x = j
              · obtain ⟨rfl, rfl⟩ := e; simp [this]
              · have : (y = k ∧ x < j + 1) ↔ (y = k ∧ x < j) := by omega
                simp only [this]
            case measure => simp [intOf]; omega
          · go_wp2_with fail
            refine (bmSet_ok B C W H j k _ _ S1.out hj hlt hW2 hH2 _ _ rfl rfl).mono ?_
            rintro e w2 ⟨rfl, t1, t2⟩
            have T1 := Lib.hid t1
            have T2 := Lib.hid t2
            clear t1 t2
            go_wp2
            go_roundw
            case rel =>
              refine ⟨j + 1, by omega, by go_num, T1.out.congr (fun x y _ _ => ?_), S2.out.trans T2.out⟩
              have := HV.out
              by_cases e : x = j ∧ y = k
              · obtain ⟨rfl, rfl⟩ := e; simp [this]
              · have h2 : (y = k ∧ x < j + 1) ↔ (y = k ∧ x < j) := by omega
                simp only [e, if_false, h2]
            case measure => simp [intOf]; omega
        · obtain rfl : j = W := by omega
          clear s1 s2
          go_wp2
          go_roundw
          case rel => exact ⟨k + 1, by omega, by go_num, S1.out.congr (fun x y hx _ => by
              by_cases e : y < k
              · simp [e, show y < k + 1 by omega]
              · by_cases e2 : y = k
                · simp [e2, hx]
                · simp [e, e2, show ¬ y < k + 1 by omega]), S2.out⟩
          case measure => simp [intOf]; omega
    · obtain rfl : k = H := by omega
      clear r1 r2
      go_wp2
      go_ret2
      rw [HBC.out.2, HBC.out.1]
      exact ⟨rfl, R1.out.congr (fun x y _ hy => by simp [hy]), ⟨R2.out.os.trans H2.out.os, R2.out.tape.trans H2.out.tape, R2.out.output.trans H2.out.output, Nat.le_trans H2.out.size R2.out.size, fun i hi _ => by
        rw [R2.out.block i (Nat.lt_of_lt_of_le hi H2.out.size) (by have := HBC.out; omega), H2.out.block i hi (fun h => h)]⟩⟩

end Go.Proofs.YtplpafbkalkchaaGreatDoor
