/-
  Parts of the proof (DS).
-/
import Derived.Test.YtplpafbkalkchaaGreatDoorM10
import Derived.Test.YtplpafbkalkchaaGreatDoorM16
import Derived.Test.YtplpafbkalkchaaGreatDoorM39
set_option linter.unusedSimpArgs false
set_option linter.unusedVariables false

namespace Go.Proofs.YtplpafbkalkchaaGreatDoor
open Go.RowKit

theorem digits_back (cs : List Nat) (h : cs.all _root_.QR.isDigit = true) : (∀ t ∈ cs.map (· - 48), t < 10) ∧ (cs.map (· - 48)).map (48 + ·) = cs := by
  rw [List.all_eq_true] at h
  constructor
  · intro t ht
    obtain ⟨c, hc, rfl⟩ := List.mem_map.1 ht
    have := h c hc
    simp [_root_.QR.isDigit] at this
    omega
  · rw [List.map_map]
    refine (List.map_congr_left (fun c hc => ?_)).trans (List.map_id cs)
    have := h c hc
    simp [_root_.QR.isDigit] at this
    simp; omega
theorem alphas_back (cs : List Nat) (h : cs.all (fun c => _root_.QR.isDigit c || _root_.QR.isLetter c) = true) : (∀ t ∈ cs.map (fun c => (_root_.QR.acode c).toNat), t < 45) ∧ (cs.map (fun c => (_root_.QR.acode c).toNat)).map (fun t => _root_.QR.achars.getD t 0) = cs := by
  rw [List.all_eq_true] at h
  have key : ∀ c ∈ cs, 0 ≤ _root_.QR.acode c ∧ _root_.QR.acode c < 45 ∧ _root_.QR.achars.getD (_root_.QR.acode c).toNat 0 = c := by
    intro c hc
    have h1 := h c hc
    rcases _root_.QR.acode_spec c with h2 | h2
    · rcases (Bool.or_eq_true _ _).mp h1 with h3 | h3
      · have h4 := _root_.QR.digit_code c h3
        simp [_root_.QR.isDigit] at h3
        omega
      · simp [_root_.QR.isLetter, h2] at h3
    · exact h2
  constructor
  · intro t ht
    obtain ⟨c, hc, rfl⟩ := List.mem_map.1 ht
    have := key c hc
    omega
  · rw [List.map_map]
    refine (List.map_congr_left (fun c hc => ?_)).trans (List.map_id cs)
    exact (key c hc).2.2
theorem lenBits_same (m : Nat) : QR.lenBits m = _root_.QR.lenBits m := by
  match m with
  | 0 => rfl
  | 1 => rfl
  | 2 => rfl
  | _ + 3 => rfl
theorem mode_one {cs : List Nat} (h : _root_.QR.modeOf cs = 1) : cs.all _root_.QR.isDigit = true := by
  unfold _root_.QR.modeOf at h
  by_cases a1 : cs.all _root_.QR.isDigit = true
  · exact a1
  · by_cases a2 : (cs.all fun c => _root_.QR.isDigit c || _root_.QR.isLetter c) = true <;> simp [a1, a2] at h
theorem mode_two {cs : List Nat} (h : _root_.QR.modeOf cs = 2) : cs.all (fun c => _root_.QR.isDigit c || _root_.QR.isLetter c) = true := by
  unfold _root_.QR.modeOf at h
  by_cases a2 : (cs.all fun c => _root_.QR.isDigit c || _root_.QR.isLetter c) = true
  · exact a2
  · by_cases a1 : cs.all _root_.QR.isDigit = true <;> simp [a1, a2] at h
theorem Ver.under {w w' : World} {s b v B : Nat} (h : Ver w s b v) (hB : b < B) (hk : Keeps (fun i => B ≤ i) w w') : Ver w' s b v := h.keep hk (fun i _ h2 e => by omega)

theorem make_cap {P : Program} (t e : TypeId) (z : Value) (bytes : Nat) (ht : P.underlying t = some (.slice e)) (hinfo : (P.info? e).map (fun i => (i.zero, i.size, i.bytes)) = some (some z, 1, bytes)) (hz1 : z.cells = #[z])
    (n c : Nat) (hnc : n ≤ c) (hbytes : bytes * c ≤ 281474976710656) (h63 : c ≤ 9223372036854775807) (w : World) :
    (Instr.makeSlice t (.int .i64 (n : Int)) (.int .i64 (c : Int))).run P w = .ok (.slice (some ⟨w.heap.size, 0, none⟩) n c) (w.alloc (.cells (rep c z).toArray e)) := by
  obtain ⟨i, hi, hz, hs, hb⟩ := info_parts hinfo
  have hb' : (i.bytes : Int) * (c : Int) ≤ 281474976710656 := by
    have h : ((i.bytes * c : Nat) : Int) ≤ 281474976710656 := by rw [hb]; omega
    rwa [Int.natCast_mul] at h
  have hr := run_make (P := P) w t e i z ht hi hz .i64 .i64 n c (by omega) (by omega) hb' (by omega)
  simp only [Int.toNat_natCast, hs, Nat.mul_one, hz1, madeCells_rep] at hr
  exact hr
theorem own_shape {w : World} {B : Nat} {v : Value} {n : Nat} {e : TypeId} {xs : List Value} (h : w.ownsRow B e 1 v n xs) : ∃ a k, v = .slice a n k := by
  obtain ⟨_, h | ⟨g, cap, _, hv, _⟩⟩ := h
  · exact ⟨_, _, by rw [h.1, h.2]⟩
  · exact ⟨_, _, hv⟩
theorem own_new {w : World} {B q c : Nat} {e : TypeId} {z : Value} (h : Blk w q (rep c z) e) (hB : B ≤ q) (hc : c ≤ 1000) : w.ownsRow B e 1 (.slice (some ⟨q, 0, none⟩) 0 c) 0 [] :=
  ⟨rfl, Or.inr ⟨q, c, (rep c z).toArray, rfl, hB, h, Nat.zero_le _, by unfold maxLen; omega, by simp [rep], by simp⟩⟩

def nameOf : Nat → ByteArray
  | 0 => ⟨#[77]⟩
  | 1 => ⟨#[76]⟩
  | 2 => ⟨#[72]⟩
  | _ => ⟨#[81]⟩
theorem levelName2_ok (l : Nat) (hl : l < 4) (L : Int) (hL : L = (l : Int)) (w : World) : Calls Tryz.prog 237 #[.int .i64 L] w fun e w' => e = .returned (.string (nameOf l)) ∧ w = w' := by
  subst hL
  obtain rfl | rfl | rfl | rfl : l = 0 ∨ l = 1 ∨ l = 2 ∨ l = 3 := by omega
  all_goals
    go_enter Tryz.func237, Tryz.ntmps237
    go_wp2
    go_ret
    exact ⟨rfl, rfl⟩
theorem conv_text {w : World} {B r n cap : Nat} {cs : List Nat} {T : ByteArray} (h : w.ownsRow B 5 1 (.slice (some ⟨r, 0, none⟩) n cap) n (cs.map vu8)) (hn : cs.length = n) (h1 : 0 < n) (hT : codes T = cs) :
    (convert 35 9 (.slice (some ⟨r, 0, none⟩) n cap)).run Tryz.prog w = .ok (.string T) w := by
  obtain ⟨r', cap', hv, _, hc, _, _⟩ := own_cell h h1
  obtain ⟨rfl, rfl⟩ : r' = r ∧ cap' = cap := by simpa using hv.symm
  rw [run_convert_bytes_string w 35 9 5 _ n cap' Tryz.underlying35 Tryz.underlying5 Tryz.underlying9]
  have hl : (loadCells ⟨r', 0, none⟩ n).run Tryz.prog w = .ok ((cs.map fun n => ((n : Nat) : Int)).map (Value.int .u8)).toArray w := by
    have := run_loadCells_list (P := Tryz.prog) (w := w) ⟨r', 0, none⟩ (cs.map vu8) (fun j v hj => by
      have := hc j v hj
      have e : (Addr.add ⟨r', 0, none⟩ j) = ⟨r', j, none⟩ := by
        unfold Addr.add
        by_cases h0 : j = 0
        · subst h0; simp
        · simp [h0]
      rw [e]; exact this)
    rw [List.length_map, hn] at this
    rw [this, List.map_map]; rfl
  rw [run_bytesToString w _ n cap' _ hl, ← hT, text_back]

set_option maxRecDepth 100000 in
set_option maxHeartbeats 1000000 in
theorem decodeStream_ok (w : World) (d c vs vb vn l : Nat) (ds cs : List Nat) (T : ByteArray) (T0 : List Bool) (hints : Value) (hd : Row8 w d ds.length (fun i => ds.getD i 0)) (hby : ∀ i, ds.getD i 0 < 256) (hdl : ds.length ≤ 10000) (hv : Ver w vs vb vn) (hvn : vn ≤ 7) (hl4 : l < 4)
    (hT : codes T = cs) (hc1 : 1 ≤ cs.length) (hc2 : cs.length ≤ 60) (hbits : _root_.QR.bytesBits ds = _root_.QR.segBits (_root_.QR.modeOf cs) cs ++ T0) (hz : T0.length < 4 ∨ ∃ R, T0 = _root_.QR.bitsOf 4 0 ++ R) (Lv : Int) (hLv : Lv = (l : Int)) :
    Calls Tryz.prog 199 #[.slice (some ⟨d, 0, none⟩) ds.length c, .pointer (some ⟨vb, 0, none⟩), .int .i64 Lv, hints] w fun e w' => ∃ (r : Nat) (x2 : Option Addr) (n2 k2 : Nat) (u : ByteArray) (a b cc : Int), e = .returned (.tuple #[.pointer (some ⟨r, 0, none⟩), .nilIface]) ∧
      Blk w' r [.slice (some ⟨d, 0, none⟩) ds.length c, .int .i64 (8 * (ds.length : Int)), .string T, .slice x2 n2 k2, .string u, .int .i64 0, .int .i64 0, .nilIface, .int .i64 b, .int .i64 a, .int .i64 cc] 235 ∧ Keeps (fun _ => False) w w' ∧ BSeg w' x2 n2 := by
  subst hLv
  have hcs : ∀ t ∈ cs, t < 256 := by
    rw [← hT]; intro t ht
    unfold codes at ht
    obtain ⟨b, _, rfl⟩ := List.mem_map.1 ht
    exact b.toNat_lt
  obtain ⟨m, hm⟩ : ∃ m, _root_.QR.modeOf cs = m := ⟨_, rfl⟩
  have hm3 : m = 1 ∨ m = 2 ∨ m = 4 := by rw [← hm]; unfold _root_.QR.modeOf; by_cases a1 : cs.all _root_.QR.isDigit = true <;> by_cases a2 : (cs.all fun c => _root_.QR.isDigit c || _root_.QR.isLetter c) = true <;> simp [a1, a2]
  obtain ⟨B, hB⟩ : ∃ B, w.heap.size = B := ⟨_, rfl⟩
  have HB := Lib.hid hB
  have H := Lib.hid (And.intro hd (And.intro hv (And.intro hT (And.intro hz (And.intro hm hby)))))
  rw [hm] at hbits
  have HBT := Lib.hid hbits
  obtain ⟨L, hL⟩ : ∃ L, ds.length = L := ⟨_, rfl⟩
  have HL := Lib.hid hL
  obtain ⟨n, hn⟩ : ∃ n, cs.length = n := ⟨_, rfl⟩
  have HN := Lib.hid hn
  rw [hn] at hc1 hc2
  rw [hL]
  rw [hL] at hdl
  clear hd hv hT hz hm hbits hB hby hL hn
  have hmk1 : ∀ w0 : World, (Instr.makeSlice 35 (.int .i64 0) (.int .i64 50)).run Tryz.prog w0 = .ok (.slice (some ⟨w0.heap.size, 0, none⟩) 0 50) (w0.alloc (.cells (rep 50 (.int .u8 0)).toArray 5)) := fun w0 => make_cap (P := Tryz.prog) 35 5 (.int .u8 0) 1 Tryz.underlying35 info5 rfl 0 50 (by omega) (by omega) (by omega) w0
  have hmk2 : ∀ w0 : World, (Instr.makeSlice 38 (.int .i64 0) (.int .i64 1)).run Tryz.prog w0 = .ok (.slice (some ⟨w0.heap.size, 0, none⟩) 0 1) (w0.alloc (.cells (rep 1 (.slice none 0 0)).toArray 35)) := fun w0 => make_cap (P := Tryz.prog) 38 35 (.slice none 0 0) 24 Tryz.underlying38 info35 rfl 0 1 (by omega) (by omega) (by omega) w0
  go_enter Tryz.func199, Tryz.ntmps199
  go_wp2_with fail
  refine (newBits_ok d L c w).mono ?_
  rintro e w1 ⟨rfl, z1, z2, z3⟩
  rw [HB.out] at z1 z3
  have B1 := Lib.hid z1
  have K1 := Lib.hid z2
  have m1 := hmk1 w1
  rw [z3] at m1
  have m2 := hmk2 (w1.alloc (.cells (rep 50 (.int .u8 0)).toArray 5))
  rw [show (w1.alloc (.cells (rep 50 (.int .u8 0)).toArray 5)).heap.size = B + 2 by simp [z3]] at m2
  have Z3 := Lib.hid z3
  clear z1 z2 z3 hmk1 hmk2
  rw [HB.out]
  have hdB : d < B := by have := H.out.1.lt; have := HB.out; omega
  have hdB' := hdB
  have A1 := Lib.hid (And.intro (B1.out.alloc (.cells (rep 50 (.int .u8 0)).toArray 5)) (Blk.new w1 (rep 50 (.int .u8 0)) 5))
  have hw2 : (w1.alloc (.cells (rep 50 (.int .u8 0)).toArray 5)).heap.size = B + 2 := by simp [Z3.out]
  have S0 : Hid (Seg ((w1.alloc (.cells (rep 50 (.int .u8 0)).toArray 5)).alloc (.cells (rep 1 (.slice none 0 0)).toArray 35)) B B d ds c (_root_.QR.bytesBits ds) (.slice (some ⟨B + 1, 0, none⟩) 0 50) []) := Lib.hid (by
    have k2 := ((Keeps.refl (fun _ => False) w1).alloc (.cells (rep 50 (.int .u8 0)).toArray 5)).alloc (.cells (rep 1 (.slice none 0 0)).toArray 35)
    refine ⟨⟨0, ⟨?_, ?_, Nat.zero_le _, H.out.2.2.2.2.2⟩, rfl⟩, ?_, Nat.le_refl _, hdB, ?_, by rw [HL.out]; exact hdl⟩
    · have := B1.out.keep k2 (fun f => f); rw [HL.out]; exact this
    · exact H.out.1.keep (K1.out.trans k2) (fun f => f)
    · have := A1.out.2.alloc (.cells (rep 1 (.slice none 0 0)).toArray 35)
      rw [Z3.out] at this
      exact own_new this (by omega) (by omega)
    · simp; have := Z3.out; omega)
  have O0 : Hid (((w1.alloc (.cells (rep 50 (.int .u8 0)).toArray 5)).alloc (.cells (rep 1 (.slice none 0 0)).toArray 35)).ownsRow B 35 1 (.slice (some ⟨B + 2, 0, none⟩) 0 1) 0 []) := Lib.hid (by
    have := Blk.new (w1.alloc (.cells (rep 50 (.int .u8 0)).toArray 5)) (rep 1 (.slice none 0 0)) 35
    rw [hw2] at this
    exact own_new this (by omega) (by omega))
  have K2 : Hid (Keeps (fun i => B ≤ i) w ((w1.alloc (.cells (rep 50 (.int .u8 0)).toArray 5)).alloc (.cells (rep 1 (.slice none 0 0)).toArray 35))) := Lib.hid (((K1.out.mono (S' := fun i => B ≤ i) (fun _ _ f => f.elim)).alloc _).alloc _)
  clear hw2 hdB'
  go_wp2_with fail
  go_loopw [11, 12, 13, 14, 16, 17, 18, 19, 20] (fun s11 s12 s13 s14 s16 s17 s18 s19 s20 wr => ∃ st : Nat, s13 = .int .i64 (-1) ∧ s14 = .int .i64 (-1) ∧ s16 = .pointer none ∧ s17 = .bool false ∧ s18 = .bool false ∧ s19 = .bool false ∧ s20 = .int .i64 (st : Int) ∧
      Hid ((st = 0 ∧ Seg wr B B d ds c (_root_.QR.bytesBits ds) s11 [] ∧ s11 = .slice (some ⟨B + 1, 0, none⟩) 0 50 ∧ wr.ownsRow B 35 1 s12 0 []) ∨ (st ≠ 0 ∧ Seg wr B B d ds c T0 s11 cs ∧ ∃ a n k, s12 = .slice a n k ∧ BSeg wr a n)) ∧ Hid (Keeps (fun i => B ≤ i) w wr))
    (fun _ _ _ _ _ _ _ _ s20 _ => if intOf s20 = 0 then 1 else 0)
  case atStart => exact ⟨0, rfl, rfl, rfl, rfl, rfl, rfl, rfl, Lib.hid (Or.inl ⟨rfl, S0.out, rfl, O0.out⟩), K2⟩
  case round =>
    obtain ⟨st, rfl, rfl, rfl, rfl, rfl, rfl, rfl, HR, HK⟩ := hrel
    by_cases hst : st = 0
    · have HR2 : Hid (Seg wr B B d ds c (_root_.QR.bytesBits ds) u11 [] ∧ u11 = .slice (some ⟨B + 1, 0, none⟩) 0 50 ∧ wr.ownsRow B 35 1 u12 0 []) := Lib.hid (by
        rcases HR.out with h | h
        · exact h.2
        · exact absurd hst h.1)
      obtain ⟨M, hM⟩ : ∃ M, (_root_.QR.bytesBits ds).length = M := ⟨_, rfl⟩
      have hM4 : ¬ (M : Int) < 4 := by
        rw [← hM, HBT.out, _root_.QR.segBits]
        simp only [List.length_append, _root_.QR.bitsOf_length]
        omega
      have HM := Lib.hid hM
      clear hM
      go_wp2_with fail
      refine (seg_avail HR2.out.1).mono ?_
      rw [HM.out]
      rintro e w2 ⟨rfl, z1, z2⟩
      have S2 : Hid (Seg w2 B B d ds c (_root_.QR.bitsOf 4 m ++ (_root_.QR.bitsOf (_root_.QR.lenBits m) n ++ (_root_.QR.encOf m cs ++ T0))) u11 []) := Lib.hid (by
        have := z1
        rw [HBT.out, _root_.QR.segBits, HN.out] at this
        simpa only [List.append_assoc] using this)
      have O2 := Lib.hid (own_keep HR2.out.2.2 z2 (fun _ _ f => f))
      have K3 := Lib.hid (HK.out.trans (z2.mono (S' := fun i => B ≤ i) (fun _ _ f => f.elim)))
      clear z1 z2
      go_wp2_with fail
      refine (seg_read1 4 m S2.out (by rcases hm3 with rfl | rfl | rfl <;> decide) (by omega) (by omega) _ rfl).mono ?_
      rintro e w3 ⟨rfl, z1, z2⟩
      have S3 := Lib.hid z1
      have O3 : Hid (w3.ownsRow B 35 1 u12 0 []) := Lib.hid (own_keep O2.out z2 (fun r hr e => by
        obtain ⟨p, p1, p2⟩ := S2.out.src
        subst e
        exact (own_typ O2.out _ hr).1.ne p1.head.typ (by decide) rfl))
      have K4 := Lib.hid (K3.out.trans (z2.mono (fun i _ e => by omega)))
      clear z1 z2
      go_wp2_with fail
      refine (modeFor_ok m (Or.inr hm3) _ rfl w3).mono ?_
      rintro e w3' ⟨rfl, rfl⟩
      have V3 := Lib.hid (H.out.2.1.under (by have := H.out.2.1.ltb; have := HB.out; omega) K4.out)
      have hcb := charBits_ok m vs vb vn w3 V3.out hm3 hvn
      rw [lenBits_same] at hcb
      obtain ⟨lb, hlb⟩ : ∃ lb, _root_.QR.lenBits m = lb := ⟨_, rfl⟩
      have hlb2 : 8 ≤ lb ∧ lb ≤ 10 := by rw [← hlb]; rcases hm3 with rfl | rfl | rfl <;> decide
      have hn2 : n < 2 ^ lb := Nat.lt_of_lt_of_le (show n < 2 ^ 8 by omega) (Nat.pow_le_pow_right (by omega) hlb2.1)
      have S3' : Hid (Seg w3 B B d ds c (_root_.QR.bitsOf lb n ++ (_root_.QR.encOf m cs ++ T0)) u11 []) := Lib.hid (by have := S3.out; rw [hlb] at this; exact this)
      rw [hlb] at hcb
      have HCB := Lib.hid hcb
      have hst' : (st : Int) = 0 := by omega
      clear hcb hlb S3
      have SH := Lib.hid (own_shape HR2.out.2.2)
      rcases hm3 with rfl | rfl | rfl
      · go_wp2_with fail
        refine HCB.out.mono ?_
        rintro e w4 ⟨rfl, z⟩
        have S4 := Lib.hid (S3'.out.keep z)
        have O4 := Lib.hid (own_keep O3.out z (fun _ _ f => f))
        have K5 := Lib.hid (K4.out.trans (z.mono (S' := fun i => B ≤ i) (fun _ _ f => f.elim)))
        clear z
        go_wp2_with fail
        refine (seg_read1 lb n S4.out hn2 (by omega) (by omega) _ rfl).mono ?_
        rintro e w5 ⟨rfl, z1, z2⟩
        have S5 := Lib.hid z1
        have O5 : Hid (w5.ownsRow B 35 1 u12 0 []) := Lib.hid (own_keep O4.out z2 (fun r hr e => by
          obtain ⟨p, p1, p2⟩ := S4.out.src
          subst e
          exact (own_typ O4.out _ hr).1.ne p1.head.typ (by decide) rfl))
        have K6 := Lib.hid (K5.out.trans (z2.mono (S' := fun i => B ≤ i) (fun i _ e => by omega)))
        clear z1 z2
        go_wp2_with fail
        have HB1 := Lib.hid (digits_back cs (mode_one H.out.2.2.2.2.1))
        refine (numSeg_ok w5 B B d ds c T0 u11 [] (cs.map (· - 48)) HB1.out.1 S5.out (by rw [List.length_map, HN.out]; omega) (by simp) _ (by rw [List.length_map, HN.out])).mono ?_
        rw [HB1.out.2]
        rintro e w6 ⟨v6, rfl, z1, z2⟩
        have S6 := Lib.hid z1
        have K7 := Lib.hid (K6.out.trans z2)
        clear z1 z2
        go_wp2_with fail
        go_roundw
        case rel => exact ⟨1, rfl, rfl, rfl, rfl, rfl, rfl, rfl, Lib.hid (Or.inr ⟨by omega, S6.out, by obtain ⟨a, k, h⟩ := SH.out; exact ⟨a, 0, k, h, Or.inl rfl⟩⟩), K7⟩
        case measure => simp [intOf, hst']
      · go_wp2_with fail
        refine HCB.out.mono ?_
        rintro e w4 ⟨rfl, z⟩
        have S4 := Lib.hid (S3'.out.keep z)
        have O4 := Lib.hid (own_keep O3.out z (fun _ _ f => f))
        have K5 := Lib.hid (K4.out.trans (z.mono (S' := fun i => B ≤ i) (fun _ _ f => f.elim)))
        clear z
        go_wp2_with fail
        refine (seg_read1 lb n S4.out hn2 (by omega) (by omega) _ rfl).mono ?_
        rintro e w5 ⟨rfl, z1, z2⟩
        have S5 := Lib.hid z1
        have O5 : Hid (w5.ownsRow B 35 1 u12 0 []) := Lib.hid (own_keep O4.out z2 (fun r hr e => by
          obtain ⟨p, p1, p2⟩ := S4.out.src
          subst e
          exact (own_typ O4.out _ hr).1.ne p1.head.typ (by decide) rfl))
        have K6 := Lib.hid (K5.out.trans (z2.mono (S' := fun i => B ≤ i) (fun i _ e => by omega)))
        clear z1 z2
        go_wp2_with fail
        have HB1 := Lib.hid (alphas_back cs (mode_two H.out.2.2.2.2.1))
        refine (alphaSeg_ok w5 B B d ds c T0 u11 [] (cs.map (fun c => (_root_.QR.acode c).toNat)) HB1.out.1 S5.out (by rw [List.length_map, HN.out]; omega) (by simp) ⟨_, _, _, HR2.out.2.1⟩ _ (by rw [List.length_map, HN.out])).mono ?_
        rw [HB1.out.2]
        rintro e w6 ⟨v6, rfl, z1, z2⟩
        have S6 := Lib.hid z1
        have K7 := Lib.hid (K6.out.trans z2)
        clear z1 z2
        go_wp2_with fail
        go_roundw
        case rel => exact ⟨2, rfl, rfl, rfl, rfl, rfl, rfl, rfl, Lib.hid (Or.inr ⟨by omega, S6.out, by obtain ⟨a, k, h⟩ := SH.out; exact ⟨a, 0, k, h, Or.inl rfl⟩⟩), K7⟩
        case measure => simp [intOf, hst']
      · go_wp2_with fail
        refine HCB.out.mono ?_
        rintro e w4 ⟨rfl, z⟩
        have S4 := Lib.hid (S3'.out.keep z)
        have O4 := Lib.hid (own_keep O3.out z (fun _ _ f => f))
        have K5 := Lib.hid (K4.out.trans (z.mono (S' := fun i => B ≤ i) (fun _ _ f => f.elim)))
        clear z
        go_wp2_with fail
        refine (seg_read1 lb n S4.out hn2 (by omega) (by omega) _ rfl).mono ?_
        rintro e w5 ⟨rfl, z1, z2⟩
        have S5 := Lib.hid z1
        have O5 : Hid (w5.ownsRow B 35 1 u12 0 []) := Lib.hid (own_keep O4.out z2 (fun r hr e => by
          obtain ⟨p, p1, p2⟩ := S4.out.src
          subst e
          exact (own_typ O4.out _ hr).1.ne p1.head.typ (by decide) rfl))
        have K6 := Lib.hid (K5.out.trans (z2.mono (S' := fun i => B ≤ i) (fun i _ e => by omega)))
        clear z1 z2
        go_wp2_with fail
        refine (byteSeg_ok w5 B B d ds c T0 u11 u12 [] cs hints hcs S5.out (by rw [HN.out]; omega) (by rw [HN.out]; omega) (by simp) O5.out _ (by rw [HN.out])).mono ?_
        rintro e w6 ⟨v6, r6, c6, rfl, z1, z2, z3⟩
        have S6 := Lib.hid z1
        have K7 := Lib.hid (K6.out.trans z2)
        have BS6 := Lib.hid z3
        clear z1 z2 z3
        go_wp2_with fail
        go_roundw
        case rel => exact ⟨4, rfl, rfl, rfl, rfl, rfl, rfl, rfl, Lib.hid (Or.inr ⟨by omega, S6.out, ⟨_, _, _, rfl, BS6.out⟩⟩), K7⟩
        case measure => simp [intOf, hst']
    · have HR2 : Hid (Seg wr B B d ds c T0 u11 cs ∧ ∃ a n k, u12 = .slice a n k ∧ BSeg wr a n) := Lib.hid (by
        rcases HR.out with h | h
        · exact absurd h.1 hst
        · exact h.2)
      obtain ⟨a2, n2, k2, rfl, hbs⟩ := HR2.out.2
      have HBS := Lib.hid hbs
      clear hbs
      obtain ⟨M, hM⟩ : ∃ M, T0.length = M := ⟨_, rfl⟩
      have HM := Lib.hid hM
      clear hM
      obtain ⟨r, cap, hv11, _, _, _, _⟩ := own_cell HR2.out.1.own (by rw [HN.out]; omega)
      rw [HN.out] at hv11
      subst hv11
      go_wp2_with fail
      refine (seg_avail HR2.out.1).mono ?_
      rw [HM.out]
      rintro e w2 ⟨rfl, z1, z2⟩
      have S2 := Lib.hid z1
      have K3 := Lib.hid (HK.out.trans (z2.mono (S' := fun i => B ≤ i) (fun _ _ f => f.elim)))
      have BS2 := Lib.hid (HBS.out.keep z2 (fun _ _ f => f.elim))
      clear z1 z2
      go_upto_if 37 with fail
      go_cut [20, 21, 22, 23] from 35 to 207 (fun s20 _ _ _ wx => s20 = .int .i64 0 ∧ Hid (∃ R', Seg wx B B d ds c R' (.slice (some ⟨r, 0, none⟩) n cap) cs) ∧ Hid (Keeps (fun i => B ≤ i) w wx) ∧ Hid (BSeg wx a2 n2))
      case first =>
        by_cases hM4 : M < 4
        · have hM4' : (M : Int) < 4 := by omega
          go_wp2_with fail
          go_meet
          exact ⟨rfl, Lib.hid ⟨_, S2.out⟩, K3, BS2⟩
        · have hM4' : ¬ (M : Int) < 4 := by omega
          have HZ : Hid (∃ R, T0 = _root_.QR.bitsOf 4 0 ++ R) := Lib.hid (by
            rcases H.out.2.2.2.1 with h | h
            · rw [HM.out] at h; omega
            · exact h)
          obtain ⟨R, hR⟩ := HZ.out
          have S2' : Hid (Seg w2 B B d ds c (_root_.QR.bitsOf 4 0 ++ R) (.slice (some ⟨r, 0, none⟩) n cap) cs) := Lib.hid (by rw [← hR]; exact S2.out)
          clear hR
          go_wp2_with fail
          refine (seg_read1 4 0 S2'.out (by decide) (by omega) (by omega) _ rfl).mono ?_
          rintro e w3 ⟨rfl, z1, z2⟩
          have S3 := Lib.hid z1
          have BS3 := Lib.hid (BS2.out.keep z2 (fun i _ e => by
            obtain ⟨p, p1, _⟩ := S2'.out.src
            subst e
            exact ⟨378, p1.head.typ, by decide, by decide⟩))
          have K4 := Lib.hid (K3.out.trans (z2.mono (S' := fun i => B ≤ i) (fun i _ e => by omega)))
          clear z1 z2
          go_wp2_with fail
          refine (modeFor_ok 0 (Or.inl rfl) _ rfl w3).mono ?_
          rintro e w3' ⟨rfl, rfl⟩
          go_wp2_with fail
          go_meet
          exact ⟨rfl, Lib.hid ⟨_, S3.out⟩, K4, BS3⟩
      case rest =>
        obtain ⟨rfl, HS, HK2, HB2⟩ := hcut
        have hconv : ∀ nq, (convert 35 9 (.slice (some ⟨r, 0, none⟩) n cap)).run Tryz.prog (wc.drewN nq) = .ok (.string T) (wc.drewN nq) := by
          intro nq
          obtain ⟨R', h⟩ := HS.out
          have h2 := own_keep h.own ((Keeps.refl (fun _ => False) wc).drewN nq) (fun _ _ f => f)
          rw [HN.out] at h2
          exact conv_text h2 HN.out (by omega) H.out.2.2.1
        have c237 : Hid (∀ nq, Calls Tryz.prog 237 #[.int .i64 (l : Int)] (wc.drewN nq) fun e w' => e = .returned (.string (nameOf l)) ∧ w' = wc.drewN nq) := Lib.hid (fun nq => (levelName2_ok l hl4 _ rfl _).mono (fun _ _ h => ⟨h.1, h.2.symm⟩))
        by_cases hn2 : n2 = 0
        · have hn2' : ((n2 : Int) == 0) = true := by subst hn2; rfl
          go_wp2_with fail
          refine wp_region_quiet_tail 9 (by kernel_rfl) (by kernel_rfl) ?_
          simp only [List.take_succ_cons, List.take_zero, List.drop_succ_cons, List.drop_zero]
          repeat (quiet_step (first | (go_at_call 237; exact Calls.quiet_of_same (c237.out _))))
          refine wpQuiet_nil ?_
          intro _ hw'
          obtain ⟨nq, hw''⟩ := hw'
          subst hw''
          have K5 := Lib.hid (HK2.out.drewN nq)
          go_wp2_with fail
          refine (newDR_ok _ L c T (nameOf l) _ _ _ (-1) (-1) 1 _ (by omega)).mono ?_
          rintro e w6 ⟨rfl, z1, z2⟩
          have Z := Lib.hid (And.intro z1 z2)
          clear z1 z2
          go_wp2_with fail
          go_ret2
          exact ⟨_, _, _, _, _, _, _, _, rfl, Z.out.1, (K5.out.mono (S' := fun _ => False) (fun i hi e => by have := HB.out; omega)).trans Z.out.2, Or.inl rfl⟩
        · have hn2' : ((n2 : Int) == 0) = false := beq_eq_false_iff_ne.2 (by omega)
          go_wp2_with fail
          refine wp_region_quiet_tail 9 (by kernel_rfl) (by kernel_rfl) ?_
          simp only [List.take_succ_cons, List.take_zero, List.drop_succ_cons, List.drop_zero]
          repeat (quiet_step (first | (go_at_call 237; exact Calls.quiet_of_same (c237.out _))))
          refine wpQuiet_nil ?_
          intro _ hw'
          obtain ⟨nq, hw''⟩ := hw'
          subst hw''
          have K5 := Lib.hid (HK2.out.drewN nq)
          go_wp2_with fail
          refine (newDR_ok _ L c T (nameOf l) _ _ _ (-1) (-1) 1 _ (by omega)).mono ?_
          rintro e w6 ⟨rfl, z1, z2⟩
          have Z := Lib.hid (And.intro z1 z2)
          clear z1 z2
          go_wp2_with fail
          go_ret2
          exact ⟨_, _, _, _, _, _, _, _, rfl, Z.out.1, (K5.out.mono (S' := fun _ => False) (fun i hi e => by have := HB.out; omega)).trans Z.out.2, (HB2.out.keep ((Keeps.refl (fun _ => False) wc).drewN nq) (fun _ _ f => f.elim)).keep Z.out.2 (fun _ _ f => f.elim)⟩

end Go.Proofs.YtplpafbkalkchaaGreatDoor
