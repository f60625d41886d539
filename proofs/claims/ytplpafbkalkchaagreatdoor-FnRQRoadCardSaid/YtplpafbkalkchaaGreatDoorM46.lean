/-
  Parts of the proof (DC, DC2, DD, DE).
-/
import Derived.Test.YtplpafbkalkchaaGreatDoorM39
import Derived.Test.YtplpafbkalkchaaGreatDoorM40
import Derived.Test.YtplpafbkalkchaaGreatDoorM41
import Derived.Test.YtplpafbkalkchaaGreatDoorM43
import Derived.Test.YtplpafbkalkchaaGreatDoorM44
import Derived.Test.YtplpafbkalkchaaGreatDoorM45
import Derived.Laws.ResultCell
set_option linter.unusedSimpArgs false
set_option linter.unusedVariables false

namespace Go.Proofs.YtplpafbkalkchaaGreatDoor
open Go.RowKit

theorem newDecoder_ok (w : World) : Calls Tryz.prog 34 #[] w fun e w' => ∃ db rd g, e = .returned (.pointer (some ⟨db, 0, none⟩)) ∧ Blk w' db [.pointer (some ⟨rd, 0, none⟩)] 180 ∧ Blk w' rd [.pointer (some ⟨g, 0, none⟩)] 237 ∧ Fld w' g ∧ Keeps (fun _ => False) w w' := by
  go_enter Tryz.func34, Tryz.ntmps34
  go_wp2_with fail
  refine (qrField_ok w).mono ?_
  rintro e w1 ⟨g, rfl, f1, f2, f3⟩
  have F1 := Lib.hid f1
  have K1 := Lib.hid f2
  clear f1 f2
  go_wp2_with fail
  refine (newRSD_ok g w1).mono ?_
  rintro e w2 ⟨rfl, z1, z2⟩
  have R2 := Lib.hid z1
  have K2 := Lib.hid z2
  clear z1 z2
  go_wp2_with fail
  go_ret
  exact ⟨_, _, g, rfl, Blk.new _ _ _, R2.out.alloc _, (F1.out.keep K2.out).keep ((Keeps.refl _ w2).alloc _), (K1.out.trans K2.out).alloc _⟩

/-- The blocks, one of them looked at and left as it was. -/
theorem DBs.same {w w' : World} {m nb : Nat} {pb cb : Nat → Nat} {len num : Nat → Nat} {F : Nat → Nat → Nat} (h : DBs w m nb nb pb cb len num F) {j : Nat} (hj : j < nb) (hk : Keeps (fun i => i = cb j) w w') (hb : FB w' (cb j) (len j) (fun p => vu8 (F j p)) 5) : DBs w' m nb nb pb cb len num F := by
  have hty : TypeAt w (cb j) 5 := ⟨_, _, h.row j hj⟩
  refine ⟨h.top.keep hk (fun e => ?_), fun j' hj' => (h.head j' hj').keep hk (fun e => ?_), fun j' hj' => ?_, h.inj⟩
  · exact (show TypeAt w m 320 from ⟨_, _, h.top⟩).ne hty (by decide) e
  · exact (h.head j' hj').typ.ne hty (by decide) e
  · by_cases e : j' = j
    · subst e; exact hb
    · exact (h.row j' hj').keep hk (fun e2 => e (h.inj j' j hj' hj e2))

set_option maxRecDepth 100000 in
set_option maxHeartbeats 1000000 in
theorem decode_ok (w : World) (db rd g p b c v l m : Nat) (hints : Value) (cs : List Nat) (T : ByteArray) (bits T0 : List Bool) (es : List (List Nat)) (hdb : Blk w db [.pointer (some ⟨rd, 0, none⟩)] 180) (hrd : Blk w rd [.pointer (some ⟨g, 0, none⟩)] 237) (hg : Fld w g)
    (hp : Blk w p [.pointer (some ⟨b, 0, none⟩), .pointer none, .pointer none, .bool false] 312)
    (hb : BM w b c (_root_.QR.side v) (_root_.QR.side v) (fun x y => _root_.QR.symM v m (_root_.QR.bitsOf 15 (_root_.QR.formatOf (l * 8 + m))) (_root_.QR.bitsOf 18 31892) bits x y == 1))
    (h1 : 1 ≤ v) (h7 : v ≤ 7) (hl : l < 4) (hm : m < 8) (hs : Sent v l cs bits T0 es) (hT : codes T = cs) (hc1 : 1 ≤ cs.length) (hc2 : cs.length ≤ 60) :
    Calls Tryz.prog 160 #[.pointer (some ⟨db, 0, none⟩), .pointer (some ⟨p, 0, none⟩), hints] w fun e w' => ∃ (r d n k : Nat) (F : Nat → Nat) (x2 : Option Addr) (n2 k2 : Nat) (u : ByteArray) (a b cc : Int), e = .returned (.tuple #[.pointer (some ⟨r, 0, none⟩), .nilIface]) ∧
      Blk w' r [.slice (some ⟨d, 0, none⟩) n k, .int .i64 (8 * (n : Int)), .string T, .slice x2 n2 k2, .string u, .int .i64 0, .int .i64 0, .nilIface, .int .i64 b, .int .i64 a, .int .i64 cc] 235 ∧ Row8 w' d n F ∧ n ≤ 10000 ∧ BSeg w' x2 n2 ∧ Keeps (fun i => i = p ∨ i = c) w w' := by
  obtain ⟨n, hn⟩ : ∃ n, _root_.QR.side v = n := ⟨_, rfl⟩
  obtain ⟨f, hf⟩ : ∃ f, (fun x y => _root_.QR.symM v m (_root_.QR.bitsOf 15 (_root_.QR.formatOf (l * 8 + m))) (_root_.QR.bitsOf 18 31892) bits x y == 1) = f := ⟨_, rfl⟩
  have hside : n = 17 + 4 * v := by rw [← hn]; unfold _root_.QR.side; omega
  have hpl := hp.lt
  have hcl : c < w.heap.size := hb.typb.2.lt
  have X1 : Hid (v = 7 → ∀ k, k < 18 → f ((_root_.QR.rdv 45).getD k (0, 0)).1 ((_root_.QR.rdv 45).getD k (0, 0)).2 = (_root_.QR.bitsOf 18 31892).getD k false) := Lib.hid (by
    intro h k hk
    subst h
    rw [← hf]
    exact sym_rdv _ _ _ hk)
  have X2 : Hid (∀ k, k < 15 → f (_root_.QR.rd1.getD k (0, 0)).1 (_root_.QR.rd1.getD k (0, 0)).2 = (_root_.QR.bitsOf 15 (_root_.QR.formatOf (l * 8 + m))).getD k false) := Lib.hid (by
    intro k hk
    rw [← hf]
    exact sym_rd1 h1 h7 _ _ _ hk)
  have X3 : Hid (∀ k, k < 15 → f ((_root_.QR.rd2 n).getD k (0, 0)).1 ((_root_.QR.rd2 n).getD k (0, 0)).2 = (_root_.QR.bitsOf 15 (_root_.QR.formatOf (l * 8 + m))).getD k false) := Lib.hid (by
    intro k hk
    rw [← hf, ← hn]
    exact sym_rd2 h1 h7 _ _ _ hk)
  have hlenb := sent_length hs h1 h7 hl
  have X4 : Hid (_root_.QR.readL (_root_.QR.fpat v) (fun x y => f x y != _root_.QR.mskD m y x) [] (_root_.QR.zz n) = bits ++ List.replicate (_root_.QR.restN v) false) := Lib.hid (by
    rw [← hf, ← hn]
    exact _root_.QR.sym_bits h1 h7 m _ _ bits hlenb)
  rw [hn, hf] at hb
  have H := Lib.hid (And.intro hdb (And.intro hrd (And.intro hg (And.intro hp (And.intro hb (And.intro hs (And.intro hT hn)))))))
  clear hdb hrd hg hp hb hs hT hn hf hlenb
  go_enter Tryz.func160, Tryz.ntmps160
  go_wp2_with fail
  refine (readVersion_ok p b c n v _ f w H.out.2.2.2.1 H.out.2.2.2.2.1 h1 h7 H.out.2.2.2.2.2.2.2.symm X1.out).mono ?_
  rintro e w1 ⟨s, vb, pv, rfl, z1, z2, z3, z4, z5⟩
  have V1 := Lib.hid z1
  have P1 := Lib.hid z2
  have hpv := Lib.hid z3
  have K1 := Lib.hid z4
  have M1 := Lib.hid (H.out.2.2.2.2.1.keep z4 (fun e => H.out.2.2.2.2.1.typb.1.ne H.out.2.2.2.1.typ (by decide) e) (fun e => H.out.2.2.2.2.1.typb.2.ne H.out.2.2.2.1.typ (by decide) e))
  clear z1 z2 z3 z4
  have hvl := V1.out.ltb
  have hsv := V1.out.lo
  go_wp2_with fail
  refine (readFormat_ok p b c n (l * 8 + m) pv f w1 P1.out M1.out (by omega) (by omega) (by omega) X2.out X3.out).mono ?_
  rintro e w2 ⟨q, rfl, z1, z2, z3, z4⟩
  rw [show (l * 8 + m) / 8 = l by omega, show (l * 8 + m) % 8 = m by omega] at z1
  have Q2 := Lib.hid z1
  have P2 := Lib.hid z2
  have K2 := Lib.hid (K1.out.trans z3)
  have V2 := Lib.hid (V1.out.keep z3 (fun i hi1 hi2 e => by omega))
  have M2 := Lib.hid (M1.out.keep z3 (fun e => M1.out.typb.1.ne P1.out.typ (by decide) e) (fun e => M1.out.typb.2.ne P1.out.typ (by decide) e))
  clear z1 z2 z3
  go_wp2_with fail
  refine (fiLevel_ok q _ _ w2 Q2.out).mono ?_
  rintro e w2' ⟨rfl, rfl⟩
  obtain ⟨raw, hraw⟩ : ∃ raw, rawOf v l cs T0 es = raw := ⟨_, rfl⟩
  have hbits : bits = _root_.QR.bytesBits raw := by rw [← hraw]; exact H.out.2.2.2.2.2.1.bits
  have hrl : raw.length = _root_.QR.wordsN v := by rw [← hraw]; exact raw_length H.out.2.2.2.2.2.1 h1 h7 hl
  have hrb : _root_.QR.Bytes raw := by rw [← hraw]; exact raw_bytes H.out.2.2.2.2.2.1
  have hver : Calls Tryz.prog 163 #[.pointer (some ⟨p, 0, none⟩)] w2 fun e w' => ∃ s vb pv', e = .returned (.tuple #[.pointer (some ⟨vb, 0, none⟩), .nilIface]) ∧ Ver w' s vb v ∧ Blk w' p [.pointer (some ⟨b, 0, none⟩), pv', .pointer (some ⟨q, 0, none⟩), .bool false] 312 ∧ Keeps (fun i => i = p) w2 w' ∧ ∀ i, s ≤ i → i ≤ vb → i ≠ c := by
    have hc2 := M2.out.typb.2.lt
    rcases hpv.out with e1 | e1
    · have p2 := P2.out
      rw [e1] at p2
      refine (readVersion_ok p b c n v _ f w2 p2 M2.out h1 h7 H.out.2.2.2.2.2.2.2.symm X1.out).mono ?_
      rintro e w' ⟨s', vb', pv', y1, y2, y3, _, y5, y6⟩
      exact ⟨s', vb', pv', y1, y2, y3, y5, fun i hi _ => by omega⟩
    · have p2 := P2.out
      rw [e1] at p2
      refine (readVersion2_ok p _ _ _ _ w2 p2).mono ?_
      rintro e w' ⟨y1, rfl⟩
      exact ⟨s, vb, _, y1, V2.out, p2, Keeps.refl _ _, fun i hi _ => by omega⟩
  have HVER := Lib.hid hver
  have HRAW := Lib.hid (And.intro hraw (And.intro hbits (And.intro hrl hrb)))
  clear hraw hbits hrl hrb hver
  go_wp2_with fail
  refine (readCodewords_ok p b c n v m q 0 _ pv f raw w2 P2.out Q2.out hm M2.out H.out.2.2.2.2.2.2.2.symm h1 h7 HVER.out HRAW.out.2.2.1 HRAW.out.2.2.2 (by rw [← HRAW.out.2.1]; exact X4.out)).mono ?_
  rintro e w3 ⟨R, rfl, z1, z2, z3⟩
  have R3 := Lib.hid z1
  have V3 := Lib.hid (V2.out.keep z2 (fun i hi1 hi2 e => by rcases e with e | e <;> omega))
  have K3 := Lib.hid (K2.out.mono (S' := fun i => i = p ∨ i = c) (fun _ _ e => Or.inl e) |>.trans z2)
  clear z1 z2 z3
  go_wp2_with fail
  refine (getBlocks_ok R s vb v l raw w3 V3.out h1 h7 hl R3.out (by rw [HRAW.out.2.2.1]; exact (room_ok v 0 h1 h7 (by omega)).2.2.symm) HRAW.out.2.2.2).mono ?_
  rintro e w4 ⟨mb, pb, cb, rfl, z1, z2, z3, z4⟩
  have hS := shape_of v (lvAt l) h1 h7 (lvAt_lt l)
  have hF : ∀ j p, j < QR.numBlocks v (lvAt l) → p < lenJ (kOne v (lvAt l)) (sOf v (lvAt l)) j + QR.ecN v (lvAt l) → _root_.QR.cwAt raw (QR.numBlocks v (lvAt l)) (kOne v (lvAt l)) (kTwo v (lvAt l)) (sOf v (lvAt l)) j p = (dataJ (_root_.QR.segBits (_root_.QR.modeOf cs) cs ++ T0) (kOne v (lvAt l)) (sOf v (lvAt l)) j ++ es.getD j []).getD p 0 :=
    fun j p hj hp => block_holds H.out.2.2.2.2.2.1 h1 h7 hl raw HRAW.out.1.symm hj hp
  have D4 := Lib.hid (z1.congr hF)
  have K4 := Lib.hid (K3.out.trans (z2.mono (S' := fun i => i = p ∨ i = c) (fun _ _ f => f.elim)))
  have V4 := Lib.hid (V3.out.kept z2)
  have hcod := H.out.2.2.2.2.2.1.cod
  have hTL := H.out.2.2.2.2.2.1.len
  have hzero := H.out.2.2.2.2.2.1.zero
  clear z1 z2 hF
  obtain ⟨TL, eTL⟩ : ∃ TL, _root_.QR.segBits (_root_.QR.modeOf cs) cs ++ T0 = TL := ⟨_, rfl⟩
  rw [eTL] at hcod hTL D4
  generalize QR.numBlocks v (lvAt l) = nb at hS D4 hcod z4 ⊢
  generalize kOne v (lvAt l) = k1 at hS D4 hcod z4
  generalize sOf v (lvAt l) = sz at hS D4 hcod z4
  generalize QR.ecN v (lvAt l) = ec at hS D4 hcod z4
  generalize QR.dataWords v (lvAt l) = D at hS hTL
  have b1 := hS.hn8
  have b2 := hS.hs2
  have b3 := hS.he2
  have b4 := hS.hs1
  have b5 := hS.he1
  have HS := Lib.hid hS
  have HC := Lib.hid hcod
  have HTL := Lib.hid (And.intro eTL (And.intro hTL hzero))
  have Z4 := Lib.hid (And.intro z3 z4)
  have hD1 : 1 ≤ D ∧ D ≤ 2000 := by have := hS.hd; have := hS.hnb; have := hS.hk1; have h9 : sz * nb ≤ 150 * 8 := Nat.mul_le_mul b2 b1; have h8 : 1 * 1 ≤ sz * nb := Nat.mul_le_mul b4 (by omega); omega
  clear hcod eTL hTL hzero z3 z4 hS
  go_wp2_with fail
  go_loopw [14, 16, 67] (fun s14 _ s67 wr => ∃ j S : Nat, j ≤ nb ∧ s67 = .int .i64 (j : Int) ∧ s14 = .int .i64 (S : Int) ∧ Hid (S = sz * j + (j - k1)) ∧ w4 = wr) (fun _ _ s67 _ => nb - (intOf s67).toNat)
  case atStart => exact ⟨0, 0, Nat.zero_le _, rfl, rfl, Lib.hid (by simp), rfl⟩
  case round =>
    obtain ⟨j, S, hj, rfl, rfl, HSJ, rfl⟩ := hrel
    by_cases hjn : j < nb
    · have hjn' : (j : Int) < (nb : Int) := by omega
      have t0 := D4.out.top.cellv (i := j) hjn (v := .pointer (some ⟨pb j, 0, none⟩)) (by simp [hjn])
      obtain ⟨u, hu⟩ : ∃ u, lenJ k1 sz j = u := ⟨_, rfl⟩
      have hd0 := D4.out.head j hjn
      rw [hu] at hd0
      have HD0 := Lib.hid hd0
      have hstep := offJ_step k1 sz j
      rw [hu] at hstep
      have hS2 : S + u = sz * (j + 1) + (j + 1 - k1) := by rw [HSJ.out]; exact hstep
      have hle : S + u ≤ D := by rw [hS2, ← hstep, ← hu]; exact off_le HS.out hjn
      have HS2 := Lib.hid hS2
      clear hstep hd0 hu hS2
      go_wp2_with fail
      refine (dbNum_ok _ _ _ _ HD0.out).mono ?_
      rintro e w5 ⟨rfl, rfl⟩
      go_wp2_with fail
      go_roundw
      case rel => exact ⟨j + 1, S + u, by omega, by go_num, by go_num, HS2, trivial⟩
      case measure => simp [intOf]; omega
    · have hjn' : ¬ (j : Int) < (nb : Int) := by omega
      obtain rfl : nb = j := by omega
      have hSD : D = S := by rw [HSJ.out]; exact (off_last HS.out).symm
      obtain rfl := hSD
      have hmk : (Instr.makeSlice 35 (.int .i64 (D : Int)) (.int .i64 (D : Int))).run Tryz.prog w4 = .ok (.slice (some ⟨w4.heap.size, 0, none⟩) D D) (w4.alloc (.cells (rep D (.int .u8 0)).toArray 5)) :=
        make_rep (P := Tryz.prog) 35 5 (.int .u8 0) 1 Tryz.underlying35 info5 rfl D (by omega) (by omega) w4
      obtain ⟨q2, hq2⟩ : ∃ q2, w4.heap.size = q2 := ⟨_, rfl⟩
      have F5 := Lib.hid (FB.new w4 D (.int .u8 0) 5)
      rw [hq2] at hmk F5
      have hk5 : Keeps (fun _ => False) w4 (w4.alloc (.cells (rep D (.int .u8 0)).toArray 5)) := (Keeps.refl _ w4).alloc _
      have D5 := Lib.hid (D4.out.keep hk5 (fun f => f) (fun _ _ => ⟨fun f => f, fun f => f⟩))
      have K5 : Hid (Keeps (inC cb nb) w4 (w4.alloc (.cells (rep D (.int .u8 0)).toArray 5))) := Lib.hid (hk5.mono (fun _ _ f => f.elim))
      have HQ2 := Lib.hid hq2
      obtain ⟨dat, hdat⟩ : ∃ dat, bytesAt TL 0 D = dat := ⟨_, rfl⟩
      have HDAT := Lib.hid hdat
      clear hk5 hq2 hdat HSJ
      go_wp2_with fail
      go_loopw [18, 80] (fun s18 s80 wr => ∃ j S : Nat, j ≤ nb ∧ s80 = .int .i64 (j : Int) ∧ s18 = .int .i64 (S : Int) ∧ Hid (S = sz * j + (j - k1)) ∧
          Hid (DBs wr mb nb nb pb cb (fun j => lenJ k1 sz j + ec) (lenJ k1 sz) (fun j p => (dataJ TL k1 sz j ++ es.getD j []).getD p 0)) ∧ Hid (FB wr q2 D (fun i => vu8 (if i < S then dat.getD i 0 else 0)) 5) ∧ Hid (Keeps (inC cb nb) w4 wr)) (fun _ s80 _ => nb - (intOf s80).toNat)
      case atStart => exact ⟨0, 0, Nat.zero_le _, rfl, rfl, Lib.hid (by simp), D5, Lib.hid (F5.out.congr (fun i _ => by simp [vu8])), K5⟩
      case round =>
        obtain ⟨j, S, hj, rfl, rfl, HSJ, HD, HF, HK⟩ := hrel
        by_cases hjn : j < nb
        · have hjn' : (j : Int) < (nb : Int) := by omega
          have t0 := HD.out.top.cellv (i := j) hjn (v := .pointer (some ⟨pb j, 0, none⟩)) (by simp [hjn])
          obtain ⟨u, hu⟩ : ∃ u, lenJ k1 sz j = u := ⟨_, rfl⟩
          have hul := lenJ_le k1 sz j
          have hd0 := HD.out.head j hjn
          have hr0 := HD.out.row j hjn
          rw [hu] at hd0 hr0 hul
          have HD0 := Lib.hid hd0
          have hstep := offJ_step k1 sz j
          rw [hu] at hstep
          have hS2 : S + u = sz * (j + 1) + (j + 1 - k1) := by rw [HSJ.out]; exact hstep
          have hle : S + u ≤ D := by rw [hS2, ← hstep, ← hu]; exact off_le HS.out hjn
          have HS2 := Lib.hid hS2
          obtain ⟨dd, hdd⟩ : ∃ dd, dataJ TL k1 sz j = dd := ⟨_, rfl⟩
          obtain ⟨ee, hee⟩ : ∃ ee, es.getD j [] = ee := ⟨_, rfl⟩
          have hcj := HC.out j hjn
          rw [hdd, hee] at hcj hr0
          have hddl : dd.length = u := by rw [← hdd, dataJ_length]; exact hu
          have HB0 := Lib.hid (hr0.blk (cs := (dd ++ ee).map vu8) (by rw [List.length_map, List.length_append, hddl, hcj.1]) (fun i hi => by
            have : i < (dd ++ ee).length := by rw [List.length_append, hddl, hcj.1]; exact hi
            rw [List.getElem?_map, List.getElem?_eq_getElem this, Option.map_some, List.getD_eq_getElem?_getD, List.getElem?_eq_getElem this, Option.getD_some]))
          have hcbt : ∀ i, inC cb nb i → i < w4.heap.size → ∃ t, TypeAt w4 i t ∧ t ≠ 3 ∧ t ≠ 309 ∧ t ≠ 267 := fun i hi _ => by
            obtain ⟨j', hj', rfl⟩ := hi
            exact ⟨5, ⟨_, _, D4.out.row j' hj'⟩, by decide, by decide, by decide⟩
          have hg4 : Fld w4 g := H.out.2.2.1.keepS K4.out (fun i hi _ => by
            rcases hi with rfl | rfl
            · exact ⟨312, H.out.2.2.2.1.typ, by decide, by decide, by decide⟩
            · exact ⟨151, H.out.2.2.2.2.1.typb.2, by decide, by decide, by decide⟩)
          have HG := Lib.hid (hg4.keepS HK.out hcbt)
          have hcb5 : ∀ i, inC cb nb i → TypeAt w4 i 5 := fun i hi => by obtain ⟨j', hj', rfl⟩ := hi; exact ⟨_, _, D4.out.row j' hj'⟩
          have db4 := H.out.1.keep K4.out (fun e => by rcases e with e | e; exact H.out.1.typ.ne H.out.2.2.2.1.typ (by decide) e; exact H.out.1.typ.ne H.out.2.2.2.2.1.typb.2 (by decide) e)
          have rd4 := H.out.2.1.keep K4.out (fun e => by rcases e with e | e; exact H.out.2.1.typ.ne H.out.2.2.2.1.typ (by decide) e; exact H.out.2.1.typ.ne H.out.2.2.2.2.1.typb.2 (by decide) e)
          have HDB := Lib.hid (db4.keep HK.out (fun e => db4.typ.ne (hcb5 _ e) (by decide) rfl))
          have HRD := Lib.hid (rd4.keep HK.out (fun e => rd4.typ.ne (hcb5 _ e) (by decide) rfl))
          have HCJ := Lib.hid hcj
          have HDD := Lib.hid (And.intro hdd (And.intro hee (And.intro hddl hu)))
          have hul2 : 1 ≤ u ∧ u ≤ 151 := by omega
          clear hstep hd0 hr0 hu hS2 hul hdd hee hcj hddl hcbt hg4 hcb5 db4 rd4
          go_wp2_with fail
          refine (dbWords_ok _ _ _ _ _ _ HD0.out).mono ?_
          rintro e w5 ⟨rfl, rfl⟩
          go_wp2_with fail
          refine (dbNum_ok _ _ _ _ HD0.out).mono ?_
          rintro e w5 ⟨rfl, rfl⟩
          go_wp2_with fail
          refine (correct_ok db rd g (cb j) (u + ec) u ec dd ee _ HDB.out HRD.out HG.out HB0.out (by rw [List.length_append, HDD.out.2.2.1, HCJ.out.1]) HCJ.out.2 HCJ.out.1 HDD.out.2.2.1 (by omega) (by omega) (by omega) _ rfl).mono ?_
          rintro e w6 ⟨rfl, z1, z2⟩
          have hq2n : q2 ≠ cb j ∧ q2 ≠ mb ∧ ∀ j', j' < nb → q2 ≠ pb j' ∧ q2 ≠ cb j' := by
            have := HQ2.out
            have a1 := D4.out.top.lt
            refine ⟨?_, by omega, fun j' hj' => ⟨?_, ?_⟩⟩
            · have := (D4.out.row j hjn).lt; omega
            · have := (D4.out.head j' hj').lt; omega
            · have := (D4.out.row j' hj').lt; omega
          have hfb6 : FB w6 (cb j) (lenJ k1 sz j + ec) (fun p => vu8 ((dataJ TL k1 sz j ++ es.getD j []).getD p 0)) 5 := by
            rw [HDD.out.2.2.2, HDD.out.1, HDD.out.2.1]
            have h := z1
            have hln : (dd ++ ee).length = u + ec := by rw [List.length_append, HDD.out.2.2.1, HCJ.out.1]
            rw [show (dd ++ ee).map vu8 = (List.range (u + ec)).map (fun p => vu8 ((dd ++ ee).getD p 0)) by
              apply List.ext_getElem?
              intro i
              by_cases hi : i < u + ec
              · rw [List.getElem?_map, List.getElem?_eq_getElem (by omega), Option.map_some]
                simp [hi, List.getD, hln]
              · rw [List.getElem?_eq_none (by rw [List.length_map]; omega), List.getElem?_eq_none (by simp; omega)]] at h
            exact h
          have D6 := Lib.hid (HD.out.same hjn z2 hfb6)
          have F6 := Lib.hid (HF.out.keep z2 hq2n.1)
          have K6 : Hid (Keeps (inC cb nb) w4 w6) := Lib.hid (HK.out.trans (z2.mono (fun i _ e => ⟨j, hjn, e⟩)))
          have hby : ∀ t, t < u → (dd ++ ee).getD t 0 = dat.getD (S + t) 0 ∧ dat.getD (S + t) 0 < 256 := by
            intro t ht
            have e1 : (dd ++ ee).getD t 0 = dd.getD t 0 := getD_append_lt _ _ _ _ (by rw [HDD.out.2.2.1]; exact ht)
            have e2 : dd.getD t 0 = _root_.QR.numOf ((TL.drop (8 * (sz * j + (j - k1)) + 8 * t)).take 8) := by rw [← HDD.out.1]; exact bytesAt_getD _ _ _ _ (by rw [HDD.out.2.2.2]; exact ht)
            have e3 : dat.getD (S + t) 0 = _root_.QR.numOf ((TL.drop (0 + 8 * (S + t))).take 8) := by rw [← HDAT.out]; exact bytesAt_getD _ _ _ _ (by omega)
            have e4 : 8 * (sz * j + (j - k1)) + 8 * t = 0 + 8 * (S + t) := by rw [← HSJ.out]; omega
            refine ⟨by rw [e1, e2, e3, e4], ?_⟩
            rw [← HDAT.out]
            exact getD_lt (bytesAt_bytes TL 0 D) _
          have HBY := Lib.hid hby
          have HQN := Lib.hid hq2n
          have c6 : Hid (∀ t, t < u → w6.cell? ⟨cb j, t, none⟩ = some (.int .u8 ((dat.getD (S + t) 0 : Nat) : Int))) := Lib.hid (by
            intro t ht
            have h := hfb6.cell (i := t) (by rw [HDD.out.2.2.2]; omega)
            rw [HDD.out.1, HDD.out.2.1, (hby t ht).1] at h
            exact h)
          clear z1 z2 hfb6 t0 hby hq2n
          go_wp2_with fail
          go_loopw [18, 24] (fun s18 s24 wr => ∃ t S' : Nat, t ≤ u ∧ s24 = .int .i64 (t : Int) ∧ s18 = .int .i64 (S' : Int) ∧ Hid (S' = S + t) ∧ Hid (FB wr q2 D (fun i => vu8 (if i < S + t then dat.getD i 0 else 0)) 5) ∧ Hid (Keeps (fun i => i = q2) w6 wr)) (fun _ s24 _ => u - (intOf s24).toNat)
          case atStart => exact ⟨0, S, Nat.zero_le _, rfl, rfl, Lib.hid rfl, F6, Lib.hid (Keeps.refl _ _)⟩
          case round =>
            obtain ⟨t, S', ht, rfl, rfl, hS', HF7, HK7⟩ := hrel
            by_cases htu : t < u
            · have htu' : (t : Int) < (u : Int) := by omega
              have hx0 := (HK7.out.cell (p := ⟨cb j, t, none⟩) (by have := (D6.out.row j hjn).lt; exact this) (fun e => HQN.out.1 e.symm)).trans (c6.out t htu)
              obtain ⟨x, hx⟩ : ∃ x, dat.getD (S + t) 0 = x := ⟨_, rfl⟩
              have hS'2 : S' = S + t := hS'.out
              have hS'3 : S' < D := by omega
              have hS'4 : (S' : Int) < (D : Int) := by omega
              have htc : (t : Int) < ((u + ec : Nat) : Int) := by omega
              have hx1 := HF7.out.cell hS'3
              have hx2 := HF7.out.free S'
              rw [hx] at hx0
              have F8 := Lib.hid (HF7.out.set (G := fun i => vu8 (if i < S + (t + 1) then dat.getD i 0 else 0)) S' (.int .u8 (x : Int)) (fun i hi => by
                by_cases e1 : i = S'
                · rw [if_pos e1, if_pos (by omega), e1, hS'2, hx]; rfl
                · rw [if_neg e1]; congr 1; by_cases e2 : i < S + t
                  · rw [if_pos e2, if_pos (by omega)]
                  · rw [if_neg e2, if_neg (by omega)]))
              have K8 := Lib.hid (HK7.out.trans (kset q2 _ S' (.int .u8 (x : Int))))
              have hS'5 := Lib.hid (show S' + 1 = S + (t + 1) by omega)
              clear hx hS' hS'2
              go_wp2_with fail
              go_roundw
              case rel => exact ⟨t + 1, S' + 1, by omega, by go_num, by go_num, hS'5, F8, K8⟩
              case measure => simp [intOf]; omega
            · have htu' : ¬ (t : Int) < (u : Int) := by omega
              have htu2 : t = u := by omega
              have D7 := Lib.hid (D6.out.keep HK7.out (fun e => HQN.out.2.1 e.symm) (fun j' hj' => ⟨fun e => (HQN.out.2.2 j' hj').1 e.symm, fun e => (HQN.out.2.2 j' hj').2 e.symm⟩))
              have K7 : Hid (Keeps (inC cb nb) w4 wr) := Lib.hid (K6.out.step HK7.out (fun i hi e => by have := HQ2.out; omega))
              have hS7 := Lib.hid (show S' = sz * (j + 1) + (j + 1 - k1) by rw [hS'.out, htu2]; exact HS2.out)
              have F9 : Hid (FB wr q2 D (fun i => vu8 (if i < S' then dat.getD i 0 else 0)) 5) := Lib.hid (by rw [hS'.out]; exact HF7.out)
              clear hS'
              go_wp2_with fail
              go_roundw
              case rel => exact ⟨j + 1, S', by omega, by go_num, rfl, hS7, D7, F9, K7⟩
              case measure => simp [intOf]; omega
        · have hjn' : ¬ (j : Int) < (nb : Int) := by omega
          obtain rfl : nb = j := by omega
          have HSD := Lib.hid (show D = S by rw [HSJ.out]; exact (off_last HS.out).symm)
          have hdl : dat.length = D := by rw [← HDAT.out]; simp [bytesAt]
          have R9 : Row8 wr q2 D (fun i => dat.getD i 0) := ⟨Blk.typ HF.out, fun i hi => by
            have := HF.out.cell hi
            rw [if_pos (by have := HSD.out; omega)] at this
            exact this⟩
          have V9 : Ver wr s vb v := V4.out.keep HK.out (fun i hi1 hi2 e => by
            obtain ⟨j', hj', rfl⟩ := e
            have := Z4.out.2 j' hj'
            have := V3.out.ltb
            omega)
          have K9 : Hid (Keeps (fun i => i = p ∨ i = c) w wr) := Lib.hid (K4.out.step HK.out (fun i hi e => by
            obtain ⟨j', hj', rfl⟩ := e
            have := Z4.out.2 j' hj'
            have := K3.out.size
            omega))
          have hcall := decodeStream_ok wr q2 D s vb v l dat cs T T0 hints (by rw [hdl]; exact R9) (fun i => by rw [← HDAT.out]; exact getD_lt (bytesAt_bytes TL 0 D) i) (by rw [hdl]; omega) V9 h7 hl H.out.2.2.2.2.2.2.1 hc1 hc2
            (by rw [HTL.out.1, ← HDAT.out]; exact bytes_back D TL HTL.out.2.1) (four_zero HTL.out.2.2) _ rfl
          rw [hdl] at hcall
          have HCALL := Lib.hid hcall
          have R10 := Lib.hid R9
          clear hcall R9 V9 hdl
          go_wp2_with fail
          refine HCALL.out.mono ?_
          rintro e w9 ⟨r, x2, n2, k2, u, a, b', cc, rfl, z1, z2, z3⟩
          have Z := Lib.hid (And.intro z1 (And.intro z2 z3))
          clear z1 z2 z3
          go_wp2_with fail
          go_ret2
          exact ⟨r, q2, D, D, _, x2, n2, k2, u, a, b', cc, rfl, Z.out.1, R10.out.keep Z.out.2.1 (fun f => f), by omega, Z.out.2.2, K9.out.trans (Z.out.2.1.mono (fun _ _ f => f.elim))⟩

/-- The result of the decoder: its text, and what can be read of the rest. -/
def Told (w : World) (r : Nat) (T : ByteArray) : Prop :=
  ∃ (d n k : Nat) (F : Nat → Nat) (x2 : Option Addr) (n2 k2 : Nat) (u : ByteArray) (a b cc : Int),
    Blk w r [.slice (some ⟨d, 0, none⟩) n k, .int .i64 (8 * (n : Int)), .string T, .slice x2 n2 k2, .string u, .int .i64 0, .int .i64 0, .nilIface, .int .i64 b, .int .i64 a, .int .i64 cc] 235 ∧ Row8 w d n F ∧ n ≤ 10000 ∧ BSeg w x2 n2

set_option maxRecDepth 100000 in
set_option maxHeartbeats 1000000 in
theorem decodeM_ok (w : World) (db rd g b c v l m : Nat) (hints : Value) (cs : List Nat) (T : ByteArray) (bits T0 : List Bool) (es : List (List Nat)) (hdb : Blk w db [.pointer (some ⟨rd, 0, none⟩)] 180) (hrd : Blk w rd [.pointer (some ⟨g, 0, none⟩)] 237) (hg : Fld w g)
    (hb : BM w b c (_root_.QR.side v) (_root_.QR.side v) (fun x y => _root_.QR.symM v m (_root_.QR.bitsOf 15 (_root_.QR.formatOf (l * 8 + m))) (_root_.QR.bitsOf 18 31892) bits x y == 1))
    (h1 : 1 ≤ v) (h7 : v ≤ 7) (hl : l < 4) (hm : m < 8) (hs : Sent v l cs bits T0 es) (hT : codes T = cs) (hc1 : 1 ≤ cs.length) (hc2 : cs.length ≤ 60) :
    Calls Tryz.prog 132 #[.pointer (some ⟨db, 0, none⟩), .pointer (some ⟨b, 0, none⟩), hints] w fun e w' => ∃ r, e = .returned (.tuple #[.pointer (some ⟨r, 0, none⟩), .nilIface]) ∧ Told w' r T ∧ Keeps (fun i => i = c) w w' := by
  have hside : _root_.QR.side v = 17 + 4 * v := by unfold _root_.QR.side; omega
  have H := Lib.hid (And.intro hdb (And.intro hrd (And.intro hg (And.intro hb (And.intro hs hT)))))
  have HSD := Lib.hid hside
  clear hdb hrd hg hb hs hT hside
  go_enter Tryz.func132, Tryz.ntmps132
  go_wp2_with fail
  refine (newParser_ok b c _ _ w H.out.2.2.2.1 (by rw [HSD.out]; omega) (by rw [HSD.out]; omega) (by rw [HSD.out]; omega)).mono ?_
  rintro e w1 ⟨rfl, z1, z2, z3⟩
  have P1 := Lib.hid z1
  have K1 := Lib.hid z2
  clear z1 z2 z3
  obtain ⟨p, hp⟩ : ∃ p, w.heap.size = p := ⟨_, rfl⟩
  have HP := Lib.hid hp
  rw [hp] at P1 ⊢
  clear hp
  go_wp2_with fail
  refine (decode_ok w1 db rd g p b c v l m hints cs T bits T0 es (H.out.1.keep K1.out (fun f => f)) (H.out.2.1.keep K1.out (fun f => f)) (H.out.2.2.1.keep K1.out) P1.out (H.out.2.2.2.1.keep K1.out (fun f => f) (fun f => f)) h1 h7 hl hm H.out.2.2.2.2.1 H.out.2.2.2.2.2 hc1 hc2).mono ?_
  rintro e w2 ⟨r, d, n, k, F, x2, n2, k2, u, a, b', cc, rfl, z1, z2, z3, z4, z5⟩
  have Z := Lib.hid (show Told w2 r T from ⟨d, n, k, F, x2, n2, k2, u, a, b', cc, z1, z2, z3, z4⟩)
  have K2 : Hid (Keeps (fun i => i = c) w w2) := Lib.hid ((K1.out.mono (S' := fun i => i = c) (fun _ _ f => f.elim)).step z5 (fun i hi e => by rcases e with e | e; have := HP.out; omega; exact e))
  clear z1 z2 z3 z4 z5
  go_wp2_with fail
  go_ret2
  exact ⟨r, rfl, Z.out, K2.out⟩

end Go.Proofs.YtplpafbkalkchaaGreatDoor

namespace Go.Proofs.YtplpafbkalkchaaGreatDoor
open Go.RowKit

set_option maxRecDepth 100000 in
set_option maxHeartbeats 1000000 in
theorem decodeMap_ok (w : World) (db rd g mb v l m : Nat) (gr : Nat → Nat) (hints : Value) (cs : List Nat) (T : ByteArray) (bits T0 : List Bool) (es : List (List Nat)) (hdb : Blk w db [.pointer (some ⟨rd, 0, none⟩)] 180) (hrd : Blk w rd [.pointer (some ⟨g, 0, none⟩)] 237) (hg : Fld w g)
    (hb : BMap w mb (_root_.QR.side v) (_root_.QR.side v) gr (fun x y => _root_.QR.symM v m (_root_.QR.bitsOf 15 (_root_.QR.formatOf (l * 8 + m))) (_root_.QR.bitsOf 18 31892) bits x y == 1))
    (h1 : 1 ≤ v) (h7 : v ≤ 7) (hl : l < 4) (hm : m < 8) (hs : Sent v l cs bits T0 es) (hT : codes T = cs) (hc1 : 1 ≤ cs.length) (hc2 : cs.length ≤ 60) :
    Calls Tryz.prog 94 #[.pointer (some ⟨db, 0, none⟩), .slice (some ⟨mb, 0, none⟩) (_root_.QR.side v) (_root_.QR.side v), hints] w fun e w' => ∃ r, e = .returned (.tuple #[.pointer (some ⟨r, 0, none⟩), .nilIface]) ∧ Told w' r T ∧ Keeps (fun _ => False) w w' := by
  obtain ⟨f, hf⟩ : ∃ f, (fun x y => _root_.QR.symM v m (_root_.QR.bitsOf 15 (_root_.QR.formatOf (l * 8 + m))) (_root_.QR.bitsOf 18 31892) bits x y == 1) = f := ⟨_, rfl⟩
  rw [hf] at hb
  obtain ⟨n, hn⟩ : ∃ n, _root_.QR.side v = n := ⟨_, rfl⟩
  have hn1 : 21 ≤ n := by rw [← hn]; unfold _root_.QR.side; omega
  have hn2 : n ≤ 100 := by rw [← hn]; unfold _root_.QR.side; omega
  have H := Lib.hid (And.intro hdb (And.intro hrd (And.intro hg (And.intro hb (And.intro hs (And.intro hT (And.intro hn hf)))))))
  rw [hn]
  clear hdb hrd hg hb hs hT hn hf
  go_enter Tryz.func94, Tryz.ntmps94
  go_wp2_with fail
  have hmap := H.out.2.2.2.1
  rw [H.out.2.2.2.2.2.2.1] at hmap
  refine (bmParse_ok mb n n gr f w hmap (by omega) (by omega) (by omega) (by omega)).mono ?_
  rintro e w1 ⟨rfl, z1, z2⟩
  obtain ⟨c, hc⟩ : ∃ c, w.heap.size = c := ⟨_, rfl⟩
  rw [hc] at z1 ⊢
  have B1 := Lib.hid z1
  have K1 := Lib.hid z2
  have HC := Lib.hid hc
  clear z1 z2 hmap hc
  go_wp2_with fail
  refine (decodeM_ok w1 db rd g (c + 1) c v l m hints cs T bits T0 es (H.out.1.keep K1.out (fun f => f)) (H.out.2.1.keep K1.out (fun f => f)) (H.out.2.2.1.keep K1.out) (by rw [H.out.2.2.2.2.2.2.2, H.out.2.2.2.2.2.2.1]; exact B1.out) h1 h7 hl hm H.out.2.2.2.2.1 H.out.2.2.2.2.2.1 hc1 hc2).mono ?_
  rintro e w2 ⟨r, rfl, z1, z2⟩
  have Z := Lib.hid z1
  have K2 : Hid (Keeps (fun _ => False) w w2) := Lib.hid (K1.out.step z2 (fun i hi e => by have := HC.out; omega))
  clear z1 z2
  go_wp2_with fail
  go_ret2
  exact ⟨r, rfl, Z.out, K2.out⟩

set_option maxRecDepth 100000 in
set_option maxHeartbeats 1000000 in
theorem decodePlain_ok (w : World) (db rd g mb v l m : Nat) (gr : Nat → Nat) (cs : List Nat) (T : ByteArray) (bits T0 : List Bool) (es : List (List Nat)) (hdb : Blk w db [.pointer (some ⟨rd, 0, none⟩)] 180) (hrd : Blk w rd [.pointer (some ⟨g, 0, none⟩)] 237) (hg : Fld w g)
    (hb : BMap w mb (_root_.QR.side v) (_root_.QR.side v) gr (fun x y => _root_.QR.symM v m (_root_.QR.bitsOf 15 (_root_.QR.formatOf (l * 8 + m))) (_root_.QR.bitsOf 18 31892) bits x y == 1))
    (h1 : 1 ≤ v) (h7 : v ≤ 7) (hl : l < 4) (hm : m < 8) (hs : Sent v l cs bits T0 es) (hT : codes T = cs) (hc1 : 1 ≤ cs.length) (hc2 : cs.length ≤ 60) :
    Calls Tryz.prog 35 #[.pointer (some ⟨db, 0, none⟩), .slice (some ⟨mb, 0, none⟩) (_root_.QR.side v) (_root_.QR.side v)] w fun e w' => ∃ r, e = .returned (.tuple #[.pointer (some ⟨r, 0, none⟩), .nilIface]) ∧ Told w' r T ∧ Keeps (fun _ => False) w w' := by
  have c94 := Lib.hid (decodeMap_ok w db rd g mb v l m gr (.map none) cs T bits T0 es hdb hrd hg hb h1 h7 hl hm hs hT hc1 hc2)
  clear hdb hrd hg hb hs hT
  generalize _root_.QR.side v = n at *
  go_enter Tryz.func35, Tryz.ntmps35
  go_wp2_with fail
  refine c94.out.mono ?_
  rintro e w1 ⟨r, rfl, z1, z2⟩
  have Z := Lib.hid (And.intro z1 z2)
  clear z1 z2
  go_wp2_with fail
  go_ret2
  exact ⟨r, rfl, Z.out.1, Z.out.2⟩

end Go.Proofs.YtplpafbkalkchaaGreatDoor

namespace Go.Proofs.YtplpafbkalkchaaGreatDoor
open Go.RowKit

section
variable (r : Nat) (d : Option Addr) (n k : Nat) (nb : Int) (T : ByteArray) (x2 : Option Addr) (n2 k2 : Nat) (u : ByteArray) (b a cc : Int) (w : World)
  (h : Blk w r [.slice d n k, .int .i64 nb, .string T, .slice x2 n2 k2, .string u, .int .i64 0, .int .i64 0, .nilIface, .int .i64 b, .int .i64 a, .int .i64 cc] 235)
include h
theorem drSegs_ok : Calls Tryz.prog 84 #[.pointer (some ⟨r, 0, none⟩)] w fun e w' => e = .returned (.slice x2 n2 k2) ∧ w = w' := by
  have c := h.cell (i := 3) rfl
  clear h
  go_enter Tryz.func84, Tryz.ntmps84
  go_wp2_with fail
  go_ret
  exact ⟨rfl, rfl⟩
theorem drText_ok : Calls Tryz.prog 85 #[.pointer (some ⟨r, 0, none⟩)] w fun e w' => e = .returned (.string T) ∧ w = w' := by
  have c := h.cell (i := 2) rfl
  clear h
  go_enter Tryz.func85, Tryz.ntmps85
  go_wp2_with fail
  go_ret
  exact ⟨rfl, rfl⟩
theorem drRaw_ok : Calls Tryz.prog 86 #[.pointer (some ⟨r, 0, none⟩)] w fun e w' => e = .returned (.slice d n k) ∧ w = w' := by
  have c := h.cell (i := 0) rfl
  clear h
  go_enter Tryz.func86, Tryz.ntmps86
  go_wp2_with fail
  go_ret
  exact ⟨rfl, rfl⟩
theorem drLevel_ok : Calls Tryz.prog 87 #[.pointer (some ⟨r, 0, none⟩)] w fun e w' => e = .returned (.string u) ∧ w = w' := by
  have c := h.cell (i := 4) rfl
  clear h
  go_enter Tryz.func87, Tryz.ntmps87
  go_wp2_with fail
  go_ret
  exact ⟨rfl, rfl⟩
theorem drErr_ok : Calls Tryz.prog 88 #[.pointer (some ⟨r, 0, none⟩)] w fun e w' => e = .returned (.int .i64 0) ∧ w = w' := by
  have c := h.cell (i := 5) rfl
  clear h
  go_enter Tryz.func88, Tryz.ntmps88
  go_wp2_with fail
  go_ret
  exact ⟨rfl, rfl⟩
theorem drSeq_ok : Calls Tryz.prog 89 #[.pointer (some ⟨r, 0, none⟩)] w fun e w' => e = .returned (.int .i64 a) ∧ w = w' := by
  have c := h.cell (i := 9) rfl
  clear h
  go_enter Tryz.func89, Tryz.ntmps89
  go_wp2_with fail
  go_ret
  exact ⟨rfl, rfl⟩
theorem drPar_ok : Calls Tryz.prog 90 #[.pointer (some ⟨r, 0, none⟩)] w fun e w' => e = .returned (.int .i64 b) ∧ w = w' := by
  have c := h.cell (i := 8) rfl
  clear h
  go_enter Tryz.func90, Tryz.ntmps90
  go_wp2_with fail
  go_ret
  exact ⟨rfl, rfl⟩
theorem drSym_ok : Calls Tryz.prog 91 #[.pointer (some ⟨r, 0, none⟩)] w fun e w' => e = .returned (.int .i64 cc) ∧ w = w' := by
  have c := h.cell (i := 10) rfl
  clear h
  go_enter Tryz.func91, Tryz.ntmps91
  go_wp2_with fail
  go_ret
  exact ⟨rfl, rfl⟩
end

end Go.Proofs.YtplpafbkalkchaaGreatDoor

namespace Go.Proofs.YtplpafbkalkchaaGreatDoor
open Go.RowKit

theorem read_row {w : World} {d n : Nat} {F : Nat → Nat} (h : Row8 w d n F) {j : Nat} {x : Value} (hj : ((List.range n).map fun i => Value.int .u8 (F i : Int))[j]? = some x) : w.cell? ((⟨d, 0, none⟩ : Addr).add j) = some x := by
  have e : (Addr.add ⟨d, 0, none⟩ j) = ⟨d, j, none⟩ := by
    unfold Addr.add
    by_cases h0 : j = 0
    · subst h0; simp
    · simp [h0]
  have hl : j < n := by
    rcases Nat.lt_or_ge j n with h1 | h1
    · exact h1
    · rw [List.getElem?_eq_none (by simp; omega)] at hj; cases hj
  rw [e, h.cell j hl, ← hj]
  simp [hl]
theorem one_row {n : Nat} {F : Nat → Nat} {x : Value} (h : x ∈ (List.range n).map fun i => Value.int .u8 (F i : Int)) : x.oneCell' = true := by
  obtain ⟨i, _, rfl⟩ := List.mem_map.1 h; rfl

set_option maxRecDepth 100000 in
set_option maxHeartbeats 1000000 in
theorem decoded_ok (w : World) (r : Nat) (T : ByteArray) (h : Told w r T) : Calls Tryz.prog 33 #[.pointer (some ⟨r, 0, none⟩), .nilIface] w fun e w' => ∃ (ra sa : Option Addr) (n rk i sk : Nat) (u : ByteArray) (y0 y1 y2 y3 : Int), e = .returned (.tuple #[.agg #[.string T, .slice ra n rk, .slice sa i sk, .string u, .int .i64 y0, .int .i64 y1, .int .i64 y2, .int .i64 y3], .bool true]) ∧ Keeps (fun _ => False) w w' := by
  obtain ⟨d, n, k, F, x2, n2, k2, u, a, b, cc, h1, h2, h3, h4⟩ := h
  have H := Lib.hid (And.intro h1 (And.intro h2 (And.intro h3 h4)))
  clear h1 h2 h4
  go_enter Tryz.func33, Tryz.ntmps33
  go_wp2_with fail
  refine (drSegs_ok r _ n k _ T x2 n2 k2 u b a cc _ (H.out.1.alloc _)).mono ?_
  rintro e w1 ⟨rfl, rfl⟩
  obtain ⟨B, hB⟩ : ∃ B, w.heap.size + 1 = B := ⟨_, rfl⟩
  have HB := Lib.hid hB
  clear hB
  go_wp2_with fail
  have K1 : Hid (Keeps (fun _ => False) w (w.alloc (.cells #[.string ⟨#[]⟩, .slice none 0 0, .slice none 0 0, .string ⟨#[]⟩, .int .i64 0, .int .i64 0, .int .i64 0, .int .i64 0] 40))) := Lib.hid ((Keeps.refl _ w).alloc _)
  have C1 := Lib.hid (Blk.new w [.string ⟨#[]⟩, .slice none 0 0, .slice none 0 0, .string ⟨#[]⟩, .int .i64 0, .int .i64 0, .int .i64 0, .int .i64 0] 40)
  have hs1 : (w.alloc (.cells #[.string ⟨#[]⟩, .slice none 0 0, .slice none 0 0, .string ⟨#[]⟩, .int .i64 0, .int .i64 0, .int .i64 0, .int .i64 0] 40)).heap.size = B := by rw [← HB.out]; simp
  generalize hw1 : w.alloc (.cells #[.string ⟨#[]⟩, .slice none 0 0, .slice none 0 0, .string ⟨#[]⟩, .int .i64 0, .int .i64 0, .int .i64 0, .int .i64 0] 40) = w1 at *
  have HS1 := Lib.hid hs1
  obtain ⟨q4, hq4⟩ : ∃ q4, w.heap.size = q4 := ⟨_, rfl⟩
  have HQ4 := Lib.hid hq4
  rw [hq4]
  clear hs1 hw1 hq4
  go_loopw [6, 15] (fun s6 s15 wr => ∃ (i : Nat) (xs : List Value), i ≤ n2 ∧ s15 = .int .i64 (i : Int) ∧ Hid (wr.ownsRow B 35 1 s6 i xs) ∧ Hid (Keeps (fun _ => False) w1 wr)) (fun _ s15 _ => n2 - (intOf s15).toNat)
  case atStart => exact ⟨0, [], Nat.zero_le _, rfl, Lib.hid ⟨rfl, Or.inl ⟨rfl, rfl⟩⟩, Lib.hid (Keeps.refl _ _)⟩
  case round =>
    obtain ⟨i, xs, hi, rfl, HO, HK⟩ := hrel
    by_cases hin : i < n2
    · have hin' : (i : Int) < (n2 : Int) := by omega
      have hbs := H.out.2.2.2.keep (K1.out.trans HK.out) (fun _ _ f => f.elim)
      rcases hbs with hbs | ⟨r3, q3, l3, F3, hx2, hn21, t1, t2, t3, t4⟩
      · omega
      · subst hx2
        have hi0 : i = 0 := by omega
        have t2' : wr.cell? ⟨r3, i, none⟩ = some (.slice (some ⟨q3, 0, none⟩) l3 l3) := by rw [hi0]; exact t2
        have T3 := Lib.hid t3
        have HI0 := Lib.hid (And.intro hi0 hn21)
        have hib : i < 5 := by omega
        obtain ⟨i0, hi0', hz0, hz1, hz2⟩ := info_parts info5
        obtain ⟨j0, hj0, hy0, hy1, hy2⟩ := info_parts info35
        have hBw : B ≤ wr.heap.size := by have := HK.out.size; have := HS1.out; omega
        clear t1 t2 t3 hi0 hn21
        go_wp2_with (at_builtin; refine wpList_append_own _ rfl _ _ 35 rfl B 5 i0 (.int .u8 0) 1 1 Tryz.underlying35 hi0' hz0 hz1 hz2 rfl (by decide) (.slice none 0 0) 0 [] rfl ⟨rfl, Or.inl ⟨rfl, rfl⟩⟩ ⟨q3, 0, none⟩ l3 l3 ((List.range l3).map fun i => .int .u8 (F3 i : Int)) rfl (by simp) ?c1 ?c2 ?c3 ?c4 hBw ?_)
        case c1 => intro j x hj; exact read_row T3.out hj
        case c2 => intro x hx; exact one_row hx
        case c3 => unfold maxLen; omega
        case c4 => omega
        intro v6 w6 hown6 hgrow _
        have k6 : Keeps (fun _ => False) wr w6 := (Keeps.refl _ wr).grown hgrow (fun k hk => by simp [Value.ownBlock] at hk)
        obtain ⟨ra, rk, rfl⟩ := own_shape hown6
        have HO6 := own_keep HO.out k6 (fun _ _ f => f)
        have K6 := Lib.hid (HK.out.trans k6)
        have hBw6 : B ≤ w6.heap.size := Nat.le_trans hBw k6.size
        obtain ⟨sa, sk, rfl⟩ := own_shape HO.out
        clear hown6 hgrow k6
        go_wp2_with (at_builtin; refine wpList_append_own _ rfl _ _ 38 rfl B 35 j0 (.slice none 0 0) 1 24 Tryz.underlying38 hj0 hy0 hy1 hy2 rfl (by decide) _ _ _ rfl (HO6.alloc _) ⟨w6.heap.size, 0, none⟩ 1 1 [.slice ra l3 rk] rfl rfl ?c1 ?c2 ?c3 ?c4 ?c5 ?_)
        case c1 => exact cell_one_new _ _ _
        case c2 => intro u hu; simp at hu; subst hu; rfl
        case c3 => have := HI0.out; unfold maxLen; omega
        case c4 => have := HI0.out; omega
        case c5 => simp; omega
        intro v7 w7 hown7 hgrow7 _
        have k7 : Keeps (fun _ => False) w1 w7 := (K6.out.trans ((Keeps.refl _ w6).alloc _)).step (S' := fun i' => (Value.slice sa i sk).ownBlock = some i') ((Keeps.refl _ _).grown hgrow7 (fun k hk => Or.inl hk)) (fun i' hi' e => by have := (own_typ HO.out _ e).2; have := HS1.out; omega)
        have HO7 := Lib.hid hown7
        have K7 := Lib.hid k7
        clear hown7 hgrow7 k7 HO6
        go_wp2_with fail
        go_roundw
        case rel => exact ⟨i + 1, _, by omega, by go_num, HO7, K7⟩
        case measure => simp [intOf]; omega
    · have hin' : ¬ (i : Int) < (n2 : Int) := by omega
      have R1 := Lib.hid (H.out.1.keep (K1.out.trans HK.out) (fun f => f))
      have RW := Lib.hid (H.out.2.1.keep (K1.out.trans HK.out) (fun f => f))
      obtain ⟨sa, sk, rfl⟩ := own_shape HO.out
      obtain ⟨i0, hi0, hz0, hz1, hz2⟩ := info_parts info5
      have hBw : B ≤ wr.heap.size := by have := HK.out.size; have := HS1.out; omega
      go_wp2_with fail
      refine (drText_ok r _ n k _ T x2 n2 k2 u b a cc _ R1.out).mono ?_
      rintro e w5 ⟨rfl, rfl⟩
      go_wp2_with fail
      refine (drRaw_ok r _ n k _ T x2 n2 k2 u b a cc _ R1.out).mono ?_
      rintro e w5 ⟨rfl, rfl⟩
      go_wp2_with (at_builtin; refine wpList_append_own _ rfl _ _ 35 rfl B 5 i0 (.int .u8 0) 1 1 Tryz.underlying35 hi0 hz0 hz1 hz2 rfl (by decide) (.slice none 0 0) 0 [] rfl ⟨rfl, Or.inl ⟨rfl, rfl⟩⟩ ⟨d, 0, none⟩ n k ((List.range n).map fun i => .int .u8 (F i : Int)) rfl (by simp) ?c1 ?c2 ?c3 ?c4 hBw ?_)
      case c1 =>
        intro j x hj
        exact read_row RW.out hj
      case c2 => intro x hx; exact one_row hx
      case c3 => unfold maxLen; omega
      case c4 => omega
      intro v6 w6 hown6 hgrow _
      have k6 : Keeps (fun _ => False) wr w6 := (Keeps.refl _ wr).grown hgrow (fun k hk => by simp [Value.ownBlock] at hk)
      obtain ⟨ra, rk, rfl⟩ := own_shape hown6
      have R6 := Lib.hid (R1.out.keep k6 (fun f => f))
      have K6 := Lib.hid ((K1.out.trans HK.out).trans k6)
      have C6 := Lib.hid (C1.out.keep (HK.out.trans k6) (fun f => f))
      have C7 := C6.out
      rw [HQ4.out] at C7
      have f6 := fun j => C7.free j
      have g0 := C7.cell (i := 0) rfl
      have g1 := C7.cell (i := 1) rfl
      have g2 := C7.cell (i := 2) rfl
      have g3 := C7.cell (i := 3) rfl
      have g4 := C7.cell (i := 4) rfl
      have g5 := C7.cell (i := 5) rfl
      have g6 := C7.cell (i := 6) rfl
      have g7 := C7.cell (i := 7) rfl
      have C7 := Lib.hid C7
      clear hown6 hgrow k6
      go_wp2_with fail
      refine (drLevel_ok r _ n k _ T x2 n2 k2 u b a cc _ R6.out).mono ?_
      rintro e w7 ⟨rfl, rfl⟩
      go_wp2_with fail
      refine (drErr_ok r _ n k _ T x2 n2 k2 u b a cc _ R6.out).mono ?_
      rintro e w7 ⟨rfl, rfl⟩
      go_wp2_with fail
      refine (drSeq_ok r _ n k _ T x2 n2 k2 u b a cc _ R6.out).mono ?_
      rintro e w7 ⟨rfl, rfl⟩
      go_wp2_with fail
      refine (drPar_ok r _ n k _ T x2 n2 k2 u b a cc _ R6.out).mono ?_
      rintro e w7 ⟨rfl, rfl⟩
      go_wp2_with fail
      refine (drSym_ok r _ n k _ T x2 n2 k2 u b a cc _ R6.out).mono ?_
      rintro e w7 ⟨rfl, rfl⟩
      go_wp2_with fail
      have hz8 : Keeps (fun _ => False) w (((((((((w6.setCell ⟨q4, 0, none⟩ (.string T)).setCell ⟨q4, 1, none⟩ (.slice ra n rk)).setCell ⟨q4, 2, none⟩ (.slice sa i sk)).setCell ⟨q4, 3, none⟩ (.string u)).setCell ⟨q4, 4, none⟩ (.int .i64 0)).setCell ⟨q4, 5, none⟩ (.int .i64 a)).setCell ⟨q4, 6, none⟩ (.int .i64 b)).setCell ⟨q4, 7, none⟩ (.int .i64 cc))) := by
        have ks := (((((((kset q4 w6 0 (.string T)).trans (kset q4 _ 1 (.slice ra n rk))).trans (kset q4 _ 2 (.slice sa i sk))).trans (kset q4 _ 3 (.string u))).trans (kset q4 _ 4 (.int .i64 0))).trans (kset q4 _ 5 (.int .i64 a))).trans (kset q4 _ 6 (.int .i64 b))).trans (kset q4 _ 7 (.int .i64 cc))
        exact K6.out.step ks (fun j hj e => by have := HQ4.out; omega)
      have C8 := (((((((C7.out.set 0 (.string T)).set 1 (.slice ra n rk)).set 2 (.slice sa i sk)).set 3 (.string u)).set 4 (.int .i64 0)).set 5 (.int .i64 a)).set 6 (.int .i64 b)).set 7 (.int .i64 cc)
      have e0 := C8.cell (i := 0) rfl
      have e1 := C8.cell (i := 1) rfl
      have e2 := C8.cell (i := 2) rfl
      have e3 := C8.cell (i := 3) rfl
      have e4 := C8.cell (i := 4) rfl
      have e5 := C8.cell (i := 5) rfl
      have e6 := C8.cell (i := 6) rfl
      have e7 := C8.cell (i := 7) rfl
      have HZ8 := Lib.hid hz8
      clear C8 hz8
      refine bodyPost_ret (v := .tuple #[.agg #[.string T, .slice ra n rk, .slice sa i sk, .string u, .int .i64 0, .int .i64 a, .int .i64 b, .int .i64 cc], .bool true]) ?_ rfl ⟨ra, sa, n, rk, i, sk, u, 0, a, b, cc, rfl, HZ8.out⟩
      rw [results_cell_tmp rfl]
      go_simp

end Go.Proofs.YtplpafbkalkchaaGreatDoor
