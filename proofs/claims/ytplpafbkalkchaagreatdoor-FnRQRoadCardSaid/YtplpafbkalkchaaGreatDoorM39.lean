/-
  Parts of the proof (EN, DC0).
-/
import Derived.Test.YtplpafbkalkchaaGreatDoorM01
import Derived.Test.YtplpafbkalkchaaGreatDoorM03
import Derived.Test.YtplpafbkalkchaaGreatDoorM04
import Derived.Test.YtplpafbkalkchaaGreatDoorM26
import Derived.Test.YtplpafbkalkchaaGreatDoorM30
import Derived.Test.YtplpafbkalkchaaGreatDoorM37
import Derived.Test.YtplpafbkalkchaaGreatDoorM38
set_option linter.unusedSimpArgs false
set_option linter.unusedVariables false

namespace Go.Proofs.YtplpafbkalkchaaGreatDoor
open Go.RowKit

theorem Keeps.fresh {w0 a b : World} {S : Nat → Prop} (h0 : Keeps (fun _ => False) w0 a) (k : Keeps S a b) (hs : ∀ i, i < w0.heap.size → ¬ S i) : Keeps (fun _ => False) w0 b := h0.step k (fun i hi hSi => hs i hi hSi)
theorem Keeps.both {a b c : World} (h : Keeps (fun _ => False) a b) (k : Keeps (fun _ => False) b c) : Keeps (fun _ => False) a c := h.trans k
theorem BA.kept {w w' : World} {b c : Nat} {l : List Bool} (h : BA w b c l) (hk : Keeps (fun _ => False) w w') : BA w' b c l := h.keep hk (fun f => f) (fun f => f)
theorem Ver.kept {w w' : World} {s b v : Nat} (h : Ver w s b v) (hk : Keeps (fun _ => False) w w') : Ver w' s b v := h.keep hk (fun _ _ _ f => f)
theorem hints_kept {w w' : World} {mb : Nat} {o : Obj} (h : w.heap[mb]? = some o) (hk : Keeps (fun _ => False) w w') : w'.heap[mb]? = some o := by
  rw [hk.block mb (lt_of_block h) (fun f => f), h]
theorem Grow.fresh {w0 w w' : World} {b c : Nat} {l : List Bool} (h : Grow w b c w' l) (hb : w0.heap.size ≤ b) (hc : w0.heap.size ≤ c) (h0 : Keeps (fun _ => False) w0 w) : Keeps (fun _ => False) w0 w' :=
  h0.step h.keeps (fun i hi e => by rcases e with e | e <;> omega)

/-- How a version's words are parted on a level's place. -/
def kOne (v i : Nat) : Nat := ((QR.grp v i).getD 0 (0, 0)).1
def sOf (v i : Nat) : Nat := ((QR.grp v i).getD 0 (0, 0)).2
def kTwo (v i : Nat) : Nat := ((QR.grp v i).getD 1 (0, 0)).1
theorem shape_of (v i : Nat) (h1 : 1 ≤ v) (h7 : v ≤ 7) (hi : i < 4) : Shape (QR.total v) (QR.dataWords v i) (QR.numBlocks v i) (kOne v i) (kTwo v i) (sOf v i) (QR.ecN v i) := by
  obtain rfl | rfl | rfl | rfl | rfl | rfl | rfl : v = 1 ∨ v = 2 ∨ v = 3 ∨ v = 4 ∨ v = 5 ∨ v = 6 ∨ v = 7 := by omega
  all_goals
    obtain rfl | rfl | rfl | rfl : i = 0 ∨ i = 1 ∨ i = 2 ∨ i = 3 := by omega
    all_goals exact ⟨by decide, by decide, by decide, by decide, by decide, by decide, by decide, by decide, by decide⟩

/-- The bits that a text becomes. -/
structure Sent (v l : Nat) (cs : List Nat) (bits T0 : List Bool) (es : List (List Nat)) : Prop where
  len : (_root_.QR.segBits (_root_.QR.modeOf cs) cs ++ T0).length = 8 * QR.dataWords v (lvAt l)
  zero : ∀ i, i < 4 → T0.getD i false = false
  hes : es.length = QR.numBlocks v (lvAt l)
  cod : ∀ j, j < QR.numBlocks v (lvAt l) → (es.getD j []).length = QR.ecN v (lvAt l) ∧ Coded (dataJ (_root_.QR.segBits (_root_.QR.modeOf cs) cs ++ T0) (kOne v (lvAt l)) (sOf v (lvAt l)) j) (es.getD j [])
  bits : bits = _root_.QR.bytesBits (_root_.QR.mixD (dataL (_root_.QR.segBits (_root_.QR.modeOf cs) cs ++ T0) (kOne v (lvAt l)) (sOf v (lvAt l)) (QR.numBlocks v (lvAt l))) (sOf v (lvAt l)) (kTwo v (lvAt l)) ++ _root_.QR.cols es (QR.ecN v (lvAt l)))

theorem sent_length {v l : Nat} {cs : List Nat} {bits T0 : List Bool} {es : List (List Nat)} (h : Sent v l cs bits T0 es) (h1 : 1 ≤ v) (h7 : v ≤ 7) (hl : l < 4) : bits.length = 8 * _root_.QR.wordsN v := by
  have hS := shape_of v (lvAt l) h1 h7 (lvAt_lt l)
  have hr := (room_ok v (lvAt l) h1 h7 (lvAt_lt l)).2.2
  rw [h.bits, _root_.QR.bytesBits_length, List.length_append]
  have ht : _root_.QR.Two (dataL (_root_.QR.segBits (_root_.QR.modeOf cs) cs ++ T0) (kOne v (lvAt l)) (sOf v (lvAt l)) (QR.numBlocks v (lvAt l))) (kOne v (lvAt l)) (kTwo v (lvAt l)) (sOf v (lvAt l)) :=
    ⟨by rw [dataL_length]; exact hS.hnb, fun j hj => by rw [dataL_get _ _ _ _ _ (by have := hS.hnb; omega), dataJ_length]; unfold lenJ; rw [if_pos hj],
      fun j hj hj2 => by rw [dataL_get _ _ _ _ _ (by have := hS.hnb; omega), dataJ_length]; unfold lenJ; rw [if_neg (by omega)]⟩
  rw [_root_.QR.mixD_length ht, _root_.QR.cols_length (fun b hb => by
    obtain ⟨i, hi, e⟩ := List.getElem_of_mem hb
    have := (h.cod i (by rw [← h.hes]; exact hi)).1
    rw [show es.getD i [] = b by simp [List.getD, hi, e]] at this
    omega), h.hes, ← hr, hS.ht, ← hS.hnb, Nat.add_mul]
  omega

set_option maxRecDepth 100000 in
set_option maxHeartbeats 2000000 in
theorem encode_ok (mb l : Nat) (mg : Int) (s : ByteArray) (w : World) (hmp : w.heap[mb]? = some (.map (hintEs (l : Int) mg) 2)) (h1 : 1 ≤ s.size) (h2 : s.size ≤ 60) (hl : l < 4) :
    Calls Tryz.prog 24 #[.string s, .int .i64 (l : Int), .map (some mb)] w fun e w' => ∃ q yb ym g v m bits T0 es v0 v1 v2 v3, e = .returned (.tuple #[.pointer (some ⟨q, 0, none⟩), .nilIface]) ∧
      Blk w' q [v0, v1, v2, v3, .pointer (some ⟨yb, 0, none⟩)] 219 ∧ 1 ≤ v ∧ v ≤ 7 ∧ m < 8 ∧
      YM w' yb ym (_root_.QR.side v) g (_root_.QR.symM v m (QR.bitsOf 15 (_root_.QR.formatOf (l * 8 + m))) (QR.bitsOf 18 31892) bits) ∧ Sent v l (codes s) bits T0 es ∧ Keeps (fun _ => False) w w' := by
  have HM := Lib.hid hmp
  have hz := codes_length s
  have hfits := modeOf_fits (codes s)
  have henc := _root_.QR.encOf_length (_root_.QR.modeOf (codes s)) (codes s) (by omega)
  have hlb : _root_.QR.lenBits (_root_.QR.modeOf (codes s)) ≤ 10 := by rcases hfits.mode with h | h | h <;> rw [h] <;> decide
  obtain ⟨md, hmd⟩ : ∃ md, _root_.QR.modeOf (codes s) = md := ⟨_, rfl⟩
  have HMD := Lib.hid hmd
  have hmode := hfits.mode
  have HF := Lib.hid hfits
  rw [hmd] at hlb henc hmode
  obtain ⟨en, hen⟩ : ∃ en, _root_.QR.encOf md (codes s) = en := ⟨_, rfl⟩
  have HEN := Lib.hid hen
  rw [hen] at henc
  have HZ := Lib.hid hz
  have hmd4 : md ≤ 4 := by omega
  have HMODE := Lib.hid hmode
  clear hz hfits hmd hen hmp hmode
  go_enter Tryz.func24, Tryz.ntmps24
  have k1 := hint1 mb (l : Int) mg w HM.out
  go_wp2_with fail
  refine (chooseMode_ok s w h1 (by omega)).mono ?_
  rintro e w1 ⟨rfl, K1⟩
  rw [HMD.out]
  clear k1
  have HM1 := Lib.hid (hints_kept HM.out K1)
  have K1 := Lib.hid K1
  go_wp2_with fail
  refine (newEmpty_ok w1).mono ?_
  rintro e w2 ⟨rfl, a1, a2, a3⟩
  obtain ⟨hb, hhb⟩ : ∃ hb, w1.heap.size = hb := ⟨_, rfl⟩
  rw [hhb] at a1 a3 ⊢
  have A2 := Lib.hid a1
  have K2 := Lib.hid (K1.out.trans a2)
  have HM2 := Lib.hid (hints_kept HM1.out a2)
  have HHB := Lib.hid (show w.heap.size ≤ hb by rw [← hhb]; exact K1.out.size)
  have hs2 := Lib.hid a3
  have k12 := hint12 mb (l : Int) mg w2 HM2.out
  clear a1 a2 a3 hhb
  go_wp2_with fail
  clear k12
  refine (appendMode_ok md (hb + 1) hb [] w2 A2.out (by simp) (by omega) _ rfl).mono ?_
  rintro e w3 ⟨rfl, g3⟩
  have G3 := Lib.hid g3
  have K3 := Lib.hid (g3.fresh (w0 := w) (by have := HHB.out; omega) (by have := HHB.out; omega) K2.out)
  have HM3 := Lib.hid (show w3.heap[mb]? = some (.map (hintEs (l : Int) mg) 2) from hints_kept HM.out K3.out)
  have S3 := Lib.hid (show hb + 2 ≤ w3.heap.size by have := g3.keeps.size; have := hs2.out; omega)
  clear g3
  go_wp2_with fail
  obtain ⟨c3, g1, g2, g3⟩ := G3.out
  have hc3 : hb ≤ c3 := by have := hs2.out; omega
  have H3 := Lib.hid g1
  obtain ⟨db, hdb⟩ : ∃ db, w3.heap.size = db := ⟨_, rfl⟩
  have hl3 := g1.ltc
  rw [hdb] at hl3
  have hdb2 : hb + 2 ≤ db := by have := S3.out; omega
  have HDB := Lib.hid hdb
  clear g1 g2 g3 G3 S3
  refine (newEmpty_ok w3).mono ?_
  rintro e w4 ⟨rfl, a1, a2, a3⟩
  rw [hdb] at a1 a3 ⊢
  have A4 := Lib.hid a1
  have K4 := Lib.hid (K3.out.trans a2)
  have H4 := Lib.hid (H3.out.kept a2)
  have S4 := Lib.hid a3
  clear a1 a2 a3 hdb
  have HB2 := Lib.hid (show w.heap.size + 2 ≤ db by have := HHB.out; omega)
  have fits := HF.out
  rw [HMD.out] at fits
  go_wp2_with fail
  refine (appendText_ok s md (db + 1) db [] w4 A4.out (by omega) (by simp) fits _ rfl).mono ?_
  rw [HEN.out]
  rintro e w5 ⟨rfl, g5⟩
  obtain ⟨c5, g1, g2, g3⟩ := g5
  have hc5 : db ≤ c5 := by have := S4.out; omega
  have D5 := Lib.hid g1
  have H5 := Lib.hid (H4.out.keep g3 (by omega) (by omega))
  have K5 := Lib.hid (show Keeps (fun _ => False) w w5 from K4.out.step g3 (fun i hi e => by have := HB2.out; omega))
  have hl5 := g1.ltc
  have S5 := Lib.hid (show db + 2 ≤ w5.heap.size by have := g3.size; have := S4.out; omega)
  have HM5 := hints_kept HM.out K5.out
  have k10 := hint10 mb (l : Int) mg w5 HM5
  clear g1 g2 g3 HM5 fits
  go_wp2_with fail
  clear k10
  have hmode3 := HMODE.out
  refine (recommend_ok md l (hb + 1) c3 (db + 1) c5 ([] ++ QR.bitsOf 4 md) ([] ++ en) w5 H5.out D5.out hl hmode3 (by simp [QR.bitsOf, _root_.QR.bitsOf_length]) (by simp; omega) (by simp [_root_.QR.bitsOf_length]; omega) _ _ rfl rfl).mono ?_
  rintro e w6 ⟨vs, vb, v, rfl, v1, hv1, hv7, hvf, v4, v5⟩
  have V6 := Lib.hid v1
  have K6 := Lib.hid (K5.out.trans v4)
  have H6 := Lib.hid (H5.out.kept v4)
  have D6 := Lib.hid (D5.out.kept v4)
  have VF := Lib.hid hvf
  have hlv := v1.ltb
  obtain ⟨ab, hab⟩ : ∃ ab, w6.heap.size = ab := ⟨_, rfl⟩
  rw [hab] at hlv
  have hs5 : w5.heap.size ≤ ab := by have := v4.size; omega
  have hvlo := v1.lo
  have S6 := Lib.hid (And.intro hlv (And.intro (show w5.heap.size ≤ vs from v5) (And.intro hs5 hvlo)))
  clear v1 v4 v5 hvf hlv hs5 hvlo hmode3
  go_wp2_with fail
  refine (newEmpty_ok w6).mono ?_
  rintro e w7 ⟨rfl, a1, a2, a3⟩
  rw [hab] at a1 a3 ⊢
  have A7 := Lib.hid a1
  have K7 := Lib.hid (K6.out.trans a2)
  have H7 := Lib.hid (H6.out.kept a2)
  have D7 := Lib.hid (D6.out.kept a2)
  have V7 := Lib.hid (V6.out.kept a2)
  have S7 := Lib.hid a3
  clear a1 a2 a3 hab
  have E1 : hb + 2 ≤ ab := by have := S6.out; have := S5.out; omega
  have E2 : c3 < ab := by have := S6.out; have := S5.out; omega
  have E3 : db + 2 ≤ ab := by have := S6.out; have := S5.out; omega
  have E4 : c5 < ab := by have := S6.out; omega
  have E5 := Lib.hid (show w.heap.size ≤ ab by have := HB2.out; omega)
  go_wp2_with fail
  refine (appendArray_ok (ab + 1) ab (hb + 1) c3 [] ([] ++ QR.bitsOf 4 md) w7 A7.out H7.out (by simp [_root_.QR.bitsOf_length]) (by omega)).mono ?_
  rintro e w8 ⟨rfl, c8, g1, g2, g3⟩
  have hc8 : ab ≤ c8 := by have := S7.out; omega
  have A8 := Lib.hid g1
  have K8 := Lib.hid (show Keeps (fun _ => False) w w8 from K7.out.step g3 (fun i hi e => by have := E5.out; omega))
  have D8 := Lib.hid (D7.out.keep g3 (by omega) (by omega))
  have V8 := Lib.hid (V7.out.keep g3 (fun i i1 i2 => by have := S6.out; omega))
  have S8 := Lib.hid (show ab + 2 ≤ w8.heap.size by have := g3.size; have := S7.out; omega)
  clear g1 g2 g3
  go_upto_if 158 with fail
  go_cut [30] from 155 to 160 (fun s30 wx => s30 = .int .i64 (s.size : Int) ∧ w8 = wx)
  case first =>
    by_cases h4 : md = 4
    · subst h4
      go_wp2_with fail
      refine (getSizeB_ok (db + 1) c5 ([] ++ en) w8 D8.out).mono ?_
      rintro e w9 ⟨rfl, rfl⟩
      go_wp2_with fail
      go_meet
      refine ⟨?_, rfl⟩
      have : en.length = 8 * s.size := by
        rw [← HEN.out]
        show (_root_.QR.bytesBits (codes s)).length = _
        rw [_root_.QR.bytesBits_length, HZ.out]
      simp [this]
      omega
    · have h4' : ((md : Int) == 4) = false := by simp; omega
      go_wp2_with fail
      go_meet
      exact ⟨rfl, rfl⟩
  case rest =>
    obtain ⟨rfl, rfl⟩ := hcut
    go_wp2_with fail
    refine (appendLen_ok s.size md vs vb v (ab + 1) c8 ([] ++ ([] ++ QR.bitsOf 4 md)) w8 V8.out hv7 A8.out (by simp [_root_.QR.bitsOf_length]) HMODE.out (by omega) _ _ rfl rfl).mono ?_
    rintro e w9 ⟨rfl, g9⟩
    obtain ⟨c9, g1, g2, g3⟩ := g9
    have hc9 : ab ≤ c9 := by have := S8.out; omega
    have A9 := Lib.hid g1
    have K9 := Lib.hid (show Keeps (fun _ => False) w w9 from K8.out.step g3 (fun i hi e => by have := E5.out; omega))
    have D9 := Lib.hid (D8.out.keep g3 (by omega) (by omega))
    have V9 := Lib.hid (V8.out.keep g3 (fun i i1 i2 => by have := S6.out; omega))
    have S9 := Lib.hid (show ab + 2 ≤ w9.heap.size by have := g3.size; have := S8.out; omega)
    clear g1 g2 g3
    go_wp2_with fail
    refine (appendArray_ok (ab + 1) c9 (db + 1) c5 _ ([] ++ en) w9 A9.out D9.out (by simp [_root_.QR.bitsOf_length]; omega) (by omega)).mono ?_
    rintro e w10 ⟨rfl, c10, g1, g2, g3⟩
    have hseg : ([] ++ ([] ++ QR.bitsOf 4 md) ++ QR.bitsOf (_root_.QR.lenBits md) s.size) ++ ([] ++ en) = _root_.QR.segBits md (codes s) := by
      unfold _root_.QR.segBits
      rw [HZ.out, HEN.out]; simp
    rw [hseg] at g1
    obtain ⟨sg, hsg⟩ : ∃ sg, _root_.QR.segBits md (codes s) = sg := ⟨_, rfl⟩
    rw [hsg] at g1 hseg
    have SG := Lib.hid hsg
    have hc10 : ab ≤ c10 := by have := S9.out; omega
    have hsl : sg.length = 4 + _root_.QR.lenBits md + en.length := by rw [← hseg]; simp [_root_.QR.bitsOf_length]; omega
    have A10 := Lib.hid g1
    have K10 := Lib.hid (show Keeps (fun _ => False) w w10 from K9.out.step g3 (fun i hi e => by have := E5.out; omega))
    have V10 := Lib.hid (V9.out.keep g3 (fun i i1 i2 => by have := S6.out; omega))
    have S10 := Lib.hid (show ab + 2 ≤ w10.heap.size by have := g3.size; have := S9.out; omega)
    clear g1 g2 g3 hseg hsg
    have hi4 := lvAt_lt l
    have hroom := room_ok v (lvAt l) hv1 hv7 hi4
    have hshape := Lib.hid (shape_of v (lvAt l) hv1 hv7 hi4)
    have hvf := VF.out
    obtain ⟨D, hD⟩ : ∃ D, QR.dataWords v (lvAt l) = D := ⟨_, rfl⟩
    obtain ⟨T, hT⟩ : ∃ T, QR.total v = T := ⟨_, rfl⟩
    obtain ⟨NB, hNB⟩ : ∃ NB, QR.numBlocks v (lvAt l) = NB := ⟨_, rfl⟩
    obtain ⟨E, hE⟩ : ∃ E, QR.ecN v (lvAt l) * NB = E := ⟨_, rfl⟩
    rw [hD, hT, hNB, hE] at hroom
    rw [hD, hT, hNB] at hshape
    rw [hD] at hvf
    have HD := Lib.hid hD
    have HT := Lib.hid hT
    have HNB := Lib.hid hNB
    have HE := Lib.hid hE
    obtain ⟨r1, r2, r3⟩ := hroom
    have HW := Lib.hid r3
    have hl8 : sg.length ≤ 8 * D := by
      rw [List.nil_append, List.nil_append, _root_.QR.bitsOf_length] at hvf
      omega
    have hsub : (T : Int) - (E : Int) = (D : Int) := by omega
    clear hD hT hNB hE hvf r3 r1
    go_wp2_with fail
    refine (getLevel_ok vs vb v l w10 V10.out hl).mono ?_
    rintro e w11 ⟨rfl, g1, rfl⟩
    have EC := Lib.hid g1
    clear g1
    go_wp2_with fail
    refine (getTotal_ok vs vb v w10 V10.out).mono ?_
    rw [HT.out]
    rintro e w11 ⟨rfl, rfl⟩
    go_wp2_with fail
    refine (totalEC_ok (vs + 5) (2 * lvAt l) (vs + 1 + lvAt l) v (lvAt l) w10 EC.out hv1 hv7 hi4).mono ?_
    rw [HNB.out, HE.out]
    rintro e w11 ⟨rfl, k11⟩
    have A11 := Lib.hid (A10.out.kept k11)
    have K11 := Lib.hid (K10.out.trans k11)
    have V11 := Lib.hid (V10.out.kept k11)
    have S11 := Lib.hid (show ab + 2 ≤ w11.heap.size by have := k11.size; have := S10.out; omega)
    have EC11 := Lib.hid (EC.out.keep k11 (fun f => f) (fun f => f))
    clear k11
    go_wp2_with fail
    refine (terminate_ok D (ab + 1) c10 sg w11 A11.out hl8 (by omega) _ rfl).mono ?_
    rintro e w12 ⟨rfl, T0, g12, t1, t2⟩
    obtain ⟨c12, g1, g2, g3⟩ := g12
    have A12 := Lib.hid g1
    have K12 := Lib.hid (show Keeps (fun _ => False) w w12 from K11.out.step g3 (fun i hi e => by have := E5.out; omega))
    have V12 := Lib.hid (V11.out.keep g3 (fun i i1 i2 => by have := S6.out; omega))
    have EC12 := Lib.hid (EC11.out.keep g3 (by have := S6.out; omega) (by have := S6.out; omega))
    have S12 := Lib.hid (show ab + 2 ≤ w12.heap.size by have := g3.size; have := S11.out; omega)
    have TT := Lib.hid (And.intro t1 t2)
    clear g1 g2 g3 t1 t2
    go_wp2_with fail
    refine (getTotal_ok vs vb v w12 V12.out).mono ?_
    rw [HT.out]
    rintro e w13 ⟨rfl, rfl⟩
    go_wp2_with fail
    refine (numBlocks_ok (vs + 5) (2 * lvAt l) (vs + 1 + lvAt l) v (lvAt l) w12 EC12.out hv1 hv7 hi4).mono ?_
    rw [HNB.out]
    rintro e w13 ⟨rfl, k13⟩
    have A13 := Lib.hid (A12.out.kept k13)
    have K13 := Lib.hid (K12.out.trans k13)
    have V13 := Lib.hid (V12.out.kept k13)
    have S13 := Lib.hid (show ab + 2 ≤ w13.heap.size by have := k13.size; have := S12.out; omega)
    clear k13
    go_wp2_with fail
    refine (interleave_ok (ab + 1) c12 T D NB (kOne v (lvAt l)) (kTwo v (lvAt l)) (sOf v (lvAt l)) (QR.ecN v (lvAt l)) (sg ++ T0) w13 A13.out hshape.out TT.out.1 _ _ _ rfl rfl rfl).mono ?_
    rintro e w14 ⟨rb, rc, es, rfl, g1, g2, g3, g4, g5, g6⟩
    obtain ⟨bits, hbits⟩ : ∃ bits, _root_.QR.bytesBits (_root_.QR.mixD (dataL (sg ++ T0) (kOne v (lvAt l)) (sOf v (lvAt l)) NB) (sOf v (lvAt l)) (kTwo v (lvAt l)) ++ _root_.QR.cols es (QR.ecN v (lvAt l))) = bits := ⟨_, rfl⟩
    rw [hbits] at g3
    have SENT := Lib.hid (show Sent v l (codes s) bits T0 es from by
      refine ⟨?_, TT.out.2, ?_, ?_, ?_⟩
      · rw [HMD.out, SG.out, HD.out]; exact TT.out.1
      · rw [HNB.out]; exact g1
      · rw [HMD.out, SG.out, HNB.out]; exact g2
      · rw [HMD.out, SG.out, HNB.out]; exact hbits.symm)
    have R14 := Lib.hid g3
    have K14 := Lib.hid (K13.out.trans g4)
    have V14 := Lib.hid (V13.out.kept g4)
    have S14 := Lib.hid (And.intro (show ab + 2 ≤ w14.heap.size by have := g4.size; have := S13.out; omega) (And.intro g5 g6))
    clear g1 g2 g3 g4 g5 g6 hbits
    have HBL := Lib.hid (sent_length SENT.out hv1 hv7 hl)
    go_wp2_with fail
    refine (qcNew_ok w14).mono ?_
    rintro e w15 ⟨rfl, g1, g2, g3⟩
    obtain ⟨q, hq⟩ : ∃ q, w14.heap.size = q := ⟨_, rfl⟩
    rw [hq] at g1 g3 ⊢
    have Q15 := Lib.hid g1
    have K15 := Lib.hid (K14.out.trans g2)
    have V15 := Lib.hid (V14.out.kept g2)
    have R15 := Lib.hid (R14.out.kept g2)
    have S15 := Lib.hid g3
    have hrb : rb < q := by rw [← hq]; exact R14.out.ltb
    have hrc : rc < q := by rw [← hq]; exact R14.out.ltc
    have hqa : ab + 2 ≤ q := by rw [← hq]; exact S14.out.1
    have HWQ := Lib.hid (show w.heap.size ≤ q by have := E5.out; omega)
    clear g1 g2 g3 hq
    go_wp2_with fail
    refine (qcLevel_ok q _ _ _ _ _ (l : Int) w15 Q15.out).mono ?_
    rintro e w16 ⟨rfl, g1, g2⟩
    have Q16 := Lib.hid g1
    have K16 := Lib.hid (show Keeps (fun _ => False) w w16 from K15.out.step g2 (fun i hi e => by have := HWQ.out; omega))
    have V16 := Lib.hid (V15.out.keep g2 (fun i i1 i2 => by have := S6.out; omega))
    have R16 := Lib.hid (R15.out.keep g2 (by omega) (by omega))
    have S16 := Lib.hid (show q + 1 ≤ w16.heap.size by have := g2.size; have := S15.out; omega)
    clear g1 g2
    go_wp2_with fail
    refine (qcMode_ok q _ _ _ _ _ (md : Int) w16 Q16.out).mono ?_
    rintro e w17 ⟨rfl, g1, g2⟩
    have Q17 := Lib.hid g1
    have K17 := Lib.hid (show Keeps (fun _ => False) w w17 from K16.out.step g2 (fun i hi e => by have := HWQ.out; omega))
    have V17 := Lib.hid (V16.out.keep g2 (fun i i1 i2 => by have := S6.out; omega))
    have R17 := Lib.hid (R16.out.keep g2 (by omega) (by omega))
    have S17 := Lib.hid (show q + 1 ≤ w17.heap.size by have := g2.size; have := S16.out; omega)
    clear g1 g2
    go_wp2_with fail
    refine (qcVersion_ok q _ _ _ _ _ (some ⟨vb, 0, none⟩) w17 Q17.out).mono ?_
    rintro e w18 ⟨rfl, g1, g2⟩
    have Q18 := Lib.hid g1
    have K18 := Lib.hid (show Keeps (fun _ => False) w w18 from K17.out.step g2 (fun i hi e => by have := HWQ.out; omega))
    have V18 := Lib.hid (V17.out.keep g2 (fun i i1 i2 => by have := S6.out; omega))
    have R18 := Lib.hid (R17.out.keep g2 (by omega) (by omega))
    have S18 := Lib.hid (show q + 1 ≤ w18.heap.size by have := g2.size; have := S17.out; omega)
    clear g1 g2
    go_wp2_with fail
    refine (getDim_ok vs vb v w18 V18.out (by omega)).mono ?_
    rintro e w19 ⟨rfl, rfl⟩
    obtain ⟨n, hn⟩ : ∃ n, 17 + 4 * v = n := ⟨_, rfl⟩
    rw [hn]
    have hside : n = _root_.QR.side v := hn.symm
    have HSIDE := Lib.hid hside
    have hn100 : n ≤ 100 := by omega
    clear hn hside
    go_wp2_with fail
    refine (ymNew_ok n w18 (by omega) _ _ rfl rfl).mono ?_
    rintro e w19 ⟨yb, ym, g, rfl, g1, g2, g3, g4, g5⟩
    have Y19 := Lib.hid g1
    have K19 := Lib.hid (K18.out.trans g2)
    have V19 := Lib.hid (V18.out.kept g2)
    have R19 := Lib.hid (R18.out.kept g2)
    have Q19 := Lib.hid (Q18.out.keep g2 (fun f => f))
    have GG := Lib.hid (show ∀ y, y < n → q < g y from fun y hy => by have := g5 y hy; have := S18.out; omega)
    have hyb : q < yb := by have := S18.out; omega
    have hym : q < ym := by have := S18.out; omega
    have HM19 := hints_kept HM.out K19.out
    have k11 := hint11 mb (l : Int) mg w19 HM19
    clear g1 g2 g3 g4 g5 HM19
    have NR := Lib.hid (show ∀ i, i ≤ q → ¬ inRows g n i from fun i hi ⟨y, hy, e⟩ => by have := GG.out y hy; omega)
    go_wp2_with fail
    clear k11
    refine (chooseMask_ok rb rc yb ym n vs vb v l bits g _ w19 R19.out V19.out Y19.out hl hv1 hv7 HSIDE.out HBL.out (fun y hy => Or.inl (by have := GG.out y hy; have := S6.out; omega)) _ rfl).mono ?_
    rintro e w20 ⟨⟨m, hm, rfl⟩, ⟨F, g1⟩, g2⟩
    have Y20 := Lib.hid g1
    have K20 := Lib.hid (show Keeps (fun _ => False) w w20 from K19.out.step g2 (fun i hi e => NR.out i (by have := HWQ.out; omega) e))
    have V20 := Lib.hid (V19.out.keep g2 (fun i i1 i2 => NR.out i (by have := S6.out; omega)))
    have R20 := Lib.hid (R19.out.keep g2 (NR.out _ (by omega)) (NR.out _ (by omega)))
    have Q20 := Lib.hid (Q19.out.keep g2 (NR.out _ (by omega)))
    clear g1 g2
    go_wp2_with fail
    refine (qcMask_ok q _ _ _ _ _ (m : Int) w20 Q20.out).mono ?_
    rintro e w21 ⟨rfl, g1, g2⟩
    have Q21 := Lib.hid g1
    have K21 := Lib.hid (show Keeps (fun _ => False) w w21 from K20.out.step g2 (fun i hi e => by have := HWQ.out; omega))
    have V21 := Lib.hid (V20.out.keep g2 (fun i i1 i2 => by have := S6.out; omega))
    have R21 := Lib.hid (R20.out.keep g2 (by omega) (by omega))
    have Y21 := Lib.hid (Y20.out.keep g2 (by omega) (by omega) (fun y hy => by have := GG.out y hy; omega))
    clear g1 g2
    go_wp2_with fail
    refine (buildMatrix_ok rb rc yb ym n vs vb v l m bits g _ w21 R21.out V21.out Y21.out hm hl hv1 hv7 HSIDE.out HBL.out (fun y hy => Or.inl (by have := GG.out y hy; have := S6.out; omega)) _ _ rfl rfl).mono ?_
    rintro e w22 ⟨rfl, g1, g2⟩
    have Y22 := Lib.hid g1
    have K22 := Lib.hid (show Keeps (fun _ => False) w w22 from K21.out.step g2 (fun i hi e => NR.out i (by have := HWQ.out; omega) e))
    have Q22 := Lib.hid (Q21.out.keep g2 (NR.out _ (by omega)))
    clear g1 g2
    go_wp2_with fail
    refine (qcMatrix_ok q _ _ _ _ _ (some ⟨yb, 0, none⟩) w22 Q22.out).mono ?_
    rintro e w23 ⟨rfl, g1, g2⟩
    have Q23 := Lib.hid g1
    have K23 := Lib.hid (show Keeps (fun _ => False) w w23 from K22.out.step g2 (fun i hi e => by have := HWQ.out; omega))
    have Y23 := Lib.hid (Y22.out.keep g2 (by omega) (by omega) (fun y hy => by have := GG.out y hy; omega))
    clear g1 g2
    go_wp2
    go_ret2
    refine ⟨q, yb, ym, g, v, m, bits, T0, es, _, _, _, _, rfl, Q23.out, hv1, hv7, hm, ?_, SENT.out, K23.out⟩
    rw [← HSIDE.out]; exact Y23.out

end Go.Proofs.YtplpafbkalkchaaGreatDoor

namespace Go.Proofs.YtplpafbkalkchaaGreatDoor
open Go.RowKit

theorem b01_one (b : Bool) : (_root_.QR.b01 b == (1 : Int)) = b := by cases b <;> rfl
theorem b01_ne (b : Bool) : _root_.QR.b01 b ≠ -1 := by cases b <;> decide

theorem sym_rd1 {v m : Nat} (h1 : 1 ≤ v) (h7 : v ≤ 7) (tb vb bits : List Bool) {k : Nat} (hk : k < 15) :
    (_root_.QR.symM v m tb vb bits (_root_.QR.rd1.getD k (0, 0)).1 (_root_.QR.rd1.getD k (0, 0)).2 == 1) = tb.getD k false := by
  have e := _root_.QR.base_rd1 h1 h7 tb vb hk
  rw [_root_.QR.sym_laid (by rw [e]; exact b01_ne _), e, b01_one]
theorem sym_rd2 {v m : Nat} (h1 : 1 ≤ v) (h7 : v ≤ 7) (tb vb bits : List Bool) {k : Nat} (hk : k < 15) :
    (_root_.QR.symM v m tb vb bits ((_root_.QR.rd2 (_root_.QR.side v)).getD k (0, 0)).1 ((_root_.QR.rd2 (_root_.QR.side v)).getD k (0, 0)).2 == 1) = tb.getD k false := by
  have e := _root_.QR.base_rd2 h1 h7 tb vb hk
  rw [_root_.QR.sym_laid (by rw [e]; exact b01_ne _), e, b01_one]
theorem sym_rdv {m : Nat} (tb vb bits : List Bool) {k : Nat} (hk : k < 18) :
    (_root_.QR.symM 7 m tb vb bits ((_root_.QR.rdv 45).getD k (0, 0)).1 ((_root_.QR.rdv 45).getD k (0, 0)).2 == 1) = vb.getD k false := by
  have e := _root_.QR.base_rdv tb vb hk
  rw [_root_.QR.sym_laid (by rw [e]; exact b01_ne _), e, b01_one]

theorem bytesAt_getD (l : List Bool) (o n p : Nat) (h : p < n) : (bytesAt l o n).getD p 0 = _root_.QR.numOf ((l.drop (o + 8 * p)).take 8) := by
  simp [bytesAt, List.getD, h]
theorem bits_num : ∀ (l : List Bool), l.length = 8 → _root_.QR.bitsOf 8 (_root_.QR.numOf l) = l := by
  intro l h
  obtain ⟨a, b, c, d, e, f, g, i, rfl⟩ : ∃ a b c d e f g i, l = [a, b, c, d, e, f, g, i] := by
    rcases l with _ | ⟨a, _ | ⟨b, _ | ⟨c, _ | ⟨d, _ | ⟨e, _ | ⟨f, _ | ⟨g, _ | ⟨i, _ | ⟨j, l⟩⟩⟩⟩⟩⟩⟩⟩⟩ <;> simp at h
    exact ⟨a, b, c, d, e, f, g, i, rfl⟩
  revert a b c d e f g i
  decide
theorem bytes_back : ∀ (n : Nat) (l : List Bool), l.length = 8 * n → _root_.QR.bytesBits (bytesAt l 0 n) = l := by
  intro n
  induction n with
  | zero => intro l h; have : l = [] := List.length_eq_zero_iff.1 (by omega); subst this; rfl
  | succ n ih =>
    intro l h
    have e : bytesAt l 0 (n + 1) = _root_.QR.numOf (l.take 8) :: bytesAt (l.drop 8) 0 n := by
      unfold bytesAt
      rw [List.range_succ_eq_map, List.map_cons, List.map_map]
      congr 1
      refine List.map_congr_left (fun j _ => ?_)
      simp only [Function.comp, List.drop_drop]
      congr 3; omega
    rw [e, _root_.QR.bytesBits, ih (l.drop 8) (by rw [List.length_drop]; omega), bits_num (l.take 8) (by rw [List.length_take]; omega), List.take_append_drop]
theorem four_zero {T0 : List Bool} (h : ∀ i, i < 4 → T0.getD i false = false) : T0.length < 4 ∨ ∃ R, T0 = _root_.QR.bitsOf 4 0 ++ R := by
  rcases T0 with _ | ⟨a, _ | ⟨b, _ | ⟨c, _ | ⟨d, l⟩⟩⟩⟩
  · exact Or.inl (by simp)
  · exact Or.inl (by simp)
  · exact Or.inl (by simp)
  · exact Or.inl (by simp)
  · have h0 := h 0 (by omega); have h1 := h 1 (by omega); have h2 := h 2 (by omega); have h3 := h 3 (by omega)
    simp at h0 h1 h2 h3
    subst h0 h1 h2 h3
    exact Or.inr ⟨l, rfl⟩

/-- What a block of the reader holds. -/
theorem block_holds {v l : Nat} {cs : List Nat} {bits T0 : List Bool} {es : List (List Nat)} (h : Sent v l cs bits T0 es) (h1 : 1 ≤ v) (h7 : v ≤ 7) (hl : l < 4) (raw : List Nat) (hraw : raw = _root_.QR.mixD (dataL (_root_.QR.segBits (_root_.QR.modeOf cs) cs ++ T0) (kOne v (lvAt l)) (sOf v (lvAt l)) (QR.numBlocks v (lvAt l))) (sOf v (lvAt l)) (kTwo v (lvAt l)) ++ _root_.QR.cols es (QR.ecN v (lvAt l)))
    {j p : Nat} (hj : j < QR.numBlocks v (lvAt l)) (hp : p < lenJ (kOne v (lvAt l)) (sOf v (lvAt l)) j + QR.ecN v (lvAt l)) :
    _root_.QR.cwAt raw (QR.numBlocks v (lvAt l)) (kOne v (lvAt l)) (kTwo v (lvAt l)) (sOf v (lvAt l)) j p = (dataJ (_root_.QR.segBits (_root_.QR.modeOf cs) cs ++ T0) (kOne v (lvAt l)) (sOf v (lvAt l)) j ++ es.getD j []).getD p 0 := by
  have hS := shape_of v (lvAt l) h1 h7 (lvAt_lt l)
  have ht : _root_.QR.Two (dataL (_root_.QR.segBits (_root_.QR.modeOf cs) cs ++ T0) (kOne v (lvAt l)) (sOf v (lvAt l)) (QR.numBlocks v (lvAt l))) (kOne v (lvAt l)) (kTwo v (lvAt l)) (sOf v (lvAt l)) :=
    ⟨by rw [dataL_length]; exact hS.hnb, fun j hj => by rw [dataL_get _ _ _ _ _ (by have := hS.hnb; omega), dataJ_length]; unfold lenJ; rw [if_pos hj],
      fun j hj hj2 => by rw [dataL_get _ _ _ _ _ (by have := hS.hnb; omega), dataJ_length]; unfold lenJ; rw [if_neg (by omega)]⟩
  have := _root_.QR.cwAt_ok (ec := QR.ecN v (lvAt l)) (j := j) (p := p) ht (by rw [h.hes]; exact hS.hnb) (fun j hj => (h.cod j (by rw [hS.hnb]; exact hj)).1) (by rw [← hS.hnb]; exact hj) (by rw [dataL_get _ _ _ _ _ hj, dataJ_length]; exact hp)
  rw [hraw]
  rw [← hS.hnb] at this
  rw [this, dataL_get _ _ _ _ _ hj]

theorem cols_bytes {bs : List (List Nat)} (h : ∀ b ∈ bs, _root_.QR.Bytes b) (m : Nat) : _root_.QR.Bytes (_root_.QR.cols bs m) := fun x hx => by
  unfold _root_.QR.cols at hx
  obtain ⟨i, _, hi⟩ := List.mem_flatMap.1 hx
  unfold _root_.QR.col at hi
  obtain ⟨b, hb, e⟩ := List.mem_filterMap.1 hi
  exact h b hb x (List.mem_of_getElem? e)
def rawOf (v l : Nat) (cs : List Nat) (T0 : List Bool) (es : List (List Nat)) : List Nat :=
  _root_.QR.mixD (dataL (_root_.QR.segBits (_root_.QR.modeOf cs) cs ++ T0) (kOne v (lvAt l)) (sOf v (lvAt l)) (QR.numBlocks v (lvAt l))) (sOf v (lvAt l)) (kTwo v (lvAt l)) ++ _root_.QR.cols es (QR.ecN v (lvAt l))
theorem raw_bytes {v l : Nat} {cs : List Nat} {bits T0 : List Bool} {es : List (List Nat)} (h : Sent v l cs bits T0 es) : _root_.QR.Bytes (rawOf v l cs T0 es) := fun x hx => by
  rcases List.mem_append.1 hx with hx | hx
  · refine cols_bytes (fun b hb => ?_) _ x hx
    obtain ⟨j, hj, e⟩ := List.getElem_of_mem hb
    have hj2 : j < QR.numBlocks v (lvAt l) := by rw [dataL_length] at hj; exact hj
    have := dataL_get (_root_.QR.segBits (_root_.QR.modeOf cs) cs ++ T0) (kOne v (lvAt l)) (sOf v (lvAt l)) (QR.numBlocks v (lvAt l)) j hj2
    rw [List.getD_eq_getElem?_getD, List.getElem?_eq_getElem hj, Option.getD_some, e] at this
    rw [this]
    exact bytesAt_bytes _ _ _
  · refine cols_bytes (fun b hb => ?_) _ x hx
    obtain ⟨j, hj, e⟩ := List.getElem_of_mem hb
    have := (h.cod j (by rw [← h.hes]; exact hj)).2.be
    rw [List.getD_eq_getElem?_getD, List.getElem?_eq_getElem hj, Option.getD_some, e] at this
    exact this
theorem raw_length {v l : Nat} {cs : List Nat} {bits T0 : List Bool} {es : List (List Nat)} (h : Sent v l cs bits T0 es) (h1 : 1 ≤ v) (h7 : v ≤ 7) (hl : l < 4) : (rawOf v l cs T0 es).length = _root_.QR.wordsN v := by
  have := sent_length h h1 h7 hl
  rw [h.bits, _root_.QR.bytesBits_length] at this
  unfold rawOf
  omega

end Go.Proofs.YtplpafbkalkchaaGreatDoor
