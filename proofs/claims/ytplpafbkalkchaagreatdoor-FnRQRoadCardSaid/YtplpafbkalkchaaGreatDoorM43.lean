/-
  Parts of the proof (RC).
-/
import Derived.Test.YtplpafbkalkchaaGreatDoorM04
import Derived.Test.YtplpafbkalkchaaGreatDoorM10
import Derived.Test.YtplpafbkalkchaaGreatDoorM17
import Derived.Test.YtplpafbkalkchaaGreatDoorM29
import Derived.Test.YtplpafbkalkchaaGreatDoorM41
import Derived.Test.YtplpafbkalkchaaGreatDoorM42
import Derived.Deep.CutRange
import Derived.Laws.EntriesVeiled
set_option linter.unusedSimpArgs false
set_option linter.unusedVariables false

namespace Go.Proofs.YtplpafbkalkchaaGreatDoor
open Go.RowKit

theorem BM.typb {w : World} {b c W H : Nat} {f : Nat → Nat → Bool} (h : BM w b c W H f) : TypeAt w b 150 ∧ TypeAt w c 151 := by
  obtain ⟨_, _, _, _, h4, h5, _⟩ := h
  exact ⟨h4.typ, h5.typ⟩

theorem BM.drewN {w : World} {b c W H : Nat} {f : Nat → Nat → Bool} (h : BM w b c W H f) (n : Nat) : BM (w.drewN n) b c W H f := h

set_option maxRecDepth 100000 in
theorem readFormat2_ok (p : Nat) (v0 v1 v3 : Value) (x : Addr) (w : World) (hp : Blk w p [v0, v1, .pointer (some x), v3] 312) : Calls Tryz.prog 164 #[.pointer (some ⟨p, 0, none⟩)] w fun e w' => e = .returned (.tuple #[.pointer (some x), .nilIface]) ∧ w = w' := by
  have c1 := hp.cell (i := 2) rfl
  clear hp
  go_enter Tryz.func164, Tryz.ntmps164
  go_wp2
  go_ret2
  exact ⟨rfl, rfl⟩

theorem masksL_get (m : Nat) (h : m < 8) : masksL[m]? = some (.func (.func (238 + m)) #[] #[]) := by
  obtain rfl | rfl | rfl | rfl | rfl | rfl | rfl | rfl : m = 0 ∨ m = 1 ∨ m = 2 ∨ m = 3 ∨ m = 4 ∨ m = 5 ∨ m = 6 ∨ m = 7 := by omega
  all_goals rfl

set_option maxRecDepth 100000 in
set_option maxHeartbeats 1000000 in
theorem readCodewords_ok (p b c n v m q B0 : Nat) (lv : Int) (pv : Value) (f : Nat → Nat → Bool) (ds : List Nat) (w : World) (hp : Blk w p [.pointer (some ⟨b, 0, none⟩), pv, .pointer (some ⟨q, 0, none⟩), .bool false] 312)
    (hq : Blk w q [.int .i64 lv, .int .u8 (m : Int)] 341) (hm : m < 8) (hb : BM w b c n n f) (hn : n = _root_.QR.side v) (h1 : 1 ≤ v) (h7 : v ≤ 7)
    (hver : Calls Tryz.prog 163 #[.pointer (some ⟨p, 0, none⟩)] w fun e w' => ∃ s vb pv', e = .returned (.tuple #[.pointer (some ⟨vb, 0, none⟩), .nilIface]) ∧ Ver w' s vb v ∧ Blk w' p [.pointer (some ⟨b, 0, none⟩), pv', .pointer (some ⟨q, 0, none⟩), .bool false] 312 ∧ Keeps (fun i => i = p) w w' ∧ ∀ i, s ≤ i → i ≤ vb → i ≠ c)
    (hd : ds.length = _root_.QR.wordsN v) (hby : _root_.QR.Bytes ds)
    (hr : _root_.QR.readL (_root_.QR.fpat v) (fun x y => f x y != _root_.QR.mskD m y x) [] (_root_.QR.zz n) = _root_.QR.bytesBits ds ++ List.replicate (_root_.QR.restN v) false) :
    Calls Tryz.prog 194 #[.pointer (some ⟨p, 0, none⟩)] w fun e w' => ∃ R, e = .returned (.tuple #[.slice (some ⟨R, 0, none⟩) (QR.total v) (QR.total v), .nilIface]) ∧ Blk w' R (ds.map vu8) 5 ∧ Keeps (fun i => i = p ∨ i = c) w w' ∧ w.heap.size ≤ R := by
  have HP := Lib.hid hp
  have HQ := Lib.hid hq
  have HB := Lib.hid hb
  have HVER := Lib.hid hver
  have hpb : b ≠ p := hb.typb.1.ne hp.typ (by decide)
  have hpc : c ≠ p := hb.typb.2.ne hp.typ (by decide)
  have hqp : q ≠ p := hq.typ.ne hp.typ (by decide)
  have hqc : q ≠ c := hq.typ.ne hb.typb.2 (by decide)
  have hbc : c ≠ b := hb.ne
  have hlc := hb.ltc
  have hlb := hb.ltb
  have HN := Lib.hid hn
  have hn2 : 21 ≤ n ∧ n ≤ 45 ∧ n % 2 = 1 := by rw [hn]; unfold _root_.QR.side; omega
  obtain ⟨n1, n2, n3⟩ := hn2
  rw [zz_start n n1 n3] at hr
  have HR := Lib.hid hr
  have HD := Lib.hid (And.intro hd hby)
  have hT := (room_ok v 0 h1 h7 (by omega)).2
  obtain ⟨T, hTT⟩ : ∃ T, QR.total v = T := ⟨_, rfl⟩
  rw [hTT] at hT
  have HT := Lib.hid hTT
  have hT196 := hT.1
  have HTW := Lib.hid hT.2
  have HP' := hp
  clear hp hq hb hver hn hr hd hby hT hTT
  rw [HT.out]
  go_enter Tryz.func194, Tryz.ntmps194
  go_wp2_with fail
  refine (readFormat2_ok p _ _ _ _ w HP.out).mono ?_
  rintro e w1 ⟨rfl, rfl⟩
  go_wp2_with fail
  refine HVER.out.mono ?_
  rintro e w1 ⟨s, vb, pv', rfl, a1, a2, a3, a4⟩
  have V1 := Lib.hid a1
  have P1 := Lib.hid a2
  have K1 := Lib.hid a3
  have VC := Lib.hid a4
  have B1 := Lib.hid (HB.out.keep a3 hpb hpc)
  have Q1 := Lib.hid (HQ.out.keep a3 hqp)
  clear a1 a2 a3 a4 HP'
  go_wp2_with fail
  refine (masks_ok w1).mono ?_
  rintro e w2 ⟨rfl, h2⟩
  have hk2 : Keeps (fun _ => False) w1 w2 := by rw [← h2]; exact (Keeps.refl _ w1).alloc _
  have hm2 : Blk w2 w1.heap.size masksL 324 := by rw [← h2]; exact Blk.new w1 masksL 324
  obtain ⟨M, hM⟩ : ∃ M, w1.heap.size = M := ⟨_, rfl⟩
  rw [hM] at hm2 ⊢
  have cM := hm2.cell (masksL_get m hm)
  have Q2 := Lib.hid (Q1.out.keep hk2 (fun f => f))
  have K2 := Lib.hid hk2
  have HM := Lib.hid hM
  clear h2 hk2 hm2 hM
  go_wp2_with fail
  refine (fiMask_ok q _ (m : Int) w2 Q2.out).mono ?_
  rintro e w3 ⟨rfl, rfl⟩
  have hm8 : (m : Int) < 8 := by omega
  obtain ⟨D, hD⟩ : ∃ D, w2.heap.size = D := ⟨_, rfl⟩
  have nb := Blk.new w2 [.nilFunc] 324
  rw [hD] at nb
  have n0 := nb.cell (i := 0) rfl
  have nf := nb.free 0
  have hk3 : Keeps (fun _ => False) w2 (w2.alloc (.cells #[.func (.func (238 + m)) #[] #[]] 324)) := (Keeps.refl _ w2).alloc _
  have e3 := (K1.out.trans (K2.out.mono (S' := fun i => i = p) (fun _ _ f => f.elim))).trans (hk3.mono (S' := fun i => i = p) (fun _ _ f => f.elim))
  have k13 := K2.out.trans hk3
  have K3 := Lib.hid (And.intro e3 k13)
  have hP3 := P1.out.keep k13 (fun f => f)
  have hD3 := Blk.new w2 [.func (.func (238 + m)) #[] #[]] 324
  rw [hD] at hD3
  have p0 := hP3.cell (i := 0) rfl
  have d0 := hD3.cell (i := 0) rfl
  have P3 := Lib.hid hP3
  have B3 := Lib.hid (B1.out.keep k13 (fun f => f) (fun f => f))
  have V3 := Lib.hid (V1.out.keep k13 (fun _ _ _ f => f))
  have HD3 := Lib.hid hD
  clear e3 k13 hk3 hP3 hD3 nb
  go_wp2_with fail
  refine (height_ok b c n n f _ B3.out).mono ?_
  rintro e w4 ⟨rfl, rfl⟩
  go_wp2_with fail
  refine wp_region_quiet_tail 6 (by kernel_rfl) (by kernel_rfl) ?_
  simp only [List.take_succ_cons, List.take_zero, List.drop_succ_cons, List.drop_zero]
  repeat (quiet_step (fail))
  refine wpQuiet_nil ?_
  intro _ hw'
  obtain ⟨nq, hw''⟩ := hw'
  subst hw''
  go_wp2_with fail
  refine (unmask_ok (238 + m) m b c n (maskF m hm) (by omega) f _ (B3.out.drewN nq) (by omega) _ rfl).mono ?_
  rintro e w5 ⟨rfl, a1, a2⟩
  have K5 := Lib.hid (show Keeps (fun i => i = p ∨ i = c) w w5 from ((K3.out.1.mono (S' := fun i => i = p ∨ i = c) (fun _ _ h => Or.inl h)).drewN nq).trans (a2.mono (fun _ _ h => Or.inr h)))
  have P5 := Lib.hid ((P3.out.drewN nq).keep a2 (by omega))
  have V5 := Lib.hid ((V3.out.keep ((Keeps.refl (fun _ => False) _).drewN nq) (fun _ _ _ f => f)).keep a2 (fun i i1 i2 e => VC.out i i1 i2 e))
  obtain ⟨G, hG⟩ : ∃ G, (fun x y => f x y != _root_.QR.mskD m y x) = G := ⟨_, rfl⟩
  rw [hG] at a1
  have B5 := Lib.hid a1
  have HR5 := Lib.hid HR.out
  rw [hG] at HR5
  obtain ⟨ALL, hALL⟩ : ∃ ALL, _root_.QR.bytesBits ds ++ List.replicate (_root_.QR.restN v) false = ALL := ⟨_, rfl⟩
  rw [hALL] at HR5
  have HALL := Lib.hid hALL
  have hlen : 8 * T ≤ ALL.length ∧ ALL.length ≤ 8 * T + 7 := by
    rw [← hALL, List.length_append, _root_.QR.bytesBits_length, HD.out.1, ← HTW.out, List.length_replicate]
    have : _root_.QR.restN v ≤ 7 := by unfold _root_.QR.restN; split <;> omega
    omega
  clear a1 a2 hG hALL d0 p0 n0 nf cM
  have p0 := P5.out.cell (i := 0) rfl
  go_wp2_with fail
  refine (buildPat_ok s vb v w5 V5.out h1 h7).mono ?_
  rintro e w6 ⟨pb, pc, rfl, a1, a2, a3, a4⟩
  rw [← HN.out] at a1
  have PT6 := Lib.hid a1
  have K6 := Lib.hid (K5.out.trans (a2.mono (S' := fun i => i = p ∨ i = c) (fun _ _ f => f.elim)))
  have P6 := Lib.hid (P5.out.keep a2 (fun f => f))
  have B6 := Lib.hid (B5.out.keep a2 (fun f => f) (fun f => f))
  have V6 := Lib.hid (V5.out.keep a2 (fun _ _ _ f => f))
  clear a1 a2 a3 a4 p0
  go_wp2_with fail
  refine (getTotal_ok s vb v w6 V6.out).mono ?_
  rw [HT.out]
  rintro e w7 ⟨rfl, rfl⟩
  have hmk := make_rep (P := Tryz.prog) 35 5 (.int .u8 0) 1 Tryz.underlying35 info5 rfl T (by omega) (by omega) w6
  obtain ⟨w7, hw7⟩ : ∃ w7, w6.alloc (.cells (rep T (.int .u8 0)).toArray 5) = w7 := ⟨_, rfl⟩
  obtain ⟨R, hRR⟩ : ∃ R, w6.heap.size = R := ⟨_, rfl⟩
  rw [hw7, hRR] at hmk
  have hk7 : Keeps (fun _ => False) w6 w7 := by rw [← hw7]; exact (Keeps.refl _ w6).alloc _
  have F7 := Lib.hid (show FB w7 R T (fun i => vu8 (_root_.QR.cwF [] i)) 5 by
    have := FB.new w6 T (.int .u8 0) 5
    rw [hw7, hRR] at this
    exact this.congr (fun i _ => by unfold _root_.QR.cwF; rw [if_neg (by simp)]; rfl))
  have hpR : p < R := by rw [← hRR]; exact P6.out.lt
  have hbR : b < R := by rw [← hRR]; exact B6.out.ltb
  have hcR : c < R := by rw [← hRR]; exact B6.out.ltc
  have hpbR : pb < R := by rw [← hRR]; exact PT6.out.ltb
  have hpcR : pc < R := by rw [← hRR]; exact PT6.out.ltc
  have HVR := Lib.hid (show ∀ i, s ≤ i → i ≤ vb → i ≠ R from fun i i1 i2 => by have := V6.out.ltb; omega)
  have P7 := Lib.hid (P6.out.keep hk7 (fun f => f))
  have B7 := Lib.hid (B6.out.keep hk7 (fun f => f) (fun f => f))
  have PT7 := Lib.hid (PT6.out.keep hk7 (fun f => f) (fun f => f))
  have V7 := Lib.hid (V6.out.keep hk7 (fun _ _ _ f => f))
  have K7 := Lib.hid (K6.out.trans (hk7.mono (S' := fun i => i = p ∨ i = c) (fun _ _ f => f.elim)))
  have hwR := Lib.hid (show w.heap.size ≤ R by rw [← hRR]; exact K6.out.size)
  obtain ⟨K, hK⟩ : ∃ K, (n - 1) / 2 = K := ⟨_, rfl⟩
  have hKn : 2 * K + 1 = n := by omega
  have HKN := Lib.hid hKn
  rw [hK] at HR5
  have hK10 : 10 ≤ K := by omega
  have hK50 : K ≤ 50 := by omega
  obtain ⟨l1, l2⟩ := hlen
  clear hw7 hRR hk7 hKn hK
  go_wp2_with fail
  clear hmk
  go_loopw [10, 12, 13, 14, 15] (fun s10 s12 s13 s14 s15 wr => ∃ (k a cb r : Nat) (up : Bool) (S : List Bool) (X : Int), k ≤ K ∧ s10 = .bool up ∧ s12 = .int .i64 (a : Int) ∧ s13 = .int .i64 (cb : Int) ∧ s14 = .int .i64 (r : Int) ∧ s15 = .int .i64 X ∧
      Hid (X = if k = 0 then -1 else (xN k : Int)) ∧ Hid (a = S.length / 8 ∧ cb = _root_.QR.curB S ∧ r = S.length % 8) ∧ FB wr R T (fun i => vu8 (_root_.QR.cwF S i)) 5 ∧ Hid (_root_.QR.readL (_root_.QR.fpat v) G S (_root_.QR.zzFrom n k (xN k) up) = ALL) ∧ Keeps (fun i => i = R) w7 wr)
    (fun _ _ _ _ s15 _ => (intOf s15 + 1).toNat)
  case atStart => exact ⟨K, 0, 0, 0, true, [], _, Nat.le_refl _, rfl, rfl, rfl, rfl, rfl, Lib.hid (by rw [if_neg (by omega)]; unfold xN; rw [if_pos (by omega)]; have := HKN.out; omega), Lib.hid ⟨rfl, rfl, rfl⟩, F7.out, HR5, Keeps.refl _ _⟩
  case round =>
    obtain ⟨k, a, cb, r, up, S, X, hk, rfl, rfl, rfl, rfl, rfl, hX, hS, y1, hfin, y2⟩ := hrel
    have A := Lib.hid (And.intro y1 y2)
    clear y1 y2
    by_cases hk0 : k = 0
    · have hX0 : X = -1 := by rw [hX.out, if_pos hk0]
      subst hk0 hX0
      have hSA : S = ALL := hfin.out
      have haT : a = T := by have := hS.out.1; rw [hSA] at this; omega
      have hne : ((T : Int) != (T : Int)) = false := by simp
      have hfinal := Lib.hid (show Blk wr R (ds.map vu8) 5 from A.out.1.blk (by rw [List.length_map, HD.out.1, HTW.out]) (fun i hi => by
        have hi2 : i < ds.length := by rw [HD.out.1, ← HTW.out]; exact hi
        rw [hSA, ← HALL.out, _root_.QR.cwF_all ds _ HD.out.2 i hi2]
        simp [List.getD, hi2]))
      subst haT
      clear hSA
      go_wp2_with fail
      refine (getTotal_ok s vb v _ (V7.out.keep A.out.2 HVR.out)).mono ?_
      rw [HT.out]
      rintro e w8 ⟨rfl, rfl⟩
      go_wp2
      go_ret2
      exact ⟨R, rfl, hfinal.out, K7.out.step A.out.2 (fun i hi e => by have := hwR.out; omega), hwR.out⟩
    · obtain ⟨k, rfl⟩ : ∃ k', k = k' + 1 := ⟨k - 1, by omega⟩
      have hfin2 := hfin.out
      rw [zzFrom_succ] at hfin2
      have hx1 : X = (xN (k + 1) : Int) := by rw [hX.out, if_neg (by omega)]
      have hxb : 1 ≤ xN (k + 1) ∧ xN (k + 1) + 1 ≤ n := by
        have := HKN.out
        unfold xN; split <;> omega
      obtain ⟨x, hx⟩ : ∃ x, (if k + 1 = 3 then 5 else xN (k + 1)) = x := ⟨_, rfl⟩
      rw [hx] at hfin2
      have hxr : 1 ≤ x ∧ x + 1 ≤ n := by rw [← hx]; split <;> omega
      have HXX := Lib.hid (show (k + 1 = 3 ∧ X = 6 ∧ x = 5) ∨ (k + 1 ≠ 3 ∧ X = (x : Int) ∧ X ≠ 6) from by
        by_cases h3 : k + 1 = 3
        · left
          refine ⟨h3, ?_, ?_⟩
          · rw [hx1, h3]; rfl
          · rw [← hx, if_pos h3]
        · right
          rw [if_neg h3] at hx
          refine ⟨h3, by rw [hx1, hx], ?_⟩
          rw [hx1]; unfold xN
          split <;> omega)
      have hx0 : 0 < X := by rw [hx1]; omega
      have hx1' := Lib.hid (show (x : Int) ≤ X ∧ 0 < X from by rcases HXX.out with ⟨h3, h4, h5⟩ | ⟨h3, h4, h5⟩ <;> omega)
      have HNX := Lib.hid (show (x : Int) - 2 = if k = 0 then -1 else (xN k : Int) from by
        rcases HXX.out with ⟨h3, _, h5⟩ | ⟨h3, h5, _⟩
        · rw [if_neg (by omega)]; unfold xN; rw [if_neg (by omega)]; omega
        · by_cases h0 : k = 0
          · rw [if_pos h0, ← h5, hx1, h0]; rfl
          · rw [if_neg h0, ← h5, hx1]
            unfold xN
            by_cases h4 : 3 ≤ k
            · rw [if_pos h4, if_pos (by omega)]; omega
            · rw [if_neg h4, if_neg (by omega)]; omega)
      have HF := Lib.hid hfin2
      obtain ⟨hxr1, hxr2⟩ := hxr
      clear hfin2 hfin hX hx1 hxb hx
      go_upto_if 72 with fail
      go_cut [15] from 67 to 122 (fun s15 wx => s15 = .int .i64 (x : Int) ∧ wr = wx)
      case first =>
        rcases HXX.out with ⟨h3, h4, h5⟩ | ⟨h3, h4, h5⟩
        · subst h4 h5
          go_wp2_with fail
          go_meet
          exact ⟨rfl, rfl⟩
        · have hne : (X == 6) = false := beq_eq_false_iff_ne.2 h5
          have h4 := Lib.hid h4
          go_wp2_with fail
          go_meet
          exact ⟨by rw [h4.out], rfl⟩
      case rest =>
        obtain ⟨rfl, rfl⟩ := hcut
        have hnx := Lib.hid hx0
        clear hx0
        go_wp2_with fail
        go_loopw [12, 13, 14, 16, 17, 18] (fun s12 s13 s14 s16 _ _ wr => ∃ (q a cb r : Nat) (S : List Bool), q ≤ n ∧ s16 = .int .i64 (q : Int) ∧ s12 = .int .i64 (a : Int) ∧ s13 = .int .i64 (cb : Int) ∧ s14 = .int .i64 (r : Int) ∧
            Hid (a = S.length / 8 ∧ cb = _root_.QR.curB S ∧ r = S.length % 8) ∧ FB wr R T (fun i => vu8 (_root_.QR.cwF S i)) 5 ∧ Hid (_root_.QR.readL (_root_.QR.fpat v) G S (((List.range n).drop q).flatMap (rowC n x up) ++ _root_.QR.zzFrom n k (xN k) (!up)) = ALL) ∧ Keeps (fun i => i = R) w7 wr)
          (fun _ _ _ s16 _ _ _ => n - (intOf s16).toNat)
        case atStart => exact ⟨0, a, cb, r, S, by omega, rfl, rfl, rfl, rfl, hS, A.out.1, HF, A.out.2⟩
        case round =>
          obtain ⟨qq, a, cb, r, S, hq, rfl, rfl, rfl, rfl, hS, y1, hfin, y2⟩ := hrel
          have A := Lib.hid (And.intro y1 y2)
          clear y1 y2
          by_cases hqn : qq < n
          · have hqn' : (qq : Int) < (n : Int) := by omega
            obtain ⟨y, hy⟩ : ∃ y, (if up then n - 1 - qq else qq) = y := ⟨_, rfl⟩
            have hyn : y < n := by rw [← hy]; split <;> omega
            have HY := Lib.hid hy
            have hfin2 := hfin.out
            rw [drop_range n qq hqn, List.flatMap_cons, List.append_assoc, show rowC n x up qq = [(x, y), (x - 1, y)] by unfold rowC; rw [hy]] at hfin2
            have HF2 := Lib.hid hfin2
            clear hy hfin hfin2
            go_upto_if 81 with fail
            go_cut [17] from 75 to 120 (fun s17 wx => s17 = .int .i64 (y : Int) ∧ wr = wx)
            case first =>
              cases up
              · go_wp2_with fail
                go_meet
                exact ⟨by have := HY.out; simp at this; rw [this], rfl⟩
              · go_wp2_with fail
                go_meet
                exact ⟨by have := HY.out; simp at this; rw [← this]; congr 1; omega, rfl⟩
            case rest =>
              obtain ⟨rfl, rfl⟩ := hcut
              go_wp2_with fail
              go_loopw [12, 13, 14, 18] (fun s12 s13 s14 s18 wr => ∃ (j a cb r : Nat) (S : List Bool), j ≤ 2 ∧ s18 = .int .i64 (j : Int) ∧ s12 = .int .i64 (a : Int) ∧ s13 = .int .i64 (cb : Int) ∧ s14 = .int .i64 (r : Int) ∧
                  Hid (a = S.length / 8 ∧ cb = _root_.QR.curB S ∧ r = S.length % 8) ∧ FB wr R T (fun i => vu8 (_root_.QR.cwF S i)) 5 ∧ Hid (_root_.QR.readL (_root_.QR.fpat v) G S ([(x, y), (x - 1, y)].drop j ++ (((List.range n).drop (qq + 1)).flatMap (rowC n x up) ++ _root_.QR.zzFrom n k (xN k) (!up))) = ALL) ∧ Keeps (fun i => i = R) w7 wr)
                (fun _ _ _ s18 _ => 2 - (intOf s18).toNat)
              case atStart => exact ⟨0, a, cb, r, S, by omega, rfl, rfl, rfl, rfl, hS, A.out.1, HF2, A.out.2⟩
              case round =>
                obtain ⟨j, a, cb, r, S, hj, rfl, rfl, rfl, rfl, hS, y1, hfin, y2⟩ := hrel
                have A := Lib.hid (And.intro y1 y2)
                clear y1 y2
                by_cases hj2 : j < 2
                · have hj2' : (j : Int) < 2 := by omega
                  have edrop : [(x, y), (x - 1, y)].drop j = (x - j, y) :: [(x, y), (x - 1, y)].drop (j + 1) := by
                    obtain rfl | rfl : j = 0 ∨ j = 1 := by omega
                    · rfl
                    · rfl
                  have hfin2 := hfin.out
                  rw [edrop, List.cons_append, _root_.QR.readL_cons] at hfin2
                  obtain ⟨t, ht⟩ : ∃ t, _root_.QR.fpat v (x - j) y = t := ⟨_, rfl⟩
                  rw [ht] at hfin2
                  have HT2 := Lib.hid ht
                  have HF3 := Lib.hid hfin2
                  have p0 := (P7.out.keep A.out.2 (by omega)).cell (i := 0) rfl
                  clear edrop hfin hfin2 ht
                  go_wp2_with fail
                  refine (bmGet_ok pb pc n n (x - j) y _ _ (PT7.out.keep A.out.2 (by omega) (by omega)) (by omega) hyn (by omega) (by omega) _ _ (by omega) rfl t HT2.out).mono ?_
                  rintro e w8 ⟨rfl, rfl⟩
                  cases t
                  · obtain ⟨z, hz⟩ : ∃ z, G (x - j) y = z := ⟨_, rfl⟩
                    have hf4 := HF3.out
                    rw [if_neg (by simp), hz] at hf4
                    have hle := _root_.QR.readL_le hf4
                    rw [List.length_append, List.length_singleton] at hle
                    have HF4 := Lib.hid hf4
                    have HZ := Lib.hid hz
                    obtain ⟨s1, s2, s3⟩ := hS.out
                    have hcb : cb < 128 := by rw [s2]; exact _root_.QR.curB_lt S
                    have hr8 : r < 8 := by rw [s3]; exact Nat.mod_lt _ (by omega)
                    have haT : r = 7 → a < T := fun h => by omega
                    have HS2 := Lib.hid (And.intro s1 (And.intro s2 s3))
                    have hor := or1_i64 (v := cb) (by omega)
                    have HLE := Lib.hid hle
                    have ha8 : a ≤ T := by omega
                    clear hz hf4 s1 s2 s3 hle hS
                    go_wp2_with fail
                    refine (bmGet_ok b c n n (x - j) y _ _ (B7.out.keep A.out.2 (by omega) (by omega)) (by omega) hyn (by omega) (by omega) _ _ (by omega) rfl z HZ.out).mono ?_
                    rintro e w9 ⟨rfl, rfl⟩
                    obtain ⟨nv, hnv⟩ : ∃ nv, 2 * cb + z.toNat = nv := ⟨_, rfl⟩
                    have HNV := Lib.hid hnv
                    have hnv2 : nv < 256 := by rw [← hnv]; cases z <;> simp <;> omega
                    by_cases hr7 : r = 7
                    · have c0 := A.out.1.cell (i := a) (haT hr7)
                      have f0 := A.out.1.free a
                      have h8 : (r : Int) + 1 = 8 := by omega
                      have haT2 : (a : Int) < (T : Int) := by have := haT hr7; omega
                      have hmod : (nv : Int) % 256 = (nv : Int) := by omega
                      have hs8 : S.length % 8 = 7 := by rw [← HS2.out.2.2]; exact hr7
                      have hset : FB (wr.setCell ⟨R, a, none⟩ (.int .u8 (nv : Int))) R T (fun i => vu8 (_root_.QR.cwF (S ++ [z]) i)) 5 := A.out.1.set a _ (fun i _ => by
                        rw [_root_.QR.cwF_snoc_yes z hs8, ← HS2.out.1, ← HS2.out.2.1, HNV.out]
                        by_cases e : i = a
                        · rw [if_pos e, if_pos e]; rfl
                        · rw [if_neg e, if_neg e])
                      have E := Lib.hid (And.intro hset (A.out.2.setCell (p := ⟨R, a, none⟩) (Or.inl rfl) (.int .u8 (nv : Int))))
                      have ES := Lib.hid (show a + 1 = (S ++ [z]).length / 8 ∧ 0 = _root_.QR.curB (S ++ [z]) ∧ 0 = (S ++ [z]).length % 8 from by
                        rw [_root_.QR.curB_snoc_yes z hs8, List.length_append, List.length_singleton]
                        have := HS2.out.1
                        exact ⟨by omega, rfl, by omega⟩)
                      obtain ⟨u0, hu0⟩ : ∃ u, _root_.QR.cwF S a = u := ⟨_, rfl⟩
                      rw [hu0] at c0
                      unfold vu8 at c0
                      clear hset hu0 hr7 hs8
                      cases z
                      · have h2 : (cb : Int) * 2 = (nv : Int) := by rw [← hnv]; simp; omega
                        clear hnv hor
                        go_wp2
                        go_roundw
                        case rel => exact ⟨j + 1, a + 1, 0, 0, S ++ [false], by omega, by go_num, by go_num, rfl, rfl, ES, E.out.1, HF4, E.out.2⟩
                        case measure => simp [intOf]; omega
                      · have h2 : bits .or .i64 ((cb : Int) * 2) 1 = (nv : Int) := by rw [hor, ← hnv]; rfl
                        clear hnv hor
                        go_wp2
                        go_roundw
                        case rel => exact ⟨j + 1, a + 1, 0, 0, S ++ [true], by omega, by go_num, by go_num, rfl, rfl, ES, E.out.1, HF4, E.out.2⟩
                        case measure => simp [intOf]; omega
                    · have h8 : ((r : Int) + 1 == 8) = false := beq_eq_false_iff_ne.2 (by omega)
                      have hs8 : S.length % 8 ≠ 7 := by rw [← HS2.out.2.2]; exact hr7
                      have E := Lib.hid (show FB wr R T (fun i => vu8 (_root_.QR.cwF (S ++ [z]) i)) 5 from A.out.1.congr (fun i _ => by rw [_root_.QR.cwF_snoc_no z hs8]))
                      have ES := Lib.hid (show a = (S ++ [z]).length / 8 ∧ nv = _root_.QR.curB (S ++ [z]) ∧ r + 1 = (S ++ [z]).length % 8 from by
                        rw [_root_.QR.curB_snoc_no z hs8, List.length_append, List.length_singleton, ← HS2.out.2.1, HNV.out]
                        have := HS2.out.1
                        have := HS2.out.2.2
                        exact ⟨by omega, rfl, by omega⟩)
                      clear hr7 hs8
                      cases z
                      · have h2 : (cb : Int) * 2 = (nv : Int) := by rw [← hnv]; simp; omega
                        clear hnv hor
                        go_wp2
                        go_roundw
                        case rel => exact ⟨j + 1, a, nv, r + 1, S ++ [false], by omega, by go_num, rfl, rfl, by go_num, ES, E.out, HF4, A.out.2⟩
                        case measure => simp [intOf]; omega
                      · have h2 : bits .or .i64 ((cb : Int) * 2) 1 = (nv : Int) := by rw [hor, ← hnv]; rfl
                        clear hnv hor
                        go_wp2
                        go_roundw
                        case rel => exact ⟨j + 1, a, nv, r + 1, S ++ [true], by omega, by go_num, rfl, rfl, by go_num, ES, E.out, HF4, A.out.2⟩
                        case measure => simp [intOf]; omega
                  · have HF4 := Lib.hid HF3.out
                    rw [if_pos rfl] at HF4
                    go_wp2
                    go_roundw
                    case rel => exact ⟨j + 1, a, cb, r, S, by omega, by go_num, rfl, rfl, rfl, hS, A.out.1, HF4, A.out.2⟩
                    case measure => simp [intOf]; omega
                · have hfin2 := hfin.out
                  rw [List.drop_of_length_le (by simp; omega), List.nil_append] at hfin2
                  have HF4 := Lib.hid hfin2
                  clear hfin hfin2
                  go_wp2
                  go_roundw
                  case rel => exact ⟨qq + 1, a, cb, r, S, by omega, by go_num, rfl, rfl, rfl, hS, A.out.1, HF4, A.out.2⟩
                  case measure => simp [intOf]; omega
          · have hfin2 := hfin.out
            rw [List.drop_of_length_le (by simp; omega)] at hfin2
            have HF4 := Lib.hid (show _root_.QR.readL (_root_.QR.fpat v) G S (_root_.QR.zzFrom n k (xN k) (!up)) = ALL from hfin2)
            clear hfin hfin2
            go_wp2
            go_roundw
            case rel => exact ⟨k, a, cb, r, !up, S, (x : Int) - 2, by omega, rfl, rfl, rfl, rfl, by go_num, HNX, hS, A.out.1, HF4, A.out.2⟩
            case measure =>
              have h0 := hx1'.out
              simp [intOf]; omega

end Go.Proofs.YtplpafbkalkchaaGreatDoor
