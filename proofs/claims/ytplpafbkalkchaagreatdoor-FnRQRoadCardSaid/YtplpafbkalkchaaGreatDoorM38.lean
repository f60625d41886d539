/-
  Parts of the proof (IL3).
-/
import Derived.Test.YtplpafbkalkchaaGreatDoorM28
set_option linter.unusedSimpArgs false
set_option linter.unusedVariables false

namespace Go.Proofs.YtplpafbkalkchaaGreatDoor
open Go.RowKit

/-- The blocks of the data. -/
def dataL (l : List Bool) (k1 s n : Nat) : List (List Nat) := (List.range n).map (dataJ l k1 s)
theorem dataL_length (l : List Bool) (k1 s n : Nat) : (dataL l k1 s n).length = n := by simp [dataL]
theorem dataL_get (l : List Bool) (k1 s n j : Nat) (h : j < n) : (dataL l k1 s n).getD j [] = dataJ l k1 s j := by simp [dataL, List.getD, h]
theorem dataL_succ (l : List Bool) (k1 s n : Nat) : dataL l k1 s (n + 1) = dataL l k1 s n ++ [dataJ l k1 s n] := by simp [dataL, List.range_succ]
theorem getD_append_lt {α : Type} (l m : List α) (i : Nat) (d : α) (h : i < l.length) : (l ++ m).getD i d = l.getD i d := by
  simp only [List.getD]; rw [List.getElem?_append_left h]
theorem getD_append_one {α : Type} (l : List α) (x d : α) : (l ++ [x]).getD l.length d = x := by
  simp only [List.getD]; rw [List.getElem?_append_right (Nat.le_refl _)]; simp
theorem BPs.snoc {B : Nat} {ds es : List (List Nat)} {ps : List Nat} {d e : List Nat} {p : Nat} {w' : World} {v' : Value}
    (lp : ps.length = ds.length) (le : es.length = ds.length) (own : w'.ownsRow B 214 1 v' (ds.length + 1) ((ps.map fun p => Value.pointer (some ⟨p, 0, none⟩)) ++ [.pointer (some ⟨p, 0, none⟩)]))
    (h1 : ∀ i, i < ds.length → BP w' (ps.getD i 0) (ds.getD i []) (es.getD i [])) (h2 : BP w' p d e) : BPs w' B v' (ds ++ [d]) (es ++ [e]) (ps ++ [p]) := by
  refine ⟨by simp [lp], by simp [le], by simpa using own, fun i hi => ?_⟩
  rw [List.length_append] at hi
  by_cases c : i < ds.length
  · rw [getD_append_lt _ _ _ _ (by omega), getD_append_lt _ _ _ _ c, getD_append_lt _ _ _ _ (by omega)]; exact h1 i c
  · have e1 : i = ds.length := by simp at hi; omega
    rw [e1, getD_append_one, ← le, getD_append_one, le, ← lp, getD_append_one]; exact h2

theorem col_le (bs : List (List Nat)) (i : Nat) : (_root_.QR.col bs i).length ≤ bs.length := List.length_filterMap_le _ _
theorem cols_le (bs : List (List Nat)) : ∀ m, (_root_.QR.cols bs m).length ≤ m * bs.length
  | 0 => by simp [_root_.QR.cols]
  | m + 1 => by
    rw [_root_.QR.cols_succ, List.length_append, Nat.add_mul]
    have := cols_le bs m
    have := col_le bs m
    omega

set_option maxRecDepth 100000 in
set_option maxHeartbeats 4000000 in
theorem interleave_ok (b c T D nb k1 k2 s ec : Nat) (l : List Bool) (w : World) (h : BA w b c l) (hS : Shape T D nb k1 k2 s ec) (hl : l.length = 8 * D) (T' D' N' : Int) (hT : T' = (T : Int)) (hD : D' = (D : Int)) (hN : N' = (nb : Int)) :
    Calls Tryz.prog 57 #[.pointer (some ⟨b, 0, none⟩), .int .i64 T', .int .i64 D', .int .i64 N'] w fun e w' => ∃ rb rc es, e = .returned (.tuple #[.pointer (some ⟨rb, 0, none⟩), .nilIface]) ∧
      es.length = nb ∧ (∀ j, j < nb → (es.getD j []).length = ec ∧ Coded (dataJ l k1 s j) (es.getD j [])) ∧
      BA w' rb rc (_root_.QR.bytesBits (_root_.QR.mixD (dataL l k1 s nb) s k2 ++ _root_.QR.cols es ec)) ∧ Keeps (fun _ => False) w w' ∧ w.heap.size ≤ rb ∧ w.heap.size ≤ rc := by
  subst hT hD hN
  obtain ⟨i0, hi, hz0, hz1, hz2⟩ := info_parts info214
  have HBA := Lib.hid h
  have HS := Lib.hid hS
  have HL := Lib.hid hl
  have b1 := hS.hn8
  have b2 := hS.hs2
  have b3 := hS.he2
  have b10 := hS.he1
  have b11 := hS.hs1
  have b6 : 1 ≤ nb := by have := hS.hnb; have := hS.hk1; omega
  have b5 : D ≤ 2000 := by
    have h1 : s * nb ≤ 150 * 8 := Nat.mul_le_mul (by omega) (by omega)
    have := hS.hd; have := hS.hnb; omega
  have b4 : T ≤ 2000 := by
    have h1 : (s + ec) * nb ≤ 210 * 8 := Nat.mul_le_mul (by omega) (by omega)
    have := hS.ht; have := hS.hnb; omega
  have hmk0 : (Instr.makeSlice 208 (.int .i64 0) (.int .i64 0)).run Tryz.prog w = .ok (.slice (some ⟨w.heap.size, 0, none⟩) 0 0) (w.alloc (.cells (rep 0 (.pointer none)).toArray 214)) := by
    have := make_rep (P := Tryz.prog) 208 214 (.pointer none) 8 Tryz.underlying208 info214 rfl 0 (by omega) (by omega) w
    exact this
  have hbl := h.ltb
  have hcl := h.ltc
  have H0 := Lib.hid (show BPs (w.alloc (.cells (rep 0 (.pointer none)).toArray 214)) w.heap.size (.slice (some ⟨w.heap.size, 0, none⟩) 0 0) [] [] [] from
    ⟨rfl, rfl, ⟨rfl, Or.inr ⟨w.heap.size, 0, #[], rfl, Nat.le_refl _, (Blk.new w [] 214), Nat.le_refl _, Nat.zero_le _, rfl, rfl⟩⟩, fun i hi => by simp at hi⟩)
  have K0 := Lib.hid ((Keeps.refl (fun _ => False) w).alloc (.cells (rep 0 (.pointer none)).toArray 214))
  obtain ⟨B, hB⟩ : ∃ B, w.heap.size = B := ⟨_, rfl⟩
  rw [hB] at H0
  have HB := Lib.hid hB
  clear h hS hl
  rw [hB] at hmk0
  clear hB
  go_enter Tryz.func57, Tryz.ntmps57
  go_wp2_with fail
  refine (getSizeB_ok b c l w HBA.out).mono ?_
  rw [HL.out, show (8 * D + 7) / 8 = D by omega]
  rintro e w1 ⟨rfl, rfl⟩
  go_wp2_with fail
  clear hmk0
  go_loopw [10, 11, 12, 13, 14] (fun s10 s11 s12 s13 s14 wr => ∃ (j o mx me : Nat) (v : Value) (es : List (List Nat)) (ps : List Nat), j ≤ nb ∧ s14 = .int .i64 (j : Int) ∧ s10 = .int .i64 (o : Int) ∧ Hid (o = s * j + (j - k1)) ∧ o ≤ 3000 ∧
      s11 = .int .i64 (mx : Int) ∧ Hid (mx = maxJ k1 s j) ∧ s12 = .int .i64 (me : Int) ∧ Hid (me = if j = 0 then 0 else ec) ∧ v = s13 ∧ BPs wr B v (dataL l k1 s j) es ps ∧
      Hid (∀ i, i < j → (es.getD i []).length = ec ∧ Coded (dataJ l k1 s i) (es.getD i [])) ∧ Keeps (fun _ => False) w wr) (fun _ _ _ _ s14 _ => nb - (intOf s14).toNat)
  case atStart => exact ⟨0, 0, 0, 0, _, [], [], by omega, rfl, rfl, Lib.hid (by simp), by omega, rfl, Lib.hid rfl, rfl, Lib.hid rfl, rfl, H0.out, Lib.hid (fun i hi => by omega), K0.out⟩
  case round =>
    obtain ⟨j, o, mx, me, v, es, ps, hj, rfl, rfl, ho, ho3, rfl, hmx, rfl, hme, rfl, hbp, hes, hkp⟩ := hrel
    have BPH := Lib.hid hbp
    have KP := Lib.hid hkp
    by_cases hjn : j < nb
    · have hBw : B ≤ wr.heap.size := by rw [← HB.out]; exact hkp.size
      clear hbp hkp
      have hol := off_le HS.out hjn
      rw [← ho.out] at hol
      have hln := lenJ_le k1 s j
      have hst := maxJ_step k1 s j HS.out.hk1 b11
      rw [← hmx.out] at hst
      have hos := offJ_step k1 s j
      rw [← ho.out] at hos
      have hdl := dataJ_length l k1 s j
      have HDE := Lib.hid (show dataJ l k1 s j = bytesAt l (8 * o) (lenJ k1 s j) by rw [ho.out]; rfl)
      go_wp2_with fail
      refine (blockSizes_ok T D nb k1 k2 s ec j _ HS.out hjn _ _ _ _ rfl rfl rfl rfl).mono ?_
      obtain ⟨n, hn⟩ : ∃ n, lenJ k1 s j = n := ⟨_, rfl⟩
      rw [hn] at hol hln hst hos hdl HDE
      rw [hn]
      rintro e w1 ⟨rfl, rfl⟩
      have HST := Lib.hid hst
      have HOS := Lib.hid hos
      have HDL := Lib.hid hdl
      have hmk := make_rep (P := Tryz.prog) 35 5 (.int .u8 0) 1 Tryz.underlying35 info5 rfl n (by omega) (by omega) wr
      have hnew := Lib.hid (Blk.new wr (rep n (.int .u8 0)) 5)
      have KA := Lib.hid ((Keeps.refl (fun _ => False) wr).alloc (.cells (rep n (.int .u8 0)).toArray 5))
      have hsz : (wr.alloc (.cells (rep n (.int .u8 0)).toArray 5)).heap.size = wr.heap.size + 1 := by simp
      have hbw := (HBA.out.keep KP.out (fun h => h) (fun h => h)).ltb
      have hcw := (HBA.out.keep KP.out (fun h => h) (fun h => h)).ltc
      have hn0 : 1 ≤ n := by omega
      have HSZ := Lib.hid hsz
      clear hst hos hdl hn hsz
      go_wp2_with fail
      refine (toBytes_ok b c wr.heap.size (8 * o) n l (rep n (.int .u8 0)) _ ((HBA.out.keep KP.out (fun h => h) (fun h => h)).keep KA.out (fun h => h) (fun h => h)) hnew.out (rep_length _ _) (by have := HL.out; omega) (by have := HL.out; omega) (by omega) _ _ (by omega) rfl).mono ?_
      rintro e w2 ⟨rfl, t1, t2⟩
      rw [← HDE.out] at t1
      have T1 := Lib.hid t1
      have K2 := Lib.hid (KA.out.step (c := w2) t2 (fun i hi h => by omega))
      have hs2 := t2.size
      rw [HSZ.out] at hs2
      clear t1 t2 hmk
      go_wp2_with fail
      refine (ecBytes_ok wr.heap.size n ec (dataJ l k1 s j) w2 T1.out HDL.out (by rw [HDE.out]; exact bytesAt_bytes _ _ _) (by omega) (by omega) (by omega) (by omega) _ rfl).mono ?_
      rintro e w3 ⟨q, eq, rfl, q1, q2, q3, q4, q5⟩
      have Q := Lib.hid (And.intro q1 (And.intro q2 q3))
      have K3 := Lib.hid (K2.out.trans q4)
      have T3 := Lib.hid (T1.out.keep q4 (fun h => h))
      have hs3 := q4.size
      clear q1 q2 q3 q4
      go_wp2_with fail
      refine (newPair_ok wr.heap.size q n ec w3).mono ?_
      rintro e w4 ⟨rfl, rfl⟩
      have hw4 := Lib.hid (show BP (w3.alloc (.cells #[.slice (some ⟨wr.heap.size, 0, none⟩) n n, .slice (some ⟨q, 0, none⟩) ec ec] 254)) w3.heap.size (dataJ l k1 s j) eq from
        ⟨wr.heap.size, q, by have := Blk.new w3 [.slice (some ⟨wr.heap.size, 0, none⟩) n n, .slice (some ⟨q, 0, none⟩) ec ec] 254; rw [HDL.out, Q.out.1]; exact this, T3.out.alloc _, Q.out.2.2.alloc _⟩)
      have K4 := Lib.hid (K3.out.alloc (.cells #[.slice (some ⟨wr.heap.size, 0, none⟩) n n, .slice (some ⟨q, 0, none⟩) ec ec] 254))
      have hs4 : (w3.alloc (.cells #[.slice (some ⟨wr.heap.size, 0, none⟩) n n, .slice (some ⟨q, 0, none⟩) ec ec] 254)).heap.size = w3.heap.size + 1 := by simp
      generalize hW4 : w3.alloc (.cells #[.slice (some ⟨wr.heap.size, 0, none⟩) n n, .slice (some ⟨q, 0, none⟩) ec ec] 254) = w4 at *
      have HS4 := Lib.hid hs4
      clear hW4 hs4
      obtain ⟨pp, hpp⟩ : ∃ p, w3.heap.size = p := ⟨_, rfl⟩
      rw [hpp] at hw4 HS4
      rw [hpp]
      clear hpp
      have hown2 := own_keep BPH.out.own K4.out (fun _ _ h => h)
      have hlj : (dataL l k1 s j).length = j := dataL_length _ _ _ _
      rw [hlj] at hown2
      clear hlj
      go_wp2_with (at_builtin; refine wpList_append_own _ rfl _ _ 208 rfl B 214 i0 (.pointer none) 1 8 Tryz.underlying208 hi hz0 hz1 hz2 rfl (by decide) _ _ _ rfl (hown2.alloc _) ⟨w4.heap.size, 0, none⟩ 1 1 [.pointer (some ⟨pp, 0, none⟩)] rfl rfl ?c1 ?c2 ?c3 ?c4 ?c5 ?_)
      case c1 => exact cell_one_new _ _ _
      case c2 => intro u hu; simp at hu; subst hu; rfl
      case c3 => unfold maxLen; omega
      case c4 => omega
      case c5 => have := K4.out.size; simp; omega
      intro v5 w5 hown5 hgrow _hnil
      have hown4 := own_keep BPH.out.own K4.out (fun _ _ h => h)
      have hty : ∀ i, (some i = v.ownBlock) → TypeAt w4 i 214 := fun i hi => by
        obtain ⟨_, h | ⟨g, _, _, hv, _, hb, _⟩⟩ := hown4
        · rw [h.1] at hi; simp [Value.ownBlock] at hi
        · rw [hv] at hi; simp [Value.ownBlock] at hi; subst hi; exact ⟨_, _, hb⟩
      have hge : ∀ i, (some i = v.ownBlock) → B ≤ i := fun i hi => by
        obtain ⟨_, h | ⟨g, _, _, hv, hb0, _⟩⟩ := hown4
        · rw [h.1] at hi; simp [Value.ownBlock] at hi
        · rw [hv] at hi; simp [Value.ownBlock] at hi; omega
      have hk5 : Keeps (fun i => some i = v.ownBlock) w4 w5 := ((Keeps.refl _ w4).alloc _).grown hgrow (fun k hk => Or.inl hk.symm)
      have hnew5 := hw4.out.keep hk5 (fun i hi => ⟨214, hty i hi, by decide, by decide⟩)
      have hold5 : ∀ i, i < (dataL l k1 s j).length → BP w5 (ps.getD i 0) ((dataL l k1 s j).getD i []) (es.getD i []) := fun i hil =>
        ((BPH.out.at' i hil).keep K4.out (fun _ h => h.elim)).keep hk5 (fun i hi => ⟨214, hty i hi, by decide, by decide⟩)
      have hbps := BPs.snoc BPH.out.lp BPH.out.le (by rw [dataL_length]; exact hown5) hold5 hnew5
      rw [← dataL_succ] at hbps
      have hkall : Keeps (fun _ => False) w w5 := (KP.out.trans K4.out).step hk5 (fun i hi h => by have := hge i h; rw [← HB.out] at this; omega)
      have HALL := Lib.hid (And.intro hbps hkall)
      have HE := Lib.hid (show ∀ i, i < j + 1 → ((es ++ [eq]).getD i []).length = ec ∧ Coded (dataJ l k1 s i) ((es ++ [eq]).getD i []) from fun i hi => by
        have hle := BPH.out.le
        rw [dataL_length] at hle
        by_cases c : i < j
        · rw [getD_append_lt _ _ _ _ (by omega)]; exact hes.out i c
        · have e1 : i = es.length := by omega
          rw [e1, getD_append_one]
          refine ⟨Q.out.1, ?_⟩
          rw [hle]; exact Q.out.2.1)
      clear hown2 hown4 hown5 hgrow _hnil hty hge hk5 hnew5 hold5 hbps hkall
      have hmec : (me : Int) < (ec : Int) ∨ ¬ (me : Int) < (ec : Int) := by omega
      have hme2 := Lib.hid (show (me < ec → ec = ec) ∧ (¬ me < ec → me = ec) from ⟨fun _ => rfl, fun h => by have := hme.out; split at this <;> omega⟩)
      by_cases hm : mx < n
      all_goals by_cases hm2 : me < ec
      all_goals go_wp2
      all_goals
        go_roundw
        case rel => exact ⟨j + 1, o + n, _, _, _, es ++ [eq], ps ++ [pp], by omega, by go_num, by go_num, Lib.hid HOS.out, by omega, rfl, Lib.hid (by first | exact (HST.out.1 hm).symm | exact (HST.out.2 hm).symm), rfl, Lib.hid (by rw [if_neg (by omega)]; try exact hme2.out.2 hm2), rfl, HALL.out.1, HE, HALL.out.2⟩
        case measure => simp [intOf]; omega
    · obtain rfl : j = nb := by omega
      have ho2 : o = D := by rw [ho.out]; exact off_last HS.out
      have hmx2 : mx = if k2 = 0 then s else s + 1 := by
        rw [hmx.out]; unfold maxJ
        have := HS.out.hnb; have := HS.out.hk1
        repeat' split
        all_goals omega
      have hme2 : me = ec := by rw [hme.out, if_neg (by omega)]
      subst ho2 hme2
      have HMX := Lib.hid hmx2
      have HE := hes
      have hmxb : mx ≤ 151 := by rw [hmx2]; split <;> omega
      clear hmx2 hbp hkp ho hmx hme
      go_wp2_with fail
      refine (newEmpty_ok wr).mono ?_
      rintro e w1 ⟨rfl, n1, n2, n3⟩
      have hrb : w.heap.size ≤ wr.heap.size := KP.out.size
      have G0 := Lib.hid (Grow.start n1)
      have B0 := Lib.hid (BPH.out.rest (Rest.of_keeps n2))
      have K1 := Lib.hid (KP.out.trans n2)
      have hlen := Lib.hid (dataL_length l k1 s j)
      obtain ⟨ds, hds⟩ : ∃ ds, dataL l k1 s j = ds := ⟨_, rfl⟩
      rw [hds] at B0 hlen
      have HDS := Lib.hid hds
      have HTwo := Lib.hid (show _root_.QR.Two ds k1 k2 s by
        have e1 : ∀ i, i < j → (ds.getD i []).length = lenJ k1 s i := fun i hi => by rw [← hds, dataL_get _ _ _ _ _ hi, dataJ_length]
        refine ⟨by rw [hlen.out]; exact HS.out.hnb, fun i hi => ?_, fun i h1 hi => ?_⟩
        · rw [e1 i (by have := HS.out.hnb; omega)]; unfold lenJ; rw [if_pos hi]
        · rw [e1 i (by have := HS.out.hnb; omega)]; unfold lenJ; rw [if_neg (by omega)])
      have hlen8 : ∀ i, i < j → (ds.getD i []).length ≤ s + 1 := fun i hi => by rw [← hds, dataL_get _ _ _ _ _ hi, dataJ_length]; exact (lenJ_le k1 s i).1
      have HLEN8 := Lib.hid hlen8
      obtain ⟨rb, hrb2⟩ : ∃ rb, wr.heap.size + 1 = rb := ⟨_, rfl⟩
      obtain ⟨rc, hrc2⟩ : ∃ rc, wr.heap.size = rc := ⟨_, rfl⟩
      rw [hrb2] at G0
      rw [hrc2] at G0 hrb
      rw [hrb2]
      have hrcb := Lib.hid (show rb = rc + 1 by omega)
      have HGB := Lib.hid (show rc + 2 = w1.heap.size by omega)
      clear n1 n2 n3 hds hlen8 hrb2 hrc2
      obtain ⟨rv, rcap, hv, hrd⟩ := B0.out.read (by rw [hlen.out]; omega)
      rw [hlen.out] at hv hrd
      have HRD := Lib.hid hrd
      subst hv
      clear hrd
      have HLD := Lib.hid (show ∀ i, i ≤ mx → (_root_.QR.cols ds i).length ≤ 2000 ∧ ∀ q, q ≤ j → (_root_.QR.cols ds i ++ _root_.QR.col (ds.take q) i).length ≤ 3000 from fun i hi => by
        have h1 := cols_le ds i
        rw [hlen.out] at h1
        have h2 : i * j ≤ 151 * 8 := Nat.mul_le_mul (by omega) (by omega)
        refine ⟨by omega, fun q hq => ?_⟩
        have h3 := col_le (ds.take q) i
        have h4 : (ds.take q).length ≤ q := List.length_take_le _ _
        rw [List.length_append]; omega)

      go_wp2_with fail
      go_loopw [22] (fun s22 w2 => ∃ i : Nat, i ≤ mx ∧ s22 = .int .i64 (i : Int) ∧ Grow w1 rb rc w2 (_root_.QR.bytesBits (_root_.QR.cols ds i)) ∧ Rest w1 w2) (fun s22 _ => mx - (intOf s22).toNat)
      case atStart => exact ⟨0, by omega, rfl, by simpa [_root_.QR.cols, _root_.QR.bytesBits] using G0.out, Rest.refl _⟩
      case round =>
        obtain ⟨i, hiM, rfl, g1, g2⟩ := hrel
        have G := Lib.hid (And.intro g1 g2)
        clear g1 g2
        by_cases hi2 : i < mx
        · go_wp2_with fail
          go_loopw [106] (fun s106 w3 => ∃ q : Nat, q ≤ j ∧ s106 = .int .i64 (q : Int) ∧ Grow w1 rb rc w3 (_root_.QR.bytesBits ((_root_.QR.cols ds i ++ _root_.QR.col (ds.take q) i))) ∧ Rest w1 w3) (fun s106 _ => j - (intOf s106).toNat)
          case atStart => exact ⟨0, by omega, rfl, by simpa [_root_.QR.col] using G.out⟩
          case round =>
            obtain ⟨q, hq, rfl, r1, r2⟩ := hrel
            have R := Lib.hid (And.intro r1 r2)
            clear r1 r2
            by_cases hqj : q < j
            · have hB := B0.out.rest R.out.2
              have hc := (Rest.trans (Rest.refl _) R.out.2)
              obtain ⟨rv', rcap', hv', hrd'⟩ := hB.read (by rw [hlen.out]; omega)
              rw [hlen.out] at hv' hrd'
              have hrv : rv' = rv := by simp at hv'; omega
              subst hrv
              have c1 := hrd' q hqj
              obtain ⟨pq, hpq⟩ : ∃ pq, ps.getD q 0 = pq := ⟨_, rfl⟩
              obtain ⟨a, cc, p1, p2, p3⟩ := hB.at' q (by rw [hlen.out]; exact hqj)
              rw [hpq] at c1 p1
              obtain ⟨dq, hdq⟩ : ∃ dq, ds.getD q [] = dq := ⟨_, rfl⟩
              obtain ⟨eq, heq⟩ : ∃ eq, es.getD q [] = eq := ⟨_, rfl⟩
              rw [hdq, heq] at p1
              rw [hdq] at p2
              rw [heq] at p3
              have a0 := p1.cell (i := 0) rfl
              have HQ := Lib.hid (And.intro hdq heq)
              have A := Lib.hid (And.intro p2 p3)
              have hle := Lib.hid (show es.length = j from by rw [B0.out.le, hlen.out])
              have CT := Lib.hid (col_take_succ ds i q (by rw [hlen.out]; exact hqj))
              have hqj' : (q : Int) < (j : Int) := by omega
              obtain ⟨n, hn⟩ : ∃ n, dq.length = n := ⟨_, rfl⟩
              rw [hn] at a0
              have HNL := Lib.hid hn
              clear hB hc hv' hrd' p1 p2 p3 hdq heq hn hpq
              go_wp2_with fail
              refine (pairData_ok pq _ n n _ a0).mono ?_
              rintro e w4 ⟨rfl, rfl⟩
              by_cases hin : i < n
              · have c2 := (A.out.1).cell (i := i) (v := .int .u8 ((dq.getD i 0 : Nat) : Int)) (by have := HNL.out; simp [List.getD, vu8, show i < dq.length by omega])
                obtain ⟨x, hx⟩ : ∃ x, dq.getD i 0 = x := ⟨_, rfl⟩
                rw [hx] at c2
                have hx256 : x < 256 := by rw [← hx]; exact getD_lt (show _root_.QR.Bytes dq by rw [← HQ.out.1, ← HDS.out, dataL_get _ _ _ _ _ hqj]; exact bytesAt_bytes _ _ _) i
                have HX := Lib.hid hx
                have hin' : (i : Int) < (n : Int) := by omega
                have LST := Lib.hid (show _root_.QR.bytesBits ((_root_.QR.cols ds i ++ _root_.QR.col (ds.take q) i)) ++ QR.bitsOf 8 x = _root_.QR.bytesBits ((_root_.QR.cols ds i ++ _root_.QR.col (ds.take (q + 1)) i)) from by
                  rw [CT.out, HQ.out.1, if_pos (by rw [HNL.out]; exact hin), HX.out, ← bytesBits_one, ← bytesBits_append]; simp only [List.append_assoc])
                clear hx
                go_wp2_with fail
                refine (appendBits_t w1 _ rb rc 8 _ x R.out.1 (by omega) (by omega) (by rw [_root_.QR.bytesBits_length]; have := (HLD.out i (by omega)).2 q (by omega); omega) _ _ rfl rfl).mono ?_
                rintro e w4 ⟨rfl, g3, g4⟩
                have G3 := Lib.hid (And.intro g3 (R.out.2.trans g4))
                clear g3 g4 c1 c2
                go_wp2
                go_roundw
                case rel => exact ⟨q + 1, by omega, by go_num, G3.out.1.congr LST.out, G3.out.2⟩
                case measure => simp [intOf]; omega
              · have hin' : ¬ (i : Int) < (n : Int) := by omega
                have LST := Lib.hid (show _root_.QR.bytesBits ((_root_.QR.cols ds i ++ _root_.QR.col (ds.take q) i)) = _root_.QR.bytesBits ((_root_.QR.cols ds i ++ _root_.QR.col (ds.take (q + 1)) i)) from by
                  rw [CT.out, HQ.out.1, if_neg (by rw [HNL.out]; exact hin), List.append_nil])
                go_wp2
                go_roundw
                case rel => exact ⟨q + 1, by omega, by go_num, R.out.1.congr LST.out, R.out.2⟩
                case measure => simp [intOf]; omega
            · obtain rfl : q = j := by omega
              have hle := Lib.hid (show es.length = q from by rw [B0.out.le, hlen.out])
              have hfull := Lib.hid (show _root_.QR.bytesBits ((_root_.QR.cols ds i ++ _root_.QR.col (ds.take q) i)) = _root_.QR.bytesBits (_root_.QR.cols ds (i + 1)) from by
                rw [List.take_of_length_le (by rw [hlen.out]; omega), _root_.QR.cols_succ])
              go_wp2
              go_roundw
              case rel => exact ⟨i + 1, by omega, by go_num, R.out.1.congr hfull.out, R.out.2⟩
              case measure => simp [intOf]; omega
        · obtain rfl : i = mx := by omega
          obtain ⟨mD, rfl⟩ : ∃ m, m = i := ⟨_, rfl⟩
          have GM := G
          clear hiM hi2
          have HLE := Lib.hid (show ∀ i', i' ≤ me → (_root_.QR.cols es i').length ≤ 2000 ∧ ∀ q, q ≤ j → (_root_.QR.cols ds mD ++ (_root_.QR.cols es i' ++ _root_.QR.col (es.take q) i')).length ≤ 6000 from fun i' hi => by
            have hle : es.length = j := by rw [B0.out.le, hlen.out]
            have h0 := (HLD.out mD (Nat.le_refl _)).1
            have h1 := cols_le es i'
            rw [hle] at h1
            have h2 : i' * j ≤ 60 * 8 := Nat.mul_le_mul (by omega) (by omega)
            refine ⟨by omega, fun q hq => ?_⟩
            have h3 := col_le (es.take q) i'
            have h4 : (es.take q).length ≤ q := List.length_take_le _ _
            rw [List.length_append, List.length_append]; omega)
          go_wp2_with fail
          go_loopw [26] (fun s22 w2 => ∃ i : Nat, i ≤ me ∧ s22 = .int .i64 (i : Int) ∧ Grow w1 rb rc w2 (_root_.QR.bytesBits (_root_.QR.cols ds mD ++ _root_.QR.cols es i)) ∧ Rest w1 w2) (fun s22 _ => me - (intOf s22).toNat)
          case atStart => exact ⟨0, by omega, rfl, by simpa [_root_.QR.cols, _root_.QR.bytesBits] using GM.out.1, GM.out.2⟩
          case round =>
            obtain ⟨i, hiM, rfl, g1, g2⟩ := hrel
            have G := Lib.hid (And.intro g1 g2)
            clear g1 g2
            by_cases hi2 : i < me
            · go_wp2_with fail
              go_loopw [131] (fun s106 w3 => ∃ q : Nat, q ≤ j ∧ s106 = .int .i64 (q : Int) ∧ Grow w1 rb rc w3 (_root_.QR.bytesBits (_root_.QR.cols ds mD ++ (_root_.QR.cols es i ++ _root_.QR.col (es.take q) i))) ∧ Rest w1 w3) (fun s106 _ => j - (intOf s106).toNat)
              case atStart => exact ⟨0, by omega, rfl, by simpa [_root_.QR.col] using G.out⟩
              case round =>
                obtain ⟨q, hq, rfl, r1, r2⟩ := hrel
                have R := Lib.hid (And.intro r1 r2)
                clear r1 r2
                by_cases hqj : q < j
                · have hB := B0.out.rest R.out.2
                  have hc := (Rest.trans (Rest.refl _) R.out.2)
                  obtain ⟨rv', rcap', hv', hrd'⟩ := hB.read (by rw [hlen.out]; omega)
                  rw [hlen.out] at hv' hrd'
                  have hrv : rv' = rv := by simp at hv'; omega
                  subst hrv
                  have c1 := hrd' q hqj
                  obtain ⟨pq, hpq⟩ : ∃ pq, ps.getD q 0 = pq := ⟨_, rfl⟩
                  obtain ⟨a, cc, p1, p2, p3⟩ := hB.at' q (by rw [hlen.out]; exact hqj)
                  rw [hpq] at c1 p1
                  obtain ⟨dq, hdq⟩ : ∃ dq, ds.getD q [] = dq := ⟨_, rfl⟩
                  obtain ⟨eq, heq⟩ : ∃ eq, es.getD q [] = eq := ⟨_, rfl⟩
                  rw [hdq, heq] at p1
                  rw [hdq] at p2
                  rw [heq] at p3
                  have a0 := p1.cell (i := 1) rfl
                  have HQ := Lib.hid (And.intro hdq heq)
                  have A := Lib.hid (And.intro p2 p3)
                  have hle := Lib.hid (show es.length = j from by rw [B0.out.le, hlen.out])
                  have CT := Lib.hid (col_take_succ es i q (by rw [hle.out]; exact hqj))
                  have hqj' : (q : Int) < (j : Int) := by omega
                  obtain ⟨n, hn⟩ : ∃ n, eq.length = n := ⟨_, rfl⟩
                  rw [hn] at a0
                  have HNL := Lib.hid hn
                  clear hB hc hv' hrd' p1 p2 p3 hdq heq hn hpq
                  go_wp2_with fail
                  refine (pairEC_ok pq _ n n _ a0).mono ?_
                  rintro e w4 ⟨rfl, rfl⟩
                  by_cases hin : i < n
                  · have c2 := (A.out.2).cell (i := i) (v := .int .u8 ((eq.getD i 0 : Nat) : Int)) (by have := HNL.out; simp [List.getD, vu8, show i < eq.length by omega])
                    obtain ⟨x, hx⟩ : ∃ x, eq.getD i 0 = x := ⟨_, rfl⟩
                    rw [hx] at c2
                    have hx256 : x < 256 := by rw [← hx]; exact getD_lt (show _root_.QR.Bytes eq by rw [← HQ.out.2]; exact (HE.out q hqj).2.be) i
                    have HX := Lib.hid hx
                    have hin' : (i : Int) < (n : Int) := by omega
                    have LST := Lib.hid (show _root_.QR.bytesBits (_root_.QR.cols ds mD ++ (_root_.QR.cols es i ++ _root_.QR.col (es.take q) i)) ++ QR.bitsOf 8 x = _root_.QR.bytesBits (_root_.QR.cols ds mD ++ (_root_.QR.cols es i ++ _root_.QR.col (es.take (q + 1)) i)) from by
                      rw [CT.out, HQ.out.2, if_pos (by rw [HNL.out]; exact hin), HX.out, ← bytesBits_one, ← bytesBits_append]; simp only [List.append_assoc])
                    clear hx
                    go_wp2_with fail
                    refine (appendBits_t w1 _ rb rc 8 _ x R.out.1 (by omega) (by omega) (by rw [_root_.QR.bytesBits_length]; have := (HLE.out i (by omega)).2 q (by omega); omega) _ _ rfl rfl).mono ?_
                    rintro e w4 ⟨rfl, g3, g4⟩
                    have G3 := Lib.hid (And.intro g3 (R.out.2.trans g4))
                    clear g3 g4 c1 c2
                    go_wp2
                    go_roundw
                    case rel => exact ⟨q + 1, by omega, by go_num, G3.out.1.congr LST.out, G3.out.2⟩
                    case measure => simp [intOf]; omega
                  · have hin' : ¬ (i : Int) < (n : Int) := by omega
                    have LST := Lib.hid (show _root_.QR.bytesBits (_root_.QR.cols ds mD ++ (_root_.QR.cols es i ++ _root_.QR.col (es.take q) i)) = _root_.QR.bytesBits (_root_.QR.cols ds mD ++ (_root_.QR.cols es i ++ _root_.QR.col (es.take (q + 1)) i)) from by
                      rw [CT.out, HQ.out.2, if_neg (by rw [HNL.out]; exact hin), List.append_nil])
                    go_wp2
                    go_roundw
                    case rel => exact ⟨q + 1, by omega, by go_num, R.out.1.congr LST.out, R.out.2⟩
                    case measure => simp [intOf]; omega
                · obtain rfl : q = j := by omega
                  have hle := Lib.hid (show es.length = q from by rw [B0.out.le, hlen.out])
                  have hfull := Lib.hid (show _root_.QR.bytesBits (_root_.QR.cols ds mD ++ (_root_.QR.cols es i ++ _root_.QR.col (es.take q) i)) = _root_.QR.bytesBits (_root_.QR.cols ds mD ++ _root_.QR.cols es (i + 1)) from by
                    rw [List.take_of_length_le (by rw [hle.out]; omega), _root_.QR.cols_succ])
                  go_wp2
                  go_roundw
                  case rel => exact ⟨i + 1, by omega, by go_num, R.out.1.congr hfull.out, R.out.2⟩
                  case measure => simp [intOf]; omega
            · obtain rfl : i = me := by omega
              obtain ⟨mE, rfl⟩ : ∃ m, m = i := ⟨_, rfl⟩
              have GF := G
              have hmixl := Lib.hid (_root_.QR.mixD_length HTwo.out)
              have hcle := Lib.hid (show (_root_.QR.cols es mE).length = mE * j from by
                have hle : es.length = j := by rw [B0.out.le, hlen.out]
                rw [_root_.QR.cols_length, hle]
                intro e he
                obtain ⟨q, hq, rfl⟩ := List.getElem_of_mem he
                have := (HE.out q (by omega)).1
                simp [List.getD, hq] at this
                omega)
              have hmixe := Lib.hid (show _root_.QR.cols ds mD = _root_.QR.mixD ds s k2 from by rw [HMX.out]; rfl)
              have hT8 := Lib.hid (show (_root_.QR.bytesBits (_root_.QR.cols ds mD ++ _root_.QR.cols es mE)).length = 8 * T from by
                rw [_root_.QR.bytesBits_length, List.length_append, hmixe.out, hmixl.out, hcle.out, HS.out.ht, ← HS.out.hnb, Nat.add_mul]; omega)
              go_wp2_with fail
              refine (getSizeB_g w1 _ rb rc _ GF.out.1).mono ?_
              rw [hT8.out, show (8 * T + 7) / 8 = T by omega]
              rintro e w4 ⟨rfl, rfl⟩
              have FIN := Lib.hid (show ∃ rc', BA wr rb rc' (_root_.QR.bytesBits (_root_.QR.mixD ds s k2 ++ _root_.QR.cols es mE)) ∧ Keeps (fun _ => False) w wr ∧ w.heap.size ≤ rb ∧ w.heap.size ≤ rc' from by
                obtain ⟨cr, f1, f2, f3⟩ := GF.out.1
                rw [hmixe.out] at f1
                have hk := K1.out.step f3 (fun i hi h => by have := hrcb.out; omega)
                have := K1.out.size
                exact ⟨cr, f1, hk, by have := hrcb.out; omega, by rcases f2 with f2 | f2 <;> omega⟩)
              have hle := Lib.hid (show es.length = j from by rw [B0.out.le, hlen.out])
              go_wp2
              go_ret2
              obtain ⟨rc', f1, f2, f3, f4⟩ := FIN.out
              refine ⟨rb, rc', es, rfl, hle.out, HE.out, ?_, f2, f3, f4⟩
              rw [HDS.out]; exact f1

end Go.Proofs.YtplpafbkalkchaaGreatDoor
