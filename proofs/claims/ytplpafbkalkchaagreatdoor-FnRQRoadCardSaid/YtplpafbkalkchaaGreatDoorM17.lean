/-
  Parts of the proof (RS9, RS10, GB1, GB2).
-/
import Derived.Test.YtplpafbkalkchaaGreatDoorM01
import Derived.Test.YtplpafbkalkchaaGreatDoorM06
import Derived.Test.YtplpafbkalkchaaGreatDoorM11
import Derived.Test.YtplpafbkalkchaaGreatDoorM12
import Derived.Test.YtplpafbkalkchaaGreatDoorM13
import Derived.Test.YtplpafbkalkchaaGreatDoorM15
import Derived.Test.YtplpafbkalkchaaGreatDoorM16
set_option linter.unusedSimpArgs false
set_option linter.unusedVariables false

namespace Go.Proofs.YtplpafbkalkchaaGreatDoor
open Go.RowKit

set_option maxRecDepth 100000 in
set_option maxHeartbeats 400000 in
theorem newRS_ok (g : Nat) (w : World) (hg : Fld w g) : Calls Tryz.prog 140 #[.pointer (some ⟨g, 0, none⟩)] w fun e w' => ∃ eb cb q0, e = .returned (.pointer (some ⟨eb, 0, none⟩)) ∧
    Blk w' eb [.pointer (some ⟨g, 0, none⟩), .slice (some ⟨cb, 0, none⟩) 1 1] 294 ∧ Blk w' cb [.pointer (some ⟨q0, 0, none⟩)] 265 ∧ Poly w' q0 g [1] ∧ Keeps (fun _ => False) w w' ∧ w.heap.size ≤ eb ∧ w.heap.size ≤ cb := by
  have hc : Cof (w.alloc (.cells #[.int .i64 1] 3)) w.heap.size 0 [1] := Cof.of_blk (Blk.new w [.int .i64 1] 3)
  have HC := Lib.hid hc
  clear hc hg
  go_enter Tryz.func140, Tryz.ntmps140
  go_wp2_with fail
  refine (newPoly_ok g w.heap.size 0 1 1 [1] _ HC.out rfl (by decide) (Nat.le_refl _) (fun c hc => by simp at hc; omega) (by omega)).mono ?_
  rw [show QR.strip [1] = [1] from rfl]
  rintro e w1 ⟨q, rfl, n1, n2, n3⟩
  have hs := n2.size
  have hs2 : w.heap.size + 1 ≤ w1.heap.size := by simpa using hs
  have b1 := (Blk.new w1 [.pointer (some ⟨q, 0, none⟩)] 265).alloc (.cells #[.pointer (some ⟨g, 0, none⟩), .slice (some ⟨w1.heap.size, 0, none⟩) 1 1] 294)
  have b2 := Blk.newAt (w := w1.alloc (.cells #[.pointer (some ⟨q, 0, none⟩)] 265)) (n := w1.heap.size + 1) (by simp) [.pointer (some ⟨g, 0, none⟩), .slice (some ⟨w1.heap.size, 0, none⟩) 1 1] 294
  have k := (((Keeps.refl (fun _ => False) w1).alloc (.cells #[.pointer (some ⟨q, 0, none⟩)] 265)).alloc (.cells #[.pointer (some ⟨g, 0, none⟩), .slice (some ⟨w1.heap.size, 0, none⟩) 1 1] 294))
  have HALL := Lib.hid (And.intro b2 (And.intro b1 (And.intro (n1.keep k) ((((Keeps.refl (fun _ => False) w).alloc (.cells #[.int .i64 1] 3)).trans n2).trans k))))
  clear b1 b2 k n1 n2 n3 hs
  go_wp2
  go_ret
  exact ⟨_, _, q, rfl, HALL.out.1, HALL.out.2.1, HALL.out.2.2.1, HALL.out.2.2.2, by omega, by omega⟩

theorem zeros_bytes (n : Nat) : _root_.QR.Bytes (List.replicate n 0) := fun c hc => by have := List.eq_of_mem_replicate hc; omega
theorem eval_pad {x : Nat} : ∀ (n : Nat) (l : List Nat), _root_.QR.eval x (List.replicate n 0 ++ l) = _root_.QR.eval x l
  | 0, l => rfl
  | n + 1, l => by
    rw [List.replicate_succ, List.cons_append, _root_.QR.eval_zero_cons, eval_pad n l]

/-- The words of a block, and those of its correction: all of its syndromes are 0. -/
structure Coded (d e : List Nat) : Prop where
  bd : _root_.QR.Bytes d
  be : _root_.QR.Bytes e
  zero : ∀ i, i < e.length → _root_.QR.eval (_root_.QR.expT.getD i 0) (d ++ e) = 0
theorem coded_of_div {w0 wr : World} {g qb rb ec : Nat} {d lq lr : List Nat} (hd : _root_.QR.Bytes d) (h : DivRel w0 wr g qb rb (QR.strip (QR.monoL (QR.strip d) ec 1)) (QR.gens ec) lq lr) (hl : lr.length ≤ ec) (hec : ec ≤ 255) :
    Coded d (List.replicate (ec - lr.length) 0 ++ lr) := by
  have hlb := h.rem.byt
  have hbe : _root_.QR.Bytes (List.replicate (ec - lr.length) 0 ++ lr) := fun c hc => by
    rcases List.mem_append.1 hc with h1 | h1
    · exact zeros_bytes _ c h1
    · exact hlb c h1
  have hlen : (List.replicate (ec - lr.length) 0 ++ lr).length = ec := by simp; omega
  refine ⟨hd, hbe, fun i hi => ?_⟩
  rw [hlen] at hi
  have hx : _root_.QR.expT.getD i 0 < 256 := QR.expT_lt (by omega)
  have hsb : _root_.QR.Bytes (QR.strip d) := QR.strip_bytes hd
  have he : _root_.QR.eval (_root_.QR.expT.getD i 0) d < 256 := _root_.QR.eval_lt hx d 0 (by omega) hd
  rw [_root_.QR.eval_append hx d _ hd hbe, hlen, eval_pad, h.ev _ hx (QR.gens_zero ec hec i hi), QR.eval_strip, QR.eval_monoL hx hsb ec (by omega), QR.eval_strip,
    _root_.QR.gmul_one he, Nat.xor_self]

theorem set_same {α : Type} {l : List α} {i : Nat} {v : α} (h : l[i]? = some v) : l.set i v = l := by
  apply List.ext_getElem?
  intro j
  rw [List.getElem?_set]
  by_cases e : i = j
  · subst e
    have hlt : i < l.length := by
      rcases Nat.lt_or_ge i l.length with h' | h'
      · exact h'
      · rw [List.getElem?_eq_none h'] at h; cases h
    rw [if_pos rfl, if_pos hlt, h]
  · rw [if_neg e]
theorem Keeps.same {w w' : World} {b : Nat} {cs : List Value} {t : TypeId} (hk : Keeps (fun i => i = b) w w') (h1 : Blk w b cs t) (h2 : Blk w' b cs t) : Keeps (fun _ => False) w w' :=
  ⟨hk.os, hk.tape, hk.output, hk.size, fun i hi _ => by
    by_cases e : i = b
    · subst e; exact h2.trans h1.symm
    · exact hk.block i hi e⟩

set_option maxRecDepth 100000 in
set_option maxHeartbeats 2000000 in
theorem rsEncode_ok (B eb cb q0 g tb ec N : Nat) (d : List Nat) (w : World) (hB : B ≤ eb ∧ B ≤ cb ∧ B ≤ w.heap.size ∧ tb < B) (he : Blk w eb [.pointer (some ⟨g, 0, none⟩), .slice (some ⟨cb, 0, none⟩) 1 1] 294) (hc : Blk w cb [.pointer (some ⟨q0, 0, none⟩)] 265) (hp : Poly w q0 g [1]) (hg : Fld w g)
    (ht : Blk w tb (d.map vi ++ rep ec (.int .i64 0)) 3) (hd : _root_.QR.Bytes d) (hl : 1 ≤ d.length) (hl2 : d.length ≤ 1000) (h1 : 1 ≤ ec) (h2 : ec ≤ 100) (hN : N = d.length + ec) (E : Int) (hE : E = (ec : Int)) :
    Calls Tryz.prog 141 #[.pointer (some ⟨eb, 0, none⟩), .slice (some ⟨tb, 0, none⟩) N N, .int .i64 E] w fun e w' => e = .returned .nilIface ∧
      ∃ es, es.length = ec ∧ Coded d es ∧ Blk w' tb ((d ++ es).map vi) 3 ∧ Keeps (fun i => i = tb ∨ B ≤ i) w w' := by
  subst hE
  obtain ⟨D, hD⟩ : ∃ D, d.length = D := ⟨_, rfl⟩
  have d1 : (decide ((ec : Int) ≤ 0)) = false := decide_eq_false (by omega)
  have hNb : (N : Int) ≤ 2000 := by omega
  have hNc : (ec : Int) ≤ (N : Int) := by omega
  have d3 : (decide (D = 0)) = false := decide_eq_false (by omega)
  have d5 : (decide ((D : Int) ≤ 0)) = false := decide_eq_false (by omega)
  have d4 : (decide (ec = 0)) = false := decide_eq_false (by omega)
  have hNe : (N : Int) - (ec : Int) = (D : Int) := by omega
  have HD := Lib.hid hD
  have HE := Lib.hid (And.intro he (And.intro hc (And.intro hp hg)))
  have HT := Lib.hid ht
  have HBY := Lib.hid hd
  have HN := Lib.hid hN
  rw [hD] at hl hl2
  clear he hc hp hg ht hd hD hN
  go_enter Tryz.func141, Tryz.ntmps141
  go_wp2_with fail
  refine (buildGen_ok B eb cb q0 g ec w ⟨hB.1, hB.2.1, hB.2.2.1⟩ HE.out.1 HE.out.2.1 HE.out.2.2.1 HE.out.2.2.2 h1 h2 _ rfl).mono ?_
  rintro e w1 ⟨gq, rfl, p1, p2, p3, p4⟩
  have P1 := Lib.hid (And.intro p1 (And.intro p2 p3))
  have hT1 : Blk w1 tb (d.map vi ++ rep ec (.int .i64 0)) 3 := HT.out.keep p3 (by omega)
  have hs1 := p3.size
  -- the copy of the data
  have hmk := make_rep (P := Tryz.prog) 157 3 (.int .i64 0) 8 Tryz.underlying157 info3 rfl D (by omega) (by omega) w1
  have hnew := Blk.new w1 (rep D (.int .i64 0)) 3
  have hcp := copy_blk (P := Tryz.prog) _ 157 157 3 3 Tryz.underlying157 (by kernel_rfl) w1.heap.size 0 D D tb 0 N N _ _ hnew (d.map vi) (by have := HN.out; have := HD.out; simp; omega)
    (fun j v hj => by
      rw [Nat.zero_add]
      refine (hT1.alloc _).cell ?_
      have hjl : j < (d.map vi).length := by
        rcases Nat.lt_or_ge j (d.map vi).length with h | h
        · exact h
        · rw [List.getElem?_eq_none h] at hj; cases hj
      rw [List.getElem?_append_left hjl]; exact hj) (by rw [rep_length, List.length_map, HD.out]; omega) (fun v hv => by obtain ⟨x, _, rfl⟩ := List.mem_map.1 hv; rfl)
  have erow : (rep D (Value.int .i64 0)).take 0 ++ d.map vi ++ (rep D (Value.int .i64 0)).drop (0 + (d.map vi).length) = d.map vi := by
    rw [List.take_zero, List.nil_append, Nat.zero_add, List.length_map, HD.out, List.drop_of_length_le (by rw [rep_length]; omega), List.append_nil]
  rw [erow] at hcp
  have hrow := hnew.setRow (d.map vi)
  have hk1 : Keeps (fun _ => False) w1 ((w1.alloc (.cells (rep D (.int .i64 0)).toArray 3)).setRow w1.heap.size (d.map vi).toArray) := ((Keeps.refl _ w1).alloc _).setRow (Or.inr (Nat.le_refl _)) _
  generalize (w1.alloc (.cells (rep D (.int .i64 0)).toArray 3)).setRow w1.heap.size (d.map vi).toArray = W2 at *
  have P2 := Lib.hid (And.intro (P1.out.1.keep hk1) (And.intro (P1.out.2.1.keep hk1) (And.intro hrow hk1)))
  have b0 : W2.cell? ⟨eb, 0, none⟩ = some (.pointer (some ⟨g, 0, none⟩)) := (hk1.cell (p := ⟨eb, 0, none⟩) (World.block_lt_of_cell? w1 _ p4) (fun h => h)).trans p4
  have T2 := Lib.hid (hT1.keep hk1 (fun h => h))
  have K1 := Lib.hid (p3.trans (hk1.mono (S' := fun i => B ≤ i) (fun _ _ h => h.elim)))
  clear p1 p2 p3 p4 hT1 hnew erow hrow hk1 d1 d3 d4 d5
  go_wp2_with fail
  refine (newPoly_ok g w1.heap.size 0 D D d _ (Cof.of_blk P2.out.2.2.1) HD.out.symm (by rw [HD.out]; omega) (Nat.le_refl _) HBY.out (by omega)).mono ?_
  rintro e w3 ⟨ip, rfl, n1, n2, n3⟩
  have N1 := Lib.hid n1
  have K3 := Lib.hid n2
  have hls := QR.strip_length d
  clear n1 n2 n3 hmk hcp b0
  go_wp2_with fail
  refine (polyMono_ok ip g ec 1 (QR.strip d) _ N1.out (P2.out.2.1.keep K3.out) (by have := HD.out; omega) (by omega) (by omega) (by omega) _ _ rfl rfl).mono ?_
  rintro e w4 ⟨mp, rfl, m1, m2⟩
  have M1 := Lib.hid m1
  have K4 := Lib.hid (K3.out.trans m2)
  clear m1 m2
  have hml := QR.monoL_length (QR.strip d) ec 1
  have hml2 := QR.strip_length (QR.monoL (QR.strip d) ec 1)
  go_wp2_with fail
  refine (polyDiv_ok mp gq g _ (QR.gens ec) _ M1.out (P2.out.1.keep K4.out) (P2.out.2.1.keep K4.out) (by have := HD.out; omega) (by rw [QR.gens_length]; omega) (by rw [QR.gens_length]; omega) (QR.gens_head ec)).mono ?_
  rintro e w5 ⟨qb, rb, lq, lr, rfl, dv1, dv2⟩
  have hlr : lr.length ≤ ec := by
    rw [QR.gens_length] at dv2
    rcases dv2 with h | h
    · omega
    · rw [QR.nrm_zero dv1.rem.nrm h]; simpa using h1
  have CD := Lib.hid (coded_of_div HBY.out dv1 hlr (by omega))
  have K5 := Lib.hid (K4.out.trans dv1.keep)
  have RM := Lib.hid dv1.rem
  clear dv1 dv2 hls hml hml2
  have T5 := Lib.hid (T2.out.keep K5.out (fun h => h))
  go_wp2_with fail
  refine (polyCoef_ok rb g lr _ RM.out).mono ?_
  obtain ⟨n, hn⟩ : ∃ n, lr.length = n := ⟨_, rfl⟩
  rw [hn] at hlr
  rw [hn]
  rintro e w6 ⟨c, o, cap, rfl, hcof, hcap, rfl⟩
  have HLN := Lib.hid hn
  have hn0 : 0 < n := by rw [← hn]; exact RM.out.pos
  have HCF := Lib.hid hcof
  have HK5 := Lib.hid ((K1.out.trans (K5.out.mono (S' := fun i => B ≤ i) (fun _ _ h => h.elim))))
  clear hcof hn
  obtain ⟨z, hz⟩ : ∃ z, ec - n = z := ⟨_, rfl⟩
  have hzi : (ec : Int) - (n : Int) = (z : Int) := by omega
  have hzn : z + n = ec := by omega
  have HZ := Lib.hid hz
  have hDN : D + ec = N := by have := HN.out; have := HD.out; omega
  clear hz
  go_wp2_with fail
  go_loopw [17] (fun i wr => ∃ k : Nat, k ≤ z ∧ i = .int .i64 (k : Int) ∧ Blk wr tb (d.map vi ++ rep ec (.int .i64 0)) 3 ∧ Keeps (fun _ => False) w5 wr) (fun i _ => z - (intOf i).toNat)
  case atStart => exact ⟨0, by omega, rfl, T5.out, Keeps.refl _ _⟩
  case round =>
    obtain ⟨k, hk, rfl, r1, r2⟩ := hrel
    by_cases hkz : k < z
    · have hget : (d.map vi ++ rep ec (Value.int .i64 0))[D + k]? = some (.int .i64 0) := by
        rw [List.getElem?_append_right (by rw [List.length_map, HD.out]; omega), List.length_map, HD.out]
        exact rep_get (by omega)
      have c1 := r1.cell hget
      have f1 := r1.free (D + k)
      have hs := r1.set (D + k) (.int .i64 0)
      rw [set_same hget] at hs
      have R := Lib.hid (And.intro hs (r2.trans (((Keeps.refl (fun i => i = tb) wr).setCell (p := ⟨tb, D + k, none⟩) (Or.inl rfl) (.int .i64 0)).same r1 hs)))
      have hi1 : (D : Int) + (k : Int) < (N : Int) := by omega
      clear r1 r2 hget hs
      go_wp2
      go_roundw
      case rel => exact ⟨k + 1, by omega, by go_num, R.out⟩
      case measure => simp [intOf]; omega
    · obtain rfl : k = z := by omega
      have hi1 : (D : Int) + (k : Int) < (N : Int) := by omega
      have hi3 : (D : Int) + (k : Int) ≤ (N : Int) := by omega
      have hfar := HCF.out.keep r2 (fun h => h)
      have hcp := copy_blk (P := Tryz.prog) wr 157 157 3 3 Tryz.underlying157 (by kernel_rfl) tb (D + k) (N - (D + k)) (N - (D + k)) c o n cap _ _ r1 (lr.map vi) (by have := HLN.out; simp; omega)
        (fun j v hj => by
          have hjl : j < lr.length := by
            rcases Nat.lt_or_ge j lr.length with h | h
            · exact h
            · rw [List.getElem?_eq_none (by simpa using h)] at hj; cases hj
          rw [hfar.cell hjl]
          simp [hjl] at hj
          rw [← hj]; simp [vi, List.getD, hjl]) (by have := HLN.out; have := HD.out; simp [rep_length]; omega) (fun v hv => by obtain ⟨x, _, rfl⟩ := List.mem_map.1 hv; rfl)
      have hrow := r1.setRow ((d.map vi ++ rep ec (Value.int .i64 0)).take (D + k) ++ lr.map vi ++ (d.map vi ++ rep ec (Value.int .i64 0)).drop (D + k + (lr.map vi).length))
      have erow : (d.map vi ++ rep ec (Value.int .i64 0)).take (D + k) ++ lr.map vi ++ (d.map vi ++ rep ec (Value.int .i64 0)).drop (D + k + (lr.map vi).length) = (d ++ (List.replicate (ec - lr.length) 0 ++ lr)).map vi := by
        have e1 : (d.map vi).length = D := by rw [List.length_map, HD.out]
        rw [List.drop_of_length_le (by rw [List.length_append, e1, rep_length, List.length_map, HLN.out]; omega), List.append_nil, List.take_append, e1, List.take_of_length_le (by omega), Nat.add_sub_cancel_left]
        have e2 : (rep ec (Value.int .i64 0)).take k = (List.replicate k 0).map vi := by
          unfold rep; rw [List.take_replicate, List.map_replicate, Nat.min_eq_left (by omega)]; rfl
        rw [e2, HLN.out, HZ.out, List.map_append, List.map_append, List.append_assoc]
      have hkk : Keeps (fun i => i = tb) w5 (wr.setRow tb ((d.map vi ++ rep ec (Value.int .i64 0)).take (D + k) ++ lr.map vi ++ (d.map vi ++ rep ec (Value.int .i64 0)).drop (D + k + (lr.map vi).length)).toArray) := (r2.mono (S' := fun i => i = tb) (fun _ _ h => h.elim)).setRow (g := tb) (Or.inl rfl) _
      rw [erow] at hcp hrow hkk
      generalize wr.setRow tb ((d ++ (List.replicate (ec - lr.length) 0 ++ lr)).map vi).toArray = W9 at *
      have HALL := Lib.hid (And.intro hrow ((HK5.out.mono (S' := fun i => i = tb ∨ B ≤ i) (fun _ _ h => Or.inr h)).trans (hkk.mono (fun _ _ h => Or.inl h))))
      have hlen9 := Lib.hid (show (List.replicate (ec - lr.length) 0 ++ lr).length = ec by rw [List.length_append, List.length_replicate, HLN.out]; omega)
      rw [List.length_map, HLN.out] at hcp
      clear r1 r2 hfar hrow erow hkk
      go_wp2
      go_ret
      exact ⟨rfl, _, hlen9.out, CD.out, HALL.out⟩

end Go.Proofs.YtplpafbkalkchaaGreatDoor

namespace Go.Proofs.YtplpafbkalkchaaGreatDoor
open Go.RowKit

theorem info5 : (Tryz.prog.info? 5).map (fun i => (i.zero, i.size, i.bytes)) = some (some (.int .u8 0), 1, 1) := by kernel_rfl
theorem and255_i64 {x : Nat} (hx : x < 256) : bits .and .i64 (x : Int) 255 = (x : Int) := by
  have := bits_mask .i64 62 (by decide) wraps_i64 8 (by decide) (x : Int) (by omega) (by simpa using (by omega : (x : Int) < 4611686018427387904))
  simp at this
  rw [this]; omega
theorem FB.blk {w : World} {b n : Nat} {F : Nat → Value} {t : TypeId} (h : FB w b n F t) {cs : List Value} (hl : cs.length = n) (e : ∀ i, i < n → cs[i]? = some (F i)) : Blk w b cs t := by
  have e2 : (List.range n).map F = cs := by
    apply List.ext_getElem?
    intro j
    by_cases hj : j < n
    · rw [e j hj]; simp [hj]
    · rw [List.getElem?_eq_none (l := (List.range n).map F) (by simp; omega), List.getElem?_eq_none (l := cs) (by omega)]
  unfold FB at h
  rw [e2] at h; exact h
theorem getD_lt {l : List Nat} (hb : _root_.QR.Bytes l) (i : Nat) : l.getD i 0 < 256 := by
  by_cases h : i < l.length
  · have : l.getD i 0 ∈ l := by simp [List.getD, h]
    exact hb _ this
  · simp [List.getD, List.getElem?_eq_none (Nat.le_of_not_lt h)]

set_option maxRecDepth 100000 in
set_option maxHeartbeats 1600000 in
theorem ecBytes_ok (db n ec : Nat) (ds : List Nat) (w : World) (hd : Blk w db (ds.map vu8) 5) (hn : ds.length = n) (hb : _root_.QR.Bytes ds) (h1 : 1 ≤ n) (h2 : n ≤ 1000) (h3 : 1 ≤ ec) (h4 : ec ≤ 100) (E : Int) (hE : E = (ec : Int)) :
    Calls Tryz.prog 118 #[.slice (some ⟨db, 0, none⟩) n n, .int .i64 E] w fun e w' => ∃ q es, e = .returned (.tuple #[.slice (some ⟨q, 0, none⟩) ec ec, .nilIface]) ∧ es.length = ec ∧ Coded ds es ∧ Blk w' q (es.map vu8) 5 ∧ Keeps (fun _ => False) w w' ∧ w.heap.size ≤ q := by
  subst hE
  have HD := Lib.hid hd
  have HN := Lib.hid hn
  have HB := Lib.hid hb
  have hmk := make_rep (P := Tryz.prog) 157 3 (.int .i64 0) 8 Tryz.underlying157 info3 rfl (n + ec) (by omega) (by omega) w
  rw [show ((n + ec : Nat) : Int) = (n : Int) + (ec : Int) by omega] at hmk
  have hnew : FB (w.alloc (.cells (rep (n + ec) (.int .i64 0)).toArray 3)) w.heap.size (n + ec) (fun i => vi (if i < 0 then ds.getD i 0 else 0)) 3 := (FB.new w (n + ec) (.int .i64 0) 3).congr (fun j _ => by simp [vi])
  have R0 := Lib.hid (And.intro hnew ((Keeps.refl (fun _ => False) w).alloc (.cells (rep (n + ec) (.int .i64 0)).toArray 3)))
  obtain ⟨T, hT⟩ : ∃ T, w.heap.size = T := ⟨_, rfl⟩
  rw [hT] at hmk R0
  have HT := Lib.hid hT
  clear hd hn hb hnew
  go_enter Tryz.func118, Tryz.ntmps118
  go_wp2_with fail
  clear hmk
  go_loopw [8] (fun i wr => ∃ k : Nat, k ≤ n ∧ i = .int .i64 (k : Int) ∧ FB wr T (n + ec) (fun i => vi (if i < k then ds.getD i 0 else 0)) 3 ∧ Keeps (fun _ => False) w wr) (fun i _ => n - (intOf i).toNat)
  case atStart => exact ⟨0, by omega, rfl, R0.out⟩
  case round =>
    obtain ⟨k, hk, rfl, r1, r2⟩ := hrel
    by_cases hkn : k < n
    · have c1 := (HD.out.keep r2 (fun h => h)).cell (i := k) (v := .int .u8 ((ds.getD k 0 : Nat) : Int)) (by have := HN.out; simp [List.getD, vu8, show k < ds.length by omega])
      obtain ⟨x, hx⟩ : ∃ x, ds.getD k 0 = x := ⟨_, rfl⟩
      have hx256 : x < 256 := by rw [← hx]; exact getD_lt HB.out k
      rw [hx] at c1
      have ha := and255_i64 hx256
      have c2 := r1.cell (i := k) (by omega)
      have f2 := r1.free k
      simp only [if_neg (Nat.lt_irrefl k)] at c2
      unfold vi at c2
      have hs : FB (wr.setCell ⟨T, k, none⟩ (.int .i64 (x : Int))) T (n + ec) (fun i => vi (if i < k + 1 then ds.getD i 0 else 0)) 3 := r1.set k _ (fun j _ => by
        by_cases e : j = k
        · subst e; rw [if_pos rfl, if_pos (by omega), hx]; rfl
        · rw [if_neg e]
          by_cases e2 : j < k
          · rw [if_pos e2, if_pos (by omega)]
          · rw [if_neg e2, if_neg (by omega)])
      have R := Lib.hid (And.intro hs (r2.setCell (p := ⟨T, k, none⟩) (Or.inr (by show w.heap.size ≤ T; rw [HT.out]; exact Nat.le_refl _)) (.int .i64 (x : Int))))
      have hk1 : (k : Int) < (n : Int) := by omega
      have hk2 : (k : Int) < (n : Int) + (ec : Int) := by omega
      clear r1 r2 hs hx
      go_wp2
      go_roundw
      case rel => exact ⟨k + 1, by omega, by go_num, R.out⟩
      case measure => simp [intOf]; omega
    · obtain rfl : k = n := by omega
      have hblk : Blk wr T (ds.map vi ++ rep ec (.int .i64 0)) 3 := r1.blk (by rw [List.length_append, List.length_map, rep_length, HN.out]) (fun i hi => by
        by_cases e : i < k
        · rw [List.getElem?_append_left (by rw [List.length_map, HN.out]; exact e), if_pos e]
          have := HN.out
          simp [List.getD, show i < ds.length by omega]
        · rw [List.getElem?_append_right (by rw [List.length_map, HN.out]; omega), if_neg e]
          rw [List.length_map, HN.out, rep_get (by omega)]; rfl)
      have R := Lib.hid (And.intro hblk r2)
      have htl := hblk.lt
      clear r1 r2 hblk
      go_wp2_with fail
      refine (qrField_ok wr).mono ?_
      rintro e w1 ⟨g, rfl, f1, f2, f3⟩
      have F := Lib.hid f1
      have K1 := Lib.hid f2
      clear f1 f2 f3
      go_wp2_with fail
      refine (newRS_ok g w1 F.out).mono ?_
      rintro e w2 ⟨eb, cb, q0, rfl, g1, g2, g3, g4, g5, g6⟩
      have hs1 := K1.out.size
      have hs2 := g4.size
      have G := Lib.hid (And.intro g1 (And.intro g2 (And.intro g3 (And.intro g4 (F.out.keep g4)))))
      have hT2 := Lib.hid ((R.out.1.keep K1.out (fun h => h)).keep g4 (fun h => h))
      have K2 := Lib.hid ((R.out.2.trans K1.out).trans g4)
      clear g1 g2 g3 g4
      go_wp2_with fail
      refine (rsEncode_ok w1.heap.size eb cb q0 g T ec (k + ec) ds w2 ⟨g5, g6, hs2, by omega⟩ G.out.1 G.out.2.1 G.out.2.2.1 G.out.2.2.2.2 hT2.out HB.out (by rw [HN.out]; omega) (by rw [HN.out]; omega) h3 h4 (by rw [HN.out]) _ rfl).mono ?_
      rintro e w3 ⟨rfl, es, q1, q2, q3, q4⟩
      have Q := Lib.hid (And.intro q1 (And.intro q2 (And.intro q3 (K2.out.step q4 (fun i hi h => by
        have := R.out.2.size
        rcases h with h | h
        · rw [← HT.out] at h; omega
        · omega)))))
      have hby := q2.be
      have hql := q1
      have HBY := Lib.hid hby
      have hmk := make_rep (P := Tryz.prog) 35 5 (.int .u8 0) 1 Tryz.underlying35 info5 rfl ec (by omega) (by omega) w3
      have hnew : FB (w3.alloc (.cells (rep ec (.int .u8 0)).toArray 5)) w3.heap.size ec (fun i => vu8 (if i < 0 then es.getD i 0 else 0)) 5 := (FB.new w3 ec (.int .u8 0) 5).congr (fun j _ => by simp [vu8])
      have R0' := Lib.hid (And.intro hnew ((Keeps.refl (fun _ => False) w3).alloc (.cells (rep ec (.int .u8 0)).toArray 5)))
      obtain ⟨Z, hZ⟩ : ∃ Z, w3.heap.size = Z := ⟨_, rfl⟩
      rw [hZ] at hmk R0'
      have HZ := Lib.hid hZ
      clear q1 q2 q3 q4 hnew hZ hby hql
      go_wp2_with fail
      clear hmk
      go_loopw [11] (fun i wr => ∃ j : Nat, j ≤ ec ∧ i = .int .i64 (j : Int) ∧ FB wr Z ec (fun i => vu8 (if i < j then es.getD i 0 else 0)) 5 ∧ Keeps (fun _ => False) w3 wr) (fun i _ => ec - (intOf i).toNat)
      case atStart => exact ⟨0, by omega, rfl, R0'.out⟩
      case round =>
        obtain ⟨j, hj, rfl, r1, r2⟩ := hrel
        by_cases hjn : j < ec
        · have c1 := (Q.out.2.2.1.keep r2 (fun h => h)).cell (i := k + j) (v := .int .i64 ((es.getD j 0 : Nat) : Int)) (by
            have := HN.out
            have := Q.out.1
            rw [List.getElem?_map, List.getElem?_append_right (by omega), HN.out, Nat.add_sub_cancel_left]
            simp [List.getD, vi, show j < es.length by omega])
          obtain ⟨x, hx⟩ : ∃ x, es.getD j 0 = x := ⟨_, rfl⟩
          have hx256 : x < 256 := by rw [← hx]; exact getD_lt HBY.out j
          rw [hx] at c1
          have c2 := r1.cell (i := j) (by omega)
          have f2 := r1.free j
          simp only [if_neg (Nat.lt_irrefl j)] at c2
          unfold vu8 at c2
          have hs : FB (wr.setCell ⟨Z, j, none⟩ (.int .u8 (x : Int))) Z ec (fun i => vu8 (if i < j + 1 then es.getD i 0 else 0)) 5 := r1.set j _ (fun i _ => by
            by_cases e : i = j
            · subst e; rw [if_pos rfl, if_pos (by omega), hx]; rfl
            · rw [if_neg e]
              by_cases e2 : i < j
              · rw [if_pos e2, if_pos (by omega)]
              · rw [if_neg e2, if_neg (by omega)])
          have R2 := Lib.hid (And.intro hs (r2.setCell (p := ⟨Z, j, none⟩) (Or.inr (by show w3.heap.size ≤ Z; rw [HZ.out]; exact Nat.le_refl _)) (.int .u8 (x : Int))))
          have hk1 : (j : Int) < (ec : Int) := by omega
          have hk2 : (k : Int) + (j : Int) < (k : Int) + (ec : Int) := by omega
          have hw : ((x : Int) % 256) = (x : Int) := by omega
          clear r1 r2 hs hx
          go_wp2
          go_roundw
          case rel => exact ⟨j + 1, by omega, by go_num, R2.out⟩
          case measure => simp [intOf]; omega
        · obtain rfl : j = ec := by omega
          have hblk : Blk wr Z (es.map vu8) 5 := r1.blk (by rw [List.length_map, Q.out.1]) (fun i hi => by
            rw [if_pos hi]
            have := Q.out.1
            simp [List.getD, show i < es.length by omega])
          have HALL := Lib.hid (And.intro Q.out.1 (And.intro Q.out.2.1 (And.intro hblk (Q.out.2.2.2.trans r2))))
          have hz := Lib.hid (show w.heap.size ≤ Z by rw [← HZ.out]; exact Q.out.2.2.2.size)
          clear r1 r2 hblk
          go_wp2
          go_ret2
          exact ⟨Z, es, rfl, HALL.out.1, HALL.out.2.1, HALL.out.2.2.1, HALL.out.2.2.2, hz.out⟩

end Go.Proofs.YtplpafbkalkchaaGreatDoor

namespace Go.Proofs.YtplpafbkalkchaaGreatDoor
open Go.RowKit

/-- A source of gray pixels at block sb: N = W * H of them at block d. -/
structure GSrc (w : World) (sb d W H N k : Nat) (F : Nat → Nat) : Prop where
  head : Blk w sb [.int .i64 (W : Int), .int .i64 (H : Int), .slice (some ⟨d, 0, none⟩) N k, .int .i64 (W : Int), .int .i64 (H : Int), .int .i64 0, .int .i64 0] 232
  row : Row8 w d N F
theorem GSrc.keep {S : Nat → Prop} {w w' : World} {sb d W H N k : Nat} {F : Nat → Nat} (h : GSrc w sb d W H N k F) (hk : Keeps S w w') (h1 : ¬ S sb) (h2 : ¬ S d) : GSrc w' sb d W H N k F :=
  ⟨h.head.keep hk h1, h.row.keep hk h2⟩

theorem read_row0 {w : World} {d n : Nat} {F : Nat → Nat} (h : Row8 w d n F) {j : Nat} {x : Value} (hj : ((List.range n).map fun i => Value.int .u8 (F i : Int))[j]? = some x) : w.cell? ((⟨d, 0, none⟩ : Addr).add j) = some x := by
  have e : (Addr.add ⟨d, 0, none⟩ j) = ⟨d, j, none⟩ := by
    unfold Addr.add
    by_cases h0 : j = 0
    · subst h0; simp
    · simp [h0]
  have hl : j < n := by
    rcases Nat.lt_or_ge j n with h1 | h1
    · exact h1
    · rw [List.getElem?_eq_none (by simp; omega)] at hj; cases hj
  rw [e, h.cell j hl, ← hj]
  simp [hl]
theorem one_row0 {n : Nat} {F : Nat → Nat} {x : Value} (h : x ∈ (List.range n).map fun i => Value.int .u8 (F i : Int)) : x.oneCell' = true := by
  obtain ⟨i, _, rfl⟩ := List.mem_map.1 h; rfl

set_option maxRecDepth 100000 in
theorem fits_ok (W H N : Nat) (hN : N = W * H) (hW : 1 ≤ W) (hH : 1 ≤ H) (hW2 : W ≤ 1000) (hH2 : H ≤ 1000) (w : World) : Calls Tryz.prog 76 #[.int .i64 (W : Int), .int .i64 (H : Int), .int .i64 (N : Int)] w fun e w' => e = .returned (.bool true) ∧ w = w' := by
  have q1 : (N : Int) / (W : Int) = (H : Int) := by rw [← Int.natCast_ediv, hN, Nat.mul_div_cancel_left _ (by omega)]
  have q2 : (N : Int) % (W : Int) = 0 := by rw [← Int.natCast_emod, hN, Nat.mul_mod_right]; rfl
  have h1 : (0 : Int) < (W : Int) := by omega
  have h2 : (0 : Int) < (H : Int) := by omega
  have h0 : ((W : Int) == 0) = false := beq_eq_false_iff_ne.2 (by omega)
  clear hN
  go_enter Tryz.func76, Tryz.ntmps76
  go_wp2
  go_ret
  exact ⟨rfl, rfl⟩

set_option maxRecDepth 100000 in
theorem srcW_ok (sb d W H N k : Nat) (F : Nat → Nat) (w : World) (h : GSrc w sb d W H N k F) : Calls Tryz.prog 331 #[.pointer (some ⟨sb, 0, none⟩)] w fun e w' => e = .returned (.int .i64 (W : Int)) ∧ w = w' := by
  have h0 := h.head.cell (i := 0) rfl
  clear h
  go_enter Tryz.func331, Tryz.ntmps331
  go_wp2
  go_ret
  exact ⟨rfl, rfl⟩
set_option maxRecDepth 100000 in
theorem srcH_ok (sb d W H N k : Nat) (F : Nat → Nat) (w : World) (h : GSrc w sb d W H N k F) : Calls Tryz.prog 328 #[.pointer (some ⟨sb, 0, none⟩)] w fun e w' => e = .returned (.int .i64 (H : Int)) ∧ w = w' := by
  have h0 := h.head.cell (i := 1) rfl
  clear h
  go_enter Tryz.func328, Tryz.ntmps328
  go_wp2
  go_ret
  exact ⟨rfl, rfl⟩

set_option maxRecDepth 100000 in
set_option maxHeartbeats 1000000 in
theorem newPlanar_ok (d W H N k : Nat) (F : Nat → Nat) (w : World) (h : Row8 w d N F) (hW : W ≤ 1000) (hH : H ≤ 1000) :
    Calls Tryz.prog 77 #[.slice (some ⟨d, 0, none⟩) N k, .int .i64 (W : Int), .int .i64 (H : Int), .int .i64 0, .int .i64 0, .int .i64 (W : Int), .int .i64 (H : Int), .bool false] w fun e w' =>
      e = .returned (.tuple #[.iface 228 (.pointer (some ⟨w.heap.size, 0, none⟩)), .nilIface]) ∧ GSrc w' w.heap.size d W H N k F ∧ Keeps (fun _ => False) w w' := by
  have B := Lib.hid (Blk.new w [.int .i64 (W : Int), .int .i64 (H : Int), .slice (some ⟨d, 0, none⟩) N k, .int .i64 (W : Int), .int .i64 (H : Int), .int .i64 0, .int .i64 0] 232)
  have HR := Lib.hid h
  clear h
  go_enter Tryz.func77, Tryz.ntmps77
  go_wp2_with fail
  go_ret2
  exact ⟨rfl, ⟨B.out, HR.out.keep ((Keeps.refl (fun _ => False) w).alloc _) (fun h => h)⟩, (Keeps.refl _ w).alloc _⟩

set_option maxRecDepth 100000 in
set_option maxHeartbeats 1000000 in
theorem srcMat_ok (sb d W H N k : Nat) (F : Nat → Nat) (w : World) (h : GSrc w sb d W H N k F) : Calls Tryz.prog 329 #[.pointer (some ⟨sb, 0, none⟩)] w fun e w' => e = .returned (.slice (some ⟨d, 0, none⟩) N k) ∧ w = w' := by
  have h0 := h.head.cell (i := 0) rfl
  have h1 := h.head.cell (i := 1) rfl
  have h2 := h.head.cell (i := 2) rfl
  have h3 := h.head.cell (i := 3) rfl
  have h4 := h.head.cell (i := 4) rfl
  have HS := Lib.hid h
  clear h
  go_enter Tryz.func329, Tryz.ntmps329
  go_wp2_with fail
  refine (srcW_ok sb d W H N k F w HS.out).mono ?_
  rintro e w1 ⟨rfl, rfl⟩
  go_wp2_with fail
  refine (srcH_ok sb d W H N k F w HS.out).mono ?_
  rintro e w1 ⟨rfl, rfl⟩
  go_wp2_with fail
  go_ret
  exact ⟨rfl, rfl⟩

set_option maxRecDepth 100000 in
set_option maxHeartbeats 2000000 in
theorem srcRow_ok (sb d W H N k y lb : Nat) (F : Nat → Nat) (cs : List Value) (w : World) (h : GSrc w sb d W H N k F) (hl : Blk w lb cs 5) (hc : cs.length = W) (hN : N = W * H) (hk : N ≤ k) (hy : y < H) (hW1 : 1 ≤ W) (hW : W ≤ 1000) (hH : H ≤ 1000) (Y : Int) (hY : Y = (y : Int)) :
    Calls Tryz.prog 330 #[.pointer (some ⟨sb, 0, none⟩), .int .i64 Y, .slice (some ⟨lb, 0, none⟩) W W] w fun e w' => e = .returned (.tuple #[.slice (some ⟨lb, 0, none⟩) W W, .nilIface]) ∧
      Blk w' lb ((List.range W).map fun x => Value.int .u8 (F (y * W + x) : Int)) 5 ∧ Keeps (fun i => i = lb) w w' := by
  subst hY
  obtain ⟨o, ho⟩ : ∃ o, y * W = o := ⟨_, rfl⟩
  have hoi : (y : Int) * (W : Int) = (o : Int) := by rw [← ho]; push_cast; rfl
  have hle : o + W ≤ N := by
    have := Nat.mul_le_mul_right W (show y + 1 ≤ H by omega)
    rw [Nat.add_mul, Nat.one_mul, ho, Nat.mul_comm H W, ← hN] at this; exact this
  have hN2 : N ≤ 1000000 := by rw [hN]; exact Nat.mul_le_mul hW hH
  have h2 := h.head.cell (i := 2) rfl
  have h3 := h.head.cell (i := 3) rfl
  have h5 := h.head.cell (i := 5) rfl
  have h6 := h.head.cell (i := 6) rfl
  have HS := Lib.hid h
  have qT : ∀ (w : World) (a : Option Addr) (n c n' c' : Nat), (binOp .eql 35 (.slice a n c) (.slice none n' c')).run Tryz.prog w = .ok (.bool a.isNone) w := fun w a n c n' c' => Lib.run_eql_slice_nil w _ _ a n c n' c' Tryz.underlying35
  have hcp := fun m => copy_blk (P := Tryz.prog) (w.drewN m) 35 35 3 5 Tryz.underlying35 (by kernel_rfl) lb 0 W W d o W (k - o) cs 5 (hl.drewN m) ((List.range W).map fun x => Value.int .u8 (F (o + x) : Int)) (by simp)
    (fun j v hj => by
      have hj2 : j < W := by
        rcases Nat.lt_or_ge j W with a | a
        · exact a
        · rw [List.getElem?_eq_none (by simp; omega)] at hj; cases hj
      have e1 : (w.drewN m).cell? ⟨d, o + j, none⟩ = w.cell? ⟨d, o + j, none⟩ := rfl
      rw [e1, h.row.cell (o + j) (by omega), ← hj]; simp [hj2]) (by simp; omega) (fun v hv => by obtain ⟨i, _, rfl⟩ := List.mem_map.1 hv; rfl)
  have edrop : (cs.take 0 ++ ((List.range W).map fun x => Value.int .u8 (F (o + x) : Int)) ++ cs.drop (0 + ((List.range W).map fun x => Value.int .u8 (F (o + x) : Int)).length)) = ((List.range W).map fun x => Value.int .u8 (F (o + x) : Int)) := by
    rw [List.take_zero, List.nil_append, List.drop_of_length_le (by simp; omega), List.append_nil]
  simp only [edrop] at hcp
  have hb := fun m => (hl.drewN m).setRow ((List.range W).map fun x => Value.int .u8 (F (o + x) : Int))
  have hkk := fun m => ((Keeps.refl (fun i => i = lb) w).drewN m).setRow (g := lb) (Or.inl rfl) ((List.range W).map fun x => Value.int .u8 (F (o + x) : Int)).toArray
  have R := Lib.hid (And.intro hb hkk)
  rw [ho]
  simp only [List.length_map, List.length_range] at hcp
  have d1 : ¬ ((H : Int) ≤ (y : Int)) := by omega
  have d0 : ¬ ((y : Int) < 0) := by omega
  have hko : ¬ k = o := by omega
  have hHy : ¬ H ≤ y := by omega
  clear h hl hb hkk ho hN edrop
  generalize ((List.range W).map fun x => Value.int .u8 (F (o + x) : Int)) = ds at *
  go_enter Tryz.func330, Tryz.ntmps330
  go_wp2_with fail
  refine (srcH_ok sb d W H N k F w HS.out).mono ?_
  rintro e w1 ⟨rfl, rfl⟩
  go_wp2_with fail
  refine (srcW_ok sb d W H N k F w HS.out).mono ?_
  rintro e w1 ⟨rfl, rfl⟩
  go_wp2_with fail
  go_quiet (fail)
  go_wp2_with fail
  go_ret2
  exact ⟨rfl, R.out.1 _, R.out.2 _⟩

set_option maxRecDepth 100000 in
set_option maxHeartbeats 2000000 in
theorem source_ok (d W H N k : Nat) (F : Nat → Nat) (w : World) (h : Row8 w d N F) (hN : N = W * H) (hW1 : 1 ≤ W) (hH1 : 1 ≤ H) (hW : W ≤ 1000) (hH : H ≤ 1000) :
    Calls Tryz.prog 29 #[.int .i64 (W : Int), .int .i64 (H : Int), .slice (some ⟨d, 0, none⟩) N k, .bool false] w fun e w' => ∃ sb d2 k2, e = .returned (.tuple #[.iface 228 (.pointer (some ⟨sb, 0, none⟩)), .bool true]) ∧
      GSrc w' sb d2 W H N k2 F ∧ N ≤ k2 ∧ sb ≠ d2 ∧ w.heap.size ≤ sb ∧ w.heap.size ≤ d2 ∧ Keeps (fun _ => False) w w' := by
  have hN1 : 1 ≤ N := by rw [hN]; exact Nat.mul_le_mul hW1 hH1
  have hN2 : N ≤ 1000000 := by rw [hN]; exact Nat.mul_le_mul hW hH
  have HR := Lib.hid h
  have HN := Lib.hid hN
  clear h hN
  obtain ⟨i0, hi0, hz0, hz1, hz2⟩ := info_parts info5
  obtain ⟨B, hB⟩ : ∃ B, w.heap.size = B := ⟨_, rfl⟩
  have HB := Lib.hid hB
  have hBw : B ≤ w.heap.size := by omega
  rw [hB]
  clear hB
  go_enter Tryz.func29, Tryz.ntmps29
  go_wp2_with fail
  refine (fits_ok W H N HN.out hW1 hH1 hW hH w).mono ?_
  rintro e w1 ⟨rfl, rfl⟩
  go_wp2_with (at_builtin; refine wpList_append_own _ rfl _ _ 35 rfl B 5 i0 (.int .u8 0) 1 1 Tryz.underlying35 hi0 hz0 hz1 hz2 rfl (by decide) (.slice none 0 0) 0 [] rfl ⟨rfl, Or.inl ⟨rfl, rfl⟩⟩ ⟨d, 0, none⟩ N k ((List.range N).map fun i => .int .u8 (F i : Int)) rfl (by simp) ?c1 ?c2 ?c3 ?c4 hBw ?_)
  case c1 =>
    intro j x hj
    exact read_row0 HR.out hj
  case c2 => intro x hx; exact one_row0 hx
  case c3 => unfold maxLen; omega
  case c4 => omega
  intro v6 w6 hown6 hgrow _
  have k6 : Keeps (fun _ => False) w w6 := (Keeps.refl _ w).grown hgrow (fun k hk => by simp [Value.ownBlock] at hk)
  obtain ⟨d2, k2, rfl, hk2, r2⟩ := Row8.of_own (by simpa using hown6) hN1
  have hd2 : B ≤ d2 := (own_typ hown6 d2 (by simp [Value.ownBlock])).2
  have R2 := Lib.hid r2
  have K6 := Lib.hid k6
  have HD2 := Lib.hid hd2
  clear hown6 hgrow k6 r2 hd2
  go_wp2_with fail
  refine (newPlanar_ok d2 W H N k2 F w6 R2.out hW hH).mono ?_
  rintro e w7 ⟨rfl, a1, a2⟩
  obtain ⟨sb, hsb⟩ : ∃ s, w6.heap.size = s := ⟨_, rfl⟩
  have hlt := R2.out.lt
  rw [hsb] at a1 hlt ⊢
  have A1 := Lib.hid a1
  have A2 := Lib.hid (K6.out.trans a2)
  have hs6 : B ≤ sb := by have := K6.out.size; have := HB.out; omega
  clear a1 a2 hsb
  go_wp2_with fail
  go_quiet (fail)
  go_wp2_with fail
  go_ret2
  exact ⟨sb, d2, k2, rfl, ⟨A1.out.head.drewN _, ⟨A1.out.row.typ, A1.out.row.cell⟩⟩, hk2, by omega, hs6, HD2.out, A2.out.drewN _⟩

end Go.Proofs.YtplpafbkalkchaaGreatDoor

namespace Go.Proofs.YtplpafbkalkchaaGreatDoor
open Go.RowKit

/-- A binarizer over a source: its luminances (none yet), its buckets. -/
structure GBin (w : World) (gb sb bk lo : Nat) (n : Nat) (G : Nat → Value) : Prop where
  head : Blk w gb [.iface 228 (.pointer (some ⟨sb, 0, none⟩)), .slice (some ⟨lo, 0, none⟩) n n, .slice (some ⟨bk, 0, none⟩) 32 32] 159
  bucks : FB w bk 32 G 3
theorem GBin.keep {S : Nat → Prop} {w w' : World} {gb sb bk lo n : Nat} {G : Nat → Value} (h : GBin w gb sb bk lo n G) (hk : Keeps S w w') (h1 : ¬ S gb) (h2 : ¬ S bk) : GBin w' gb sb bk lo n G := ⟨h.head.keep hk h1, h.bucks.keep hk h2⟩

set_option maxRecDepth 100000 in
set_option maxHeartbeats 1000000 in
theorem newGlobal_ok (sb : Nat) (w : World) : Calls Tryz.prog 30 #[.iface 228 (.pointer (some ⟨sb, 0, none⟩))] w fun e w' => e = .returned (.iface 156 (.pointer (some ⟨w.heap.size + 2, 0, none⟩))) ∧
      GBin w' (w.heap.size + 2) sb (w.heap.size + 1) w.heap.size 0 (fun _ => .int .i64 0) ∧ Keeps (fun _ => False) w w' := by
  have hmk : ∀ w : World, (Instr.makeSlice 157 (.int .i64 32) (.int .i64 32)).run Tryz.prog w = .ok (.slice (some ⟨w.heap.size, 0, none⟩) 32 32) (w.alloc (.cells (rep 32 (.int .i64 0)).toArray 3)) :=
    fun w => make_rep (P := Tryz.prog) 157 3 (.int .i64 0) 8 Tryz.underlying157 info3 rfl 32 (by omega) (by omega) w
  have b1 := (FB.new (w.alloc (.cells #[] 5)) 32 (.int .i64 0) 3).alloc (.cells #[.iface 228 (.pointer (some ⟨sb, 0, none⟩)), .slice (some ⟨w.heap.size, 0, none⟩) 0 0, .slice (some ⟨w.heap.size + 1, 0, none⟩) 32 32] 159)
  have b2 := Blk.new ((w.alloc (.cells #[] 5)).alloc (.cells (rep 32 (.int .i64 0)).toArray 3)) [.iface 228 (.pointer (some ⟨sb, 0, none⟩)), .slice (some ⟨w.heap.size, 0, none⟩) 0 0, .slice (some ⟨w.heap.size + 1, 0, none⟩) 32 32] 159
  have hs1 : (w.alloc (.cells #[] 5)).heap.size = w.heap.size + 1 := by simp
  have hs2 : ((w.alloc (.cells #[] 5)).alloc (.cells (rep 32 (.int .i64 0)).toArray 3)).heap.size = w.heap.size + 2 := by simp
  rw [hs1] at b1
  rw [hs2] at b2
  have K := Lib.hid ((((Keeps.refl (fun _ => False) w).alloc (.cells #[] 5)).alloc (.cells (rep 32 (.int .i64 0)).toArray 3)).alloc (.cells #[.iface 228 (.pointer (some ⟨sb, 0, none⟩)), .slice (some ⟨w.heap.size, 0, none⟩) 0 0, .slice (some ⟨w.heap.size + 1, 0, none⟩) 32 32] 159))
  have B1 := Lib.hid b1
  have B2 := Lib.hid b2
  clear b1 b2 hs1 hs2
  go_enter Tryz.func30, Tryz.ntmps30
  go_wp2_with fail
  go_ret
  exact ⟨rfl, ⟨B2.out, B1.out⟩, K.out⟩

theorem assert156 (w : World) (a : Addr) : (Instr.typeAssert (.iface 156 (.pointer (some a))) 86 156 false).run Tryz.prog w = .ok (.pointer (some a)) w := by kernel_rfl

set_option maxRecDepth 100000 in
set_option maxHeartbeats 1000000 in
theorem newHybrid_ok (sb : Nat) (w : World) : Calls Tryz.prog 31 #[.iface 228 (.pointer (some ⟨sb, 0, none⟩))] w fun e w' => ∃ gb hb bk lo, e = .returned (.iface 160 (.pointer (some ⟨hb, 0, none⟩))) ∧
      GBin w' gb sb bk lo 0 (fun _ => .int .i64 0) ∧ Blk w' hb [.pointer (some ⟨gb, 0, none⟩), .pointer none] 162 ∧ w.heap.size ≤ gb ∧ w.heap.size ≤ bk ∧ w.heap.size ≤ hb ∧ gb ≠ bk ∧ hb ≠ gb ∧ hb ≠ bk ∧ Keeps (fun _ => False) w w' := by
  have c30 := Lib.hid (newGlobal_ok sb w)
  obtain ⟨gb, hgb⟩ : ∃ g, w.heap.size + 2 = g := ⟨_, rfl⟩
  obtain ⟨bk, hbk⟩ : ∃ g, w.heap.size + 1 = g := ⟨_, rfl⟩
  rw [hgb, hbk] at c30
  have hne : gb ≠ bk := by omega
  have hg1 : w.heap.size ≤ gb := by omega
  have hg2 : w.heap.size ≤ bk := by omega
  have HQ := Lib.hid (And.intro hg1 (And.intro hg2 hne))
  have t1 := fun w => assert156 w ⟨gb, 0, none⟩
  clear hgb hbk hne hg1 hg2
  go_enter Tryz.func31, Tryz.ntmps31
  go_wp2_with fail
  refine c30.out.mono ?_
  rintro e w1 ⟨rfl, a1, a2⟩
  have l1 := a1.head.lt
  have l2 := a1.bucks.lt
  have A1 := Lib.hid (a1.keep ((Keeps.refl (fun _ => False) w1).alloc (.cells #[.pointer (some ⟨gb, 0, none⟩), .pointer none] 162)) (fun h => h) (fun h => h))
  have A2 := Lib.hid (a2.alloc (.cells #[.pointer (some ⟨gb, 0, none⟩), .pointer none] 162))
  have A3 := Lib.hid (Blk.new w1 [.pointer (some ⟨gb, 0, none⟩), .pointer none] 162)
  have hs := a2.size
  clear a1 a2
  go_wp2_with fail
  go_ret
  exact ⟨gb, w1.heap.size, bk, _, rfl, A1.out, A3.out, HQ.out.1, HQ.out.2.1, hs, HQ.out.2.2, by omega, by omega, A2.out⟩

set_option maxRecDepth 100000 in
theorem gbSrc_ok (gb sb bk lo n : Nat) (G : Nat → Value) (w : World) (h : GBin w gb sb bk lo n G) : Calls Tryz.prog 314 #[.pointer (some ⟨gb, 0, none⟩)] w fun e w' => e = .returned (.iface 228 (.pointer (some ⟨sb, 0, none⟩))) ∧ w = w' := by
  have h0 := h.head.cell (i := 0) rfl
  clear h
  go_enter Tryz.func314, Tryz.ntmps314
  go_wp2
  go_ret
  exact ⟨rfl, rfl⟩

set_option maxRecDepth 100000 in
set_option maxHeartbeats 1000000 in
theorem gbInit_ok (gb sb bk lo W : Nat) (G : Nat → Value) (w : World) (h : GBin w gb sb bk lo 0 G) (hne : gb ≠ bk) (hW1 : 1 ≤ W) (hW : W ≤ 1000) :
    Calls Tryz.prog 316 #[.pointer (some ⟨gb, 0, none⟩), .int .i64 (W : Int)] w fun e w' => e = .returned (.tuple #[]) ∧ GBin w' gb sb bk w.heap.size W (fun _ => .int .i64 0) ∧ Blk w' w.heap.size (rep W (.int .u8 0)) 5 ∧ Keeps (fun i => i = gb ∨ i = bk) w w' := by
  have hmk := make_rep (P := Tryz.prog) 35 5 (.int .u8 0) 1 Tryz.underlying35 info5 rfl W (by omega) (by omega) w
  have h1 := h.head.cell (i := 1) rfl
  have h2 := h.head.cell (i := 2) rfl
  have f1 := (h.head.alloc (.cells (rep W (.int .u8 0)).toArray 5)).free 1
  have hlg := h.head.lt
  have hlb := h.bucks.lt
  have hd : (0 : Int) < (W : Int) := by omega
  have n1 := Blk.new w (rep W (.int .u8 0)) 5
  have n2 := (h.head.alloc (.cells (rep W (.int .u8 0)).toArray 5)).set 1 (.slice (some ⟨w.heap.size, 0, none⟩) W W)
  have n3 := n1.far (p := ⟨gb, 1, none⟩) (by show w.heap.size ≠ gb; omega) (.slice (some ⟨w.heap.size, 0, none⟩) W W)
  have n4 := (h.bucks.alloc (.cells (rep W (.int .u8 0)).toArray 5)).far (p := ⟨gb, 1, none⟩) (fun e => hne e.symm) (.slice (some ⟨w.heap.size, 0, none⟩) W W)
  have n5 := ((Keeps.refl (fun i => i = gb ∨ i = bk) w).alloc (.cells (rep W (.int .u8 0)).toArray 5)).setCell (p := ⟨gb, 1, none⟩) (Or.inl (Or.inl rfl)) (.slice (some ⟨w.heap.size, 0, none⟩) W W)
  have n2' : Blk ((w.alloc (.cells (rep W (.int .u8 0)).toArray 5)).setCell ⟨gb, 1, none⟩ (.slice (some ⟨w.heap.size, 0, none⟩) W W)) gb [.iface 228 (.pointer (some ⟨sb, 0, none⟩)), .slice (some ⟨w.heap.size, 0, none⟩) W W, .slice (some ⟨bk, 0, none⟩) 32 32] 159 := n2
  rw [World.setCell_alloc_past _ gb 1 _ hlg] at n2' n3 n4 n5
  have N := Lib.hid (And.intro n2' (And.intro n3 (And.intro n4 n5)))
  obtain ⟨lb, hlb2⟩ : ∃ l, w.heap.size = l := ⟨_, rfl⟩
  have hlbb : bk ≠ lb := by omega
  have hlbg : gb ≠ lb := by omega
  rw [hlb2] at N hmk
  rw [hlb2]
  clear h n1 n2 n2' n3 n4 n5 hlb2
  go_enter Tryz.func316, Tryz.ntmps316
  go_wp2_with fail
  obtain ⟨w1, hw1⟩ : ∃ w1, (w.setCell ⟨gb, 1, none⟩ (.slice (some ⟨lb, 0, none⟩) W W)).alloc (.cells (rep W (.int .u8 0)).toArray 5) = w1 := ⟨_, rfl⟩
  rw [hw1] at N
  rw [hw1]
  clear hw1 h1 h2 f1 hmk
  go_loopw [4] (fun s4 wr => ∃ k : Nat, k ≤ 32 ∧ s4 = .int .i64 (k : Int) ∧ FB wr bk 32 (fun j => if j < k then .int .i64 0 else G j) 3 ∧ Keeps (fun i => i = bk) w1 wr) (fun s4 _ => 32 - (intOf s4).toNat)
  case atStart => exact ⟨0, by omega, rfl, N.out.2.2.1.congr (fun j _ => by simp), Keeps.refl _ _⟩
  case round =>
    obtain ⟨k, hk, rfl, r1, r2⟩ := hrel
    have HD := N.out.1.keep r2 hne
    have g2 := HD.cell (i := 2) rfl
    by_cases hlt : k < 32
    · have hlt' : (k : Int) < 32 := by omega
      have fk := r1.free k
      have ck := r1.cell hlt
      have R := Lib.hid (And.intro (r1.set (G := fun j => if j < k + 1 then .int .i64 0 else G j) k (.int .i64 0) (fun j _ => by
        by_cases e : j = k
        · subst e; simp
        · by_cases e2 : j < k
          · simp [e, e2, show j < k + 1 by omega]
          · simp [e, e2, show ¬ j < k + 1 by omega])) (r2.setCell (p := ⟨bk, k, none⟩) (Or.inl rfl) (.int .i64 0)))
      clear r1 r2 HD
      go_wp2_with fail
      go_roundw
      case rel => exact ⟨k + 1, by omega, by go_num, R.out.1, R.out.2⟩
      case measure => simp [intOf]; omega
    · obtain rfl : k = 32 := by omega
      have R := Lib.hid (And.intro r1 r2)
      have HD2 := Lib.hid HD
      clear r1 r2 HD g2
      go_wp2_with fail
      go_end0
      refine ⟨rfl, ⟨HD2.out, R.out.1.congr (fun j hj => by simp [hj])⟩, N.out.2.1.keep R.out.2 (fun e => hlbb e.symm), N.out.2.2.2.trans (R.out.2.mono (fun i _ e => Or.inr e))⟩

end Go.Proofs.YtplpafbkalkchaaGreatDoor
