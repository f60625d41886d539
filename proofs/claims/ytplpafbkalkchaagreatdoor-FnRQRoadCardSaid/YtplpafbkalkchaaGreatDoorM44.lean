/-
  Parts of the proof (DB).
-/
import Derived.Test.YtplpafbkalkchaaGreatDoorM04
import Derived.Test.YtplpafbkalkchaaGreatDoorM10
import Derived.Test.YtplpafbkalkchaaGreatDoorM15
import Derived.Test.YtplpafbkalkchaaGreatDoorM39
set_option linter.unusedSimpArgs false
set_option linter.unusedVariables false

namespace Go.Proofs.YtplpafbkalkchaaGreatDoor
open Go.RowKit

theorem keep_row {w w' : World} {R nb : Nat} {cb : Nat → Nat} {cs : List Value} {t : TypeId} {B : Nat} (h : Blk w R cs t) (hk : Keeps (fun i => ∃ j, j < nb ∧ i = cb j) w w') (h1 : R < B) (h2 : ∀ j, j < nb → B ≤ cb j) : Blk w' R cs t :=
  h.keep hk (fun ⟨j, hj, e⟩ => by have := h2 j hj; omega)

/-- Blocks of data: their slice at m, the first k of nb made. -/
structure DBs (w : World) (m nb k : Nat) (pb cb : Nat → Nat) (len num : Nat → Nat) (F : Nat → Nat → Nat) : Prop where
  top : FB w m nb (fun j => if j < k then .pointer (some ⟨pb j, 0, none⟩) else .pointer none) 320
  head : ∀ j, j < k → Blk w (pb j) [.int .i64 (num j : Int), .slice (some ⟨cb j, 0, none⟩) (len j) (len j)] 344
  row : ∀ j, j < k → FB w (cb j) (len j) (fun p => vu8 (F j p)) 5
  inj : ∀ j j', j < k → j' < k → cb j = cb j' → j = j'
theorem DBs.keep {S : Nat → Prop} {w w' : World} {m nb k : Nat} {pb cb : Nat → Nat} {len num : Nat → Nat} {F : Nat → Nat → Nat} (h : DBs w m nb k pb cb len num F) (hk : Keeps S w w') (h1 : ¬ S m) (h2 : ∀ j, j < k → ¬ S (pb j) ∧ ¬ S (cb j)) : DBs w' m nb k pb cb len num F :=
  ⟨h.top.keep hk h1, fun j hj => (h.head j hj).keep hk (h2 j hj).1, fun j hj => (h.row j hj).keep hk (h2 j hj).2, h.inj⟩
theorem DBs.congr {w : World} {m nb k : Nat} {pb cb : Nat → Nat} {len num : Nat → Nat} {F G : Nat → Nat → Nat} (h : DBs w m nb k pb cb len num F) (e : ∀ j p, j < k → p < len j → F j p = G j p) : DBs w m nb k pb cb len num G :=
  ⟨h.top, h.head, fun j hj => (h.row j hj).congr (fun p hp => by rw [e j p hj hp]), h.inj⟩
theorem DBs.set {w : World} {m nb k : Nat} {pb cb : Nat → Nat} {len num : Nat → Nat} {F G : Nat → Nat → Nat} (h : DBs w m nb k pb cb len num F) {j p v : Nat} (hj : j < k) (e : ∀ j' p', j' < k → (if j' = j ∧ p' = p then v else F j' p') = G j' p') :
    DBs (w.setCell ⟨cb j, p, none⟩ (.int .u8 (v : Int))) m nb k pb cb len num G := by
  have t1 := h.top
  have hty : TypeAt w (cb j) 5 := ⟨_, _, h.row j hj⟩
  have n1 : m ≠ cb j := fun e => (show TypeAt w m 320 from ⟨_, _, h.top⟩).ne hty (by decide) e
  refine ⟨h.top.far n1 _, fun j' hj' => ?_, fun j' hj' => ?_, h.inj⟩
  · exact (h.head j' hj').far ((h.head j' hj').typ.ne hty (by decide)) _
  · by_cases e2 : j' = j
    · subst e2
      exact (h.row j' hj').set p _ (fun p' _ => by
        rw [← e j' p' hj']
        by_cases e3 : p' = p
        · rw [if_pos e3, if_pos ⟨rfl, e3⟩]; rfl
        · rw [if_neg e3, if_neg (fun h => e3 h.2)])
    · refine ((h.row j' hj').far (fun e3 => e2 (h.inj j' j hj' hj e3)) _).congr (fun p' _ => ?_)
      rw [← e j' p' hj', if_neg (fun h => e2 h.1)]

/-- A group's count, its data words, and how many blocks stand ahead of it. -/
def gCnt (k1 k2 t : Nat) : Nat := if t = 0 then k1 else k2
def gDat (s t : Nat) : Nat := if t = 0 then s else s + 1
def gBase (k1 nb t : Nat) : Nat := if t = 0 then 0 else if t = 1 then k1 else nb

theorem grp_cells (v i t : Nat) (h1 : 1 ≤ v) (h7 : v ≤ 7) (hi : i < 4) (ht : t < (QR.grp v i).length) : (pairs (QR.grp v i))[t * 2]? = some (.int .i64 (gCnt (kOne v i) (kTwo v i) t : Nat)) ∧ (pairs (QR.grp v i))[t * 2 + 1]? = some (.int .i64 (gDat (sOf v i) t : Nat)) := by
  have ht2 : t = 0 ∨ t = 1 := by
    obtain ⟨p, l, hg, hl, _⟩ := grp_shape v i h1 h7 hi
    rw [hg] at ht
    rcases hl with rfl | ⟨q, rfl⟩ <;> simp at ht <;> omega
  obtain rfl | rfl | rfl | rfl | rfl | rfl | rfl : v = 1 ∨ v = 2 ∨ v = 3 ∨ v = 4 ∨ v = 5 ∨ v = 6 ∨ v = 7 := by omega
  all_goals
    obtain rfl | rfl | rfl | rfl : i = 0 ∨ i = 1 ∨ i = 2 ∨ i = 3 := by omega
    all_goals
      rcases ht2 with rfl | rfl
      · exact ⟨rfl, rfl⟩
      · first | exact ⟨rfl, rfl⟩ | (exfalso; revert ht; decide)
theorem grp_len (v i : Nat) (h1 : 1 ≤ v) (h7 : v ≤ 7) (hi : i < 4) : ((QR.grp v i).length = 1 ∧ kTwo v i = 0) ∨ (QR.grp v i).length = 2 := by
  obtain rfl | rfl | rfl | rfl | rfl | rfl | rfl : v = 1 ∨ v = 2 ∨ v = 3 ∨ v = 4 ∨ v = 5 ∨ v = 6 ∨ v = 7 := by omega
  all_goals
    obtain rfl | rfl | rfl | rfl : i = 0 ∨ i = 1 ∨ i = 2 ∨ i = 3 := by omega
    all_goals decide
/-- One more block is made. -/
theorem DBs.add {w : World} {m nb k : Nat} {pb cb : Nat → Nat} {len num : Nat → Nat} (h : DBs w m nb k pb cb len num (fun _ _ => 0)) (hk : k < nb) (n : Nat) (hn : len k = n) (u : Nat) (hu : num k = u) :
    DBs (((w.alloc (.cells (rep n (.int .u8 0)).toArray 5)).alloc (.cells #[.int .i64 (u : Int), .slice (some ⟨w.heap.size, 0, none⟩) n n] 344)).setCell ⟨m, k, none⟩ (.pointer (some ⟨w.heap.size + 1, 0, none⟩))) m nb (k + 1)
      (fun j => if j = k then w.heap.size + 1 else pb j) (fun j => if j = k then w.heap.size else cb j) len num (fun _ _ => 0) := by
  subst hn hu
  have hm := h.top.lt
  have hs : (w.alloc (.cells (rep (len k) (.int .u8 0)).toArray 5)).heap.size = w.heap.size + 1 := by simp
  have hrow := (FB.new w (len k) (.int .u8 0) 5).alloc (.cells #[.int .i64 (num k : Int), .slice (some ⟨w.heap.size, 0, none⟩) (len k) (len k)] 344)
  have hst := Blk.new (w.alloc (.cells (rep (len k) (.int .u8 0)).toArray 5)) [.int .i64 (num k : Int), .slice (some ⟨w.heap.size, 0, none⟩) (len k) (len k)] 344
  rw [hs] at hst
  refine ⟨((h.top.alloc _).alloc _).set k _ (fun j _ => ?_), fun j hj => ?_, fun j hj => ?_, fun j j' hj hj' e => ?_⟩
  · by_cases e : j = k
    · subst e; simp
    · by_cases e2 : j < k
      · simp [e, e2, show j < k + 1 by omega]
      · simp [e, e2, show ¬ j < k + 1 by omega]
  · by_cases e : j = k
    · subst e
      simpa using hst.far (p := ⟨m, j, none⟩) (by show w.heap.size + 1 ≠ m; omega) _
    · simpa [e] using (((h.head j (by omega)).alloc _).alloc _).far (p := ⟨m, k, none⟩) ((h.head j (by omega)).typ.ne (show TypeAt w m 320 from ⟨_, _, h.top⟩) (by decide)) _
  · by_cases e : j = k
    · subst e
      have h0 := hrow.far (p := ⟨m, j, none⟩) (by show w.heap.size ≠ m; omega) (.pointer (some ⟨w.heap.size + 1, 0, none⟩))
      show FB _ (if j = j then w.heap.size else cb j) (len j) (fun _ => vu8 0) 5
      rw [if_pos rfl]
      exact h0
    · simpa [e] using (((h.row j (by omega)).alloc _).alloc _).far (p := ⟨m, k, none⟩) ((show TypeAt w (cb j) 5 from ⟨_, _, h.row j (by omega)⟩).ne (show TypeAt w m 320 from ⟨_, _, h.top⟩) (by decide)) _
  · have hlt : ∀ j, j < k → cb j < w.heap.size := fun j hj => (h.row j hj).lt
    by_cases e1 : j = k <;> by_cases e2 : j' = k
    · omega
    · have := hlt j' (by omega); simp [e1, e2] at e; omega
    · have := hlt j (by omega); simp [e1, e2] at e; omega
    · simp [e1, e2] at e; exact h.inj j j' (by omega) (by omega) e

theorem DBs.drewN {w : World} {m nb k : Nat} {pb cb : Nat → Nat} {len num : Nat → Nat} {F : Nat → Nat → Nat} (h : DBs w m nb k pb cb len num F) (n : Nat) : DBs (w.drewN n) m nb k pb cb len num F :=
  ⟨h.top.drewN n, fun j hj => (h.head j hj).drewN n, fun j hj => (h.row j hj).drewN n, h.inj⟩
def inC (cb : Nat → Nat) (nb i : Nat) : Prop := ∃ j, j < nb ∧ i = cb j

theorem info320 : (Tryz.prog.info? 320).map (fun i => (i.zero, i.size, i.bytes)) = some (some (.pointer none), 1, 8) := by kernel_rfl

set_option maxRecDepth 100000 in
set_option maxHeartbeats 1000000 in
theorem getBlocks_ok (R s b v l : Nat) (raw : List Nat) (w : World) (hV : Ver w s b v) (h1 : 1 ≤ v) (h7 : v ≤ 7) (hl : l < 4) (hraw : Blk w R (raw.map vu8) 5) (hlen : raw.length = QR.total v) (hby : _root_.QR.Bytes raw) :
    Calls Tryz.prog 195 #[.slice (some ⟨R, 0, none⟩) (QR.total v) (QR.total v), .pointer (some ⟨b, 0, none⟩), .int .i64 (l : Int)] w fun e w' => ∃ m pb cb, e = .returned (.tuple #[.slice (some ⟨m, 0, none⟩) (QR.numBlocks v (lvAt l)) (QR.numBlocks v (lvAt l)), .nilIface]) ∧
      DBs w' m (QR.numBlocks v (lvAt l)) (QR.numBlocks v (lvAt l)) pb cb (fun j => lenJ (kOne v (lvAt l)) (sOf v (lvAt l)) j + QR.ecN v (lvAt l)) (lenJ (kOne v (lvAt l)) (sOf v (lvAt l)))
        (fun j p => _root_.QR.cwAt raw (QR.numBlocks v (lvAt l)) (kOne v (lvAt l)) (kTwo v (lvAt l)) (sOf v (lvAt l)) j p) ∧ Keeps (fun _ => False) w w' ∧ w.heap.size ≤ m ∧ ∀ j, j < QR.numBlocks v (lvAt l) → w.heap.size ≤ pb j ∧ w.heap.size ≤ cb j := by
  have hi4 := lvAt_lt l
  have hS := shape_of v (lvAt l) h1 h7 hi4
  obtain ⟨g0, gl, hg, hgl, hgb, _, _⟩ := grp_shape v (lvAt l) h1 h7 hi4
  have hcell := fun t ht => grp_cells v (lvAt l) t h1 h7 hi4 ht
  have hLL := grp_len v (lvAt l) h1 h7 hi4
  obtain ⟨L, hL⟩ : ∃ L, (QR.grp v (lvAt l)).length = L := ⟨_, rfl⟩
  obtain ⟨T, hT⟩ : ∃ T, QR.total v = T := ⟨_, rfl⟩
  obtain ⟨nb, hnb⟩ : ∃ x, QR.numBlocks v (lvAt l) = x := ⟨_, rfl⟩
  obtain ⟨ec, hec⟩ : ∃ x, QR.ecN v (lvAt l) = x := ⟨_, rfl⟩
  obtain ⟨k1, hk1⟩ : ∃ x, kOne v (lvAt l) = x := ⟨_, rfl⟩
  obtain ⟨k2, hk2⟩ : ∃ x, kTwo v (lvAt l) = x := ⟨_, rfl⟩
  obtain ⟨sz, hsz⟩ : ∃ x, sOf v (lvAt l) = x := ⟨_, rfl⟩
  rw [hT, hnb, hk1, hk2, hsz, hec] at hS
  simp only [hL, hk1, hk2, hsz] at hcell
  rw [hL, hk2] at hLL
  have HLL := Lib.hid hLL
  rw [hT] at hlen
  have V := Lib.hid hV
  have HRAW := Lib.hid (And.intro hraw (And.intro hlen hby))
  have HS := Lib.hid hS
  have HT := Lib.hid hT
  have HNB := Lib.hid hnb
  have HEC := Lib.hid hec
  have HC := Lib.hid hcell
  have HL := Lib.hid hL
  obtain ⟨a1, a2, a3, a4, a5, a6, a7, a8, a9⟩ := hS
  have hT' : T ≤ 196 := by rw [← hT]; exact (room_ok v 0 h1 h7 (by omega)).2.1
  have HNBK := Lib.hid a1
  have hnb1 : 1 ≤ nb := by omega
  rw [hT, hnb, hk1, hk2, hsz, hec]
  clear hV hraw hlen hby hT hnb hec hk1 hk2 hsz hcell hL hg hgb hgl a8 a9 a1
  go_enter Tryz.func195, Tryz.ntmps195
  go_wp2_with fail
  refine (getTotal_ok s b v w V.out).mono ?_
  rw [HT.out]
  rintro e w1 ⟨rfl, rfl⟩
  go_wp2_with fail
  refine (getLevel_ok s b v l w V.out hl).mono ?_
  rintro e w1 ⟨rfl, g1, rfl⟩
  have EC := Lib.hid g1
  clear g1
  go_wp2_with fail
  refine (getGrp_ok _ _ _ v (lvAt l) w EC.out).mono ?_
  rw [HL.out]
  rintro e w1 ⟨rfl, rfl⟩
  obtain ⟨gc, hgc⟩ : ∃ x, s + 1 + lvAt l = x := ⟨_, rfl⟩
  rw [hgc] at EC ⊢
  have GB := Lib.hid EC.out.grps
  clear hgc
  go_wp2_with fail
  go_loopw [9, 45] (fun s9 s45 wr => ∃ t : Nat, t ≤ L ∧ s45 = .int .i64 (t : Int) ∧ s9 = .int .i64 (gBase k1 nb t : Nat) ∧ Keeps (fun _ => False) w wr) (fun _ s45 _ => L - (intOf s45).toNat)
  case atStart => exact ⟨0, by omega, rfl, rfl, Keeps.refl _ _⟩
  case round =>
    obtain ⟨t, ht, rfl, rfl, y1⟩ := hrel
    have G := GB.out.keep y1 (fun f => f)
    have Y1 := Lib.hid y1
    by_cases htL : t < L
    · have htL' : (t : Int) < (L : Int) := by omega
      have c0 := G.cell (HC.out t htL).1
      have c1 := G.cell (HC.out t htL).2
      have hgl := G.lt
      clear y1 G
      obtain ⟨gk, hgk⟩ : ∃ x, gCnt k1 k2 t = x := ⟨_, rfl⟩
      obtain ⟨gd, hgd⟩ : ∃ x, gDat sz t = x := ⟨_, rfl⟩
      obtain ⟨gb, hgb⟩ : ∃ x, gBase k1 nb t = x := ⟨_, rfl⟩
      rw [hgk] at c0
      rw [hgd] at c1
      rw [hgb]
      have hb2 : gb ≤ 8 ∧ gk ≤ 8 := by
        rw [← hgb, ← hgk]; unfold gBase gCnt
        have := HNBK.out
        constructor
        · repeat' split
          all_goals omega
        · split <;> omega
      obtain ⟨hb2, hk8⟩ := hb2
      have HG := Lib.hid (show gb + gk = gBase k1 nb (t + 1) from by
        rw [← hgb, ← hgk]; unfold gBase gCnt
        have := HNBK.out
        have := HLL.out
        by_cases e0 : t = 0
        · subst e0; simp
        · by_cases e1 : t = 1
          · subst e1; simp; omega
          · omega)
      clear hgk hgd hgb
      go_wp2_with fail
      refine (getCount_ok (gk : Int) (gd : Int) _).mono ?_
      rintro e w2 ⟨rfl, hw2⟩
      have Y2 := Lib.hid (show Keeps (fun _ => False) w w2 from by rw [← hw2]; exact (Y1.out.alloc _).alloc _)
      clear hw2 c0 c1
      go_wp2
      go_roundw
      case rel => exact ⟨t + 1, by omega, by go_num, by rw [← HG.out]; go_num, Y2.out⟩
      case measure => simp [intOf]; omega
    · have hgb : gBase k1 nb t = nb := by
        have := HNBK.out
        have := HLL.out
        unfold gBase
        by_cases e0 : t = 0
        · omega
        · rw [if_neg e0]; split <;> omega
      rw [hgb]
      have hmk := make_rep (P := Tryz.prog) 317 320 (.pointer none) 8 Tryz.underlying317 info320 rfl nb (by omega) (by omega) wr
      obtain ⟨m, hm⟩ : ∃ m, wr.heap.size = m := ⟨_, rfl⟩
      obtain ⟨w2, hw2⟩ : ∃ w2, wr.alloc (.cells (rep nb (.pointer none)).toArray 320) = w2 := ⟨_, rfl⟩
      rw [hm, hw2] at hmk
      have D2 := Lib.hid (show DBs w2 m nb 0 (fun _ => 0) (fun _ => 0) (fun j => lenJ k1 sz j + ec) (lenJ k1 sz) (fun _ _ => 0) from
        ⟨by have := FB.new wr nb (.pointer none) 320; rw [hw2, hm] at this; exact this.congr (fun _ _ => by simp), fun j hj => by omega, fun j hj => by omega, fun j j' hj => by omega⟩)
      have Y2 := Lib.hid (show Keeps (fun _ => False) w w2 from by rw [← hw2]; exact Y1.out.alloc _)
      have hwm := Lib.hid (show w.heap.size ≤ m by rw [← hm]; exact Y1.out.size)
      have htt : ¬ (t : Int) < (L : Int) := by omega
      clear y1 G hgb hm hw2
      go_wp2_with fail
      clear hmk
      go_loopw [14, 58] (fun s14 s58 wr => ∃ (t j : Nat) (pb cb : Nat → Nat), t ≤ L ∧ s58 = .int .i64 (t : Int) ∧ s14 = .int .i64 (j : Int) ∧ Hid (j = gBase k1 nb t) ∧ DBs wr m nb j pb cb (fun j => lenJ k1 sz j + ec) (lenJ k1 sz) (fun _ _ => 0) ∧
        Hid (∀ i, i < j → w.heap.size ≤ pb i ∧ w.heap.size ≤ cb i) ∧ Keeps (fun _ => False) w wr) (fun _ s58 _ => L - (intOf s58).toNat)
      case atStart => exact ⟨0, 0, _, _, by omega, rfl, rfl, Lib.hid rfl, D2.out, Lib.hid (fun i hi => by omega), Y2.out⟩
      case round =>
        obtain ⟨t, j, pb, cb, ht, rfl, rfl, hj, y1, hnew, y2⟩ := hrel
        have G := GB.out.keep y2 (fun f => f)
        have A := Lib.hid (And.intro y1 y2)
        clear y1 y2
        by_cases htL : t < L
        · have htL' : (t : Int) < (L : Int) := by omega
          have c0 := G.cell (HC.out t htL).1
          have c1 := G.cell (HC.out t htL).2
          have hgl := G.lt
          obtain ⟨gk, hgk⟩ : ∃ x, gCnt k1 k2 t = x := ⟨_, rfl⟩
          obtain ⟨gd, hgd⟩ : ∃ x, gDat sz t = x := ⟨_, rfl⟩
          rw [hgk] at c0
          rw [hgd] at c1
          have HJ := Lib.hid (show j + gk = gBase k1 nb (t + 1) ∧ j + gk ≤ nb ∧ ∀ i, i < gk → lenJ k1 sz (j + i) = gd from by
            rw [hj.out, ← hgk, ← hgd]; unfold gBase gCnt gDat lenJ
            have := HNBK.out
            have := HLL.out
            by_cases e0 : t = 0
            · subst e0
              refine ⟨by simp, by simp; omega, fun i hi => ?_⟩
              rw [if_pos rfl] at hi
              simp [hi]
            · obtain rfl : t = 1 := by omega
              refine ⟨by simp; omega, by simp; omega, fun i hi => ?_⟩
              simp)
          have hgd2 : gd ≤ 151 := by rw [← hgd]; unfold gDat; split <;> omega
          have hgk8 : gk ≤ 8 := by have := HJ.out; omega
          have hj8 : j ≤ 8 := by have := HJ.out; omega
          clear G hgk hgd hj
          obtain ⟨X, hX⟩ : ∃ X, wr.heap.size = X := ⟨_, rfl⟩
          have bx := Blk.new wr [.int .i64 (gk : Int), .int .i64 (gd : Int)] 217
          rw [hX] at bx
          have ST := Lib.hid (And.intro (A.out.1.keep ((Keeps.refl (fun _ => False) wr).alloc (.cells #[.int .i64 (gk : Int), .int .i64 (gd : Int)] 217)) (fun f => f) (fun _ _ => ⟨fun f => f, fun f => f⟩)) (And.intro bx (A.out.2.alloc (.cells #[.int .i64 (gk : Int), .int .i64 (gd : Int)] 217))))
          have hmX := Lib.hid (show m ≠ X from (show TypeAt _ m 320 from ⟨_, _, ST.out.1.top⟩).ne ST.out.2.1.typ (by decide))
          clear bx
          go_wp2_with fail
          clear hX c0 c1 hgl
          go_loopw [14, 17] (fun s14 s17 wr' => ∃ (i : Nat) (pb cb : Nat → Nat), i ≤ gk ∧ s17 = .int .i64 (i : Int) ∧ s14 = .int .i64 ((j + i : Nat) : Int) ∧ DBs wr' m nb (j + i) pb cb (fun j => lenJ k1 sz j + ec) (lenJ k1 sz) (fun _ _ => 0) ∧
            Hid (∀ q, q < j + i → w.heap.size ≤ pb q ∧ w.heap.size ≤ cb q) ∧ Blk wr' X [.int .i64 (gk : Int), .int .i64 (gd : Int)] 217 ∧ Keeps (fun _ => False) w wr') (fun _ s17 _ => gk - (intOf s17).toNat)
          case atStart => exact ⟨0, pb, cb, by omega, rfl, rfl, ST.out.1, hnew, ST.out.2⟩
          case round =>
            obtain ⟨i, pb, cb, hi, rfl, rfl, y1, hnew, y2, y3⟩ := hrel
            have A := Lib.hid (And.intro y1 (And.intro y2 y3))
            have b0 := y2.cell (i := 0) rfl
            have b1 := y2.cell (i := 1) rfl
            clear y1 y2 y3
            by_cases hik : i < gk
            · have hik' : (i : Int) < (gk : Int) := by omega
              go_wp2_with fail
              refine (getCount_ok (gk : Int) (gd : Int) _).mono ?_
              rintro e w3 ⟨rfl, hw3⟩
              have k3 : Keeps (fun _ => False) wr w3 := by rw [← hw3]; exact (Keeps.refl _ _).alloc _
              have A3 := Lib.hid (And.intro (A.out.1.keep k3 (fun f => f) (fun _ _ => ⟨fun f => f, fun f => f⟩)) (And.intro (A.out.2.1.keep k3 (fun f => f)) (A.out.2.2.trans k3)))
              have d0 := A3.out.2.1.cell (i := 0) rfl
              have d1 := A3.out.2.1.cell (i := 1) rfl
              clear hw3 k3 b0 b1
              go_wp2_with fail
              refine (getData_ok (gk : Int) (gd : Int) _).mono ?_
              rintro e w4 ⟨rfl, hw4⟩
              have k4 : Keeps (fun _ => False) w3 w4 := by rw [← hw4]; exact (Keeps.refl _ _).alloc _
              have A4 := Lib.hid (And.intro (A3.out.1.keep k4 (fun f => f) (fun _ _ => ⟨fun f => f, fun f => f⟩)) (And.intro (A3.out.2.1.keep k4 (fun f => f)) (A3.out.2.2.trans k4)))
              clear hw4 k4 d0 d1
              go_wp2_with fail
              refine (getEC_ok _ _ _ v (lvAt l) w4 (EC.out.keep A4.out.2.2 (fun f => f) (fun f => f))).mono ?_
              rw [HEC.out]
              rintro e w5 ⟨rfl, rfl⟩
              have hmk := make_rep (P := Tryz.prog) 35 5 (.int .u8 0) 1 Tryz.underlying35 info5 rfl (ec + gd) (by omega) (by omega) w4
              rw [show ((ec + gd : Nat) : Int) = (ec : Int) + (gd : Int) by omega] at hmk
              have hj1 : j + i < nb := by have := HJ.out.2.1; omega
              have hl1 := HJ.out.2.2 i hik
              have NX := Lib.hid (A4.out.1.add hj1 (ec + gd) (by show lenJ k1 sz (j + i) + ec = _; rw [hl1]; omega) gd hl1)
              have hmlt := A4.out.1.top.lt
              have top := A4.out.1.top.cellv (i := j + i) hj1 (v := .pointer none) (by simp)
              have topf := A4.out.1.top.free (j + i)
              clear hl1
              have hs4 : (w4.alloc (.cells (rep (ec + gd) (.int .u8 0)).toArray 5)).heap.size = w4.heap.size + 1 := by simp
              have HS4 := Lib.hid hs4
              clear hs4
              go_wp2_with fail
              refine (newDB_ok gd w4.heap.size (ec + gd) _ rfl _).mono ?_
              rintro e w5 ⟨rfl, hw5⟩
              rw [HS4.out]
              have k5 : Keeps (fun _ => False) w4 w5 := by rw [← hw5]; exact ((Keeps.refl _ _).alloc _).alloc _
              have nx := NX.out
              rw [hw5] at nx
              obtain ⟨q4, hq4⟩ : ∃ q, w4.heap.size = q := ⟨_, rfl⟩
              rw [hq4] at nx ⊢
              have hwq := A4.out.2.2.size
              rw [hq4] at hwq
              have top5 := (k5.cell (p := ⟨m, j + i, none⟩) hmlt (fun f => f)).trans top
              have topf5 := (k5.frozen (p := ⟨m, j + i, none⟩) hmlt (fun f => f)).trans topf
              have E := Lib.hid (And.intro nx (And.intro ((A4.out.2.1.keep k5 (fun f => f)).far (p := ⟨m, j + i, none⟩) (fun e => hmX.out e.symm) (.pointer (some ⟨q4 + 1, 0, none⟩))) ((A4.out.2.2.trans k5).setCell (p := ⟨m, j + i, none⟩) (Or.inr hwm.out) (.pointer (some ⟨q4 + 1, 0, none⟩)))))
              have hnew2 := Lib.hid (show ∀ q, q < j + (i + 1) → w.heap.size ≤ (if q = j + i then q4 + 1 else pb q) ∧ w.heap.size ≤ (if q = j + i then q4 else cb q) from fun q hq => by
                by_cases e : q = j + i
                · rw [if_pos e, if_pos e]; omega
                · rw [if_neg e, if_neg e]; exact hnew.out q (by omega))
              clear hw5 k5 nx hq4 top topf hmk NX HS4
              go_wp2
              go_roundw
              case rel => exact ⟨i + 1, _, _, by omega, by go_num, by go_num, E.out.1, hnew2, E.out.2⟩
              case measure => simp [intOf]; omega
            · have hik' : ¬ (i : Int) < (gk : Int) := by omega
              have hgj := Lib.hid (show j + i = gBase k1 nb (t + 1) from by rw [← HJ.out.1]; omega)
              go_wp2_with fail
              refine (getCount_ok (gk : Int) (gd : Int) _).mono ?_
              rintro e w3 ⟨rfl, hw3⟩
              have k3 : Keeps (fun _ => False) wr w3 := by rw [← hw3]; exact (Keeps.refl _ _).alloc _
              have A3 := Lib.hid (And.intro (A.out.1.keep k3 (fun f => f) (fun _ _ => ⟨fun f => f, fun f => f⟩)) (And.intro hnew (A.out.2.2.trans k3)))
              clear hw3 k3 b0 b1
              go_wp2
              go_roundw
              case rel => exact ⟨t + 1, j + i, _, _, by omega, by go_num, by go_num, hgj, A3.out⟩
              case measure => simp [intOf]; omega
        · have hgb : j = nb := by
            rw [hj.out]
            have := HNBK.out
            have := HLL.out
            unfold gBase
            by_cases e0 : t = 0
            · omega
            · rw [if_neg e0]; split <;> omega
          have htt : ¬ (t : Int) < (L : Int) := by omega
          clear hj
          subst hgb
          have hd0 := A.out.1.head 0 (by omega)
          have t0 := A.out.1.top.cellv (i := 0) (by omega) (v := .pointer (some ⟨pb 0, 0, none⟩)) (by simp; omega)
          have d1 := hd0.cell (i := 1) rfl
          have hl0 : lenJ k1 sz 0 = sz := by unfold lenJ; rw [if_pos (by omega)]
          rw [hl0] at d1
          clear hd0 hl0
          have hpbs := Lib.hid (fun (q : Nat) (hq : q < j) => (A.out.1.head q hq).cell (i := 1) rfl)
          have htops := Lib.hid (fun (q : Nat) (hq : q < j) => A.out.1.top.cellv (i := q) hq (v := .pointer (some ⟨pb q, 0, none⟩)) (by simp [hq]))
          go_wp2_with fail
          go_loopw [21, 22] (fun s21 _ wr' => ∃ q : Nat, k1 ≤ q + 1 ∧ q < j ∧ s21 = .int .i64 (q : Int) ∧ wr = wr') (fun s21 _ _ => (intOf s21).toNat)
          case atStart => exact ⟨j - 1, by have := HNBK.out; omega, by omega, by go_num, rfl⟩
          case round =>
            obtain ⟨q, hq1, hq2, rfl, rfl⟩ := hrel
            obtain ⟨w0, rfl⟩ : ∃ w0, w0 = wr := ⟨wr, rfl⟩
            have c0 := htops.out q hq2
            have c1 := hpbs.out q hq2
            by_cases hqk : q < k1
            · have hl0 : lenJ k1 sz q = sz := by unfold lenJ; rw [if_pos hqk]
              rw [hl0] at c1
              have hqe : (q : Int) + 1 = (k1 : Int) := by omega
              have hss : (sz : Int) + (ec : Int) - (ec : Int) = (sz : Int) := by omega
              clear hl0
              go_wp2_with fail
              refine (getEC_ok _ _ _ v (lvAt l) w0 (EC.out.keep A.out.2 (fun f => f) (fun f => f))).mono ?_
              rw [HEC.out]
              rintro e w5 ⟨rfl, rfl⟩
              have HTT := Lib.hid (show T = sz * j + k2 + ec * j from by rw [HS.out.ht, Nat.add_mul]; omega)
              have HNW := Lib.hid (show ∀ q, q < j → w.heap.size ≤ cb q from fun q hq => (hnew.out q hq).2)
              have ST := Lib.hid (show DBs w0 m j j pb cb (fun j => lenJ k1 sz j + ec) (lenJ k1 sz) (_root_.QR.fillF raw j k1 k2 sz 0) from A.out.1.congr (fun a p _ _ => (_root_.QR.fill_zero raw j k1 k2 sz a p).symm))
              have hRw := HRAW.out.1.lt
              have RW := Lib.hid (And.intro (HRAW.out.1.keep A.out.2 (fun f => f)) hRw)
              have FREE := Lib.hid (show ∀ (S : World), Keeps (inC cb j) w0 S → Keeps (fun _ => False) w S from fun S hS => A.out.2.step hS (fun i hi ⟨q, hq, e⟩ => by have := HNW.out q hq; omega))
              clear hRw t0 d1 c0 c1
              go_wp2_with fail
              go_loopw [24, 25, 26] (fun s24 s25 _ wr' => ∃ i q : Nat, i ≤ sz ∧ s25 = .int .i64 (i : Int) ∧ s24 = .int .i64 (q : Int) ∧ Hid (q = i * j) ∧ DBs wr' m j j pb cb (fun j => lenJ k1 sz j + ec) (lenJ k1 sz) (_root_.QR.fillF raw j k1 k2 sz q) ∧ Keeps (inC cb j) w0 wr') (fun _ s25 _ _ => sz - (intOf s25).toNat)
              case atStart => exact ⟨0, 0, by omega, rfl, rfl, Lib.hid (by simp), ST.out, Keeps.refl _ _⟩
              case round =>
                obtain ⟨i, q0, hi, rfl, rfl, hq0, y1, y2⟩ := hrel
                have B := Lib.hid (And.intro y1 y2)
                clear y1 y2
                by_cases his : i < sz
                · have his' : (i : Int) < (sz : Int) := by omega
                  go_wp2_with fail
                  go_loopw [24, 26] (fun s24 s26 wr' => ∃ a q : Nat, a ≤ j ∧ s26 = .int .i64 (a : Int) ∧ s24 = .int .i64 (q : Int) ∧ Hid (q = i * j + a) ∧ DBs wr' m j j pb cb (fun j => lenJ k1 sz j + ec) (lenJ k1 sz) (_root_.QR.fillF raw j k1 k2 sz q) ∧ Keeps (inC cb j) w0 wr') (fun _ s26 _ => j - (intOf s26).toNat)
                  case atStart => exact ⟨0, q0, by omega, rfl, rfl, Lib.hid (by rw [hq0.out]; rfl), B.out⟩
                  case round =>
                    obtain ⟨a, q, ha, rfl, rfl, hq, y1, y2⟩ := hrel
                    have haj : a < j ∨ a = j := by omega
                    rcases haj with haj | haj
                    · have haj' : (a : Int) < (j : Int) := by omega
                      have hrk : _root_.QR.rk j k1 k2 sz a i = q := by rw [_root_.QR.rk_a his, hq.out]
                      have hqT : q < T := by
                        rw [← hrk, HTT.out]
                        exact _root_.QR.rk_lt haj HNBK.out (by split <;> omega)
                      have hil : i < lenJ k1 sz a + ec := by have := (lenJ_le k1 sz a).2; omega
                      have c0 := y1.top.cellv (i := a) haj (v := .pointer (some ⟨pb a, 0, none⟩)) (by simp [haj])
                      have c1 := (y1.head a haj).cell (i := 1) rfl
                      have c2 := (keep_row RW.out.1 y2 RW.out.2 HNW.out).cell (i := q) (v := .int .u8 ((raw.getD q 0 : Nat) : Int)) (by have := HRAW.out.2.1; simp [List.getD, vu8, show q < raw.length by omega])
                      have c3 := (y1.row a haj).cell (i := i) hil
                      have c4 := (y1.row a haj).free i
                      have N := Lib.hid (fun n => And.intro ((y1.drewN n).set (p := i) (v := raw.getD q 0) haj (fun j' p' hj' => _root_.QR.fill_step haj HNBK.out hrk j' p' hj')) ((y2.drewN n).setCell (p := ⟨cb a, i, none⟩) (Or.inl ⟨a, haj, rfl⟩) (.int .u8 ((raw.getD q 0 : Nat) : Int))))
                      obtain ⟨x, hx⟩ : ∃ x, raw.getD q 0 = x := ⟨_, rfl⟩
                      rw [hx] at c2
                      simp only [hx] at N
                      obtain ⟨u, hu⟩ : ∃ u, _root_.QR.fillF raw j k1 k2 sz q a i = u := ⟨_, rfl⟩
                      rw [hu] at c3
                      unfold vu8 at c3
                      obtain ⟨ln, hln⟩ : ∃ ln, lenJ k1 sz a + ec = ln := ⟨_, rfl⟩
                      have hiln' : (i : Int) < (ln : Int) := by omega
                      have hqT' : (q : Int) < (T : Int) := by omega
                      simp only [hln] at c1
                      have hq2 := Lib.hid (show q + 1 = i * j + (a + 1) from by rw [hq.out]; omega)
                      clear hx hu hln hil hrk y1 y2 hq
                      go_wp2_with fail
                      refine wp_region_quiet_tail 13 (by kernel_rfl) (by kernel_rfl) ?_
                      simp only [List.take_succ_cons, List.take_zero, List.drop_succ_cons, List.drop_zero]
                      repeat (quiet_step (fail))
                      refine wpQuiet_nil ?_
                      intro _ hw'
                      obtain ⟨nq, hw''⟩ := hw'
                      subst hw''
                      go_wp2
                      go_roundw
                      case rel => exact ⟨a + 1, q + 1, by omega, by go_num, by go_num, hq2, N.out nq⟩
                      case measure => simp [intOf]; omega
                    · have hq2 := Lib.hid (show q = (i + 1) * j from by rw [hq.out, haj, Nat.add_mul]; omega)
                      have haj' : ¬ (a : Int) < (j : Int) := by omega
                      have B2 := Lib.hid (And.intro y1 y2)
                      clear y1 y2 hq
                      go_wp2
                      go_roundw
                      case rel => exact ⟨i + 1, q, by omega, by go_num, rfl, hq2, B2.out⟩
                      case measure => simp [intOf]; omega
                · have his' : ¬ (i : Int) < (sz : Int) := by omega
                  have hq0' := Lib.hid (show q0 = sz * j + (k1 - k1) from by rw [hq0.out, show i = sz by omega]; omega)
                  clear hq0
                  go_wp2_with fail
                  go_loopw [24, 27] (fun s24 s27 wr' => ∃ a q : Nat, k1 ≤ a ∧ a ≤ j ∧ s27 = .int .i64 (a : Int) ∧ s24 = .int .i64 (q : Int) ∧ Hid (q = sz * j + (a - k1)) ∧ DBs wr' m j j pb cb (fun j => lenJ k1 sz j + ec) (lenJ k1 sz) (_root_.QR.fillF raw j k1 k2 sz q) ∧ Keeps (inC cb j) w0 wr') (fun _ s27 _ => j - (intOf s27).toNat)
                  case atStart => exact ⟨k1, q0, by omega, by have := HNBK.out; omega, rfl, rfl, hq0', B.out⟩
                  case round =>
                    obtain ⟨a, q, ha1, ha, rfl, rfl, hq, y1, y2⟩ := hrel
                    have haj : a < j ∨ a = j := by omega
                    rcases haj with haj | haj
                    · have haj' : (a : Int) < (j : Int) := by omega
                      have hrk : _root_.QR.rk j k1 k2 sz a sz = q := by rw [_root_.QR.rk_b ha1, hq.out]
                      have hqT : q < T := by
                        rw [← hrk, HTT.out]
                        exact _root_.QR.rk_lt haj HNBK.out (by split <;> omega)
                      have hil : sz < lenJ k1 sz a + ec := by have := (lenJ_le k1 sz a).2; omega
                      have c0 := y1.top.cellv (i := a) haj (v := .pointer (some ⟨pb a, 0, none⟩)) (by simp [haj])
                      have c1 := (y1.head a haj).cell (i := 1) rfl
                      have c2 := (keep_row RW.out.1 y2 RW.out.2 HNW.out).cell (i := q) (v := .int .u8 ((raw.getD q 0 : Nat) : Int)) (by have := HRAW.out.2.1; simp [List.getD, vu8, show q < raw.length by omega])
                      have c3 := (y1.row a haj).cell (i := sz) hil
                      have c4 := (y1.row a haj).free sz
                      have N := Lib.hid (fun n => And.intro ((y1.drewN n).set (p := sz) (v := raw.getD q 0) haj (fun j' p' hj' => _root_.QR.fill_step haj HNBK.out hrk j' p' hj')) ((y2.drewN n).setCell (p := ⟨cb a, sz, none⟩) (Or.inl ⟨a, haj, rfl⟩) (.int .u8 ((raw.getD q 0 : Nat) : Int))))
                      obtain ⟨x, hx⟩ : ∃ x, raw.getD q 0 = x := ⟨_, rfl⟩
                      rw [hx] at c2
                      simp only [hx] at N
                      obtain ⟨u, hu⟩ : ∃ u, _root_.QR.fillF raw j k1 k2 sz q a sz = u := ⟨_, rfl⟩
                      rw [hu] at c3
                      unfold vu8 at c3
                      obtain ⟨ln, hln⟩ : ∃ ln, lenJ k1 sz a + ec = ln := ⟨_, rfl⟩
                      have hiln' : (sz : Int) < (ln : Int) := by omega
                      have hqT' : (q : Int) < (T : Int) := by omega
                      simp only [hln] at c1
                      have hq2 := Lib.hid (show q + 1 = sz * j + ((a + 1) - k1) from by rw [hq.out]; omega)
                      clear hx hu hln hil hrk y1 y2 hq
                      go_wp2_with fail
                      refine wp_region_quiet_tail 13 (by kernel_rfl) (by kernel_rfl) ?_
                      simp only [List.take_succ_cons, List.take_zero, List.drop_succ_cons, List.drop_zero]
                      repeat (quiet_step (fail))
                      refine wpQuiet_nil ?_
                      intro _ hw'
                      obtain ⟨nq, hw''⟩ := hw'
                      subst hw''
                      go_wp2
                      go_roundw
                      case rel => exact ⟨a + 1, q + 1, by omega, by omega, by go_num, by go_num, hq2, N.out nq⟩
                      case measure => simp [intOf]; omega
                    · have haj' : ¬ (a : Int) < (j : Int) := by omega
                      have hq2 := Lib.hid (show q = sz * j + k2 + (sz - sz) * j from by rw [hq.out, haj, Nat.sub_self, Nat.zero_mul]; have := HNBK.out; omega)
                      have B2 := Lib.hid (And.intro y1 y2)
                      have t0 := y1.top.cellv (i := 0) (by omega) (v := .pointer (some ⟨pb 0, 0, none⟩)) (by simp; omega)
                      have d1 := (y1.head 0 (by omega)).cell (i := 1) rfl
                      have hl0 : lenJ k1 sz 0 = sz := by unfold lenJ; rw [if_pos (by omega)]
                      rw [hl0] at d1
                      clear y1 y2 hq hl0
                      go_wp2_with fail
                      clear t0 d1
                      go_loopw [24, 29, 30, 31] (fun s24 s29 _ _ wr' => ∃ i q : Nat, sz ≤ i ∧ i ≤ sz + ec ∧ s29 = .int .i64 (i : Int) ∧ s24 = .int .i64 (q : Int) ∧ Hid (q = sz * j + k2 + (i - sz) * j) ∧ DBs wr' m j j pb cb (fun j => lenJ k1 sz j + ec) (lenJ k1 sz) (_root_.QR.fillF raw j k1 k2 sz q) ∧ Keeps (inC cb j) w0 wr') (fun _ s29 _ _ _ => sz + ec - (intOf s29).toNat)
                      case atStart => exact ⟨sz, q, by omega, by omega, rfl, rfl, hq2, B2.out⟩
                      case round =>
                        obtain ⟨i, q0, hi1, hi, rfl, rfl, hq0, y1, y2⟩ := hrel
                        have B := Lib.hid (And.intro y1 y2)
                        clear y1 y2
                        by_cases his : i < sz + ec
                        · have his' : (i : Int) < (sz : Int) + (ec : Int) := by omega
                          go_wp2_with fail
                          go_loopw [24, 30, 31] (fun s24 s30 _ wr' => ∃ a q : Nat, a ≤ j ∧ s30 = .int .i64 (a : Int) ∧ s24 = .int .i64 (q : Int) ∧ Hid (q = sz * j + k2 + (i - sz) * j + a) ∧ DBs wr' m j j pb cb (fun j => lenJ k1 sz j + ec) (lenJ k1 sz) (_root_.QR.fillF raw j k1 k2 sz q) ∧ Keeps (inC cb j) w0 wr') (fun _ s30 _ _ => j - (intOf s30).toNat)
                          case atStart => exact ⟨0, q0, by omega, rfl, rfl, Lib.hid (by rw [hq0.out]; rfl), B.out⟩
                          case round =>
                            obtain ⟨a, q, ha, rfl, rfl, hq, y1, y2⟩ := hrel
                            have haj : a < j ∨ a = j := by omega
                            rcases haj with haj | haj
                            · have haj' : (a : Int) < (j : Int) := by omega
                              obtain ⟨pp, hpp⟩ : ∃ pp, (if a < k1 then i else i + 1) = pp := ⟨_, rfl⟩
                              have hrk : _root_.QR.rk j k1 k2 sz a pp = q := by rw [← hpp, _root_.QR.rk_c hi1, hq.out]
                              have hlen2 : lenJ k1 sz a = if a < k1 then sz else sz + 1 := rfl
                              have hil : pp < lenJ k1 sz a + ec := by rw [hlen2, ← hpp]; split <;> omega
                              have hqT : q < T := by
                                rw [← hrk, HTT.out]
                                exact _root_.QR.rk_lt haj HNBK.out hil
                              have HPP := Lib.hid (show (a < k1 ∧ pp = i) ∨ (k1 ≤ a ∧ pp = i + 1) from by
                                by_cases e : a < k1
                                · left; rw [if_pos e] at hpp; exact ⟨e, hpp.symm⟩
                                · right; rw [if_neg e] at hpp; exact ⟨by omega, hpp.symm⟩)
                              have c0 := y1.top.cellv (i := a) haj (v := .pointer (some ⟨pb a, 0, none⟩)) (by simp [haj])
                              have c1 := (y1.head a haj).cell (i := 1) rfl
                              have c2 := (keep_row RW.out.1 y2 RW.out.2 HNW.out).cell (i := q) (v := .int .u8 ((raw.getD q 0 : Nat) : Int)) (by have := HRAW.out.2.1; simp [List.getD, vu8, show q < raw.length by omega])
                              have c3 := (y1.row a haj).cell (i := pp) hil
                              have c4 := (y1.row a haj).free pp
                              have N := Lib.hid (fun n => And.intro ((y1.drewN n).set (p := pp) (v := raw.getD q 0) haj (fun j' p' hj' => _root_.QR.fill_step haj HNBK.out hrk j' p' hj')) ((y2.drewN n).setCell (p := ⟨cb a, pp, none⟩) (Or.inl ⟨a, haj, rfl⟩) (.int .u8 ((raw.getD q 0 : Nat) : Int))))
                              obtain ⟨x, hx⟩ : ∃ x, raw.getD q 0 = x := ⟨_, rfl⟩
                              rw [hx] at c2
                              simp only [hx] at N
                              obtain ⟨u, hu⟩ : ∃ u, _root_.QR.fillF raw j k1 k2 sz q a pp = u := ⟨_, rfl⟩
                              rw [hu] at c3
                              unfold vu8 at c3
                              obtain ⟨ln, hln⟩ : ∃ ln, lenJ k1 sz a + ec = ln := ⟨_, rfl⟩
                              have hiln' : (pp : Int) < (ln : Int) := by omega
                              have hqT' : (q : Int) < (T : Int) := by omega
                              simp only [hln] at c1
                              have hq2 := Lib.hid (show q + 1 = sz * j + k2 + (i - sz) * j + (a + 1) from by rw [hq.out]; omega)
                              clear hx hu hln hil hrk y1 y2 hq hpp hlen2
                              go_upto_if 182 with fail
                              go_cut [31] from 174 to 199 (fun s31 wx => s31 = .int .i64 (pp : Int) ∧ wr = wx)
                              case first =>
                                rcases HPP.out with ⟨e1, e2⟩ | ⟨e1, e2⟩
                                · have e1' : ¬ (k1 : Int) ≤ (a : Int) := by omega
                                  have e2 := Lib.hid e2
                                  go_wp2_with fail
                                  go_meet
                                  exact ⟨by rw [e2.out], rfl⟩
                                · have e1' : (k1 : Int) ≤ (a : Int) := by omega
                                  have e2 := Lib.hid e2
                                  go_wp2_with fail
                                  go_meet
                                  exact ⟨by rw [e2.out]; congr 1, rfl⟩
                              case rest =>
                                obtain ⟨rfl, rfl⟩ := hcut
                                go_wp2_with fail
                                refine wp_region_quiet_tail 13 (by kernel_rfl) (by kernel_rfl) ?_
                                simp only [List.take_succ_cons, List.take_zero, List.drop_succ_cons, List.drop_zero]
                                repeat (quiet_step (fail))
                                refine wpQuiet_nil ?_
                                intro _ hw'
                                obtain ⟨nq, hw''⟩ := hw'
                                subst hw''
                                go_wp2
                                go_roundw
                                case rel => exact ⟨a + 1, q + 1, by omega, by go_num, by go_num, hq2, N.out nq⟩
                                case measure => simp [intOf]; omega
                            · have hq2 := Lib.hid (show q = sz * j + k2 + (i + 1 - sz) * j from by rw [hq.out, haj, show i + 1 - sz = (i - sz) + 1 by omega, Nat.add_mul]; omega)
                              have haj' : ¬ (a : Int) < (j : Int) := by omega
                              have B2 := Lib.hid (And.intro y1 y2)
                              clear y1 y2 hq
                              go_wp2
                              go_roundw
                              case rel => exact ⟨i + 1, q, by omega, by omega, by go_num, rfl, hq2, B2.out⟩
                              case measure => simp [intOf]; omega
                        · have his' : ¬ (i : Int) < (sz : Int) + (ec : Int) := by omega
                          have hqE := Lib.hid (show q0 = sz * j + k2 + ec * j from by rw [hq0.out, show i - sz = ec by omega])
                          clear hq0
                          go_wp2
                          go_ret2
                          refine ⟨m, rfl, pb, cb, B.out.1.congr (fun a p ha hp => ?_), FREE.out _ B.out.2, hwm.out, fun a ha => hnew.out a ha⟩
                          rw [hqE.out]
                          exact _root_.QR.fill_all ha HNBK.out hp
            · have hl0 : lenJ k1 sz q = sz + 1 := by unfold lenJ; rw [if_neg hqk]
              rw [hl0] at c1
              have hne : ((sz : Int) + 1 + (ec : Int) == (sz : Int) + (ec : Int)) = false := beq_eq_false_iff_ne.2 (by omega)
              have hq10 : 1 ≤ q := by omega
              clear hl0
              go_wp2
              go_roundw
              case rel => exact ⟨q - 1, by omega, by omega, by go_num, trivial⟩
              case measure => simp [intOf]; omega

end Go.Proofs.YtplpafbkalkchaaGreatDoor
