/-
  Parts of the proof (RS4).
-/
import Derived.Test.YtplpafbkalkchaaGreatDoorM07
import Derived.LaidEqlPtr
set_option linter.unusedSimpArgs false
set_option linter.unusedVariables false

namespace Go.Proofs.YtplpafbkalkchaaGreatDoor
open Go.RowKit

namespace QR
open _root_.QR
/-- The sum of two polynomials, the first one no longer than the second one. -/
def xorAlign (s l : List Nat) : List Nat := l.take (l.length - s.length) ++ List.zipWith (· ^^^ ·) s (l.drop (l.length - s.length))
theorem xorAlign_length {s l : List Nat} (h : s.length ≤ l.length) : (xorAlign s l).length = l.length := by
  simp [xorAlign]; omega
theorem zip_bytes : ∀ {s l : List Nat}, Bytes s → Bytes l → Bytes (List.zipWith (· ^^^ ·) s l)
  | [], _, _, _ => by intro c hc; simp at hc
  | _ :: _, [], _, _ => by intro c hc; simp at hc
  | a :: s, b :: l, hs, hl => by
    intro c hc
    simp only [List.zipWith_cons_cons, List.mem_cons] at hc
    rcases hc with rfl | hc
    · exact xor_lt hs.head hl.head
    · exact zip_bytes hs.tail hl.tail c hc
theorem xorAlign_bytes {s l : List Nat} (hs : Bytes s) (hl : Bytes l) : Bytes (xorAlign s l) := by
  intro c hc
  rcases List.mem_append.1 hc with h | h
  · exact hl c ((List.take_sublist _ _).subset h)
  · exact zip_bytes hs (fun c hc => hl c ((List.drop_sublist _ _).subset hc)) c h
theorem xorAlign_get {s l : List Nat} (h : s.length ≤ l.length) {j : Nat} (hj : j < l.length) :
    (xorAlign s l).getD j 0 = if j < l.length - s.length then l.getD j 0 else s.getD (j - (l.length - s.length)) 0 ^^^ l.getD j 0 := by
  unfold xorAlign
  simp only [List.getD, List.getElem?_append, List.length_take]
  have e : min (l.length - s.length) l.length = l.length - s.length := by omega
  rw [e]
  by_cases h1 : j < l.length - s.length
  · rw [if_pos h1, if_pos h1, List.getElem?_take, if_pos h1]
  · rw [if_neg h1, if_neg h1, List.getElem?_zipWith, List.getElem?_drop, show l.length - s.length + (j - (l.length - s.length)) = j by omega]
    have h2 : j - (l.length - s.length) < s.length := by omega
    rw [List.getElem?_eq_getElem h2, List.getElem?_eq_getElem hj]; rfl
theorem eval_xorAlign {x : Nat} (hx : x < 256) {s l : List Nat} (h : s.length ≤ l.length) (hs : Bytes s) (hl : Bytes l) : eval x (xorAlign s l) = eval x s ^^^ eval x l := by
  have hl1 : Bytes (l.take (l.length - s.length)) := fun c hc => hl c ((List.take_sublist _ _).subset hc)
  have hl2 : Bytes (l.drop (l.length - s.length)) := fun c hc => hl c ((List.drop_sublist _ _).subset hc)
  have e1 : eval x l = powM x (l.drop (l.length - s.length)).length (eval x (l.take (l.length - s.length))) ^^^ eval x (l.drop (l.length - s.length)) := by
    rw [← eval_append hx _ _ hl1 hl2, List.take_append_drop]
  unfold xorAlign
  rw [eval_append hx _ _ hl1 (zip_bytes hs hl2), e1]
  have e2 := eval_zip hx s (l.drop (l.length - s.length)) 0 0 (by simp; omega) hs hl2 (by omega) (by omega)
  rw [Nat.xor_zero] at e2
  have e3 : eval x (List.zipWith (· ^^^ ·) s (l.drop (l.length - s.length))) = eval x s ^^^ eval x (l.drop (l.length - s.length)) := e2
  rw [e3]
  have e4 : (List.zipWith (· ^^^ ·) s (l.drop (l.length - s.length))).length = (l.drop (l.length - s.length)).length := by simp; omega
  rw [e4, ← Nat.xor_assoc, ← Nat.xor_assoc, Nat.xor_comm _ (eval x s)]

/-- The sum of two polynomials, as the code forms it. -/
def addP (a b : List Nat) : List Nat :=
  if a.getD 0 0 = 0 then b else if b.getD 0 0 = 0 then a else if b.length < a.length then strip (xorAlign b a) else strip (xorAlign a b)
theorem nrm_zero {a : List Nat} (h : Nrm a) (h0 : a.getD 0 0 = 0) : a = [0] := by
  obtain ⟨h1, h2⟩ := h
  rcases h2 with h2 | h2
  · obtain ⟨x, rfl⟩ := List.length_eq_one_iff.1 h2
    simp at h0; rw [h0]
  · exact absurd h0 h2
theorem addP_nrm {a b : List Nat} (ha : Nrm a) (hb : Nrm b) : Nrm (addP a b) := by
  unfold addP
  split
  · exact hb
  · split
    · exact ha
    · split
      · exact strip_nrm _
      · exact strip_nrm _
theorem addP_bytes {a b : List Nat} (ha : Bytes a) (hb : Bytes b) : Bytes (addP a b) := by
  unfold addP
  split
  · exact hb
  · split
    · exact ha
    · split
      · exact strip_bytes (xorAlign_bytes hb ha)
      · exact strip_bytes (xorAlign_bytes ha hb)
theorem eval_addP {x : Nat} (hx : x < 256) {a b : List Nat} (hna : Nrm a) (hnb : Nrm b) (ha : Bytes a) (hb : Bytes b) : eval x (addP a b) = eval x a ^^^ eval x b := by
  have hz : eval x [0] = 0 := by simp [eval, evalF, gmul_zero]
  unfold addP
  split
  · next h => rw [nrm_zero hna h, hz, Nat.zero_xor]
  · split
    · next h => rw [nrm_zero hnb h, hz, Nat.xor_zero]
    · split
      · rw [eval_strip, eval_xorAlign hx (by omega) hb ha, Nat.xor_comm]
      · rw [eval_strip, eval_xorAlign hx (by omega) ha hb]
theorem strip_short {l : List Nat} (h0 : l.getD 0 0 = 0) (h1 : 1 < l.length) : (strip l).length < l.length := by
  cases l with
  | nil => simp at h1
  | cons a l =>
    have ha : a = 0 := by simpa using h0
    subst ha
    have e : strip (0 :: l) = strip l := by simp [strip, List.dropWhile_cons]
    rw [e]
    have := strip_length l
    simp at h1 ⊢
    omega
/-- The sum of two as long ones with one head is shorter. -/
theorem addP_short {a b : List Nat} (hl : a.length = b.length) (h1 : 1 < a.length) (hh : a.getD 0 0 = b.getD 0 0) (h0 : a.getD 0 0 ≠ 0) : (addP a b).length < a.length := by
  unfold addP
  rw [if_neg h0, if_neg (by rw [← hh]; exact h0), if_neg (by omega)]
  have h2 : (xorAlign a b).getD 0 0 = 0 := by
    rw [xorAlign_get (by omega) (by omega), if_neg (by omega), show 0 - (b.length - a.length) = 0 by omega, hh, Nat.xor_self]
  have h3 := strip_short h2 (by rw [xorAlign_length (by omega)]; omega)
  rw [xorAlign_length (by omega)] at h3
  omega
theorem addP_length {a b : List Nat} (ha : 0 < a.length) (hb : 0 < b.length) : (addP a b).length ≤ max a.length b.length := by
  unfold addP
  split
  · omega
  · split
    · omega
    · split
      · have := strip_length (xorAlign b a); rw [xorAlign_length (by omega)] at this; omega
      · have := strip_length (xorAlign a b); rw [xorAlign_length (by omega)] at this; omega
end QR

/-- '!=' on one pointer. -/
theorem neq_ptr {P : Program} {tp te : TypeId} {j : TypeInfo} (a : Addr) (hp : P.underlying tp = some (.pointer te)) (hte : P.info? te = some j) (w : World) :
    (binOp .neq tp (.pointer (some a)) (.pointer (some a))).run P w = .ok (.bool false) w := by
  have h : ∀ d : Nat, (Op.equalIn (d + 1) tp (.pointer (some a)) (.pointer (some a))).run P w = .ok true w := fun d => by
    simp [Op.equalIn, run_underlying hp, sizeOf, typeInfo, hte, run_sameAddr_same]
  simp only [binOp]
  simp [Op.equal, Op.maxDepth, h 9999]
theorem info267 : ∃ j, Tryz.prog.info? 267 = some j := Option.isSome_iff_exists.1 (by kernel_rfl)
theorem neq177 (a : Addr) (w : World) : (binOp .neq 177 (.pointer (some a)) (.pointer (some a))).run Tryz.prog w = .ok (.bool false) w := by
  obtain ⟨j, hj⟩ := info267
  exact neq_ptr a Tryz.underlying177 hj w

set_option maxRecDepth 100000 in
set_option maxHeartbeats 800000 in
theorem polyAdd_ok (p q g : Nat) (a b : List Nat) (w : World) (hp : Poly w p g a) (hq : Poly w q g b) (hla : a.length ≤ 10000) (hlb : b.length ≤ 10000) :
    Calls Tryz.prog 218 #[.pointer (some ⟨p, 0, none⟩), .pointer (some ⟨q, 0, none⟩)] w fun e w' => ∃ r, e = .returned (.tuple #[.pointer (some ⟨r, 0, none⟩), .nilIface]) ∧ Poly w' r g (QR.addP a b) ∧ Keeps (fun _ => False) w w' := by
  obtain ⟨⟨ca, oa, ka, p1, hca, hka⟩, na, ba⟩ := id hp
  obtain ⟨⟨cb, ob, kb, q1, hcb, hkb⟩, nb, bb⟩ := id hq
  have e0 := p1.cell (i := 0) rfl
  have e1 := p1.cell (i := 1) rfl
  have e2 := q1.cell (i := 0) rfl
  have e3 := q1.cell (i := 1) rfl
  have HP := Lib.hid hp
  have HQ := Lib.hid hq
  have hpa := hp.pos
  have hpb := hq.pos
  have HPL := Lib.hid p1.lt
  have HE0 := Lib.hid e0
  clear p1 q1 hp hq
  have hne := neq177 ⟨g, 0, none⟩
  go_enter Tryz.func218, Tryz.ntmps218
  go_wp2_with fail
  go_region
  by_cases ha0 : a.getD 0 0 = 0
  · have z1 : (a.getD 0 0 == 0) = true := by rw [ha0]; rfl
    have hadd : QR.addP a b = b := by unfold QR.addP; rw [if_pos ha0]
    have HA := Lib.hid hadd
    have Z := Lib.hid z1
    clear hca hcb hadd z1 ha0 e1 e3
    go_wp2_with fail
    refine (polyIsZero_ok p g a _ HP.out.drew).mono ?_
    rw [Z.out]
    rintro e w1 ⟨rfl, rfl⟩
    go_wp2
    go_ret2
    rw [HA.out]
    exact ⟨q, rfl, HQ.out.drew, (Keeps.refl _ w).drew⟩
  by_cases hb0 : b.getD 0 0 = 0
  · have z1 : (a.getD 0 0 == 0) = false := by simpa using ha0
    have z2 : (b.getD 0 0 == 0) = true := by rw [hb0]; rfl
    have hadd : QR.addP a b = a := by unfold QR.addP; rw [if_neg ha0, if_pos hb0]
    have HA := Lib.hid hadd
    have Z := Lib.hid z1
    have Z2 := Lib.hid z2
    clear hca hcb hadd z1 z2 ha0 hb0 e1 e3
    go_wp2_with fail
    refine (polyIsZero_ok p g a _ HP.out.drew).mono ?_
    rw [Z.out]
    rintro e w1 ⟨rfl, rfl⟩
    go_wp2_with fail
    refine (polyIsZero_ok q g b _ HQ.out.drew).mono ?_
    rw [Z2.out]
    rintro e w1 ⟨rfl, rfl⟩
    go_wp2
    go_ret2
    rw [HA.out]
    exact ⟨p, rfl, HP.out.drew, (Keeps.refl _ w).drew⟩
  have Z := Lib.hid (show (a.getD 0 0 == 0) = false by simpa using ha0)
  have Z2 := Lib.hid (show (b.getD 0 0 == 0) = false by simpa using hb0)
  by_cases hgt : b.length < a.length
  · have hadd : QR.addP a b = QR.strip (QR.xorAlign b a) := by unfold QR.addP; rw [if_neg ha0, if_neg hb0, if_pos hgt]
    have HA := Lib.hid hadd
    clear hadd ha0 hb0
    go_wp2_with fail
    refine (polyIsZero_ok p g a _ HP.out.drew).mono ?_
    rw [Z.out]
    rintro e w1 ⟨rfl, rfl⟩
    go_wp2_with fail
    refine (polyIsZero_ok q g b _ HQ.out.drew).mono ?_
    rw [Z2.out]
    rintro e w1 ⟨rfl, rfl⟩

    have hmk2 : (Instr.makeSlice 157 (.int .i64 (a.length : Int)) (.int .i64 (a.length : Int))).run Tryz.prog w.drew = .ok (.slice (some ⟨w.heap.size, 0, none⟩) a.length a.length) (w.drew.alloc (.cells (rep a.length (.int .i64 0)).toArray 3)) :=
      make_rep (P := Tryz.prog) 157 3 (.int .i64 0) 8 Tryz.underlying157 info3 rfl a.length (by omega) (by omega) w.drew
    have hnew : Blk (w.alloc (.cells (rep a.length (.int .i64 0)).toArray 3)).drew w.heap.size (rep a.length (.int .i64 0)) 3 := (Blk.new w (rep a.length (.int .i64 0)) 3).drew
    have hcl : Cof (w.alloc (.cells (rep a.length (.int .i64 0)).toArray 3)).drew ca oa a := (hca.alloc _).keep ((Keeps.refl (fun _ => False) _).drew) (fun h => h)
    have hcp := copy_blk (P := Tryz.prog) _ 157 157 3 3 Tryz.underlying157 (by kernel_rfl) w.heap.size 0 a.length a.length ca oa (a.length - b.length) ka _ _ hnew ((a.take (a.length - b.length)).map vi) (by simp)
      (fun j v hj => by
        have hj2 : j < a.length - b.length := by
          have := (List.getElem?_eq_some_iff.1 hj).1; simp at this; omega
        have hc := hcl.cell (i := j) (by omega)
        rw [hc, ← hj]
        have hj3 : j < a.length := by omega
        simp [vi, List.getElem?_take, hj2, hj3]) (by rw [rep_length]; simp) (by intro v hv; obtain ⟨x, _, rfl⟩ := List.mem_map.1 hv; rfl)
    have hll : ((a.take (a.length - b.length)).map vi).length = a.length - b.length := by simp
    rw [hll] at hcp
    have hrow := hnew.setRow ((rep a.length (.int .i64 0)).take 0 ++ (a.take (a.length - b.length)).map vi ++ (rep a.length (.int .i64 0)).drop (0 + (a.length - b.length)))
    have hkk : Keeps (fun _ => False) w ((w.alloc (.cells (rep a.length (.int .i64 0)).toArray 3)).drew.setRow w.heap.size ((rep a.length (.int .i64 0)).take 0 ++ (a.take (a.length - b.length)).map vi ++ (rep a.length (.int .i64 0)).drop (0 + (a.length - b.length))).toArray) :=
      (((Keeps.refl _ w).alloc _).drew).setRow (Or.inr (Nat.le_refl _)) _
    generalize (w.alloc (.cells (rep a.length (.int .i64 0)).toArray 3)).drew.setRow w.heap.size ((rep a.length (.int .i64 0)).take 0 ++ (a.take (a.length - b.length)).map vi ++ (rep a.length (.int .i64 0)).drop (0 + (a.length - b.length))).toArray = W2 at *
    have hfb : FB W2 w.heap.size a.length (fun j => vi (if j < a.length - b.length then a.getD j 0 else if j < a.length - b.length then b.getD (j - (a.length - b.length)) 0 ^^^ a.getD j 0 else 0)) 3 := by
      have e : (rep a.length (Value.int .i64 0)).take 0 ++ (a.take (a.length - b.length)).map vi ++ (rep a.length (.int .i64 0)).drop (0 + (a.length - b.length)) = (List.range a.length).map (fun j => vi (if j < a.length - b.length then a.getD j 0 else if j < a.length - b.length then b.getD (j - (a.length - b.length)) 0 ^^^ a.getD j 0 else 0)) := by
        apply List.ext_getElem?
        intro j
        simp only [List.take_zero, List.nil_append, Nat.zero_add, List.getElem?_append, hll]
        by_cases h1 : j < a.length - b.length
        · have h2 : j < a.length := by omega
          simp [h1, h2, List.getElem?_take, List.getD]
        · by_cases h2 : j < a.length
          · have h3 : a.length - b.length + (j - (a.length - b.length)) < a.length := by omega
            simp [rep, h1, h2, vi, List.getElem?_replicate]
            omega
          · have h3 : ¬ a.length - b.length + (j - (a.length - b.length)) < a.length := by omega
            simp [rep, h1, h2, List.getElem?_replicate]
            omega
      rw [e] at hrow
      exact hrow
    have R0 := Lib.hid (And.intro hfb hkk)
    have HCL := Lib.hid (And.intro hca hcb)
    generalize hB : w.heap.size = B at *
    have HBB := Lib.hid hB
    clear hfb hkk hrow hnew hcl hll hca hcb hB
    go_wp2_with fail
    clear hcp hmk2
    go_loopw [10] (fun i wr => ∃ k : Nat, a.length - b.length ≤ k ∧ k ≤ a.length ∧ i = .int .i64 (k : Int) ∧ FB wr B a.length (fun j => vi (if j < a.length - b.length then a.getD j 0 else if j < k then b.getD (j - (a.length - b.length)) 0 ^^^ a.getD j 0 else 0)) 3 ∧ Keeps (fun _ => False) w wr) (fun i _ => a.length - (intOf i).toNat)
    case atStart => exact ⟨a.length - b.length, by omega, by omega, by congr 1; omega, R0.out.1, R0.out.2⟩
    case round =>
      obtain ⟨k, k1, k2, rfl, r1, r2⟩ := hrel
      have R := Lib.hid (And.intro r1 r2)
      by_cases hlt : k < a.length
      · have b1 := (HCL.out.1.keep r2 (fun h => h)).cell hlt
        have b2 := (HCL.out.2.keep r2 (fun h => h)).cell (i := k - (a.length - b.length)) (by omega)
        have b3 := r1.cell hlt
        have b4 := r1.free k
        have y1 := ba (a.getD k 0) (by simp [List.getD, hlt])
        have y2 := bb (b.getD (k - (a.length - b.length)) 0) (by
          have : k - (a.length - b.length) < b.length := by omega
          simp [List.getD, this])
        obtain ⟨x, hx⟩ : ∃ x, a.getD k 0 = x := ⟨_, rfl⟩
        obtain ⟨y, hy⟩ : ∃ y, b.getD (k - (a.length - b.length)) 0 = y := ⟨_, rfl⟩
        have hset : FB (wr.setCell ⟨B, k, none⟩ (.int .i64 ((y ^^^ x : Nat) : Int))) B a.length (fun j => vi (if j < a.length - b.length then a.getD j 0 else if j < k + 1 then b.getD (j - (a.length - b.length)) 0 ^^^ a.getD j 0 else 0)) 3 :=
          r1.set k _ (fun j _ => by
            by_cases e : j = k
            · subst e; rw [if_pos rfl, if_neg (by omega), if_pos (by omega), hx, hy]; rfl
            · have h2 : (j < k + 1) ↔ (j < k) := by omega
              simp only [e, if_false, h2])
        have HS := Lib.hid (And.intro hset (r2.setCell (p := ⟨B, k, none⟩) (Or.inr (by show w.heap.size ≤ B; rw [HBB.out]; exact Nat.le_refl _)) (.int .i64 ((y ^^^ x : Nat) : Int))))
        rw [hx] at b1 y1
        rw [hy] at b2 y2
        rw [if_neg (by omega), if_neg (by omega)] at b3
        unfold vi at b3
        have hlt' := Int.ofNat_lt.2 hlt
        have hlt2 : ((k - (a.length - b.length) : Nat) : Int) < (b.length : Int) := by omega
        have i1 : IntKind.i64.wrap ((k : Int) - ((a.length : Int) - (b.length : Int))) = ((k - (a.length - b.length) : Nat) : Int) := by rw [wraps_i64 _ (by omega) (by omega)]; omega
        clear r1 r2 hset hx hy
        go_wp2_with fail
        go_region_with (go_at_call 253; refine (gfAdd_ok y x _ y2 y1).mono ?_; rintro e w1 ⟨rfl, rfl⟩)
        all_goals clear i1
        all_goals go_wp2
        all_goals
          go_roundw
          case rel => exact ⟨k + 1, by omega, by omega, by go_num, HS.out.1.drew, HS.out.2.drew⟩
          case measure => simp [intOf]; omega
      · obtain rfl : k = a.length := by omega
        have f0 : wr.cell? ⟨p, 0, none⟩ = some (.pointer (some ⟨g, 0, none⟩)) := (r2.cell (p := ⟨p, 0, none⟩) (by show p < w.heap.size; rw [HBB.out]; exact HPL.out) (fun h => h)).trans HE0.out
        have HC := Lib.hid (Cof.of_fb r1 (l := QR.xorAlign b a) (QR.xorAlign_length (by omega)) (fun j hj => by
          rw [QR.xorAlign_get (by omega) hj]
          by_cases h1 : j < a.length - b.length
          · rw [if_pos h1, if_pos h1]
          · rw [if_neg h1, if_neg h1, if_pos hj]))
        have HK := Lib.hid r2
        have HLN := Lib.hid (show a.length = (QR.xorAlign b a).length from (QR.xorAlign_length (by omega)).symm)
        have HBY := Lib.hid (QR.xorAlign_bytes bb ba)
        clear r1 r2
        go_wp2_with fail
        refine (newPoly_ok g B 0 a.length a.length (QR.xorAlign b a) wr HC.out HLN.out (by rw [← HLN.out]; omega) (Nat.le_refl _) HBY.out (by omega)).mono ?_
        rintro e w1 ⟨r, rfl, z1, z2, z3⟩
        have Z1 := Lib.hid (And.intro z1 (HK.out.trans z2))
        clear z1 z2 z3
        go_wp2
        go_ret2
        rw [HA.out]
        exact ⟨r, rfl, Z1.out⟩

  · have hadd : QR.addP a b = QR.strip (QR.xorAlign a b) := by unfold QR.addP; rw [if_neg ha0, if_neg hb0, if_neg hgt]
    have HA := Lib.hid hadd
    clear hadd ha0 hb0
    go_wp2_with fail
    refine (polyIsZero_ok p g a _ HP.out.drew).mono ?_
    rw [Z.out]
    rintro e w1 ⟨rfl, rfl⟩
    go_wp2_with fail
    refine (polyIsZero_ok q g b _ HQ.out.drew).mono ?_
    rw [Z2.out]
    rintro e w1 ⟨rfl, rfl⟩

    have hmk2 : (Instr.makeSlice 157 (.int .i64 (b.length : Int)) (.int .i64 (b.length : Int))).run Tryz.prog w.drew = .ok (.slice (some ⟨w.heap.size, 0, none⟩) b.length b.length) (w.drew.alloc (.cells (rep b.length (.int .i64 0)).toArray 3)) :=
      make_rep (P := Tryz.prog) 157 3 (.int .i64 0) 8 Tryz.underlying157 info3 rfl b.length (by omega) (by omega) w.drew
    have hnew : Blk (w.alloc (.cells (rep b.length (.int .i64 0)).toArray 3)).drew w.heap.size (rep b.length (.int .i64 0)) 3 := (Blk.new w (rep b.length (.int .i64 0)) 3).drew
    have hcl : Cof (w.alloc (.cells (rep b.length (.int .i64 0)).toArray 3)).drew cb ob b := (hcb.alloc _).keep ((Keeps.refl (fun _ => False) _).drew) (fun h => h)
    have hcp := copy_blk (P := Tryz.prog) _ 157 157 3 3 Tryz.underlying157 (by kernel_rfl) w.heap.size 0 b.length b.length cb ob (b.length - a.length) kb _ _ hnew ((b.take (b.length - a.length)).map vi) (by simp)
      (fun j v hj => by
        have hj2 : j < b.length - a.length := by
          have := (List.getElem?_eq_some_iff.1 hj).1; simp at this; omega
        have hc := hcl.cell (i := j) (by omega)
        rw [hc, ← hj]
        have hj3 : j < b.length := by omega
        simp [vi, List.getElem?_take, hj2, hj3]) (by rw [rep_length]; simp) (by intro v hv; obtain ⟨x, _, rfl⟩ := List.mem_map.1 hv; rfl)
    have hll : ((b.take (b.length - a.length)).map vi).length = b.length - a.length := by simp
    rw [hll] at hcp
    have hrow := hnew.setRow ((rep b.length (.int .i64 0)).take 0 ++ (b.take (b.length - a.length)).map vi ++ (rep b.length (.int .i64 0)).drop (0 + (b.length - a.length)))
    have hkk : Keeps (fun _ => False) w ((w.alloc (.cells (rep b.length (.int .i64 0)).toArray 3)).drew.setRow w.heap.size ((rep b.length (.int .i64 0)).take 0 ++ (b.take (b.length - a.length)).map vi ++ (rep b.length (.int .i64 0)).drop (0 + (b.length - a.length))).toArray) :=
      (((Keeps.refl _ w).alloc _).drew).setRow (Or.inr (Nat.le_refl _)) _
    generalize (w.alloc (.cells (rep b.length (.int .i64 0)).toArray 3)).drew.setRow w.heap.size ((rep b.length (.int .i64 0)).take 0 ++ (b.take (b.length - a.length)).map vi ++ (rep b.length (.int .i64 0)).drop (0 + (b.length - a.length))).toArray = W2 at *
    have hfb : FB W2 w.heap.size b.length (fun j => vi (if j < b.length - a.length then b.getD j 0 else if j < b.length - a.length then a.getD (j - (b.length - a.length)) 0 ^^^ b.getD j 0 else 0)) 3 := by
      have e : (rep b.length (Value.int .i64 0)).take 0 ++ (b.take (b.length - a.length)).map vi ++ (rep b.length (.int .i64 0)).drop (0 + (b.length - a.length)) = (List.range b.length).map (fun j => vi (if j < b.length - a.length then b.getD j 0 else if j < b.length - a.length then a.getD (j - (b.length - a.length)) 0 ^^^ b.getD j 0 else 0)) := by
        apply List.ext_getElem?
        intro j
        simp only [List.take_zero, List.nil_append, Nat.zero_add, List.getElem?_append, hll]
        by_cases h1 : j < b.length - a.length
        · have h2 : j < b.length := by omega
          simp [h1, h2, List.getElem?_take, List.getD]
        · by_cases h2 : j < b.length
          · have h3 : b.length - a.length + (j - (b.length - a.length)) < b.length := by omega
            simp [rep, h1, h2, vi, List.getElem?_replicate]
            omega
          · have h3 : ¬ b.length - a.length + (j - (b.length - a.length)) < b.length := by omega
            simp [rep, h1, h2, List.getElem?_replicate]
            omega
      rw [e] at hrow
      exact hrow
    have R0 := Lib.hid (And.intro hfb hkk)
    have HCL := Lib.hid (And.intro hcb hca)
    generalize hB : w.heap.size = B at *
    have HBB := Lib.hid hB
    clear hfb hkk hrow hnew hcl hll hcb hca hB
    go_wp2_with fail
    clear hcp hmk2
    go_loopw [10] (fun i wr => ∃ k : Nat, b.length - a.length ≤ k ∧ k ≤ b.length ∧ i = .int .i64 (k : Int) ∧ FB wr B b.length (fun j => vi (if j < b.length - a.length then b.getD j 0 else if j < k then a.getD (j - (b.length - a.length)) 0 ^^^ b.getD j 0 else 0)) 3 ∧ Keeps (fun _ => False) w wr) (fun i _ => b.length - (intOf i).toNat)
    case atStart => exact ⟨b.length - a.length, by omega, by omega, by congr 1; omega, R0.out.1, R0.out.2⟩
    case round =>
      obtain ⟨k, k1, k2, rfl, r1, r2⟩ := hrel
      have R := Lib.hid (And.intro r1 r2)
      by_cases hlt : k < b.length
      · have b1 := (HCL.out.1.keep r2 (fun h => h)).cell hlt
        have b2 := (HCL.out.2.keep r2 (fun h => h)).cell (i := k - (b.length - a.length)) (by omega)
        have b3 := r1.cell hlt
        have b4 := r1.free k
        have y1 := bb (b.getD k 0) (by simp [List.getD, hlt])
        have y2 := ba (a.getD (k - (b.length - a.length)) 0) (by
          have : k - (b.length - a.length) < a.length := by omega
          simp [List.getD, this])
        obtain ⟨x, hx⟩ : ∃ x, b.getD k 0 = x := ⟨_, rfl⟩
        obtain ⟨y, hy⟩ : ∃ y, a.getD (k - (b.length - a.length)) 0 = y := ⟨_, rfl⟩
        have hset : FB (wr.setCell ⟨B, k, none⟩ (.int .i64 ((y ^^^ x : Nat) : Int))) B b.length (fun j => vi (if j < b.length - a.length then b.getD j 0 else if j < k + 1 then a.getD (j - (b.length - a.length)) 0 ^^^ b.getD j 0 else 0)) 3 :=
          r1.set k _ (fun j _ => by
            by_cases e : j = k
            · subst e; rw [if_pos rfl, if_neg (by omega), if_pos (by omega), hx, hy]; rfl
            · have h2 : (j < k + 1) ↔ (j < k) := by omega
              simp only [e, if_false, h2])
        have HS := Lib.hid (And.intro hset (r2.setCell (p := ⟨B, k, none⟩) (Or.inr (by show w.heap.size ≤ B; rw [HBB.out]; exact Nat.le_refl _)) (.int .i64 ((y ^^^ x : Nat) : Int))))
        rw [hx] at b1 y1
        rw [hy] at b2 y2
        rw [if_neg (by omega), if_neg (by omega)] at b3
        unfold vi at b3
        have hlt' := Int.ofNat_lt.2 hlt
        have hlt2 : ((k - (b.length - a.length) : Nat) : Int) < (a.length : Int) := by omega
        have i1 : IntKind.i64.wrap ((k : Int) - ((b.length : Int) - (a.length : Int))) = ((k - (b.length - a.length) : Nat) : Int) := by rw [wraps_i64 _ (by omega) (by omega)]; omega
        clear r1 r2 hset hx hy
        go_wp2_with fail
        go_region_with (go_at_call 253; refine (gfAdd_ok y x _ y2 y1).mono ?_; rintro e w1 ⟨rfl, rfl⟩)
        all_goals clear i1
        all_goals go_wp2
        all_goals
          go_roundw
          case rel => exact ⟨k + 1, by omega, by omega, by go_num, HS.out.1.drew, HS.out.2.drew⟩
          case measure => simp [intOf]; omega
      · obtain rfl : k = b.length := by omega
        have f0 : wr.cell? ⟨p, 0, none⟩ = some (.pointer (some ⟨g, 0, none⟩)) := (r2.cell (p := ⟨p, 0, none⟩) (by show p < w.heap.size; rw [HBB.out]; exact HPL.out) (fun h => h)).trans HE0.out
        have HC := Lib.hid (Cof.of_fb r1 (l := QR.xorAlign a b) (QR.xorAlign_length (by omega)) (fun j hj => by
          rw [QR.xorAlign_get (by omega) hj]
          by_cases h1 : j < b.length - a.length
          · rw [if_pos h1, if_pos h1]
          · rw [if_neg h1, if_neg h1, if_pos hj]))
        have HK := Lib.hid r2
        have HLN := Lib.hid (show b.length = (QR.xorAlign a b).length from (QR.xorAlign_length (by omega)).symm)
        have HBY := Lib.hid (QR.xorAlign_bytes ba bb)
        clear r1 r2
        go_wp2_with fail
        refine (newPoly_ok g B 0 b.length b.length (QR.xorAlign a b) wr HC.out HLN.out (by rw [← HLN.out]; omega) (Nat.le_refl _) HBY.out (by omega)).mono ?_
        rintro e w1 ⟨r, rfl, z1, z2, z3⟩
        have Z1 := Lib.hid (And.intro z1 (HK.out.trans z2))
        clear z1 z2 z3
        go_wp2
        go_ret2
        rw [HA.out]
        exact ⟨r, rfl, Z1.out⟩


end Go.Proofs.YtplpafbkalkchaaGreatDoor
