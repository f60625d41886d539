/-
  Parts of the proof (RD).
-/
import Derived.Test.YtplpafbkalkchaaGreatDoorM10
import Derived.Test.YtplpafbkalkchaaGreatDoorM15
import Derived.Test.YtplpafbkalkchaaGreatDoorM17
set_option linter.unusedSimpArgs false
set_option linter.unusedVariables false

namespace Go.Proofs.YtplpafbkalkchaaGreatDoor
open Go.RowKit

theorem evalF_take (x : Nat) (l : List Nat) (r k : Nat) (h : k < l.length) : _root_.QR.evalF x r (l.take (k + 1)) = _root_.QR.gmul x (_root_.QR.evalF x r (l.take k)) ^^^ l.getD k 0 := by
  rw [List.take_succ_eq_append_getElem h]
  have : ∀ (m : List Nat) (r c : Nat), _root_.QR.evalF x r (m ++ [c]) = _root_.QR.gmul x (_root_.QR.evalF x r m) ^^^ c := by
    intro m
    induction m with
    | nil => intro r c; rfl
    | cons a m ih => intro r c; rw [List.cons_append]; exact ih _ _
  rw [this]; simp [List.getD, h]
theorem bytes_take {l : List Nat} (h : _root_.QR.Bytes l) (k : Nat) : _root_.QR.Bytes (l.take k) := fun c hc => h c (List.mem_of_mem_take hc)
theorem eval_take_lt {x : Nat} (hx : x < 256) {l : List Nat} (h : _root_.QR.Bytes l) (k : Nat) : _root_.QR.eval x (l.take k) < 256 := _root_.QR.eval_lt hx _ 0 (by omega) (bytes_take h k)

theorem eval_take (x : Nat) (l : List Nat) (k : Nat) (h : k < l.length) : _root_.QR.eval x (l.take (k + 1)) = _root_.QR.gmul x (_root_.QR.eval x (l.take k)) ^^^ l.getD k 0 := evalF_take x l 0 k h

set_option maxRecDepth 100000 in
set_option maxHeartbeats 1000000 in
theorem polyEval_ok (p g x : Nat) (l : List Nat) (w : World) (hp : Poly w p g l) (hg : Fld w g) (hx : x < 256) (hx0 : x ≠ 0) (hl : l.length ≤ 5000) (X : Int) (hX : X = (x : Int)) :
    Calls Tryz.prog 257 #[.pointer (some ⟨p, 0, none⟩), .int .i64 X] w fun e w' => e = .returned (.int .i64 ((_root_.QR.eval x l : Nat) : Int)) ∧ ∃ m, w' = w.drewN m := by
  have hpos := hp.pos
  obtain ⟨⟨c, o, cap, h1, h2, h3⟩, h4, h5⟩ := hp
  have b0 := h1.cell (i := 0) rfl
  have b1 := h1.cell (i := 1) rfl
  obtain ⟨L, hL⟩ : ∃ L, l.length = L := ⟨_, rfl⟩
  rw [hL] at b1 hl hpos
  have HL := Lib.hid hL
  have HC := Lib.hid h2
  have HB := Lib.hid h5
  have HG := Lib.hid hg
  have HB0 := Lib.hid (And.intro b0 b1)
  have EA := Lib.hid (show _root_.QR.eval x (l.take L) = _root_.QR.eval x l by rw [List.take_of_length_le (by omega)])
  have EL := Lib.hid (fun k => eval_take_lt hx h5 k)
  clear h1 h2 h3 h4 h5 hg hL
  by_cases hx1 : x = 1
  · subst hx1
    obtain rfl : X = 1 := hX
    go_enter Tryz.func257, Tryz.ntmps257
    go_wp2_with fail
    clear b0 b1
    go_loopw [5, 22] (fun s5 s22 wr => ∃ k r : Nat, k ≤ L ∧ s22 = .int .i64 (k : Int) ∧ s5 = .int .i64 (r : Int) ∧ Hid (r = _root_.QR.eval 1 (l.take k)) ∧ w = wr) (fun _ s22 _ => L - (intOf s22).toNat)
    case atStart => exact ⟨0, 0, by omega, rfl, rfl, Lib.hid rfl, rfl⟩
    case round =>
      obtain ⟨k, r, hk, rfl, rfl, hr, rfl⟩ := hrel
      by_cases hkL : k < L
      · have hkL' : (k : Int) < (L : Int) := by omega
        have c0 := HC.out.cell (i := k) (by have := HL.out; omega)
        obtain ⟨y, hy⟩ : ∃ y, l.getD k 0 = y := ⟨_, rfl⟩
        rw [hy] at c0
        have hy256 : y < 256 := by rw [← hy]; exact getD_lt HB.out k
        have hr256 : r < 256 := by rw [hr.out]; exact EL.out k
        have hs := Lib.hid (show r ^^^ y = _root_.QR.eval 1 (l.take (k + 1)) by
          rw [eval_take _ _ _ (by have := HL.out; omega), _root_.QR.gmul_one (EL.out k), hr.out, hy])
        clear hy
        go_wp2_with fail
        refine (gfAdd_ok r y w hr256 hy256).mono ?_
        rintro e w1 ⟨rfl, rfl⟩
        go_wp2
        go_roundw
        case rel => exact ⟨k + 1, _, by omega, by go_num, rfl, hs, trivial⟩
        case measure => simp [intOf]; omega
      · have hkL' : ¬ (k : Int) < (L : Int) := by omega
        have hrE := Lib.hid (show r = _root_.QR.eval 1 l by rw [hr.out, show k = L by omega, EA.out])
        clear hr
        go_wp2
        go_ret
        exact ⟨ret_int (by rw [hrE.out]), 0, rfl⟩
  · subst hX
    have hxz : ((x : Int) == 0) = false := beq_eq_false_iff_ne.2 (by omega)
    have hxo : ((x : Int) == 1) = false := beq_eq_false_iff_ne.2 (by omega)
    have c0 := HC.out.cell (i := 0) (by have := HL.out; omega)
    rw [Nat.add_zero] at c0
    obtain ⟨y, hy⟩ : ∃ y, l.getD 0 0 = y := ⟨_, rfl⟩
    rw [hy] at c0
    have HY := Lib.hid (show y = _root_.QR.eval x (l.take 1) by rw [eval_take _ _ 0 (by have := HL.out; omega), ← hy]; simp [_root_.QR.eval, _root_.QR.evalF, _root_.QR.gmul_zero])
    clear hy hx1
    go_enter Tryz.func257, Tryz.ntmps257
    go_wp2_with fail
    clear b0 b1 c0
    go_loopw [8, 10] (fun s8 s10 wr => ∃ k r m : Nat, 1 ≤ k ∧ k ≤ L ∧ s10 = .int .i64 (k : Int) ∧ s8 = .int .i64 (r : Int) ∧ Hid (r = _root_.QR.eval x (l.take k)) ∧ wr = w.drewN m) (fun _ s10 _ => L - (intOf s10).toNat)
    case atStart => exact ⟨1, y, 0, by omega, by omega, rfl, rfl, HY, rfl⟩
    case round =>
      obtain ⟨k, r, m, hk1, hk, rfl, rfl, hr, hwr⟩ := hrel
      have HWR := Lib.hid hwr
      by_cases hkL : k < L
      · have hkL' : (k : Int) < (L : Int) := by omega
        have c0 : wr.cell? ⟨c, o + k, none⟩ = some (.int .i64 ((l.getD k 0 : Nat) : Int)) := by rw [hwr]; exact HC.out.cell (i := k) (by have := HL.out; omega)
        have b0 : wr.cell? ⟨p, 0, none⟩ = some (.pointer (some ⟨g, 0, none⟩)) := by rw [hwr]; exact HB0.out.1
        have b1 : wr.cell? ⟨p, 1, none⟩ = some (.slice (some ⟨c, o, none⟩) L cap) := by rw [hwr]; exact HB0.out.2
        obtain ⟨y, hy⟩ : ∃ y, l.getD k 0 = y := ⟨_, rfl⟩
        rw [hy] at c0
        have hy256 : y < 256 := by rw [← hy]; exact getD_lt HB.out k
        have hr256 : r < 256 := by rw [hr.out]; exact EL.out k
        obtain ⟨z, hz⟩ : ∃ z, _root_.QR.gmul x r = z := ⟨_, rfl⟩
        have hz256 : z < 256 := by rw [← hz]; exact _root_.QR.gmul_lt hx hr256
        have hs := Lib.hid (show z ^^^ y = _root_.QR.eval x (l.take (k + 1)) by
          rw [eval_take _ _ _ (by have := HL.out; omega), ← hr.out, hz, hy])
        have c212 : Hid (∀ n, Calls Tryz.prog 212 #[.pointer (some ⟨g, 0, none⟩), .int .i64 (x : Int), .int .i64 (r : Int)] (wr.drewN n) fun e w' => e = .returned (.int .i64 (z : Int)) ∧ ∃ m', w' = (wr.drewN n).drewN m') :=
          Lib.hid (fun n => by have h := gfMul_ok g x r (wr.drewN n) (by rw [hwr]; exact (HG.out.drewN m).drewN n) hx hr256; rw [show QR.gmul x r = z from hz] at h; exact h)
        have c253 := Lib.hid (fun n => (gfAdd_ok z y (wr.drewN n) hz256 hy256).mono (fun e w' h => (⟨h.1, h.2.symm⟩ : e = .returned (.int .i64 (z ^^^ y : Nat)) ∧ w' = wr.drewN n)))
        clear hy hz hwr
        go_wp2_with fail
        go_quiet (first | (go_at_call 212; exact Calls.quiet_of (c212.out _)) | (go_at_call 253; exact Calls.quiet_of_same (c253.out _)))
        clear c212 c253
        go_wp2
        go_roundw
        case rel => exact ⟨k + 1, _, m + nq, by omega, by omega, by go_num, rfl, hs, by rw [HWR.out]; simp⟩
        case measure => simp [intOf]; omega
      · have hkL' : ¬ (k : Int) < (L : Int) := by omega
        have hrE := Lib.hid (show r = _root_.QR.eval x l by rw [hr.out, show k = L by omega, EA.out])
        clear hr hwr
        go_wp2
        go_ret
        exact ⟨ret_int (by rw [hrE.out]), m, HWR.out⟩

set_option maxRecDepth 100000 in
set_option maxHeartbeats 1000000 in
theorem rsDecode_ok (rd g tb N ec : Nat) (d e : List Nat) (w : World) (hr : Blk w rd [.pointer (some ⟨g, 0, none⟩)] 237) (hg : Fld w g) (ht : Blk w tb ((d ++ e).map vi) 3) (hN : N = (d ++ e).length) (hc : Coded d e) (he : e.length = ec)
    (h0 : 0 < N) (hN2 : N ≤ 1000) (hec : ec ≤ 100) (E : Int) (hE : E = (ec : Int)) :
    Calls Tryz.prog 223 #[.pointer (some ⟨rd, 0, none⟩), .slice (some ⟨tb, 0, none⟩) N N, .int .i64 E] w fun e w' => e = .returned .nilIface ∧ Keeps (fun _ => False) w w' := by
  subst hE
  have HR := Lib.hid hr
  have HG := Lib.hid hg
  have r0 := hr.cell (i := 0) rfl
  have hby : _root_.QR.Bytes (d ++ e) := fun c hc' => by
    rcases List.mem_append.1 hc' with h | h
    · exact hc.bd c h
    · exact hc.be c h
  have HB := Lib.hid hby
  have HT := Lib.hid ht
  have HN := Lib.hid hN
  have HZ := Lib.hid (fun k (hk : k < ec) => show _root_.QR.eval (_root_.QR.expT.getD k 0) (QR.strip (d ++ e)) = 0 by rw [QR.eval_strip]; exact hc.zero k (by omega))
  clear hr hg hby ht hc hN
  go_enter Tryz.func223, Tryz.ntmps223
  go_wp2_with fail
  refine (newPoly_ok g tb 0 N N (d ++ e) w (Cof.of_blk HT.out) HN.out (by rw [← HN.out]; omega) (Nat.le_refl _) HB.out (by omega)).mono ?_
  rintro e' w1 ⟨q, rfl, p1, p2, p3⟩
  have P1 := Lib.hid p1
  have K1 := Lib.hid p2
  have G1 := Lib.hid (HG.out.keep p2)
  have R1 := Lib.hid (HR.out.keep p2 (fun f => f))
  have hmk := make_rep (P := Tryz.prog) 157 3 (.int .i64 0) 8 Tryz.underlying157 info3 rfl ec (by omega) (by omega) w1
  obtain ⟨S, hS⟩ : ∃ S, w1.heap.size = S := ⟨_, rfl⟩
  obtain ⟨w2, hw2⟩ : ∃ w2, w1.alloc (.cells (rep ec (.int .i64 0)).toArray 3) = w2 := ⟨_, rfl⟩
  rw [hS, hw2] at hmk
  have F2 := Lib.hid (show FB w2 S ec (fun _ => .int .i64 0) 3 by have := FB.new w1 ec (.int .i64 0) 3; rw [hS, hw2] at this; exact this)
  have K2 := Lib.hid (show Keeps (fun _ => False) w1 w2 by rw [← hw2]; exact (Keeps.refl _ w1).alloc _)
  have hSS := Lib.hid hS
  have hsl := (QR.strip_length (d ++ e))
  rw [← HN.out] at hsl
  clear p1 p2 p3 hS hw2 r0
  go_wp2_with fail
  clear hmk
  go_loopw [10, 11] (fun s10 s11 wr => ∃ k : Nat, k ≤ ec ∧ s10 = .bool true ∧ s11 = .int .i64 (k : Int) ∧ FB wr S ec (fun _ => .int .i64 0) 3 ∧ Keeps (fun _ => False) w1 wr) (fun _ s11 _ => ec - (intOf s11).toNat)
  case atStart => exact ⟨0, by omega, rfl, rfl, F2.out, K2.out⟩
  case round =>
    obtain ⟨k, hk, rfl, rfl, y1, y2⟩ := hrel
    have A := Lib.hid (And.intro y1 y2)
    by_cases hke : k < ec
    · have hke' : (k : Int) < (ec : Int) := by omega
      have PP := Lib.hid (P1.out.keep y2)
      have GG := Lib.hid (G1.out.keep y2)
      have r0 := (R1.out.keep y2 (fun f => f)).cell (i := 0) rfl
      obtain ⟨x, hx⟩ : ∃ x, _root_.QR.expT.getD k 0 = x := ⟨_, rfl⟩
      have hx256 : x < 256 := by rw [← hx]; exact QR.expT_lt (by omega)
      have hx0 : x ≠ 0 := by rw [← hx, QR.expT_eq (by omega)]; exact QR.dblN_ne
      have hz0 := HZ.out k hke
      rw [hx] at hz0
      have c209 := Lib.hid (fun n => (gfBase_ok g (wr.drewN n) (GG.out.drewN n)).mono (fun e w' h => (⟨h.1, h.2.symm⟩ : e = .returned (.int .i64 0) ∧ w' = wr.drewN n)))
      have c208 := Lib.hid (fun n => (gfExp_ok g k (wr.drewN n) (GG.out.drewN n) (by omega) _ rfl).mono (fun e w' h => (⟨by rw [h.1]; exact congrArg (fun (t : Nat) => Ending.returned (.int .i64 (t : Int))) hx, h.2.symm⟩ : e = .returned (.int .i64 (x : Int)) ∧ w' = wr.drewN n)))
      have c257 : Hid (∀ n, Calls Tryz.prog 257 #[.pointer (some ⟨q, 0, none⟩), .int .i64 (x : Int)] (wr.drewN n) fun e w' => e = .returned (.int .i64 0) ∧ ∃ m, w' = (wr.drewN n).drewN m) :=
        Lib.hid (fun n => by have h := polyEval_ok q g x _ (wr.drewN n) (PP.out.drewN n) (GG.out.drewN n) hx256 hx0 (by omega) _ rfl; rw [hz0] at h; exact h)
      have i1 : IntKind.i64.wrap ((k : Int) + 0) = (k : Int) := by rw [wraps_i64 _ (by omega) (by omega)]; omega
      have i2 : IntKind.i64.wrap (k : Int) = (k : Int) := wraps_i64 _ (by omega) (by omega)
      have s0 := y1.cell (i := ec - 1 - k) (by omega)
      have sf := y1.free (ec - 1 - k)
      have hidx : (ec : Int) - 1 - (k : Int) = ((ec - 1 - k : Nat) : Int) := by omega
      have NX := Lib.hid (fun n => And.intro ((y1.drewN n).set (ec - 1 - k) (.int .i64 0) (G := fun _ => .int .i64 0) (fun j _ => by split <;> rfl)) ((y2.drewN n).setCell (p := ⟨S, ec - 1 - k, none⟩) (Or.inr (by show w1.heap.size ≤ S; rw [hSS.out]; exact Nat.le_refl _)) (.int .i64 0)))
      clear y1 y2 hx hz0
      go_wp2_with fail
      go_quiet (first | (go_at_call 209; exact Calls.quiet_of_same (c209.out _)) | (go_at_call 208; exact Calls.quiet_of_same (c208.out _)) | (go_at_call 257; exact Calls.quiet_of (c257.out _)))
      clear c209 c208 c257 i1 i2
      go_wp2
      go_roundw
      case rel => exact ⟨k + 1, by omega, rfl, by go_num, NX.out nq⟩
      case measure => simp [intOf]; omega
    · have hke' : ¬ (k : Int) < (ec : Int) := by omega
      clear y1 y2
      go_wp2
      go_ret
      exact ⟨rfl, K1.out.trans A.out.2⟩

set_option maxRecDepth 100000 in
set_option maxHeartbeats 1000000 in
theorem correct_ok (db rd g cb N nd ec : Nat) (d e : List Nat) (w : World) (hd : Blk w db [.pointer (some ⟨rd, 0, none⟩)] 180) (hr : Blk w rd [.pointer (some ⟨g, 0, none⟩)] 237) (hg : Fld w g) (ht : Blk w cb ((d ++ e).map vu8) 5) (hN : N = (d ++ e).length) (hc : Coded d e)
    (he : e.length = ec) (hnd : d.length = nd) (h1 : 1 ≤ nd) (hN2 : N ≤ 1000) (hec : ec ≤ 100) (M : Int) (hM : M = (nd : Int)) :
    Calls Tryz.prog 198 #[.pointer (some ⟨db, 0, none⟩), .slice (some ⟨cb, 0, none⟩) N N, .int .i64 M] w fun e' w' => e' = .returned .nilIface ∧ Blk w' cb ((d ++ e).map vu8) 5 ∧ Keeps (fun i => i = cb) w w' := by
  subst hM
  have HD := Lib.hid hd
  have HR := Lib.hid hr
  have HG := Lib.hid hg
  have HT := Lib.hid ht
  have HN := Lib.hid hN
  have HC := Lib.hid (And.intro hc (And.intro he hnd))
  have hby : _root_.QR.Bytes (d ++ e) := fun c hc' => by
    rcases List.mem_append.1 hc' with h | h
    · exact hc.bd c h
    · exact hc.be c h
  have HB := Lib.hid hby
  have hNl : N = nd + ec := by rw [hN, List.length_append, hnd, he]
  have HNL := Lib.hid hNl
  have hmk := make_rep (P := Tryz.prog) 157 3 (.int .i64 0) 8 Tryz.underlying157 info3 rfl N (by omega) (by omega) w
  obtain ⟨T, hT⟩ : ∃ T, w.heap.size = T := ⟨_, rfl⟩
  obtain ⟨w2, hw2⟩ : ∃ w2, w.alloc (.cells (rep N (.int .i64 0)).toArray 3) = w2 := ⟨_, rfl⟩
  rw [hT, hw2] at hmk
  have F2 := Lib.hid (show FB w2 T N (fun i => vi (if i < 0 then (d ++ e).getD i 0 else 0)) 3 by have := FB.new w N (.int .i64 0) 3; rw [hT, hw2] at this; exact this.congr (fun i _ => by simp [vi]))
  have K2 := Lib.hid (show Keeps (fun _ => False) w w2 by rw [← hw2]; exact (Keeps.refl _ w).alloc _)
  have hTT := Lib.hid hT
  have hcl := ht.lt
  have hdl := hd.lt
  have hrl := hr.lt
  have hnz : 0 < N := by omega
  have hndN : nd ≤ N := by omega
  clear hd hr hg ht hN hc he hnd hby hT hw2 hNl
  go_enter Tryz.func198, Tryz.ntmps198
  go_wp2_with fail
  clear hmk
  go_loopw [9] (fun s9 wr => ∃ k : Nat, k ≤ N ∧ s9 = .int .i64 (k : Int) ∧ FB wr T N (fun i => vi (if i < k then (d ++ e).getD i 0 else 0)) 3 ∧ Keeps (fun _ => False) w wr) (fun s9 _ => N - (intOf s9).toNat)
  case atStart => exact ⟨0, by omega, rfl, F2.out, K2.out⟩
  case round =>
    obtain ⟨k, hk, rfl, y1, y2⟩ := hrel
    by_cases hkn : k < N
    · have hkn' : (k : Int) < (N : Int) := by omega
      have c1 := (HT.out.keep y2 (fun f => f)).cell (i := k) (v := .int .u8 (((d ++ e).getD k 0 : Nat) : Int)) (by have := HN.out; rw [List.getElem?_map]; simp [List.getD, vu8, List.getElem?_eq_getElem (show k < (d ++ e).length by omega)])
      obtain ⟨x, hx⟩ : ∃ x, (d ++ e).getD k 0 = x := ⟨_, rfl⟩
      have hx256 : x < 256 := by rw [← hx]; exact getD_lt HB.out k
      rw [hx] at c1
      have ha : bits .and .u8 (x : Int) 255 = (x : Int) := by
        have := bits_mask .u8 8 (by decide) wraps_u8' 8 (by decide) (x : Int) (by omega) (by simpa using (by omega : (x : Int) < 256))
        simp at this
        rw [this]; omega
      have c2 := y1.cell (i := k) hkn
      have f2 := y1.free k
      rw [if_neg (Nat.lt_irrefl k)] at c2
      unfold vi at c2
      have NX := Lib.hid (And.intro (show FB (wr.setCell ⟨T, k, none⟩ (.int .i64 (x : Int))) T N (fun i => vi (if i < k + 1 then (d ++ e).getD i 0 else 0)) 3 from y1.set k _ (fun j _ => by
        by_cases e2 : j = k
        · subst e2; rw [if_pos rfl, if_pos (by omega), hx]; rfl
        · rw [if_neg e2]
          by_cases e3 : j < k
          · rw [if_pos e3, if_pos (by omega)]
          · rw [if_neg e3, if_neg (by omega)])) (y2.setCell (p := ⟨T, k, none⟩) (Or.inr (by show w.heap.size ≤ T; rw [hTT.out]; exact Nat.le_refl _)) (.int .i64 (x : Int))))
      clear y1 y2 hx
      go_wp2
      go_roundw
      case rel => exact ⟨k + 1, by omega, by go_num, NX.out⟩
      case measure => simp [intOf]; omega
    · have hkn' : ¬ (k : Int) < (N : Int) := by omega
      have hkN : k = N := by omega
      have hblk : Blk wr T ((d ++ e).map vi) 3 := y1.blk (by rw [List.length_map, HN.out]) (fun i hi => by
        have := HN.out
        rw [if_pos (by omega), List.getElem?_map]; simp [List.getD, List.getElem?_eq_getElem (show i < (d ++ e).length by omega)])
      have B := Lib.hid (And.intro hblk y2)
      have d0 := (HD.out.keep y2 (fun f => f)).cell (i := 0) rfl
      have hsub : (N : Int) - (nd : Int) = (ec : Int) := by have := HNL.out; omega
      clear y1 y2 hblk
      go_wp2_with fail
      refine (rsDecode_ok rd g T N ec d e wr (HR.out.keep B.out.2 (fun f => f)) (HG.out.keep B.out.2) B.out.1 HN.out HC.out.1 HC.out.2.1 hnz hN2 hec _ rfl).mono ?_
      rintro e' w3 ⟨rfl, k3⟩
      have B3 := Lib.hid (And.intro (B.out.1.keep k3 (fun f => f)) (B.out.2.trans k3))
      have C3 := Lib.hid (HT.out.keep B3.out.2 (fun f => f))
      clear k3 d0
      go_wp2_with fail
      go_loopw [11] (fun s11 wr => ∃ k : Nat, k ≤ nd ∧ s11 = .int .i64 (k : Int) ∧ Blk wr cb ((d ++ e).map vu8) 5 ∧ Blk wr T ((d ++ e).map vi) 3 ∧ Keeps (fun i => i = cb) w wr) (fun s11 _ => nd - (intOf s11).toNat)
      case atStart => exact ⟨0, by omega, rfl, C3.out, B3.out.1, B3.out.2.mono (fun _ _ f => f.elim)⟩
      case round =>
        obtain ⟨k, hk, rfl, y1, y2, y3⟩ := hrel
        by_cases hkn : k < nd
        · have hkn' : (k : Int) < (nd : Int) := by omega
          have hkN' : (k : Int) < (N : Int) := by omega
          have hkl : k < (d ++ e).length := by have := HN.out; omega
          have c1 := y2.cell (i := k) (v := .int .i64 (((d ++ e).getD k 0 : Nat) : Int)) (by rw [List.getElem?_map]; simp [List.getD, vi, List.getElem?_eq_getElem hkl])
          have c2 := y1.cell (i := k) (v := .int .u8 (((d ++ e).getD k 0 : Nat) : Int)) (by rw [List.getElem?_map]; simp [List.getD, vu8, List.getElem?_eq_getElem hkl])
          have f2 := y1.free k
          have hset := y1.set k (.int .u8 (((d ++ e).getD k 0 : Nat) : Int))
          rw [set_same (by rw [List.getElem?_map]; simp [List.getD, vu8, List.getElem?_eq_getElem hkl])] at hset
          have NX := Lib.hid (And.intro hset (And.intro (y2.far (p := ⟨cb, k, none⟩) (y2.typ.ne y1.typ (by decide)) (.int .u8 (((d ++ e).getD k 0 : Nat) : Int))) (y3.setCell (p := ⟨cb, k, none⟩) (Or.inl rfl) (.int .u8 (((d ++ e).getD k 0 : Nat) : Int)))))
          obtain ⟨x, hx⟩ : ∃ x, (d ++ e).getD k 0 = x := ⟨_, rfl⟩
          have hx256 : x < 256 := by rw [← hx]; exact getD_lt HB.out k
          rw [hx] at c1 c2 NX
          have hmod : (x : Int) % 256 = (x : Int) := by omega
          clear y1 y2 y3 hx hset hkl
          go_wp2
          go_roundw
          case rel => exact ⟨k + 1, by omega, by go_num, NX.out⟩
          case measure => simp [intOf]; omega
        · have hkn' : ¬ (k : Int) < (nd : Int) := by omega
          have NX := Lib.hid (And.intro y1 y3)
          clear y1 y2 y3
          go_wp2
          go_ret
          rw [← List.map_append]
          exact ⟨rfl, NX.out⟩

end Go.Proofs.YtplpafbkalkchaaGreatDoor
