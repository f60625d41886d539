/-
  Parts of the proof (QD, HI2, WR, QP).
-/
import Derived.Test.YtplpafbkalkchaaGreatDoorM22
import Derived.Test.YtplpafbkalkchaaGreatDoorM30
import Derived.Test.YtplpafbkalkchaaGreatDoorM32
import Derived.Test.YtplpafbkalkchaaGreatDoorM37
import Derived.Test.YtplpafbkalkchaaGreatDoorM39
import Derived.Test.YtplpafbkalkchaaGreatDoorM46
import Derived.Test.YtplpafbkalkchaaGreatDoorM49
import Derived.Carry
set_option linter.unusedSimpArgs false
set_option linter.unusedVariables false

namespace Go.Proofs.YtplpafbkalkchaaGreatDoor
open Go.RowKit

set_option maxRecDepth 100000 in
set_option maxHeartbeats 1000000 in
theorem pureDoor_ok (b c W H n mu lt tp : Nat) (P : Nat → Nat → Bool) (F : Nat → Nat → Int) (w : World) (h : BM w b c W H P) (s : Seen P W H n mu lt tp F) :
    Calls Tryz.prog 18 #[.pointer (some ⟨b, 0, none⟩)] w fun e w' => ∃ bb cb, e = .returned (.tuple #[.pointer (some ⟨bb, 0, none⟩), .nilIface]) ∧ BM w' bb cb n n (fun x y => F x y == 1) ∧ Keeps (fun _ => False) w w' := by
  have HB := Lib.hid h
  clear h
  go_enter Tryz.func18, Tryz.ntmps18
  go_wp2_with fail
  have K0 := Lib.hid ((Keeps.refl (fun _ => False) w).alloc (.cells #[.pointer none] 92))
  refine (pureBits_ok (some ⟨w.heap.size, 0, none⟩) b c W H n mu lt tp P F _ (HB.out.keep K0.out (fun h => h) (fun h => h)) s).mono ?_
  rintro e w1 ⟨bb, cb, rfl, a1, a2⟩
  have A := Lib.hid (And.intro a1 (K0.out.trans a2))
  clear a1 a2
  go_wp2_with fail
  go_ret2
  exact ⟨bb, cb, rfl, A.out.1, A.out.2⟩

set_option maxRecDepth 100000 in
set_option maxHeartbeats 1000000 in
theorem qrDecode_ok (w : World) (mb v l m : Nat) (gr : Nat → Nat) (cs : List Nat) (T : ByteArray) (bits T0 : List Bool) (es : List (List Nat))
    (hb : BMap w mb (_root_.QR.side v) (_root_.QR.side v) gr (fun x y => _root_.QR.symM v m (_root_.QR.bitsOf 15 (_root_.QR.formatOf (l * 8 + m))) (_root_.QR.bitsOf 18 31892) bits x y == 1))
    (h1 : 1 ≤ v) (h7 : v ≤ 7) (hl : l < 4) (hm : m < 8) (hs : Sent v l cs bits T0 es) (hT : codes T = cs) (hc1 : 1 ≤ cs.length) (hc2 : cs.length ≤ 60) :
    Calls Tryz.prog 19 #[.slice (some ⟨mb, 0, none⟩) (_root_.QR.side v) (_root_.QR.side v)] w fun e w' => ∃ (ra sa : Option Addr) (n rk i sk : Nat) (u : ByteArray) (y0 y1 y2 y3 : Int), e = .returned (.tuple #[.agg #[.string T, .slice ra n rk, .slice sa i sk, .string u, .int .i64 y0, .int .i64 y1, .int .i64 y2, .int .i64 y3], .bool true]) ∧ Keeps (fun _ => False) w w' := by
  have HB := Lib.hid hb
  have HX := Lib.hid (And.intro hs hT)
  obtain ⟨n, hn⟩ : ∃ n, _root_.QR.side v = n := ⟨_, rfl⟩
  rw [hn]
  have HN := Lib.hid hn
  clear hb hs hT hn
  go_enter Tryz.func19, Tryz.ntmps19
  go_wp2_with fail
  have C0 := Lib.hid (Blk.new w [.string ⟨#[]⟩, .slice none 0 0, .slice none 0 0, .string ⟨#[]⟩, .int .i64 0, .int .i64 0, .int .i64 0, .int .i64 0] 40)
  have K0 := Lib.hid ((Keeps.refl (fun _ => False) w).alloc (.cells #[.string ⟨#[]⟩, .slice none 0 0, .slice none 0 0, .string ⟨#[]⟩, .int .i64 0, .int .i64 0, .int .i64 0, .int .i64 0] 40))
  obtain ⟨q4, hq4⟩ : ∃ q4, w.heap.size = q4 := ⟨_, rfl⟩
  have HQ4 := Lib.hid hq4
  rw [hq4] at C0 ⊢
  clear hq4
  refine (newDecoder_ok _).mono ?_
  rintro e w2 ⟨db, rd, g, rfl, a1, a2, a3, a4⟩
  have A := Lib.hid (And.intro a1 (And.intro a2 a3))
  have K2 := Lib.hid (K0.out.trans a4)
  have C2 := Lib.hid (C0.out.keep a4 (fun h => h))
  clear a1 a2 a3 a4
  go_wp2_with fail
  have c35 := decodePlain_ok w2 db rd g mb v l m gr cs T bits T0 es A.out.1 A.out.2.1 A.out.2.2 (HB.out.keep K2.out (fun h => h) (fun _ _ h => h)) h1 h7 hl hm HX.out.1 HX.out.2 hc1 hc2
  rw [HN.out] at c35
  refine c35.mono ?_
  rintro e w3 ⟨r, rfl, a1, a2⟩
  have TD := Lib.hid a1
  have K3 := Lib.hid (K2.out.trans a2)
  have C3 := Lib.hid (C2.out.keep a2 (fun h => h))
  clear a1 a2 c35
  go_wp2_with fail
  refine (decoded_ok w3 r T TD.out).mono ?_
  rintro e w6 ⟨ra, sa, nr, rk, ns, sk, u, y0, y1, y2, y3, rfl, a1⟩
  have K6 := Lib.hid (K3.out.trans a1)
  have C7 := C3.out.keep a1 (fun h => h)
  have f6 := fun j => C7.free j
  have g0 := C7.cell (i := 0) rfl
  have g1 := C7.cell (i := 1) rfl
  have g2 := C7.cell (i := 2) rfl
  have g3 := C7.cell (i := 3) rfl
  have g4 := C7.cell (i := 4) rfl
  have g5 := C7.cell (i := 5) rfl
  have g6 := C7.cell (i := 6) rfl
  have g7 := C7.cell (i := 7) rfl
  have C7 := Lib.hid C7
  clear a1
  go_wp2_with fail
  have hz8 : Keeps (fun _ => False) w (((((((((w6.setCell ⟨q4, 0, none⟩ (.string T)).setCell ⟨q4, 1, none⟩ (.slice ra nr rk)).setCell ⟨q4, 2, none⟩ (.slice sa ns sk)).setCell ⟨q4, 3, none⟩ (.string u)).setCell ⟨q4, 4, none⟩ (.int .i64 y0)).setCell ⟨q4, 5, none⟩ (.int .i64 y1)).setCell ⟨q4, 6, none⟩ (.int .i64 y2)).setCell ⟨q4, 7, none⟩ (.int .i64 y3))) := by
    have ks := (((((((kset q4 w6 0 (.string T)).trans (kset q4 _ 1 (.slice ra nr rk))).trans (kset q4 _ 2 (.slice sa ns sk))).trans (kset q4 _ 3 (.string u))).trans (kset q4 _ 4 (.int .i64 y0))).trans (kset q4 _ 5 (.int .i64 y1))).trans (kset q4 _ 6 (.int .i64 y2))).trans (kset q4 _ 7 (.int .i64 y3))
    exact K6.out.step ks (fun j hj e => by have := HQ4.out; omega)
  have C8 := (((((((C7.out.set 0 (.string T)).set 1 (.slice ra nr rk)).set 2 (.slice sa ns sk)).set 3 (.string u)).set 4 (.int .i64 y0)).set 5 (.int .i64 y1)).set 6 (.int .i64 y2)).set 7 (.int .i64 y3)
  have e0 := C8.cell (i := 0) rfl
  have e1 := C8.cell (i := 1) rfl
  have e2 := C8.cell (i := 2) rfl
  have e3 := C8.cell (i := 3) rfl
  have e4 := C8.cell (i := 4) rfl
  have e5 := C8.cell (i := 5) rfl
  have e6 := C8.cell (i := 6) rfl
  have e7 := C8.cell (i := 7) rfl
  have HZ8 := Lib.hid hz8
  clear C8 hz8
  refine bodyPost_ret (v := .tuple #[.agg #[.string T, .slice ra nr rk, .slice sa ns sk, .string u, .int .i64 y0, .int .i64 y1, .int .i64 y2, .int .i64 y3], .bool true]) ?_ rfl ⟨ra, sa, nr, rk, ns, sk, u, y0, y1, y2, y3, rfl, HZ8.out⟩
  rw [results_cell_tmp rfl]
  go_simp

end Go.Proofs.YtplpafbkalkchaaGreatDoor

namespace Go.Proofs.YtplpafbkalkchaaGreatDoor
open Go.RowKit
theorem push_set {α : Type} (a : Array α) (x y : α) : (a.push x).setIfInBounds a.size y = a.push y := by
  apply Array.ext
  · simp
  · intro i h1 h2
    simp only [Array.size_setIfInBounds, Array.size_push] at h1
    by_cases e : i = a.size
    · subst e; simp
    · have hx : i < (a.push x).size := by simp; omega
      rw [Array.getElem_setIfInBounds_ne hx (by omega), Array.getElem_push_lt (by omega), Array.getElem_push_lt (by omega)]
theorem mapAt (w : World) (es : Array MapEntry) (c : Nat) : (w.alloc (.map es c)).heap[w.heap.size]? = some (.map es c) := by
  show (w.heap.push _)[w.heap.size]? = _
  simp
theorem mapSet (w : World) (es es' : Array MapEntry) (c c' : Nat) : ({ w.alloc (.map es c) with heap := (w.alloc (.map es c)).heap.setIfInBounds w.heap.size (.map es' c') } : World) = w.alloc (.map es' c') := by
  show ({ w with heap := (w.heap.push _).setIfInBounds w.heap.size _ } : World) = { w with heap := w.heap.push _ }
  rw [push_set]
theorem ins0 (w : World) (v : Value) : (Instr.mapUpdate 47 (.map (some w.heap.size)) (.int .i64 0) v).run Tryz.prog (w.alloc (.map #[] 0)) = .ok () (w.alloc (.map #[⟨.int .i64 0, v, 0⟩] 1)) := by
  have hm := mapAt w #[] 0
  have hf : (Instr.findKey 45 (.int .i64 0) []).run Tryz.prog (w.alloc (.map #[] 0)) = .ok none (w.alloc (.map #[] 0)) := MapKept.run_findKey Tryz.underlying45 rfl
  simp [Instr.mapUpdate, run_underlying Tryz.underlying47, MapKept.run_getObj_map hm, MapKept.run_checkKey Tryz.underlying45 (k := .int .i64 0) (show MapKept.IsKey _ _ from rfl), Result.andThen, hf, MapKept.run_setObj_map _ hm]
  exact mapSet _ _ _ _ _
theorem ins5 (w : World) (v u : Value) : (Instr.mapUpdate 47 (.map (some w.heap.size)) (.int .i64 5) v).run Tryz.prog (w.alloc (.map #[⟨.int .i64 0, u, 0⟩] 1)) = .ok () (w.alloc (.map #[⟨.int .i64 0, u, 0⟩, ⟨.int .i64 5, v, 1⟩] 2)) := by
  have hm := mapAt w #[⟨.int .i64 0, u, 0⟩] 1
  have hf : (Instr.findKey 45 (.int .i64 5) [⟨.int .i64 0, u, 0⟩]).run Tryz.prog (w.alloc (.map #[⟨.int .i64 0, u, 0⟩] 1)) = .ok none (w.alloc (.map #[⟨.int .i64 0, u, 0⟩] 1)) := MapKept.run_findKey Tryz.underlying45 (by simp [Instr.findNow, Instr.sameNow])
  simp [Instr.mapUpdate, run_underlying Tryz.underlying47, MapKept.run_getObj_map hm, MapKept.run_checkKey Tryz.underlying45 (k := .int .i64 5) (show MapKept.IsKey _ _ from rfl), Result.andThen, hf, MapKept.run_setObj_map _ hm]
  exact mapSet _ _ _ _ _
end Go.Proofs.YtplpafbkalkchaaGreatDoor

namespace Go.Proofs.YtplpafbkalkchaaGreatDoor
open Go.RowKit

theorem assert46 (w : World) (v : Value) : (Instr.typeAssert (.iface 46 v) 20 46 true).run Tryz.prog w = .ok (.tuple #[v, .bool true]) w := by kernel_rfl
theorem assert3 (w : World) (v : Value) : (Instr.typeAssert (.iface 3 v) 20 3 true).run Tryz.prog w = .ok (.tuple #[v, .bool true]) w := by kernel_rfl
theorem newWriter_ok (w : World) : Calls Tryz.prog 13 #[] w fun e w' => ∃ b, e = .returned (.pointer (some b)) ∧ Keeps (fun _ => False) w w' := by
  go_enter Tryz.func13, Tryz.ntmps13
  go_wp2
  go_ret
  exact ⟨_, rfl, (Keeps.refl _ w).alloc _⟩

/-- What the writer has made of a text. -/
structure Wrote (s : ByteArray) (l : Nat) (P : Nat → Nat → Bool) (OW OH n mu lt tp v m : Nat) (bits T0 : List Bool) (es : List (List Nat)) : Prop where
  hv1 : 1 ≤ v
  hv7 : v ≤ 7
  hm : m < 8
  hn : n = _root_.QR.side v
  hW : OW ≤ 300
  hH : OH ≤ 300
  hmu : mu ≤ 14
  shown : Shown P OW OH n mu lt tp (_root_.QR.symM v m (QR.bitsOf 15 (_root_.QR.formatOf (l * 8 + m))) (QR.bitsOf 18 31892) bits)
  sent : Sent v l (codes s) bits T0 es

theorem fitsIn {a b n z mu : Nat} (h : mu = min (a / (n + 2 * z)) (b / (n + 2 * z))) (h1 : n + 2 * z ≤ a) (h2 : n + 2 * z ≤ b) (hp : 0 < n + 2 * z) : 1 ≤ mu ∧ n * mu ≤ a ∧ n * mu ≤ b := by
  have e1 : 1 ≤ a / (n + 2 * z) := (Nat.one_le_div_iff hp).2 h1
  have e2 : 1 ≤ b / (n + 2 * z) := (Nat.one_le_div_iff hp).2 h2
  have f1 := Nat.mul_div_le a (n + 2 * z)
  have f2 := Nat.mul_div_le b (n + 2 * z)
  have g1 := Nat.mul_le_mul (show n ≤ n + 2 * z by omega) (show mu ≤ a / (n + 2 * z) by omega)
  have g2 := Nat.mul_le_mul (show n ≤ n + 2 * z by omega) (show mu ≤ b / (n + 2 * z) by omega)
  omega

set_option maxRecDepth 100000 in
set_option maxHeartbeats 2000000 in
theorem write_ok (wb : Option Addr) (mb l W H z : Nat) (s : ByteArray) (w : World) (hmp : w.heap[mb]? = some (.map (hintEs (l : Int) (z : Int)) 2)) (h1 : 1 ≤ s.size) (h2 : s.size ≤ 60) (hl : l < 4) (hW : W ≤ 300) (hH : H ≤ 300) (hz1 : 1 ≤ z) (hz : z ≤ 20) :
    Calls Tryz.prog 14 #[.pointer wb, .string s, .int .i64 11, .int .i64 (W : Int), .int .i64 (H : Int), .map (some mb)] w fun e w' => ∃ bb cb P OW OH n mu lt tp v m bits T0 es, e = .returned (.tuple #[.pointer (some ⟨bb, 0, none⟩), .nilIface]) ∧
      BM w' bb cb OW OH P ∧ Wrote s l P OW OH n mu lt tp v m bits T0 es ∧ Keeps (fun _ => False) w w' := by
  have HM := Lib.hid hmp
  have qm : ∀ (w : World) (r : Option Nat), (binOp .neq 47 (.map r) (.map none)).run Tryz.prog w = .ok (.bool (!r.isNone)) w := fun w r => run_neq_map_nil w _ _ _ r Tryz.underlying47
  have k0 := hint0 mb (l : Int) (z : Int) w HM.out
  have k5 := hint5 mb (l : Int) (z : Int) w HM.out
  have hs0 : ((s.size : Int) == 0) = false := beq_eq_false_iff_ne.2 (by omega)
  have t0 := assert46 w (.int .i64 (l : Int))
  have t5 := assert3 w (.int .i64 (z : Int))
  clear hmp
  go_enter Tryz.func14, Tryz.ntmps14
  go_wp2_with fail
  clear qm k0 k5 t0 t5
  refine (encode_ok mb l (z : Int) s w HM.out h1 h2 hl).mono ?_
  rintro e w1 ⟨q, yb, ym, g, v, m, bits, T0, es, v0, v1, v2, v3, rfl, a1, hv1, hv7, hm, a2, a3, a4⟩
  obtain ⟨n, hn⟩ : ∃ n, _root_.QR.side v = n := ⟨_, rfl⟩
  rw [hn] at a2
  have hn2 : 21 ≤ n ∧ n ≤ 45 := by rw [← hn]; unfold _root_.QR.side; omega
  have Q := Lib.hid a1
  have Y := Lib.hid a2
  have SE := Lib.hid a3
  have K1 := Lib.hid a4
  have HN := Lib.hid hn
  clear a1 a2 a3 a4 hn
  obtain ⟨n1, n2⟩ := hn2
  go_wp2_with fail
  refine (render_ok q yb ym n W H z _ v0 v1 v2 v3 g _ w1 Q.out Y.out n1 (by omega) (by omega) (by omega) (by omega) rfl).mono ?_
  rintro e w2 ⟨bb, cb, rfl, b1, b2⟩
  have B := Lib.hid (And.intro b1 (K1.out.trans b2))
  clear b1 b2
  go_wp2
  go_ret2
  obtain ⟨f1, f2, f3⟩ := fitsIn (a := max W (n + 2 * z)) (b := max H (n + 2 * z)) (n := n) (z := z) rfl (by omega) (by omega) (by omega)
  refine ⟨bb, cb, _, _, _, n, _, _, _, v, m, bits, T0, es, rfl, B.out.1, ⟨hv1, hv7, hm, HN.out.symm, by omega, by omega, ?_, dots_shown _ _ _ _ _ _ _ f1 (by omega) (by omega), SE.out⟩, B.out.2⟩
  have := Nat.div_le_div_left (a := max W (n + 2 * z)) (show 21 ≤ n + 2 * z by omega) (by omega)
  omega

set_option maxRecDepth 100000 in
set_option maxHeartbeats 2000000 in
theorem qrWrite_ok (l W H z : Nat) (s : ByteArray) (w : World) (h1 : 1 ≤ s.size) (h2 : s.size ≤ 60) (hl : l < 4) (hW : W ≤ 300) (hH : H ≤ 300) (hz1 : 1 ≤ z) (hz : z ≤ 20) (L W' H' Z : Int) (hL : L = (l : Int)) (hW' : W' = (W : Int)) (hH' : H' = (H : Int)) (hZ : Z = (z : Int)) :
    Calls Tryz.prog 5 #[.string s, .int .i64 W', .int .i64 H', .int .i64 L, .int .i64 Z] w fun e w' => ∃ pm g P OW OH n mu lt tp v m bits T0 es, e = .returned (.tuple #[.slice (some ⟨pm, 0, none⟩) OH OH, .bool true]) ∧
      RowsK w' pm OW OH OH g (fun x y => .bool (P x y)) 57 4 ∧ Wrote s l P OW OH n mu lt tp v m bits T0 es ∧ Keeps (fun _ => False) w w' := by
  subst hL hW' hH' hZ
  have hmm := @run_makeMap Tryz.prog
  have i0 := ins0 w (.iface 46 (.int .i64 (l : Int)))
  have i5 := ins5 w (.iface 3 (.int .i64 (z : Int))) (.iface 46 (.int .i64 (l : Int)))
  go_enter Tryz.func5, Tryz.ntmps5
  go_wp2_with fail
  clear hmm i0 i5
  have hm0 := mapAt w (hintEs (l : Int) (z : Int)) 2
  have HM := Lib.hid hm0
  obtain ⟨mb, hmb⟩ : ∃ mb, w.heap.size = mb := ⟨_, rfl⟩
  have K0 := Lib.hid ((Keeps.refl (fun _ => False) w).alloc (.map (hintEs (l : Int) (z : Int)) 2))
  clear hm0
  refine (newWriter_ok _).mono ?_
  rintro e w1 ⟨wb, rfl, k1⟩
  have HM1 := Lib.hid (hints_kept HM.out k1)
  rw [hmb] at HM1
  have K1 := Lib.hid (K0.out.trans k1)
  rw [hmb]
  clear k1 hmb HM K0
  go_wp2_with fail
  refine (write_ok (some wb) mb l W H z s w1 HM1.out h1 h2 hl hW hH hz1 hz).mono ?_
  rintro e w2 ⟨bb, cb, P, OW, OH, n, mu, lt, tp, v, m, bits, T0, es, rfl, b1, b2, b3⟩
  have B := Lib.hid b1
  have WR := Lib.hid b2
  have K2 := Lib.hid (K1.out.trans b3)
  clear b1 b2 b3
  go_wp2_with fail
  refine (rowsOf_ok bb cb OW OH P w2 B.out (by have := WR.out.hW; omega) (by have := WR.out.hH; omega)).mono ?_
  rintro e w3 ⟨pm, g, rfl, r⟩
  have R := Lib.hid r
  clear r
  go_wp2
  go_ret2
  exact ⟨pm, g, P, OW, OH, n, mu, lt, tp, v, m, bits, T0, es, rfl, R.out.rows, WR.out, K2.out.trans R.out.keep⟩

end Go.Proofs.YtplpafbkalkchaaGreatDoor

namespace Go.Proofs.YtplpafbkalkchaaGreatDoor
open Go.RowKit

set_option maxRecDepth 100000 in
set_option maxHeartbeats 4000000 in
theorem black_ok (d W H N k D L lt : Nat) (P : Nat → Nat → Bool) (pt : Bool) (w : World) (hr : Row8 w d N (_root_.QR.grayF P W D L)) (hN : N = W * H) (hW1 : 21 ≤ W) (hH1 : 21 ≤ H) (hW : W ≤ 300) (hH : H ≤ 300) (hDL : 3 * D ≤ L) (hL1 : 128 ≤ L) (hL2 : L < 256)
    (hleft : ∀ x y, x < lt → P x y = false) (hc : (pt = false ∧ W < 5 * lt) ∨ (pt = true ∧ 40 ≤ W ∧ 40 ≤ H ∧ D = 0)) :
    Calls Tryz.prog 16 #[.int .i64 (W : Int), .int .i64 (H : Int), .slice (some ⟨d, 0, none⟩) N k, .bool pt] w fun e w' => ∃ mb mc, e = .returned (.pointer (some ⟨mb, 0, none⟩)) ∧ BM w' mb mc W H P ∧ Keeps (fun _ => False) w w' := by
  have HR := Lib.hid hr
  have HN := Lib.hid hN
  have HL := Lib.hid hleft
  clear hr hN hleft
  rcases hc with ⟨rfl, hlt⟩ | ⟨rfl, hW40, hH40, rfl⟩
  · go_enter Tryz.func16, Tryz.ntmps16
    go_wp2_with fail
    refine (source_ok d W H N k _ w HR.out HN.out (by omega) (by omega) (by omega) (by omega)).mono ?_
    rintro e w1 ⟨sb, d2, k2, rfl, a1, a2, a3, a4, a5, a6⟩
    have S1 := Lib.hid (And.intro a1 (And.intro a2 (And.intro a3 (And.intro a4 a5))))
    have K1 := Lib.hid a6
    clear a1 a2 a3 a4 a5 a6
    go_wp2_with fail
    refine (newGlobal_ok sb w1).mono ?_
    rintro e w2 ⟨rfl, b1, b2⟩
    have l1 := S1.out.1.head.lt
    have l2 := S1.out.1.row.lt
    have S2 := Lib.hid (S1.out.1.keep b2 (fun h => h) (fun h => h))
    have K2 := Lib.hid (K1.out.trans b2)
    have hs1 := K1.out.size
    obtain ⟨gb, hgb⟩ : ∃ q, w1.heap.size + 2 = q := ⟨_, rfl⟩
    obtain ⟨bk, hbk⟩ : ∃ q, w1.heap.size + 1 = q := ⟨_, rfl⟩
    obtain ⟨lo, hlo⟩ : ∃ q, w1.heap.size = q := ⟨_, rfl⟩
    rw [hgb, hbk, hlo] at b1
    rw [hgb]
    have mb0 := mB gb
    have c311 := Lib.hid (global_ok gb sb bk lo d2 W H N k2 D L lt P w2 b1 S2.out HN.out S1.out.2.1 (by omega) (by omega) (by omega) (by omega) (by omega) hW1 hH1 hW hH hDL hL1 hL2 hlt HL.out)
    have HG := Lib.hid (show w.heap.size ≤ gb ∧ w.heap.size ≤ bk by omega)
    clear b1 b2 l1 l2 hs1 hgb hbk hlo
    go_wp2_with fail
    refine c311.out.mono ?_
    rintro e w3 ⟨mb, mc, rfl, z1, z2⟩
    have Z := Lib.hid z1
    have K3 := Lib.hid (K2.out.step (S := fun _ => False) z2 (fun i hi e => by have := HG.out; omega))
    clear z1 z2
    go_wp2_with fail
    go_ret
    exact ⟨mb, mc, rfl, Z.out, K3.out⟩
  · go_enter Tryz.func16, Tryz.ntmps16
    go_wp2_with fail
    refine (source_ok d W H N k _ w HR.out HN.out (by omega) (by omega) (by omega) (by omega)).mono ?_
    rintro e w1 ⟨sb, d2, k2, rfl, a1, a2, a3, a4, a5, a6⟩
    have S1 := Lib.hid (And.intro a1 (And.intro a2 (And.intro a3 (And.intro a4 a5))))
    have K1 := Lib.hid a6
    clear a1 a2 a3 a4 a5 a6
    go_wp2_with fail
    refine (newGlobal_ok sb w1).mono ?_
    rintro e w2 ⟨rfl, _, b2⟩
    have S2 := Lib.hid (S1.out.1.keep b2 (fun h => h) (fun h => h))
    have K2 := Lib.hid (K1.out.trans b2)
    clear b2
    generalize w1.heap.size + 2 = gb0
    go_wp2_with fail
    refine (newHybrid_ok sb w2).mono ?_
    rintro e w3 ⟨gb, hb, bk, lo, rfl, b1, b2, b3, b4, b5, b6, b7, b8, b9⟩
    have l1 := S2.out.head.lt
    have l2 := S2.out.row.lt
    have hs2 := K2.out.size
    have S3 := Lib.hid (S2.out.keep b9 (fun h => h) (fun h => h))
    have K3 := Lib.hid (K2.out.trans b9)
    have mh0 := mHy hb
    have c319 := Lib.hid (hybrid_ok hb gb sb bk lo d2 W H N k2 0 L lt P w3 b2 b1 S3.out HN.out (by omega) (by omega) hW40 hH40 hW hH hL1 hL2)
    have HG := Lib.hid (show w.heap.size ≤ hb by omega)
    clear b1 b2 b3 b4 b5 b6 b7 b8 b9 l1 l2 hs2
    go_wp2_with fail
    refine c319.out.mono ?_
    rintro e w4 ⟨mb, mc, rfl, z1, z2⟩
    have Z := Lib.hid z1
    have K4 := Lib.hid (K3.out.step (S := fun _ => False) z2 (fun i hi e => by have := HG.out; omega))
    clear z1 z2
    go_wp2_with fail
    go_ret
    exact ⟨mb, mc, rfl, Z.out, K4.out⟩

set_option maxRecDepth 100000 in
set_option maxHeartbeats 4000000 in
theorem pure_ok (d W H N k D L n mu lt tp v l m : Nat) (P : Nat → Nat → Bool) (T : ByteArray) (bits T0 : List Bool) (es : List (List Nat)) (pt : Bool) (w : World) (hr : Row8 w d N (_root_.QR.grayF P W D L)) (hN : N = W * H) (hDL : 3 * D ≤ L) (hL1 : 128 ≤ L) (hL2 : L < 256)
    (hw : Wrote T l P W H n mu lt tp v m bits T0 es) (hl : l < 4) (hT1 : 1 ≤ T.size) (hT2 : T.size ≤ 60) (hc : (pt = false ∧ W < 5 * lt) ∨ (pt = true ∧ 40 ≤ W ∧ 40 ≤ H ∧ D = 0)) :
    Calls Tryz.prog 11 #[.int .i64 (W : Int), .int .i64 (H : Int), .slice (some ⟨d, 0, none⟩) N k, .bool pt] w fun e w' => ∃ (ra sa : Option Addr) (n rk i sk : Nat) (u : ByteArray) (y0 y1 y2 y3 : Int), e = .returned (.tuple #[.agg #[.string T, .slice ra n rk, .slice sa i sk, .string u, .int .i64 y0, .int .i64 y1, .int .i64 y2, .int .i64 y3], .bool true]) ∧ Keeps (fun _ => False) w w' := by
  have SE := Lib.hid (Seen.of_sym hw.shown hw.hn hw.hv1 hw.hv7 hw.hmu hw.hW hw.hH)
  have hp := SE.out.pos
  have hmu1 := hw.shown.hmu
  have hWW := hw.shown.hW
  have hHH := hw.shown.hH
  have HW := Lib.hid hw
  have C0 := Lib.hid (Blk.new w [.string ⟨#[]⟩, .slice none 0 0, .slice none 0 0, .string ⟨#[]⟩, .int .i64 0, .int .i64 0, .int .i64 0, .int .i64 0] 40)
  have K0 := Lib.hid ((Keeps.refl (fun _ => False) w).alloc (.cells #[.string ⟨#[]⟩, .slice none 0 0, .slice none 0 0, .string ⟨#[]⟩, .int .i64 0, .int .i64 0, .int .i64 0, .int .i64 0] 40))
  have c16 := Lib.hid (black_ok d W H N k D L lt P pt _ (hr.keep K0.out (fun h => h)) hN (by omega) (by omega) hw.hW hw.hH hDL hL1 hL2 (fun x y h => hw.shown.left y h) hc)
  obtain ⟨q4, hq4⟩ : ∃ q4, w.heap.size = q4 := ⟨_, rfl⟩
  have HQ4 := Lib.hid hq4
  rw [hq4] at C0
  have hn1 := SE.out.hn1
  have hn2 := SE.out.hn2
  have HB := Lib.hid (show W ≤ 1000000 ∧ H ≤ 1000000 by have := hw.hW; have := hw.hH; omega)
  clear hr hN hw hp hmu1 hWW hHH hc
  obtain ⟨nn, hnn⟩ : ∃ nn, _root_.QR.side v = nn := ⟨_, rfl⟩
  have HNN := Lib.hid hnn
  clear hnn
  go_enter Tryz.func11, Tryz.ntmps11
  go_wp2_with fail
  clear hq4
  refine c16.out.mono ?_
  rintro e w2 ⟨mb, mc, rfl, a1, a2⟩
  have B2 := Lib.hid a1
  have K2 := Lib.hid (K0.out.trans a2)
  have C2 := Lib.hid (C0.out.keep a2 (fun h => h))
  clear a1 a2
  go_wp2_with fail
  refine (pureDoor_ok mb mc W H n mu lt tp P _ w2 B2.out SE.out).mono ?_
  rintro e w3 ⟨bb, cb, rfl, a1, a2⟩
  have B3 := Lib.hid a1
  have K3 := Lib.hid (K2.out.trans a2)
  have C3 := Lib.hid (C2.out.keep a2 (fun h => h))
  clear a1 a2
  go_wp2_with fail
  refine (taken_ok bb cb n n _ w3 B3.out (by omega) (by omega)).mono ?_
  rintro e w4 ⟨tm, tg, rfl, a1⟩
  have M4 := Lib.hid a1.rows
  have K4 := Lib.hid (K3.out.trans a1.keep)
  have C4 := Lib.hid (C3.out.keep a1.keep (fun h => h))
  clear a1
  go_wp2_with fail
  have c19 := qrDecode_ok w4 tm v l m tg (codes T) T bits T0 es (by rw [← HW.out.hn]; exact M4.out) HW.out.hv1 HW.out.hv7 hl HW.out.hm HW.out.sent rfl (by rw [codes_length]; exact hT1) (by rw [codes_length]; exact hT2)
  rw [← HW.out.hn] at c19
  refine c19.mono ?_
  rintro e w6 ⟨ra, sa, nr, rk, ns, sk, u, y0, y1, y2, y3, rfl, a1⟩
  have K6 := Lib.hid (K4.out.trans a1)
  have C7 := C4.out.keep a1 (fun h => h)
  have f6 := fun j => C7.free j
  have g0 := C7.cell (i := 0) rfl
  have g1 := C7.cell (i := 1) rfl
  have g2 := C7.cell (i := 2) rfl
  have g3 := C7.cell (i := 3) rfl
  have g4 := C7.cell (i := 4) rfl
  have g5 := C7.cell (i := 5) rfl
  have g6 := C7.cell (i := 6) rfl
  have g7 := C7.cell (i := 7) rfl
  have C7 := Lib.hid C7
  clear a1 c19
  go_wp2_with fail
  have hz8 : Keeps (fun _ => False) w (((((((((w6.setCell ⟨q4, 0, none⟩ (.string T)).setCell ⟨q4, 1, none⟩ (.slice ra nr rk)).setCell ⟨q4, 2, none⟩ (.slice sa ns sk)).setCell ⟨q4, 3, none⟩ (.string u)).setCell ⟨q4, 4, none⟩ (.int .i64 y0)).setCell ⟨q4, 5, none⟩ (.int .i64 y1)).setCell ⟨q4, 6, none⟩ (.int .i64 y2)).setCell ⟨q4, 7, none⟩ (.int .i64 y3))) := by
    have ks := (((((((kset q4 w6 0 (.string T)).trans (kset q4 _ 1 (.slice ra nr rk))).trans (kset q4 _ 2 (.slice sa ns sk))).trans (kset q4 _ 3 (.string u))).trans (kset q4 _ 4 (.int .i64 y0))).trans (kset q4 _ 5 (.int .i64 y1))).trans (kset q4 _ 6 (.int .i64 y2))).trans (kset q4 _ 7 (.int .i64 y3))
    exact K6.out.step ks (fun j hj e => by have := HQ4.out; omega)
  have C8 := (((((((C7.out.set 0 (.string T)).set 1 (.slice ra nr rk)).set 2 (.slice sa ns sk)).set 3 (.string u)).set 4 (.int .i64 y0)).set 5 (.int .i64 y1)).set 6 (.int .i64 y2)).set 7 (.int .i64 y3)
  have e0 := C8.cell (i := 0) rfl
  have e1 := C8.cell (i := 1) rfl
  have e2 := C8.cell (i := 2) rfl
  have e3 := C8.cell (i := 3) rfl
  have e4 := C8.cell (i := 4) rfl
  have e5 := C8.cell (i := 5) rfl
  have e6 := C8.cell (i := 6) rfl
  have e7 := C8.cell (i := 7) rfl
  have HZ8 := Lib.hid hz8
  clear C8 hz8
  refine bodyPost_ret (v := .tuple #[.agg #[.string T, .slice ra nr rk, .slice sa ns sk, .string u, .int .i64 y0, .int .i64 y1, .int .i64 y2, .int .i64 y3], .bool true]) ?_ rfl ⟨ra, sa, nr, rk, ns, sk, u, y0, y1, y2, y3, rfl, HZ8.out⟩
  rw [results_cell_tmp rfl]
  go_simp

end Go.Proofs.YtplpafbkalkchaaGreatDoor
