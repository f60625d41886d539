/-
  Parts of the proof (PK, HI).
-/
import Derived.Test.YtplpafbkalkchaaGreatDoorM30
import Derived.Test.YtplpafbkalkchaaGreatDoorM36
import Derived.Laws.Entries
import Derived.MapKept
import Derived.KernelRfl
set_option linter.unusedSimpArgs false
set_option linter.unusedVariables false

namespace Go.Proofs.YtplpafbkalkchaaGreatDoor
open Go.RowKit

theorem penalty_ok (b m n : Nat) (g : Nat → Nat) (f : Nat → Nat → Int) (w : World) (h : YM w b m n g f) (hn : n ≤ 100) (hn0 : 0 < n) :
    Calls Tryz.prog 123 #[.pointer (some ⟨b, 0, none⟩)] w fun e w' => (∃ p : Nat, e = .returned (.int .i64 (p : Int)) ∧ p < 2147483647) ∧ w = w' := by
  have HH := Lib.hid h
  clear h
  go_enter Tryz.func123, Tryz.ntmps123
  go_wp2_with fail
  refine (rule1s_ok b m n g f w HH.out hn).mono ?_
  rintro e w1 ⟨⟨p1, rfl, hp1⟩, rfl⟩
  go_wp2_with fail
  refine (rule2_ok b m n g f w HH.out hn).mono ?_
  rintro e w1 ⟨⟨p2, rfl, hp2⟩, rfl⟩
  go_wp2_with fail
  refine (rule3_ok b m n g f w HH.out hn).mono ?_
  rintro e w1 ⟨⟨p3, rfl, hp3⟩, rfl⟩
  go_wp2_with fail
  refine (rule4_ok b m n g f w HH.out hn hn0).mono ?_
  rintro e w1 ⟨⟨p4, rfl, hp4⟩, rfl⟩
  go_wp2
  go_ret
  exact ⟨⟨p1 + p2 + p3 + p4, by go_num, by omega⟩, rfl⟩

set_option maxRecDepth 100000 in
set_option maxHeartbeats 4000000 in
theorem chooseMask_ok (b c yb ym n s vb v l : Nat) (bits : List Bool) (g : Nat → Nat) (f : Nat → Nat → Int) (w : World) (hb : BA w b c bits) (hV : Ver w s vb v) (h : YM w yb ym n g f) (hl : l < 4)
    (h1 : 1 ≤ v) (h7 : v ≤ 7) (hn : n = _root_.QR.side v) (hlb : bits.length = 8 * _root_.QR.wordsN v) (hg : ∀ y, y < n → vb < g y ∨ g y < s) (L : Int) (hL : L = (l : Int)) :
    Calls Tryz.prog 66 #[.pointer (some ⟨b, 0, none⟩), .int .i64 L, .pointer (some ⟨vb, 0, none⟩), .pointer (some ⟨yb, 0, none⟩)] w fun e w' => (∃ m : Nat, m < 8 ∧ e = .returned (.tuple #[.int .i64 (m : Int), .nilIface])) ∧
      (∃ F, YM w' yb ym n g F) ∧ Keeps (inRows g n) w w' := by
  subst hL
  have hn1 : 21 ≤ n ∧ n ≤ 45 := by subst hn; unfold _root_.QR.side; omega
  obtain ⟨n1, n2⟩ := hn1
  have hS : ∀ i, s ≤ i → i ≤ vb → ¬ inRows g n i := fun i i1 i2 ⟨y, hy, e⟩ => by have := hg y hy; omega
  have HB := Lib.hid (And.intro hn (And.intro hlb (And.intro hS hg)))
  have HS := Lib.hid (show ∃ F, YM w yb ym n g F ∧ BA w b c bits ∧ Ver w s vb v ∧ Keeps (inRows g n) w w from ⟨f, h, hb, hV, Keeps.refl _ _⟩)
  clear h hn hb hV hg hS hlb
  go_enter Tryz.func66, Tryz.ntmps66
  go_wp2_with fail
  go_loopw [10, 11, 12, 13, 14] (fun s10 s11 s12 _ _ wr => ∃ (k p : Nat) (q : Int), k ≤ 8 ∧ s10 = .int .i64 (p : Int) ∧ s11 = .int .i64 q ∧ s12 = .int .i64 (k : Int) ∧ p ≤ 2147483647 ∧
      Hid ((k = 0 ∧ q = -1 ∧ p = 2147483647) ∨ (0 < k ∧ 0 ≤ q ∧ q < k)) ∧ Hid (∃ F, YM wr yb ym n g F ∧ BA wr b c bits ∧ Ver wr s vb v ∧ Keeps (inRows g n) w wr)) (fun _ _ s12 _ _ _ => 8 - (intOf s12).toNat)
  case atStart => exact ⟨0, 2147483647, -1, by omega, rfl, rfl, rfl, by omega, Lib.hid (Or.inl ⟨rfl, rfl, rfl⟩), HS⟩
  case round =>
    obtain ⟨k, p, q, hk, rfl, rfl, rfl, hp, hq, hA⟩ := hrel
    by_cases hk8 : k < 8
    · have hk8' : (k : Int) < 8 := by omega
      obtain ⟨F, a1, a2, a3, a4⟩ := hA.out
      have A := Lib.hid (And.intro a1 (And.intro a2 (And.intro a3 a4)))
      clear a1 a2 a3 a4 hA
      go_wp2_with fail
      refine (buildMatrix_ok b c yb ym n s vb v l k bits g F _ A.out.2.1 A.out.2.2.1 A.out.1 hk8 hl h1 h7 HB.out.1 HB.out.2.1 HB.out.2.2.2 _ _ rfl rfl).mono ?_
      rintro e w1 ⟨rfl, b1, b2⟩
      have B := Lib.hid (And.intro b1 (And.intro (A.out.2.1.keepS b2 (fun i hi => ⟨145, A.out.1.rowT i hi, by decide, by decide⟩)) (And.intro (A.out.2.2.1.keep b2 HB.out.2.2.1) (A.out.2.2.2.rows b2))))
      clear b1 b2
      go_wp2_with fail
      refine (penalty_ok yb ym n g _ w1 B.out.1 (by omega) (by omega)).mono ?_
      rintro e w2 ⟨⟨p2, rfl, hp2⟩, rfl⟩
      by_cases hlt : p2 < p
      · have hlt' : (p2 : Int) < (p : Int) := by omega
        go_wp2
        go_roundw
        case rel => exact ⟨k + 1, p2, k, by omega, rfl, rfl, by go_num, by omega, Lib.hid (Or.inr ⟨by omega, by omega, by omega⟩), Lib.hid ⟨_, B.out⟩⟩
        case measure => simp [intOf]; omega
      · have hlt' : ¬ (p2 : Int) < (p : Int) := by omega
        go_wp2
        go_roundw
        case rel => exact ⟨k + 1, p, q, by omega, rfl, rfl, by go_num, by omega, Lib.hid (Or.inr (by have := hq.out; omega)), Lib.hid ⟨_, B.out⟩⟩
        case measure => simp [intOf]; omega
    · obtain rfl : k = 8 := by omega
      obtain ⟨mN, hm⟩ : ∃ mN : Nat, q = (mN : Int) := ⟨q.toNat, by have := hq.out; omega⟩
      have hm8 : mN < 8 := by have := hq.out; omega
      subst hm
      go_wp2
      go_ret2
      obtain ⟨F, a1, a2, a3, a4⟩ := hA.out
      exact ⟨⟨mN, hm8, rfl⟩, ⟨F, a1⟩, a4⟩

end Go.Proofs.YtplpafbkalkchaaGreatDoor

namespace Go.Proofs.YtplpafbkalkchaaGreatDoor
open Go.RowKit

/-- The hints: a level, a margin. -/
def hintEs (lv mg : Int) : Array MapEntry := #[⟨.int .i64 0, .iface 46 (.int .i64 lv), 0⟩, ⟨.int .i64 5, .iface 3 (.int .i64 mg), 1⟩]
theorem zero20 (w : World) : (zeroValue 20).run Tryz.prog w = .ok .nilIface w := by
  have e : Tryz.t20.zero = some .nilIface := by kernel_rfl
  unfold zeroValue
  simp [run_underlying Tryz.underlying20, Result.andThen, e]
theorem find0 (w : World) (lv mg : Int) : (Instr.findKey 45 (.int .i64 0) (hintEs lv mg).toList).run Tryz.prog w = .ok (some (0, .iface 46 (.int .i64 lv))) w := by
  unfold Instr.findKey
  simp [run_underlying Tryz.underlying45, hintEs, Instr.findNow, Instr.sameNow, Result.andThen]
theorem hint0 (mb : Nat) (lv mg : Int) (w : World) (hm : w.heap[mb]? = some (.map (hintEs lv mg) 2)) :
    Sem.run Tryz.prog (Instr.lookup 47 (Value.map (some mb)) (Value.int IntKind.i64 0) true) w = .ok (.tuple #[.iface 46 (.int .i64 lv), .bool true]) w := by
  simp [Instr.lookup, run_underlying Tryz.underlying47, MapKept.run_getObj_map hm, MapKept.run_checkKey Tryz.underlying45 (k := .int .i64 0) (by trivial), find0, zero20, Result.andThen]
theorem find5 (w : World) (lv mg : Int) : (Instr.findKey 45 (.int .i64 5) (hintEs lv mg).toList).run Tryz.prog w = .ok (some (1, .iface 3 (.int .i64 mg))) w := by
  unfold Instr.findKey
  simp [run_underlying Tryz.underlying45, hintEs, Instr.findNow, Instr.sameNow, Result.andThen]
theorem hint5 (mb : Nat) (lv mg : Int) (w : World) (hm : w.heap[mb]? = some (.map (hintEs lv mg) 2)) :
    Sem.run Tryz.prog (Instr.lookup 47 (Value.map (some mb)) (Value.int IntKind.i64 5) true) w = .ok (.tuple #[.iface 3 (.int .i64 mg), .bool true]) w := by
  simp [Instr.lookup, run_underlying Tryz.underlying47, MapKept.run_getObj_map hm, MapKept.run_checkKey Tryz.underlying45 (k := .int .i64 5) (by trivial), find5, zero20, Result.andThen]
theorem find1 (w : World) (lv mg : Int) : (Instr.findKey 45 (.int .i64 1) (hintEs lv mg).toList).run Tryz.prog w = .ok (none) w := by
  unfold Instr.findKey
  simp [run_underlying Tryz.underlying45, hintEs, Instr.findNow, Instr.sameNow, Result.andThen]
theorem hint1 (mb : Nat) (lv mg : Int) (w : World) (hm : w.heap[mb]? = some (.map (hintEs lv mg) 2)) :
    Sem.run Tryz.prog (Instr.lookup 47 (Value.map (some mb)) (Value.int IntKind.i64 1) true) w = .ok (.tuple #[.nilIface, .bool false]) w := by
  simp [Instr.lookup, run_underlying Tryz.underlying47, MapKept.run_getObj_map hm, MapKept.run_checkKey Tryz.underlying45 (k := .int .i64 1) (by trivial), find1, zero20, Result.andThen]
theorem find10 (w : World) (lv mg : Int) : (Instr.findKey 45 (.int .i64 10) (hintEs lv mg).toList).run Tryz.prog w = .ok (none) w := by
  unfold Instr.findKey
  simp [run_underlying Tryz.underlying45, hintEs, Instr.findNow, Instr.sameNow, Result.andThen]
theorem hint10 (mb : Nat) (lv mg : Int) (w : World) (hm : w.heap[mb]? = some (.map (hintEs lv mg) 2)) :
    Sem.run Tryz.prog (Instr.lookup 47 (Value.map (some mb)) (Value.int IntKind.i64 10) true) w = .ok (.tuple #[.nilIface, .bool false]) w := by
  simp [Instr.lookup, run_underlying Tryz.underlying47, MapKept.run_getObj_map hm, MapKept.run_checkKey Tryz.underlying45 (k := .int .i64 10) (by trivial), find10, zero20, Result.andThen]
theorem find11 (w : World) (lv mg : Int) : (Instr.findKey 45 (.int .i64 11) (hintEs lv mg).toList).run Tryz.prog w = .ok (none) w := by
  unfold Instr.findKey
  simp [run_underlying Tryz.underlying45, hintEs, Instr.findNow, Instr.sameNow, Result.andThen]
theorem hint11 (mb : Nat) (lv mg : Int) (w : World) (hm : w.heap[mb]? = some (.map (hintEs lv mg) 2)) :
    Sem.run Tryz.prog (Instr.lookup 47 (Value.map (some mb)) (Value.int IntKind.i64 11) true) w = .ok (.tuple #[.nilIface, .bool false]) w := by
  simp [Instr.lookup, run_underlying Tryz.underlying47, MapKept.run_getObj_map hm, MapKept.run_checkKey Tryz.underlying45 (k := .int .i64 11) (by trivial), find11, zero20, Result.andThen]
theorem find12 (w : World) (lv mg : Int) : (Instr.findKey 45 (.int .i64 12) (hintEs lv mg).toList).run Tryz.prog w = .ok (none) w := by
  unfold Instr.findKey
  simp [run_underlying Tryz.underlying45, hintEs, Instr.findNow, Instr.sameNow, Result.andThen]
theorem hint12 (mb : Nat) (lv mg : Int) (w : World) (hm : w.heap[mb]? = some (.map (hintEs lv mg) 2)) :
    Sem.run Tryz.prog (Instr.lookup 47 (Value.map (some mb)) (Value.int IntKind.i64 12) true) w = .ok (.tuple #[.nilIface, .bool false]) w := by
  simp [Instr.lookup, run_underlying Tryz.underlying47, MapKept.run_getObj_map hm, MapKept.run_checkKey Tryz.underlying45 (k := .int .i64 12) (by trivial), find12, zero20, Result.andThen]

end Go.Proofs.YtplpafbkalkchaaGreatDoor
