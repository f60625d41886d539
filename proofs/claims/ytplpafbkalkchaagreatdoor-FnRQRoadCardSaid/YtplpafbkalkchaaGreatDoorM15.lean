/-
  Parts of the proof (Str, SM).
-/
import Derived.Test.YtplpafbkalkchaaGreatDoorM07
import Derived.Test.YtplpafbkalkchaaGreatDoorM11
import Derived.Test.YtplpafbkalkchaaGreatDoorM14
import Derived.Laws.BytesString
set_option linter.unusedSimpArgs false
set_option linter.unusedVariables false

namespace Go.Proofs.YtplpafbkalkchaaGreatDoor
open Go.RowKit

theorem fold_push (l : List UInt8) : ∀ r : ByteArray, ((l.map fun b => ((b.toNat : Nat) : Int)).foldl (fun r n => r.push (UInt8.ofNat n.toNat)) r).data.toList = r.data.toList ++ l := by
  induction l with
  | nil => intro r; simp
  | cons b l ih =>
    intro r
    rw [List.map_cons, List.foldl_cons, ih]
    simp [ByteArray.push]
theorem text_back (s : ByteArray) : (((codes s).map fun n => ((n : Nat) : Int)).foldl (fun r n => r.push (UInt8.ofNat n.toNat)) ByteArray.empty) = s := by
  have h := fold_push s.data.toList ByteArray.empty
  have e : (codes s).map (fun n => ((n : Nat) : Int)) = s.data.toList.map (fun b => ((b.toNat : Nat) : Int)) := by
    unfold codes; rw [List.map_map]; rfl
  rw [e]
  apply ByteArray.ext
  apply Array.toList_inj.1
  rw [h]; rfl

/-- Bytes that are read: N of them at block d. -/
structure Row8 (w : World) (d N : Nat) (F : Nat → Nat) : Prop where
  typ : TypeAt w d 5
  cell : ∀ i, i < N → w.cell? ⟨d, i, none⟩ = some (.int .u8 (F i : Int))
theorem Row8.lt {w : World} {d N : Nat} {F : Nat → Nat} (h : Row8 w d N F) : d < w.heap.size := by
  obtain ⟨_, _, hb⟩ := h.typ
  exact lt_of_block hb
theorem Row8.keep {S : Nat → Prop} {w w' : World} {d N : Nat} {F : Nat → Nat} (h : Row8 w d N F) (hk : Keeps S w w') (hn : ¬ S d) : Row8 w' d N F := by
  refine ⟨?_, fun i hi => (hk.cell (p := ⟨d, i, none⟩) h.lt hn).trans (h.cell i hi)⟩
  obtain ⟨cs, m, hb⟩ := h.typ
  exact ⟨cs, m, (hk.block d (lt_of_block hb) hn).trans hb⟩
theorem Row8.congr {w : World} {d N : Nat} {F G : Nat → Nat} (h : Row8 w d N F) (e : ∀ i, i < N → F i = G i) : Row8 w d N G :=
  ⟨h.typ, fun i hi => by rw [h.cell i hi, e i hi]⟩
theorem Row8.of_own {w : World} {base N : Nat} {v : Value} {F : Nat → Nat} (h : w.ownsRow base 5 1 v N ((List.range N).map fun i => Value.int .u8 (F i : Int))) (hN : 0 < N) :
    ∃ d c, v = .slice (some ⟨d, 0, none⟩) N c ∧ N ≤ c ∧ Row8 w d N F := by
  obtain ⟨r, cap, hv, ht, hx, hc, _⟩ := own_cell h hN
  exact ⟨r, cap, hv, hc, ht, fun i hi => hx i _ (by simp [hi])⟩
theorem Row8.of_blk {w : World} {d : Nat} {cs : List Value} {N : Nat} {F : Nat → Nat} (h : Blk w d cs 5) (e : ∀ i, i < N → cs[i]? = some (.int .u8 (F i : Int))) : Row8 w d N F :=
  ⟨⟨_, _, h⟩, fun i hi => h.cell (e i hi)⟩

end Go.Proofs.YtplpafbkalkchaaGreatDoor

namespace Go.Proofs.YtplpafbkalkchaaGreatDoor
open Go.RowKit

/-! The decoder. -/
theorem newRSD_ok (g : Nat) (w : World) : Calls Tryz.prog 92 #[.pointer (some ⟨g, 0, none⟩)] w fun e w' => e = .returned (.pointer (some ⟨w.heap.size, 0, none⟩)) ∧
    Blk w' w.heap.size [.pointer (some ⟨g, 0, none⟩)] 237 ∧ Keeps (fun _ => False) w w' := by
  go_enter Tryz.func92, Tryz.ntmps92
  go_wp2
  go_ret
  exact ⟨rfl, Blk.new w _ 237, (Keeps.refl _ w).alloc _⟩

/-! Bits out of bytes. -/
theorem newBits_ok (d n c : Nat) (w : World) : Calls Tryz.prog 225 #[.slice (some ⟨d, 0, none⟩) n c] w fun e w' => e = .returned (.pointer (some ⟨w.heap.size, 0, none⟩)) ∧
    Blk w' w.heap.size [.slice (some ⟨d, 0, none⟩) n c, .int .i64 0, .int .i64 0] 378 ∧ Keeps (fun _ => False) w w' ∧ w'.heap.size = w.heap.size + 1 := by
  go_enter Tryz.func225, Tryz.ntmps225
  go_wp2
  go_ret
  exact ⟨rfl, Blk.new w _ 378, (Keeps.refl _ w).alloc _, by simp⟩

/-! Blocks of data. -/
theorem newDB_ok (m c n : Nat) (M : Int) (hM : M = (m : Int)) (w : World) : Calls Tryz.prog 222 #[.int .i64 M, .slice (some ⟨c, 0, none⟩) n n] w fun e w' => e = .returned (.pointer (some ⟨w.heap.size, 0, none⟩)) ∧
    w.alloc (.cells #[.int .i64 (m : Int), .slice (some ⟨c, 0, none⟩) n n] 344) = w' := by
  subst hM
  go_enter Tryz.func222, Tryz.ntmps222
  go_wp2
  go_ret
  exact ⟨rfl, rfl⟩
theorem dbNum_ok (p : Nat) (v : Value) (m : Int) (w : World) (h : Blk w p [.int .i64 m, v] 344) : Calls Tryz.prog 196 #[.pointer (some ⟨p, 0, none⟩)] w fun e w' => e = .returned (.int .i64 m) ∧ w = w' := by
  have h0 := h.cell (i := 0) rfl
  clear h
  go_enter Tryz.func196, Tryz.ntmps196
  go_wp2
  go_ret
  exact ⟨rfl, rfl⟩
theorem dbWords_ok (p : Nat) (v : Value) (c : Option Addr) (n k : Nat) (w : World) (h : Blk w p [v, .slice c n k] 344) : Calls Tryz.prog 197 #[.pointer (some ⟨p, 0, none⟩)] w fun e w' => e = .returned (.slice c n k) ∧ w = w' := by
  have h0 := h.cell (i := 1) rfl
  clear h
  go_enter Tryz.func197, Tryz.ntmps197
  go_wp2
  go_ret
  exact ⟨rfl, rfl⟩

/-! The words on level and mask. -/
theorem levelFor_ok (l : Nat) (hl : l < 4) (L : Int) (hL : L = (l : Int)) (w : World) : Calls Tryz.prog 278 #[.int .u64 L] w fun e w' => e = .returned (.tuple #[.int .i64 (l : Int), .nilIface]) ∧ w = w' := by
  subst hL
  obtain rfl | rfl | rfl | rfl : l = 0 ∨ l = 1 ∨ l = 2 ∨ l = 3 := by omega
  all_goals
    go_enter Tryz.func278, Tryz.ntmps278
    go_wp2
    go_ret2
    exact ⟨rfl, rfl⟩
theorem fiLevel_ok (p : Nat) (v : Value) (m : Int) (w : World) (h : Blk w p [.int .i64 m, v] 341) : Calls Tryz.prog 193 #[.pointer (some ⟨p, 0, none⟩)] w fun e w' => e = .returned (.int .i64 m) ∧ w = w' := by
  have h0 := h.cell (i := 0) rfl
  clear h
  go_enter Tryz.func193, Tryz.ntmps193
  go_wp2
  go_ret
  exact ⟨rfl, rfl⟩
theorem fiMask_ok (p : Nat) (v : Value) (m : Int) (w : World) (h : Blk w p [v, .int .u8 m] 341) : Calls Tryz.prog 201 #[.pointer (some ⟨p, 0, none⟩)] w fun e w' => e = .returned (.int .u8 m) ∧ w = w' := by
  have h0 := h.cell (i := 1) rfl
  clear h
  go_enter Tryz.func201, Tryz.ntmps201
  go_wp2
  go_ret
  exact ⟨rfl, rfl⟩

/-! Modes and levels by name. -/
set_option maxRecDepth 100000 in
theorem modeFor_ok (m : Nat) (hm : m = 0 ∨ m = 1 ∨ m = 2 ∨ m = 4) (M : Int) (hM : M = (m : Int)) (w : World) : Calls Tryz.prog 228 #[.int .i64 M] w fun e w' => e = .returned (.tuple #[.int .i64 (m : Int), .nilIface]) ∧ w = w' := by
  obtain rfl | rfl | rfl | rfl := hm
  · obtain rfl : M = 0 := hM
    go_enter Tryz.func228, Tryz.ntmps228
    go_wp2
    go_ret2
    exact ⟨rfl, rfl⟩
  · obtain rfl : M = 1 := hM
    go_enter Tryz.func228, Tryz.ntmps228
    go_wp2
    go_ret2
    exact ⟨rfl, rfl⟩
  · obtain rfl : M = 2 := hM
    go_enter Tryz.func228, Tryz.ntmps228
    go_wp2
    go_ret2
    exact ⟨rfl, rfl⟩
  · obtain rfl : M = 4 := hM
    go_enter Tryz.func228, Tryz.ntmps228
    go_wp2
    go_ret2
    exact ⟨rfl, rfl⟩
theorem levelName_ok (l : Nat) (hl : l < 4) (L : Int) (hL : L = (l : Int)) (w : World) : Calls Tryz.prog 237 #[.int .i64 L] w fun e w' => (∃ s, e = .returned (.string s)) ∧ w = w' := by
  subst hL
  obtain rfl | rfl | rfl | rfl : l = 0 ∨ l = 1 ∨ l = 2 ∨ l = 3 := by omega
  all_goals
    go_enter Tryz.func237, Tryz.ntmps237
    go_wp2
    go_ret
    exact ⟨⟨_, rfl⟩, rfl⟩

/-! The result. -/
theorem newDR_ok (d : Option Addr) (n k : Nat) (t u : ByteArray) (x2 : Option Addr) (n2 k2 : Nat) (a b c : Int) (w : World) (hn : n ≤ 100000) : Calls Tryz.prog 236 #[.slice d n k, .string t, .slice x2 n2 k2, .string u, .int .i64 a, .int .i64 b, .int .i64 c] w fun e w' => e = .returned (.pointer (some ⟨w.heap.size, 0, none⟩)) ∧
    Blk w' w.heap.size [.slice d n k, .int .i64 (8 * (n : Int)), .string t, .slice x2 n2 k2, .string u, .int .i64 0, .int .i64 0, .nilIface, .int .i64 b, .int .i64 a, .int .i64 c] 235 ∧ Keeps (fun _ => False) w w' := by
  go_enter Tryz.func236, Tryz.ntmps236
  go_wp2
  go_ret
  exact ⟨rfl, Blk.new w _ 235, (Keeps.refl _ w).alloc _⟩

/-! The parser. -/
theorem newParser_ok (b c n : Nat) (f : Nat → Nat → Bool) (w : World) (h : BM w b c n n f) (h1 : 21 ≤ n) (h2 : n ≤ 100) (h3 : n % 4 = 1) : Calls Tryz.prog 158 #[.pointer (some ⟨b, 0, none⟩)] w fun e w' =>
    e = .returned (.tuple #[.pointer (some ⟨w.heap.size, 0, none⟩), .nilIface]) ∧ Blk w' w.heap.size [.pointer (some ⟨b, 0, none⟩), .pointer none, .pointer none, .bool false] 312 ∧ Keeps (fun _ => False) w w' ∧ w'.heap.size = w.heap.size + 1 := by
  have HB := Lib.hid h
  have ha : bits .and .i64 (n : Int) 3 = 1 := by
    have := bits_mask .i64 62 (by decide) wraps_i64 2 (by decide) (n : Int) (by omega) (by simpa using (by omega : (n : Int) < 4611686018427387904))
    simp at this
    rw [this]; omega
  clear h
  go_enter Tryz.func158, Tryz.ntmps158
  go_wp2_with fail
  refine (height_ok b c n n f w HB.out).mono ?_
  rintro e w1 ⟨rfl, rfl⟩
  go_wp2
  go_ret2
  exact ⟨rfl, Blk.new w _ 312, (Keeps.refl _ w).alloc _, by simp⟩

end Go.Proofs.YtplpafbkalkchaaGreatDoor
