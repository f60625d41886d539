/-
  Parts of the proof (Base, Words).
-/
import Derived.WalkKit
import Derived.Deep.QuietTactic
import Derived.BigQuiet
import Derived.Deep.OwnRows
import Derived.Laws.CopyOwn
import Derived.WalkSpells
import Derived.BigRegion
import Derived.Lib.Hide
import Derived.Deep.LoopGhost
set_option linter.unusedSimpArgs false
set_option linter.unusedVariables false

namespace Go.Proofs.YtplpafbkalkchaaGreatDoor
open Go.RowKit

/-- But for the blocks of S, what was there is as it was; the streams too; no block has gone. -/
structure Keeps (S : Nat → Prop) (w w' : World) : Prop where
  os : w'.os = w.os
  tape : w'.tape = w.tape
  output : w'.output = w.output
  size : w.heap.size ≤ w'.heap.size
  block : ∀ k, k < w.heap.size → ¬ S k → w'.heap[k]? = w.heap[k]?

theorem Keeps.refl (S : Nat → Prop) (w : World) : Keeps S w w := ⟨rfl, rfl, rfl, Nat.le_refl _, fun _ _ _ => rfl⟩
theorem Keeps.trans {S : Nat → Prop} {a b c : World} (h : Keeps S a b) (k : Keeps S b c) : Keeps S a c :=
  ⟨k.os.trans h.os, k.tape.trans h.tape, k.output.trans h.output, Nat.le_trans h.size k.size, fun i hi hn => (k.block i (Nat.lt_of_lt_of_le hi h.size) hn).trans (h.block i hi hn)⟩
theorem Keeps.mono {S S' : Nat → Prop} {w w' : World} (h : Keeps S w w') (hs : ∀ k, k < w.heap.size → S k → S' k) : Keeps S' w w' :=
  ⟨h.os, h.tape, h.output, h.size, fun k hk hn => h.block k hk (fun hS => hn (hs k hk hS))⟩
/-- Two steps, the second one free in what the first one has made. -/
theorem Keeps.step {S S' : Nat → Prop} {a b c : World} (h : Keeps S a b) (k : Keeps S' b c) (hs : ∀ i, i < a.heap.size → S' i → S i) : Keeps S a c :=
  ⟨k.os.trans h.os, k.tape.trans h.tape, k.output.trans h.output, Nat.le_trans h.size k.size,
    fun i hi hn => (k.block i (Nat.lt_of_lt_of_le hi h.size) (fun hS => hn (hs i hi hS))).trans (h.block i hi hn)⟩
theorem Keeps.of_below {w w' : World} (h : Below w.heap.size w w') (S : Nat → Prop) : Keeps S w w' := ⟨h.os, h.tape, h.output, h.size, fun k hk _ => h.block k hk⟩
theorem Keeps.below {w w' : World} (h : Keeps (fun _ => False) w w') : Below w.heap.size w w' := ⟨h.os, h.tape, h.output, h.size, fun k hk => h.block k hk (fun f => f)⟩
theorem Keeps.drew {S : Nat → Prop} {a w : World} (h : Keeps S a w) : Keeps S a w.drew := ⟨h.os, h.tape, h.output, h.size, h.block⟩
theorem Keeps.drewN {S : Nat → Prop} {a w : World} (h : Keeps S a w) (n : Nat) : Keeps S a (w.drewN n) := ⟨h.os, h.tape, h.output, h.size, h.block⟩
theorem Keeps.alloc {S : Nat → Prop} {a w : World} (h : Keeps S a w) (o : Obj) : Keeps S a (w.alloc o) :=
  h.trans ⟨rfl, rfl, rfl, by simp, fun k hk _ => Below.heap_alloc _ _ _ hk⟩
theorem Keeps.setCell {S : Nat → Prop} {a w : World} (h : Keeps S a w) {p : Addr} (hp : S p.block ∨ a.heap.size ≤ p.block) (u : Value) : Keeps S a (w.setCell p u) :=
  h.step (S' := fun k => k = p.block) ⟨rfl, rfl, rfl, by simp [World.setCell], fun k _ hn => Below.heap_setCell _ _ _ _ hn⟩
    (fun i hi e => by subst e; rcases hp with h | h; exact h; omega)
theorem Keeps.cell {S : Nat → Prop} {w w' : World} (h : Keeps S w w') {p : Addr} (hp : p.block < w.heap.size) (hn : ¬ S p.block) : w'.cell? p = w.cell? p :=
  World.cell?_of_block (w := w) (h.block p.block hp hn)
theorem Keeps.frozen {S : Nat → Prop} {w w' : World} (h : Keeps S w w') {p : Addr} (hp : p.block < w.heap.size) (hn : ¬ S p.block) : w'.frozen? p = w.frozen? p :=
  World.frozen?_of_block (w := w) (h.block p.block hp hn)
theorem Keeps.grown {S : Nat → Prop} {a w w' : World} {row : Option Nat} (h : Keeps S a w) (hg : w.grownBy w' row) (hr : ∀ k, row = some k → S k ∨ a.heap.size ≤ k) : Keeps S a w' :=
  h.step (S' := fun k => row = some k) ⟨hg.os, hg.tape, hg.output, hg.size, fun k hk hn => hg.block k hk (fun e => hn e.symm)⟩
    (fun i hi e => by rcases hr i e with h | h; exact h; omega)

/-- A block that is known whole. -/
def Blk (w : World) (b : Nat) (cs : List Value) (t : TypeId) : Prop := w.heap[b]? = some (.cells cs.toArray t (0, 0))
theorem Blk.lt {w : World} {b : Nat} {cs : List Value} {t : TypeId} (h : Blk w b cs t) : b < w.heap.size := lt_of_block h
theorem Blk.cell {w : World} {b : Nat} {cs : List Value} {t : TypeId} (h : Blk w b cs t) {i : Nat} {v : Value} (hi : cs[i]? = some v) : w.cell? ⟨b, i, none⟩ = some v := by
  unfold Blk at h
  simp [World.cell?, h, hi]
theorem Blk.free {w : World} {b : Nat} {cs : List Value} {t : TypeId} (h : Blk w b cs t) (i : Nat) : w.frozen? ⟨b, i, none⟩ = false := by
  unfold Blk at h
  simp [World.frozen?, h]
theorem Blk.keep {S : Nat → Prop} {w w' : World} {b : Nat} {cs : List Value} {t : TypeId} (h : Blk w b cs t) (hk : Keeps S w w') (hn : ¬ S b) : Blk w' b cs t :=
  (hk.block b h.lt hn).trans h
theorem Blk.set {w : World} {b : Nat} {cs : List Value} {t : TypeId} (h : Blk w b cs t) (i : Nat) (v : Value) : Blk (w.setCell ⟨b, i, none⟩ v) b (cs.set i v) t := by
  have hlt := h.lt
  unfold Blk at h ⊢
  have h' : w.heap[b] = .cells cs.toArray t (0, 0) := by simpa [Array.getElem?_eq_getElem hlt] using h
  show (w.heap.modify b _)[b]? = _
  rw [Array.getElem?_eq_getElem (by simpa using hlt), Array.getElem_modify_self, h']
  simp
theorem Blk.far {w : World} {b : Nat} {cs : List Value} {t : TypeId} (h : Blk w b cs t) {p : Addr} (hp : b ≠ p.block) (v : Value) : Blk (w.setCell p v) b cs t := by
  unfold Blk at h ⊢
  rw [Below.heap_setCell _ _ _ _ hp]; exact h
theorem Blk.alloc {w : World} {b : Nat} {cs : List Value} {t : TypeId} (h : Blk w b cs t) (o : Obj) : Blk (w.alloc o) b cs t := by
  have hlt := h.lt
  unfold Blk at h ⊢
  rw [Below.heap_alloc _ _ _ hlt]; exact h
theorem Blk.drew {w : World} {b : Nat} {cs : List Value} {t : TypeId} (h : Blk w b cs t) : Blk w.drew b cs t := h
theorem Blk.drewN {w : World} {b : Nat} {cs : List Value} {t : TypeId} (h : Blk w b cs t) (n : Nat) : Blk (w.drewN n) b cs t := h
theorem Blk.new (w : World) (cs : List Value) (t : TypeId) : Blk (w.alloc (.cells cs.toArray t)) w.heap.size cs t := by
  unfold Blk
  show (w.heap.push _)[w.heap.size]? = _
  simp

theorem Blk.setRow {w : World} {b : Nat} {cs : List Value} {t : TypeId} (h : Blk w b cs t) (ds : List Value) : Blk (w.setRow b ds.toArray) b ds t :=
  setRow_heap w b _ _ t _ h
theorem Blk.setRow_far {w : World} {b g : Nat} {cs : List Value} {t : TypeId} (h : Blk w b cs t) (hne : b ≠ g) (ds : Array Value) : Blk (w.setRow g ds) b cs t :=
  (setRow_other w g b ds hne).trans h
theorem Keeps.setRow {S : Nat → Prop} {a w : World} (h : Keeps S a w) {g : Nat} (hp : S g ∨ a.heap.size ≤ g) (cs : Array Value) : Keeps S a (w.setRow g cs) :=
  h.step (S' := fun k => k = g) ⟨rfl, rfl, rfl, by simp [World.setRow], fun k _ hn => setRow_other w g k cs hn⟩
    (fun i hi e => by subst e; rcases hp with h | h; exact h; omega)

/-- n times the same. (A name of its own: the walk's simp writes '(List.replicate ..).toArray' otherwise.) -/
def rep (n : Nat) (z : Value) : List Value := List.replicate n z
theorem rep_length (n : Nat) (z : Value) : (rep n z).length = n := List.length_replicate
theorem rep_get {n : Nat} {z : Value} {i : Nat} (h : i < n) : (rep n z)[i]? = some z := by simp [rep, h]
theorem madeCells_rep (z : Value) (n : Nat) : madeCells #[z] n = (rep n z).toArray := by
  unfold rep
  apply Array.ext
  · simp [size_madeCells]
  · intro i h1 h2
    simp [madeCells, Nat.mod_one]
/-- 'make([]T, n)' of a walk's fact. -/
theorem make_rep {P : Program} (t e : TypeId) (z : Value) (bytes : Nat) (ht : P.underlying t = some (.slice e)) (hinfo : (P.info? e).map (fun i => (i.zero, i.size, i.bytes)) = some (some z, 1, bytes)) (hz1 : z.cells = #[z])
    (n : Nat) (hbytes : bytes * n ≤ 281474976710656) (h63 : n ≤ 9223372036854775807) (w : World) :
    (Instr.makeSlice t (.int .i64 (n : Int)) (.int .i64 (n : Int))).run P w = .ok (.slice (some ⟨w.heap.size, 0, none⟩) n n) (w.alloc (.cells (rep n z).toArray e)) := by
  rw [run_make_row' t e z bytes ht hinfo hz1 .i64 .i64 n hbytes h63 w, madeCells_rep]
/-- 'copy' into a block that is known whole, out of another one. -/
theorem copy_blk {P : Program} (w : World) (dT sT ty elem : TypeId) (hu : P.underlying dT = some (.slice elem)) (hs : (P.info? elem).map (·.size) = some 1)
    (g o dLen dCap c so sLen sCap : Nat) (cur : List Value) (t : TypeId) (hg : Blk w g cur t) (cs : List Value) (hn : cs.length = min sLen dLen)
    (hsrc : ∀ j v, cs[j]? = some v → w.cell? ⟨c, so + j, none⟩ = some v) (hfit : o + cs.length ≤ cur.length) (h1 : ∀ v ∈ cs, v.oneCell' = true) :
    (Builtin.copy_ #[dT, sT] ty #[.slice (some ⟨g, o, none⟩) dLen dCap, .slice (some ⟨c, so, none⟩) sLen sCap]).run P w =
      .ok (goInt cs.length) (w.setRow g (cur.take o ++ cs ++ cur.drop (o + cs.length)).toArray) := by
  have h := run_copy_row (P := P) w dT sT ty elem g o dLen dCap ⟨c, so, none⟩ sLen sCap cur.toArray t cs hu hs hg (by simpa [Nat.min_def] using hn)
    (fun j v hj => by
      have := hsrc j v hj
      unfold Addr.add
      by_cases e : j = 0
      · subst e; simpa using this
      · simpa [e] using this) (by simpa using hfit) h1
  simpa using h

theorem ret_bool {a b : Bool} (h : a = b) : Ending.returned (.bool a) = .returned (.bool b) := by rw [h]
theorem ret_int {k : IntKind} {a b : Int} (h : a = b) : Ending.returned (.int k a) = .returned (.int k b) := by rw [h]

end Go.Proofs.YtplpafbkalkchaaGreatDoor

namespace Go.Proofs.YtplpafbkalkchaaGreatDoor
open Go.RowKit

def vu32 (n : Nat) : Value := .int .u32 (n : Int)
/-- Bit i of a row of words, the lowest one of a word first. -/
def wbit (ws : List Nat) (i : Nat) : Bool := (ws.getD (i / 32) 0).testBit (i % 32)

theorem wraps_u32 (n : Int) (h₀ : 0 ≤ n) (h₁ : n < 2 ^ 32) : IntKind.u32.wrap n = n := by
  simp [IntKind.wrap, IntKind.bits, IntKind.signed]; omega
theorem wraps_i64 (n : Int) (h₀ : 0 ≤ n) (h₁ : n < 2 ^ 62) : IntKind.i64.wrap n = n := by
  rw [IntKind.wrap_i64]; omega
theorem p32 {k : Nat} (h : k < 32) : ((2 : Int) ^ k % 4294967296) = ((2 ^ k : Nat) : Int) := by
  have : 2 ^ k < 2 ^ 32 := Nat.pow_lt_pow_right (by omega) h
  have e : ((2 : Int) ^ k) = ((2 ^ k : Nat) : Int) := by simp
  rw [e]; generalize (2 ^ k : Nat) = m at this ⊢; omega
theorem p64 {k : Nat} (h : k < 62) : wrap64 ((2 : Int) ^ k) = ((2 ^ k : Nat) : Int) := by
  have : 2 ^ k < 2 ^ 62 := Nat.pow_lt_pow_right (by omega) h
  have e : ((2 : Int) ^ k) = ((2 ^ k : Nat) : Int) := by simp
  rw [e]; unfold wrap64; generalize (2 ^ k : Nat) = m at this ⊢; omega
theorem and_pow (x k : Nat) : x &&& 2 ^ k = if x.testBit k then 2 ^ k else 0 := by
  apply Nat.eq_of_testBit_eq
  intro i
  rw [Nat.testBit_and, Nat.testBit_two_pow]
  by_cases e : k = i
  · subst e
    cases h : x.testBit k <;> simp [h]
  · have : decide (k = i) = false := by simpa using e
    rw [this, Bool.and_false]
    split
    · rw [Nat.testBit_two_pow, this]
    · simp
theorem and_two_pow_ne (x k : Nat) : (((x &&& 2 ^ k : Nat) : Int) != 0) = x.testBit k := by
  rw [and_pow]
  cases h : x.testBit k
  · simp
  · have : 0 < 2 ^ k := Nat.two_pow_pos k
    have h2 : ((2 ^ k : Nat) : Int) ≠ 0 := by omega
    simpa using h2
theorem and_u32 {x k : Nat} (hx : x < 4294967296) (hk : k < 32) : (bits .and .u32 (x : Int) ((2 : Int) ^ k % 4294967296) != 0) = x.testBit k := by
  rw [p32 hk, (bits_nat .u32 32 (by decide) wraps_u32 x (2 ^ k) (by simpa using hx) (Nat.pow_lt_pow_right (by omega) hk)).1, and_two_pow_ne]
theorem or_u32 {x k : Nat} (hx : x < 4294967296) (hk : k < 32) : bits .or .u32 (x : Int) ((2 : Int) ^ k % 4294967296) = ((x ||| 2 ^ k : Nat) : Int) := by
  rw [p32 hk, (bits_nat .u32 32 (by decide) wraps_u32 x (2 ^ k) (by simpa using hx) (Nat.pow_lt_pow_right (by omega) hk)).2]
theorem and_i64 {x k : Nat} (hx : x < 4611686018427387904) (hk : k < 62) : (bits .and .i64 (x : Int) (wrap64 ((2 : Int) ^ k)) != 0) = x.testBit k := by
  rw [p64 hk, (bits_nat .i64 62 (by decide) wraps_i64 x (2 ^ k) (by simpa using hx) (Nat.pow_lt_pow_right (by omega) hk)).1, and_two_pow_ne]
theorem and31_i64 {x : Nat} (hx : x < 4611686018427387904) : bits .and .i64 (x : Int) 31 = ((x % 32 : Nat) : Int) := by
  have := bits_mask .i64 62 (by decide) wraps_i64 5 (by decide) (x : Int) (by omega) (by simpa using (by omega : (x : Int) < 4611686018427387904))
  simpa using this
theorem and7_i64 {x : Nat} (hx : x < 4611686018427387904) : bits .and .i64 (x : Int) 7 = ((x % 8 : Nat) : Int) := by
  have := bits_mask .i64 62 (by decide) wraps_i64 3 (by decide) (x : Int) (by omega) (by simpa using (by omega : (x : Int) < 4611686018427387904))
  simpa using this
theorem or_lt {x k : Nat} (hx : x < 4294967296) (hk : k < 32) : x ||| 2 ^ k < 4294967296 := by
  have := Nat.or_lt_two_pow (n := 32) (by simpa using hx) (Nat.pow_lt_pow_right (a := 2) (by omega) hk)
  simpa using this

theorem wbit_set {ws : List Nat} {i : Nat} (h : i / 32 < ws.length) (j : Nat) :
    wbit (ws.set (i / 32) (ws.getD (i / 32) 0 ||| 2 ^ (i % 32))) j = if j = i then true else wbit ws j := by
  unfold wbit
  rw [List.getD_eq_getElem?_getD, List.getElem?_set]
  by_cases e : i / 32 = j / 32
  · rw [if_pos e, if_pos h]
    simp only [Option.getD_some, Nat.testBit_or, e]
    by_cases e2 : j = i
    · subst e2; simp [Nat.testBit_two_pow_self]
    · rw [if_neg e2, Nat.testBit_two_pow]
      have : ¬ i % 32 = j % 32 := by omega
      simp [this]
  · rw [if_neg e, if_neg (by rintro rfl; exact e rfl), List.getD_eq_getElem?_getD]
theorem lt_of_getD {ws : List Nat} (hw : ∀ x ∈ ws, x < 4294967296) (i : Nat) : ws.getD i 0 < 4294967296 := by
  by_cases h : i < ws.length
  · have : ws.getD i 0 ∈ ws := by simp [List.getD, h]
    exact hw _ this
  · simp [List.getD, Nat.le_of_not_lt h]
theorem lt_set {ws : List Nat} (hw : ∀ x ∈ ws, x < 4294967296) {i v : Nat} (hv : v < 4294967296) : ∀ x ∈ ws.set i v, x < 4294967296 := by
  intro x hx
  rcases List.mem_or_eq_of_mem_set hx with h | h
  · exact hw x h
  · omega
theorem map_u32_get {ws : List Nat} {i : Nat} (h : i < ws.length) : (ws.map vu32)[i]? = some (.int .u32 ((ws.getD i 0 : Nat) : Int)) := by
  simp [vu32, List.getD, h]
theorem one_u32 (ws : List Nat) : ∀ v ∈ ws.map vu32, v.oneCell' = true := by
  intro v hv
  obtain ⟨x, _, rfl⟩ := List.mem_map.1 hv
  rfl
theorem wbit_zeros (n i : Nat) : wbit (List.replicate n 0) i = false := by
  unfold wbit
  have : (List.replicate n 0).getD (i / 32) 0 = 0 := by
    simp only [List.getD, List.getElem?_replicate]
    split <;> rfl
  rw [this]; simp
theorem wbit_append (ws : List Nat) (n i : Nat) : wbit (ws ++ List.replicate n 0) i = wbit ws i := by
  unfold wbit
  congr 1
  by_cases h : i / 32 < ws.length
  · simp [List.getD, List.getElem?_append, h]
  · simp only [List.getD, List.getElem?_append, h, if_false, List.getElem?_replicate]
    rw [List.getElem?_eq_none (by omega)]
    split <;> rfl
theorem getD_snoc (l : List Bool) (b : Bool) (i : Nat) : (l ++ [b]).getD i false = if i = l.length then b else l.getD i false := by
  simp only [List.getD, List.getElem?_append]
  by_cases h : i < l.length
  · rw [if_pos h, if_neg (by omega)]
  · rw [if_neg h, List.getElem?_eq_none (l := l) (by omega)]
    by_cases e : i = l.length
    · subst e; simp
    · rw [if_neg e]
      have : i - l.length ≠ 0 := by omega
      simp [List.getElem?_singleton, this]

end Go.Proofs.YtplpafbkalkchaaGreatDoor
