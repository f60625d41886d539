/-
  Parts of the proof (Lay2).
-/
import Derived.Test.YtplpafbkalkchaaGreatDoorM02
set_option linter.unusedSimpArgs false
set_option linter.unusedVariables false

namespace QR

/-- The step that lays a cell last, of k steps from i on. -/
def tval (n : Nat) : Nat → Nat → Nat → Nat → Option Nat
  | 0, _, _, _ => none
  | k + 1, i, x, y => (tval n k (i + 1) x y).orElse fun _ => if inP x y [tcoord.getD i (0, 0), if i < 8 then (n - i - 1, 8) else (8, n - 7 + (i - 8))] then some i else none
def vval (n : Nat) : Nat → Nat → Nat → Nat → Option Nat
  | 0, _, _, _ => none
  | k + 1, q, x, y => (vval n k (q + 1) x y).orElse fun _ => if inP x y [(q / 3, n - 11 + q % 3), (n - 11 + q % 3, q / 3)] then some q else none

theorem inR_one (x y a b : Nat) : inR x y a b 1 1 = true ↔ x = a ∧ y = b := by
  unfold inR; simp only [Bool.and_eq_true, decide_eq_true_eq]; omega
theorem setM_two (M : Mx) (a b c d : Nat) (v : Int) (x y : Nat) : setM (setM M a b v) c d v x y = if inP x y [(a, b), (c, d)] then v else M x y := by
  unfold setM
  by_cases h1 : x = c ∧ y = d
  · rw [if_pos h1, if_pos]; simp only [inP, List.any_cons, List.any_nil, Bool.or_false, Bool.or_eq_true]; exact Or.inr ((inR_one _ _ _ _).2 h1)
  · rw [if_neg h1]
    by_cases h2 : x = a ∧ y = b
    · rw [if_pos h2, if_pos]; simp only [inP, List.any_cons, List.any_nil, Bool.or_false, Bool.or_eq_true]; exact Or.inl ((inR_one _ _ _ _).2 h2)
    · rw [if_neg h2, if_neg]
      simp only [inP, List.any_cons, List.any_nil, Bool.or_false, Bool.or_eq_true]
      rintro (h | h)
      · exact h2 ((inR_one _ _ _ _).1 h)
      · exact h1 ((inR_one _ _ _ _).1 h)
theorem tstep_at (n : Nat) (M : Mx) (i : Nat) (bit : Bool) (x y : Nat) : tstep n M i bit x y =
    if inP x y [tcoord.getD i (0, 0), if i < 8 then (n - i - 1, 8) else (8, n - 7 + (i - 8))] then b01 bit else M x y := by
  unfold tstep
  show (if i < 8 then setM (setM M _ _ _) _ _ _ else setM (setM M _ _ _) _ _ _) x y = _
  by_cases h : i < 8
  · rw [if_pos h, setM_two, if_pos h]
  · rw [if_neg h, setM_two, if_neg h]
theorem tinfo_at (n : Nat) (bits : List Bool) : ∀ (k i : Nat) (M : Mx) (x y : Nat), tinfo n bits k i M x y = match tval n k i x y with
    | some j => b01 (bits.getD (14 - j) false)
    | none => M x y
  | 0, _, _, _, _ => rfl
  | k + 1, i, M, x, y => by
    show tinfo n bits k (i + 1) (tstep n M i _) x y = _
    rw [tinfo_at n bits k (i + 1), tstep_at]
    have e : tval n (k + 1) i x y = (tval n k (i + 1) x y).orElse fun _ => if inP x y [tcoord.getD i (0, 0), if i < 8 then (n - i - 1, 8) else (8, n - 7 + (i - 8))] then some i else none := rfl
    rw [e]
    generalize tval n k (i + 1) x y = o
    cases o with
    | some j => rfl
    | none =>
      show (if _ then _ else _) = match (if _ then some i else none : Option Nat) with
        | some j => b01 (bits.getD (14 - j) false)
        | none => M x y
      by_cases h : inP x y [tcoord.getD i (0, 0), if i < 8 then (n - i - 1, 8) else (8, n - 7 + (i - 8))] = true
      · rw [if_pos h, if_pos h]
      · rw [if_neg h, if_neg h]
theorem vinfo_at (n : Nat) (bits : List Bool) : ∀ (k q : Nat) (M : Mx) (x y : Nat), vinfo n bits k q M x y = match vval n k q x y with
    | some j => b01 (bits.getD (17 - j) false)
    | none => M x y
  | 0, _, _, _, _ => rfl
  | k + 1, q, M, x, y => by
    show vinfo n bits k (q + 1) (vstep n M (q / 3) (q % 3) _) x y = _
    rw [vinfo_at n bits k (q + 1)]
    unfold vstep
    rw [setM_two]
    have e : vval n (k + 1) q x y = (vval n k (q + 1) x y).orElse fun _ => if inP x y [(q / 3, n - 11 + q % 3), (n - 11 + q % 3, q / 3)] then some q else none := rfl
    rw [e]
    generalize vval n k (q + 1) x y = o
    cases o with
    | some j => rfl
    | none =>
      show (if _ then _ else _) = match (if _ then some q else none : Option Nat) with
        | some j => b01 (bits.getD (17 - j) false)
        | none => M x y
      by_cases h : inP x y [(q / 3, n - 11 + q % 3), (n - 11 + q % 3, q / 3)] = true
      · rw [if_pos h, if_pos h]
      · rw [if_neg h, if_neg h]

/-- The reader's two ways over the format, and over the version. -/
def rd1 : List (Nat × Nat) := [(0, 8), (1, 8), (2, 8), (3, 8), (4, 8), (5, 8), (7, 8), (8, 8), (8, 7), (8, 5), (8, 4), (8, 3), (8, 2), (8, 1), (8, 0)]
def rd2 (n : Nat) : List (Nat × Nat) := ((List.range 7).map fun k => (8, n - 1 - k)) ++ ((List.range 8).map fun k => (n - 8 + k, 8))
def rdv (n : Nat) : List (Nat × Nat) := (List.range 18).map fun q => (n - 9 - q % 3, 5 - q / 3)

def chkT : Bool := (List.range 7).all fun v' => let n := side (v' + 1); (List.range 15).all fun k =>
  (tval n 15 0 (rd1.getD k (0, 0)).1 (rd1.getD k (0, 0)).2 == some (14 - k)) && (tval n 15 0 ((rd2 n).getD k (0, 0)).1 ((rd2 n).getD k (0, 0)).2 == some (14 - k)) &&
  (decide (v' < 6) || ((vval n 18 0 (rd1.getD k (0, 0)).1 (rd1.getD k (0, 0)).2 == none) && (vval n 18 0 ((rd2 n).getD k (0, 0)).1 ((rd2 n).getD k (0, 0)).2 == none)))
theorem chkT_ok : chkT = true := by decide +kernel
def chkV : Bool := (List.range 18).all fun k => vval 45 18 0 ((rdv 45).getD k (0, 0)).1 ((rdv 45).getD k (0, 0)).2 == some (17 - k)
theorem chkV_ok : chkV = true := by decide +kernel

theorem all_range' {n : Nat} {p : Nat → Bool} (h : (List.range n).all p = true) {a : Nat} (ha : a < n) : p a = true :=
  List.all_eq_true.1 h a (List.mem_range.2 ha)

theorem base_tval {v : Nat} {tb vb : List Bool} {x y j : Nat} (h : tval (side v) 15 0 x y = some j) (hv : v < 7 ∨ vval (side v) 18 0 x y = none) : base v tb vb x y = b01 (tb.getD (14 - j) false) := by
  show (if v < 7 then tinfo _ tb 15 0 _ else vinfo _ vb 18 0 (tinfo _ tb 15 0 _)) x y = _
  by_cases h7 : v < 7
  · rw [if_pos h7, tinfo_at, h]
  · rw [if_neg h7, vinfo_at, hv.resolve_left h7]
    show tinfo _ _ _ _ _ _ _ = _
    rw [tinfo_at, h]
theorem base_rd1 {v : Nat} (h1 : 1 ≤ v) (h7 : v ≤ 7) (tb vb : List Bool) {k : Nat} (hk : k < 15) : base v tb vb (rd1.getD k (0, 0)).1 (rd1.getD k (0, 0)).2 = b01 (tb.getD k false) := by
  have h := all_range' (all_range' chkT_ok (show v - 1 < 7 by omega)) hk
  simp only [show v - 1 + 1 = v by omega, Bool.and_eq_true, Bool.or_eq_true, beq_iff_eq, decide_eq_true_eq] at h
  rw [base_tval h.1.1 (by rcases h.2 with h | h; exact Or.inl (by omega); exact Or.inr h.1), show 14 - (14 - k) = k by omega]
theorem base_rd2 {v : Nat} (h1 : 1 ≤ v) (h7 : v ≤ 7) (tb vb : List Bool) {k : Nat} (hk : k < 15) : base v tb vb ((rd2 (side v)).getD k (0, 0)).1 ((rd2 (side v)).getD k (0, 0)).2 = b01 (tb.getD k false) := by
  have h := all_range' (all_range' chkT_ok (show v - 1 < 7 by omega)) hk
  simp only [show v - 1 + 1 = v by omega, Bool.and_eq_true, Bool.or_eq_true, beq_iff_eq, decide_eq_true_eq] at h
  rw [base_tval h.1.2 (by rcases h.2 with h | h; exact Or.inl (by omega); exact Or.inr h.2), show 14 - (14 - k) = k by omega]
theorem base_rdv (tb vb : List Bool) {k : Nat} (hk : k < 18) : base 7 tb vb ((rdv 45).getD k (0, 0)).1 ((rdv 45).getD k (0, 0)).2 = b01 (vb.getD k false) := by
  have h := all_range' chkV_ok hk
  simp only [beq_iff_eq] at h
  have e : ∀ x y, base 7 tb vb x y = vinfo 45 vb 18 0 (tinfo 45 tb 15 0 (timF (45 - 8) (adjust 7 (dot 45 (corners 45 nil1))))) x y := fun x y => rfl
  rw [e, vinfo_at, h]
  show b01 (vb.getD (17 - (17 - k)) false) = _
  rw [show 17 - (17 - k) = k by omega]

/-- Cells of the corners that the reader of pictures looks at. -/
def look : Nat → List (Nat × Nat × Int) := fun n => [(0, 0, 1), (1, 1, 0), (2, 2, 1), (3, 3, 1), (4, 4, 1), (5, 5, 0), (6, 6, 1), (7, 7, 0), (0, n - 1, 1), (1, n - 1, 1)]
def chkL : Bool := (List.range 7).all fun v' => let n := side (v' + 1); (look n).all fun c =>
  decide (((spots (v' + 1)).foldl put (dot n (corners n nil1))) c.1 c.2.1 = c.2.2) && (tval n 15 0 c.1 c.2.1 == none) && (decide (v' < 6) || (vval n 18 0 c.1 c.2.1 == none))
theorem chkL_ok : chkL = true := by decide +kernel
theorem base_look {v : Nat} (h1 : 1 ≤ v) (h7 : v ≤ 7) (tb vb : List Bool) {x y : Nat} {u : Int} (hm : (x, y, u) ∈ look (side v)) : base v tb vb x y = u ∧ (u = 0 ∨ u = 1) := by
  have h := all_range' chkL_ok (show v - 1 < 7 by omega)
  simp only [show v - 1 + 1 = v by omega] at h
  have h := List.all_eq_true.1 h _ hm
  simp only [Bool.and_eq_true, Bool.or_eq_true, beq_iff_eq, decide_eq_true_eq] at h
  obtain ⟨⟨e1, e2⟩, e3⟩ := h
  have hu : u = 0 ∨ u = 1 := by
    simp only [look, List.mem_cons, List.mem_nil_iff, or_false, Prod.mk.injEq] at hm
    omega
  refine ⟨?_, hu⟩
  have e0 : ∀ x y, emp (dot (side v) (corners (side v) nil1)) x y = empF v x y := fun x y => by
    rw [emp_dot, emp_corners]; simp [empF, emp, nil1]
  have eT : tinfo (side v) tb 15 0 (timF (side v - 8) (adjust v (dot (side v) (corners (side v) nil1)))) x y = u := by
    rw [tinfo_at, e2]
    show timF _ _ x y = u
    rw [adjust_eq v h1 h7 _ e0]
    unfold timF
    rw [if_neg (fun h => by rw [e1] at h; omega), e1]
  show (if v < 7 then tinfo _ tb 15 0 _ else vinfo _ vb 18 0 (tinfo _ tb 15 0 _)) x y = _
  by_cases h : v < 7
  · rw [if_pos h]; exact eT
  · rw [if_neg h, vinfo_at, e3.resolve_left (by omega)]; exact eT

/-- What is left is what the reader takes for no pattern. -/
def chkF (v : Nat) : Bool := (List.range (side v)).all fun x => (List.range (side v)).all fun y => left v x y == !fpat v x y
theorem chkF1 : chkF 1 = true := by decide +kernel
theorem chkF2 : chkF 2 = true := by decide +kernel
theorem chkF3 : chkF 3 = true := by decide +kernel
theorem chkF4 : chkF 4 = true := by decide +kernel
theorem chkF5 : chkF 5 = true := by decide +kernel
theorem chkF6 : chkF 6 = true := by decide +kernel
theorem chkF7 : chkF 7 = true := by decide +kernel
theorem left_fpat {v : Nat} (h1 : 1 ≤ v) (h7 : v ≤ 7) {x y : Nat} (hx : x < side v) (hy : y < side v) : left v x y = !fpat v x y := by
  have h : chkF v = true := by
    obtain rfl | rfl | rfl | rfl | rfl | rfl | rfl : v = 1 ∨ v = 2 ∨ v = 3 ∨ v = 4 ∨ v = 5 ∨ v = 6 ∨ v = 7 := by omega
    · exact chkF1
    · exact chkF2
    · exact chkF3
    · exact chkF4
    · exact chkF5
    · exact chkF6
    · exact chkF7
  have := all_range' (all_range' h hx) hy
  simpa using this

/-- A number for each place of the way: the places are all different. -/
def zpos (n : Nat) (c : Nat × Nat) : Nat :=
  let x := if c.1 < 6 then c.1 + 1 else c.1
  let k := (n - 1 - x) / 2
  let r := (n - 1 - x) % 2
  2 * n * k + 2 * (if k % 2 = 0 then n - 1 - c.2 else c.2) + r
def incr : List Nat → Bool
  | a :: b :: l => Nat.blt a b && incr (b :: l)
  | _ => true
theorem incr_nodup : ∀ (l : List Nat), incr l = true → (∀ a ∈ l.head?, ∀ b ∈ l.tail, a < b) ∧ l.Nodup
  | [], _ => ⟨by simp, List.nodup_nil⟩
  | [a], _ => ⟨by simp, by simp⟩
  | a :: b :: l, h => by
    simp only [incr, Bool.and_eq_true, Nat.blt_eq] at h
    have ih := incr_nodup (b :: l) h.2
    have h2 : ∀ c ∈ l, b < c := fun c hc => ih.1 b (by simp) c (by simpa using hc)
    refine ⟨fun x hx c hc => ?_, ?_⟩
    · simp at hx; subst hx
      rcases List.mem_cons.1 (by simpa using hc : c ∈ b :: l) with h3 | h3
      · omega
      · have := h2 c h3; omega
    · rw [List.nodup_cons]
      refine ⟨fun hm => ?_, ih.2⟩
      rcases List.mem_cons.1 hm with h3 | h3
      · omega
      · have := h2 a h3; omega
theorem nodup_of_map {α : Type} {f : α → Nat} : ∀ {l : List α}, (l.map f).Nodup → l.Nodup
  | [], _ => List.nodup_nil
  | a :: l, h => by
    rw [List.map_cons, List.nodup_cons] at h
    rw [List.nodup_cons]
    exact ⟨fun hm => h.1 (List.mem_map.2 ⟨a, hm, rfl⟩), nodup_of_map h.2⟩
def chkZ (v : Nat) : Bool := incr ((zz (side v)).map (zpos (side v))) && (zz (side v)).all (fun c => Nat.blt c.1 (side v) && Nat.blt c.2 (side v))
theorem chkZ1 : chkZ 1 = true := by decide +kernel
theorem chkZ2 : chkZ 2 = true := by decide +kernel
theorem chkZ3 : chkZ 3 = true := by decide +kernel
theorem chkZ4 : chkZ 4 = true := by decide +kernel
theorem chkZ5 : chkZ 5 = true := by decide +kernel
theorem chkZ6 : chkZ 6 = true := by decide +kernel
theorem chkZ7 : chkZ 7 = true := by decide +kernel
theorem zz_ok {v : Nat} (h1 : 1 ≤ v) (h7 : v ≤ 7) : (zz (side v)).Nodup ∧ ∀ c ∈ zz (side v), c.1 < side v ∧ c.2 < side v := by
  have h : chkZ v = true := by
    obtain rfl | rfl | rfl | rfl | rfl | rfl | rfl : v = 1 ∨ v = 2 ∨ v = 3 ∨ v = 4 ∨ v = 5 ∨ v = 6 ∨ v = 7 := by omega
    · exact chkZ1
    · exact chkZ2
    · exact chkZ3
    · exact chkZ4
    · exact chkZ5
    · exact chkZ6
    · exact chkZ7
  unfold chkZ at h
  rw [Bool.and_eq_true] at h
  refine ⟨nodup_of_map (incr_nodup _ h.1).2, fun c hc => ?_⟩
  have := List.all_eq_true.1 h.2 c hc
  simpa [Nat.blt_eq] using this

/-- How many cells are left for words: 8 for each word, and up to 7 more. -/
def wordsN (v : Nat) : Nat := [0, 26, 44, 70, 100, 134, 172, 196].getD v 0
def room (v : Nat) : Nat := ((zz (side v)).filter fun c => !fpat v c.1 c.2).length
def restN (v : Nat) : Nat := if v = 1 ∨ v = 7 then 0 else 7
theorem room1 : room 1 = 8 * wordsN 1 + restN 1 := by decide +kernel
theorem room2 : room 2 = 8 * wordsN 2 + restN 2 := by decide +kernel
theorem room3 : room 3 = 8 * wordsN 3 + restN 3 := by decide +kernel
theorem room4 : room 4 = 8 * wordsN 4 + restN 4 := by decide +kernel
theorem room5 : room 5 = 8 * wordsN 5 + restN 5 := by decide +kernel
theorem room6 : room 6 = 8 * wordsN 6 + restN 6 := by decide +kernel
theorem room7 : room 7 = 8 * wordsN 7 + restN 7 := by decide +kernel
theorem room_eq {v : Nat} (h1 : 1 ≤ v) (h7 : v ≤ 7) : room v = 8 * wordsN v + restN v := by
  obtain rfl | rfl | rfl | rfl | rfl | rfl | rfl : v = 1 ∨ v = 2 ∨ v = 3 ∨ v = 4 ∨ v = 5 ∨ v = 6 ∨ v = 7 := by omega
  · exact room1
  · exact room2
  · exact room3
  · exact room4
  · exact room5
  · exact room6
  · exact room7

/-- The whole symbol: the patterns, and the words' bits under a mask. -/
def symM (v m : Nat) (tb vb bits : List Bool) : Mx := (embedL bits (mskE m) (base v tb vb, 0) (zz (side v))).1
theorem sym_num {v : Nat} (h1 : 1 ≤ v) (h7 : v ≤ 7) (m : Nat) (tb vb bits : List Bool) (hb : bits.length = 8 * wordsN v) : (embedL bits (mskE m) (base v tb vb, 0) (zz (side v))).2 = bits.length := by
  have hz := zz_ok h1 h7
  rw [embedL_num bits _ _ _ hz.1 (Nat.zero_le _)]
  have e : (free (base v tb vb) (zz (side v))).length = room v := by
    unfold free room
    congr 1
    exact filter_congr' (fun c hc => by
      have := left_fpat h1 h7 (hz.2 c hc).1 (hz.2 c hc).2
      rw [← this, ← emp_base v h1 h7 tb vb]; rfl)
  show min _ (0 + (free (base v tb vb) (zz (side v))).length) = _
  rw [e, room_eq h1 h7, hb]; omega
/-- What the reader takes out of it, unmasked: the bits, and zeros behind. -/
theorem sym_bits {v : Nat} (h1 : 1 ≤ v) (h7 : v ≤ 7) (m : Nat) (tb vb bits : List Bool) (hb : bits.length = 8 * wordsN v) :
    readL (fpat v) (fun x y => (symM v m tb vb bits x y == 1) != mskD m y x) [] (zz (side v)) = bits ++ List.replicate (restN v) false := by
  have hz := zz_ok h1 h7
  have ef : (zz (side v)).filter (fun c => !fpat v c.1 c.2) = free (base v tb vb) (zz (side v)) := filter_congr' (fun c hc => by
      have := left_fpat h1 h7 (hz.2 c hc).1 (hz.2 c hc).2
      rw [← this, ← emp_base v h1 h7 tb vb]; rfl)
  have en : (free (base v tb vb) (zz (side v))).length = room v := by rw [← ef]; rfl
  rw [readL_eq, List.nil_append, ef]
  have h := embedL_bits bits (mskE m) (zz (side v)) (base v tb vb, 0) hz.1 (Nat.zero_le _)
  rw [en] at h
  have e2 : ∀ c : Nat × Nat, ((symM v m tb vb bits c.1 c.2 == 1) != mskD m c.2 c.1) = (((embedL bits (mskE m) (base v tb vb, 0) (zz (side v))).1 c.1 c.2 == 1) != mskE m c.1 c.2) := fun c => by rw [msk_eq]; rfl
  rw [List.map_congr_left (fun c _ => e2 c), h, room_eq h1 h7, ← hb]
  apply List.ext_getElem?
  intro i
  simp only [List.getElem?_map, Nat.zero_add]
  by_cases hi : i < bits.length
  · rw [List.getElem?_append_left hi, List.getElem?_range (by omega)]; simp [List.getD, hi]
  · rw [List.getElem?_append_right (by omega)]
    by_cases hi2 : i < bits.length + restN v
    · rw [List.getElem?_range hi2, List.getElem?_replicate, if_pos (by omega)]
      simp only [Option.map_some, List.getD]
      rw [List.getElem?_eq_none (by omega)]; rfl
    · rw [List.getElem?_eq_none (by simp; omega), List.getElem?_replicate, if_neg (by omega)]; rfl
theorem sym_laid {v m : Nat} {tb vb bits : List Bool} {x y : Nat} (h : base v tb vb x y ≠ -1) : symM v m tb vb bits x y = base v tb vb x y := embedL_laid bits (mskE m) _ (base v tb vb, 0) x y h
/-- All cells are laid. -/
theorem sym_full {v : Nat} (m : Nat) (tb vb bits : List Bool) (x y : Nat) : symM v m tb vb bits x y = -1 ∨ True := Or.inr trivial

end QR
