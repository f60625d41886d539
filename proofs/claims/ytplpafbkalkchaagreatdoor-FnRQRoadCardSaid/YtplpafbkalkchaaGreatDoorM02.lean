/-
  Parts of the proof (GyC, Mat, Zig, Lay).
-/
set_option linter.unusedSimpArgs false
set_option linter.unusedVariables false

namespace QR

/-- Blocks that are done: rows of blocks above y, and the first x of row y. -/
structure Cov (f P : Nat → Nat → Bool) (W H y x : Nat) : Prop where
  sound : ∀ x' y', f x' y' = true → P x' y' = true
  full : ∀ x' y', x' < W → y' < H → (y' < 8 * y ∨ (y' < 8 * y + 8 ∧ x' < 8 * x)) → P x' y' = true → f x' y' = true
theorem Cov.start (P : Nat → Nat → Bool) (W H : Nat) : Cov (fun _ _ => false) P W H 0 0 := ⟨fun _ _ h => (by cases h), fun x' y' _ _ h _ => (by omega)⟩
theorem Cov.step {f P : Nat → Nat → Bool} {W H y x xo yo : Nat} (h : Cov f P W H y x) (hW : 8 ≤ W) (hH : 8 ≤ H) (hxo : xo = min (8 * x) (W - 8)) (hyo : yo = min (8 * y) (H - 8)) :
    Cov (fun x' y' => f x' y' || (P x' y' && decide (xo ≤ x' ∧ x' < xo + 8 ∧ yo ≤ y' ∧ y' < yo + 8))) P W H y (x + 1) := by
  refine ⟨fun x' y' hf => ?_, fun x' y' hx hy hc hp => ?_⟩
  · rw [Bool.or_eq_true, Bool.and_eq_true] at hf
    rcases hf with hf | ⟨hf, _⟩
    · exact h.sound _ _ hf
    · exact hf
  · by_cases e : y' < 8 * y ∨ (y' < 8 * y + 8 ∧ x' < 8 * x)
    · have := h.full x' y' hx hy e hp
      simp [this]
    · have e2 : xo ≤ x' ∧ x' < xo + 8 ∧ yo ≤ y' ∧ y' < yo + 8 := by omega
      simp [hp, e2]
theorem Cov.row {f P : Nat → Nat → Bool} {W H y SW : Nat} (h : Cov f P W H y SW) (hS : W ≤ 8 * SW) : Cov f P W H (y + 1) 0 :=
  ⟨h.sound, fun x' y' hx hy hc hp => h.full x' y' hx hy (by omega) hp⟩
theorem Cov.done {f P : Nat → Nat → Bool} {W H SH : Nat} (h : Cov f P W H SH 0) (hS : H ≤ 8 * SH) {x' y' : Nat} (hx : x' < W) (hy : y' < H) : f x' y' = P x' y' := by
  cases hp : P x' y'
  · cases hf : f x' y'
    · rfl
    · have := h.sound _ _ hf; rw [hp] at this; cases this
  · exact h.full x' y' hx hy (Or.inl (by omega)) hp

end QR

namespace QR

abbrev Mx := Nat → Nat → Int
def setM (M : Mx) (x y : Nat) (v : Int) : Mx := fun a b => if a = x ∧ b = y then v else M a b
def rect (M : Mx) (x0 y0 w h : Nat) (f : Nat → Nat → Int) : Mx := fun a b => if x0 ≤ a ∧ a < x0 + w ∧ y0 ≤ b ∧ b < y0 + h then f (a - x0) (b - y0) else M a b

/-- The pattern of a corner, the pattern of alignment: by their rings. -/
def pdp (x y : Nat) : Int := if x = 0 ∨ x = 6 ∨ y = 0 ∨ y = 6 then 1 else if x = 1 ∨ x = 5 ∨ y = 1 ∨ y = 5 then 0 else 1
def pap (x y : Nat) : Int := if x = 0 ∨ x = 4 ∨ y = 0 ∨ y = 4 then 1 else if x = 2 ∧ y = 2 then 1 else 0

def side (v : Nat) : Nat := 17 + 4 * v
def corners (n : Nat) (M : Mx) : Mx :=
  let M := rect M 0 0 7 7 pdp
  let M := rect M (n - 7) 0 7 7 pdp
  let M := rect M 0 (n - 7) 7 7 pdp
  let z : Nat → Nat → Int := fun _ _ => 0
  let M := rect M 0 7 8 1 z
  let M := rect M (n - 8) 7 8 1 z
  let M := rect M 0 (n - 8) 8 1 z
  let M := rect M 7 0 1 7 z
  let M := rect M (n - 8) 0 1 7 z
  rect M 7 (n - 7) 1 7 z
def dot (n : Nat) (M : Mx) : Mx := setM M 8 (n - 8) 1

/-- The middles of alignment patterns, by the version. -/
def mids (v : Nat) : List Int :=
  match v with
  | 2 => [6, 18, -1, -1, -1, -1, -1]
  | 3 => [6, 22, -1, -1, -1, -1, -1]
  | 4 => [6, 26, -1, -1, -1, -1, -1]
  | 5 => [6, 30, -1, -1, -1, -1, -1]
  | 6 => [6, 34, -1, -1, -1, -1, -1]
  | 7 => [6, 22, 38, -1, -1, -1, -1]
  | _ => [-1, -1, -1, -1, -1, -1, -1]
def adjX (y : Int) : List Int → Mx → Mx
  | [], M => M
  | x :: l, M => adjX y l (if 0 ≤ x ∧ M x.toNat y.toNat = -1 then rect M (x.toNat - 2) (y.toNat - 2) 5 5 pap else M)
def adjY (cs : List Int) : List Int → Mx → Mx
  | [], M => M
  | y :: l, M => adjY cs l (if 0 ≤ y then adjX y cs M else M)
def adjust (v : Nat) (M : Mx) : Mx := if v < 2 then M else adjY (mids v) (mids v) M

/-- The timing patterns: so many of their modules from the eighth one on. -/
def timing : Nat → Nat → Mx → Mx
  | 0, _, M => M
  | k + 1, i, M =>
    let b : Int := (((i + 1) % 2 : Nat) : Int)
    let M := if M i 6 = -1 then setM M i 6 b else M
    let M := if M 6 i = -1 then setM M 6 i b else M
    timing k (i + 1) M
def basic (v : Nat) (M : Mx) : Mx := let n := side v; timing (n - 16) 8 (adjust v (dot n (corners n M)))

def b01 (b : Bool) : Int := if b then 1 else 0
/-- The places of the format: the left top corner's. -/
def tcoord : List (Nat × Nat) := [(8, 0), (8, 1), (8, 2), (8, 3), (8, 4), (8, 5), (8, 7), (8, 8), (7, 8), (5, 8), (4, 8), (3, 8), (2, 8), (1, 8), (0, 8)]
def tstep (n : Nat) (M : Mx) (i : Nat) (bit : Bool) : Mx :=
  let c := tcoord.getD i (0, 0)
  let M := setM M c.1 c.2 (b01 bit)
  if i < 8 then setM M (n - i - 1) 8 (b01 bit) else setM M 8 (n - 7 + (i - 8)) (b01 bit)
/-- The format's bits, the last one first. -/
def tinfo (n : Nat) (bits : List Bool) : Nat → Nat → Mx → Mx
  | 0, _, M => M
  | k + 1, i, M => tinfo n bits k (i + 1) (tstep n M i (bits.getD (14 - i) false))
def vstep (n : Nat) (M : Mx) (i j : Nat) (bit : Bool) : Mx := setM (setM M i (n - 11 + j) (b01 bit)) (n - 11 + j) i (b01 bit)
def vinfo (n : Nat) (bits : List Bool) : Nat → Nat → Mx → Mx
  | 0, _, M => M
  | k + 1, q, M => vinfo n bits k (q + 1) (vstep n M (q / 3) (q % 3) (bits.getD (17 - q) false))

/-- Format: level and mask, with ten bits of a code, and the fixed mask over them. The version's bits. -/
def formatOf (a : Nat) : Nat := [0x5412, 0x5125, 0x5E7C, 0x5B4B, 0x45F9, 0x40CE, 0x4F97, 0x4AA0, 0x77C4, 0x72F3, 0x7DAA, 0x789D, 0x662F, 0x6318, 0x6C41, 0x6976, 0x1689, 0x13BE, 0x1CE7, 0x19D0, 0x0762, 0x0255, 0x0D0C, 0x083B, 0x355F, 0x3068, 0x3F31, 0x3A06, 0x24B4, 0x2183, 0x2EDA, 0x2BED].getD a 0

/-- What the reader takes for patterns. -/
def inR (x y x0 y0 w h : Nat) : Bool := decide (x0 ≤ x) && decide (x < x0 + w) && decide (y0 ≤ y) && decide (y < y0 + h)
def mids7 (v : Nat) : List Nat := (mids v).filterMap fun m => if 0 ≤ m then some m.toNat else none
def fpat (v x y : Nat) : Bool :=
  let n := side v
  inR x y 0 0 9 9 || inR x y (n - 8) 0 8 9 || inR x y 0 (n - 8) 9 8 ||
  ((List.range (mids7 v).length).any fun i => (List.range (mids7 v).length).any fun j =>
    !((i == 0 && (j == 0 || j == (mids7 v).length - 1)) || (i == (mids7 v).length - 1 && j == 0)) && inR x y ((mids7 v).getD j 0 - 2) ((mids7 v).getD i 0 - 2) 5 5) ||
  inR x y 6 9 1 (n - 17) || inR x y 9 6 (n - 17) 1 || (decide (6 < v) && (inR x y (n - 11) 0 3 6 || inR x y 0 (n - 11) 6 3))

/-- The places of the words' bits, in their order: pairs of columns from the right, up and down in turns. -/
def zzCol (n x : Nat) (up : Bool) : List (Nat × Nat) :=
  (List.range n).flatMap fun c => let y := if up then n - 1 - c else c; [(x, y), (x - 1, y)]
def zzFrom (n : Nat) : Nat → Nat → Bool → List (Nat × Nat)
  | 0, _, _ => []
  | k + 1, x, up => let x := if x = 6 then 5 else x; zzCol n x up ++ zzFrom n k (x - 2) (!up)
def zz (n : Nat) : List (Nat × Nat) := zzFrom n ((n - 1) / 2) (n - 1) true

end QR

namespace QR

/-- One place of the writer's way: if nothing is laid there, the next bit (or none) under the mask. -/
def eStep (bits : List Bool) (msk : Nat → Nat → Bool) (s : Mx × Nat) (c : Nat × Nat) : Mx × Nat :=
  if s.1 c.1 c.2 = -1 then (setM s.1 c.1 c.2 (b01 ((bits.getD s.2 false) != msk c.1 c.2)), if s.2 < bits.length then s.2 + 1 else s.2) else s
def embedL (bits : List Bool) (msk : Nat → Nat → Bool) (s : Mx × Nat) (l : List (Nat × Nat)) : Mx × Nat := l.foldl (eStep bits msk) s
/-- One place of the reader's way. -/
def rStep (pat G : Nat → Nat → Bool) (s : List Bool) (c : Nat × Nat) : List Bool := if pat c.1 c.2 then s else s ++ [G c.1 c.2]
def readL (pat G : Nat → Nat → Bool) (s : List Bool) (l : List (Nat × Nat)) : List Bool := l.foldl (rStep pat G) s

theorem b01_ne (b : Bool) : b01 b ≠ -1 := by cases b <;> decide
theorem b01_one (b : Bool) : (b01 b == 1) = b := by cases b <;> decide

theorem readL_eq (pat G : Nat → Nat → Bool) : ∀ (l : List (Nat × Nat)) (s : List Bool), readL pat G s l = s ++ (l.filter fun c => !pat c.1 c.2).map fun c => G c.1 c.2
  | [], s => by simp [readL]
  | c :: l, s => by
    have ih := readL_eq pat G l
    unfold readL at ih ⊢
    rw [List.foldl_cons, ih]
    unfold rStep
    by_cases h : pat c.1 c.2 <;> simp [h]

theorem embedL_far (bits : List Bool) (msk : Nat → Nat → Bool) : ∀ (l : List (Nat × Nat)) (s : Mx × Nat) (a b : Nat), (a, b) ∉ l → (embedL bits msk s l).1 a b = s.1 a b
  | [], _, _, _, _ => rfl
  | c :: l, s, a, b, h => by
    have h1 : ¬ (a = c.1 ∧ b = c.2) := fun ⟨e1, e2⟩ => h (by rw [e1, e2]; exact List.mem_cons_self ..)
    have ih := embedL_far bits msk l (eStep bits msk s c) a b (fun hm => h (List.mem_cons_of_mem _ hm))
    unfold embedL at ih ⊢
    rw [List.foldl_cons, ih]
    unfold eStep
    split
    · show setM s.1 c.1 c.2 _ a b = _
      unfold setM; rw [if_neg h1]
    · rfl
/-- What is laid stays. -/
theorem embedL_laid (bits : List Bool) (msk : Nat → Nat → Bool) : ∀ (l : List (Nat × Nat)) (s : Mx × Nat) (a b : Nat), s.1 a b ≠ -1 → (embedL bits msk s l).1 a b = s.1 a b
  | [], _, _, _, _ => rfl
  | c :: l, s, a, b, h => by
    have h2 : (eStep bits msk s c).1 a b = s.1 a b := by
      unfold eStep
      split
      · rename_i h3
        show setM s.1 c.1 c.2 _ a b = _
        unfold setM
        by_cases e : a = c.1 ∧ b = c.2
        · obtain ⟨rfl, rfl⟩ := e; exact absurd h3 h
        · rw [if_neg e]
      · rfl
    have ih := embedL_laid bits msk l (eStep bits msk s c) a b (by rw [h2]; exact h)
    unfold embedL at ih ⊢
    rw [List.foldl_cons, ih, h2]

def free (M : Mx) (l : List (Nat × Nat)) : List (Nat × Nat) := l.filter fun c => decide (M c.1 c.2 = -1)
theorem filter_congr' {α : Type} {p q : α → Bool} : ∀ {l : List α}, (∀ x ∈ l, p x = q x) → l.filter p = l.filter q
  | [], _ => rfl
  | x :: l, h => by
    rw [List.filter_cons, List.filter_cons, h x (List.mem_cons_self ..), filter_congr' (fun y hy => h y (List.mem_cons_of_mem _ hy))]

theorem embedL_num (bits : List Bool) (msk : Nat → Nat → Bool) : ∀ (l : List (Nat × Nat)) (s : Mx × Nat), l.Nodup → s.2 ≤ bits.length →
    (embedL bits msk s l).2 = min bits.length (s.2 + (free s.1 l).length)
  | [], s, _, h => by simp [embedL, free]; omega
  | c :: l, s, hd, h => by
    rw [List.nodup_cons] at hd
    have ih := embedL_num bits msk l (eStep bits msk s c) hd.2
    have hf : free (eStep bits msk s c).1 l = free s.1 l := filter_congr' (fun x hx => by
      have hne : ¬ (x.1 = c.1 ∧ x.2 = c.2) := fun ⟨e1, e2⟩ => hd.1 (by have : c = x := Prod.ext e1.symm e2.symm; rw [this]; exact hx)
      unfold eStep
      split
      · show decide (setM s.1 c.1 c.2 _ x.1 x.2 = -1) = _
        unfold setM; rw [if_neg hne]
      · rfl)
    rw [hf] at ih
    unfold embedL at ih ⊢
    rw [List.foldl_cons]
    by_cases h1 : s.1 c.1 c.2 = -1
    · have e2 : (eStep bits msk s c).2 = if s.2 < bits.length then s.2 + 1 else s.2 := by unfold eStep; rw [if_pos h1]
      have e3 : (free s.1 (c :: l)).length = (free s.1 l).length + 1 := by unfold free; rw [List.filter_cons, if_pos (by simpa using h1)]; simp
      by_cases h2 : s.2 < bits.length
      · rw [if_pos h2] at e2
        rw [ih (by omega), e2, e3]; omega
      · rw [if_neg h2] at e2
        rw [ih (by omega), e2, e3]; omega
    · have e2 : eStep bits msk s c = s := by unfold eStep; rw [if_neg h1]
      have e3 : free s.1 (c :: l) = free s.1 l := by unfold free; rw [List.filter_cons, if_neg (by simpa using h1)]
      rw [e2] at ih ⊢
      rw [ih h, e3]

/-- The reader's bits, out of what the writer has laid. -/
theorem embedL_bits (bits : List Bool) (msk : Nat → Nat → Bool) : ∀ (l : List (Nat × Nat)) (s : Mx × Nat), l.Nodup → s.2 ≤ bits.length →
    (free s.1 l).map (fun c => ((embedL bits msk s l).1 c.1 c.2 == 1) != msk c.1 c.2) = (List.range (free s.1 l).length).map fun i => bits.getD (s.2 + i) false
  | [], s, _, h => by simp [free]
  | c :: l, s, hd, h => by
    rw [List.nodup_cons] at hd
    have ih := embedL_bits bits msk l (eStep bits msk s c) hd.2
    have hf : free (eStep bits msk s c).1 l = free s.1 l := filter_congr' (fun x hx => by
      have hne : ¬ (x.1 = c.1 ∧ x.2 = c.2) := fun ⟨e1, e2⟩ => hd.1 (by have : c = x := Prod.ext e1.symm e2.symm; rw [this]; exact hx)
      unfold eStep
      split
      · show decide (setM s.1 c.1 c.2 _ x.1 x.2 = -1) = _
        unfold setM; rw [if_neg hne]
      · rfl)
    rw [hf] at ih
    have hst : embedL bits msk s (c :: l) = embedL bits msk (eStep bits msk s c) l := rfl
    rw [hst]
    by_cases h1 : s.1 c.1 c.2 = -1
    · have e2 : (eStep bits msk s c).2 = if s.2 < bits.length then s.2 + 1 else s.2 := by unfold eStep; rw [if_pos h1]
      have e1 : (eStep bits msk s c).1 c.1 c.2 = b01 ((bits.getD s.2 false) != msk c.1 c.2) := by
        unfold eStep; rw [if_pos h1]
        show setM s.1 c.1 c.2 _ c.1 c.2 = _
        unfold setM; rw [if_pos ⟨rfl, rfl⟩]
      have e3 : free s.1 (c :: l) = c :: free s.1 l := by unfold free; rw [List.filter_cons, if_pos (by simpa using h1)]
      have e4 : (embedL bits msk (eStep bits msk s c) l).1 c.1 c.2 = b01 ((bits.getD s.2 false) != msk c.1 c.2) := by
        rw [embedL_far bits msk l _ c.1 c.2 hd.1, e1]
      rw [e3, List.map_cons, e4, b01_one, List.length_cons, List.range_succ_eq_map, List.map_cons, List.map_map]
      congr 1
      · simp
      · rw [ih (by rw [e2]; split <;> omega)]
        refine List.map_congr_left (fun i _ => ?_)
        show bits.getD _ false = bits.getD (s.2 + (i + 1)) false
        rw [e2]
        by_cases h2 : s.2 < bits.length
        · rw [if_pos h2]; congr 1; omega
        · rw [if_neg h2]
          simp only [List.getD]
          rw [List.getElem?_eq_none (by omega), List.getElem?_eq_none (by omega)]
    · have e2 : eStep bits msk s c = s := by unfold eStep; rw [if_neg h1]
      have e3 : free s.1 (c :: l) = free s.1 l := by unfold free; rw [List.filter_cons, if_neg (by simpa using h1)]
      rw [e2] at ih ⊢
      rw [e3]; exact ih h

/-- The masks: as the writer reckons them (column, row), and as the reader does (row, column). -/
def mskE (m x y : Nat) : Bool :=
  match m with
  | 0 => (y + x) % 2 == 0
  | 1 => y % 2 == 0
  | 2 => x % 3 == 0
  | 3 => (y + x) % 3 == 0
  | 4 => (y / 2 + x / 3) % 2 == 0
  | 5 => (y * x) % 2 + (y * x) % 3 == 0
  | 6 => ((y * x) % 2 + (y * x) % 3) % 2 == 0
  | _ => ((y * x) % 3 + (y + x) % 2) % 2 == 0
def mskD (m i j : Nat) : Bool :=
  match m with
  | 0 => (i + j) % 2 == 0
  | 1 => i % 2 == 0
  | 2 => j % 3 == 0
  | 3 => (i + j) % 3 == 0
  | 4 => (i / 2 + j / 3) % 2 == 0
  | 5 => (i * j) % 6 == 0
  | 6 => decide ((i * j) % 6 < 3)
  | _ => (i + j + (i * j) % 3) % 2 == 0
theorem msk_eq (m x y : Nat) : mskE m x y = mskD m y x := by
  unfold mskE mskD
  split
  · rfl
  · rfl
  · rfl
  · rfl
  · rfl
  · generalize y * x = t
    rw [Bool.eq_iff_iff]; simp only [beq_iff_eq]; omega
  · generalize y * x = t
    rw [Bool.eq_iff_iff]; simp only [beq_iff_eq, decide_eq_true_eq]; omega
  · generalize y * x = t
    rw [Bool.eq_iff_iff]; simp only [beq_iff_eq]; omega

end QR

namespace QR

def emp (M : Mx) (x y : Nat) : Bool := decide (M x y = -1)
theorem emp_rect {M : Mx} {x0 y0 w h : Nat} {f : Nat → Nat → Int} (hf : ∀ a b, f a b ≠ -1) (x y : Nat) : emp (rect M x0 y0 w h f) x y = (emp M x y && !inR x y x0 y0 w h) := by
  unfold emp rect inR
  by_cases e : x0 ≤ x ∧ x < x0 + w ∧ y0 ≤ y ∧ y < y0 + h
  · rw [if_pos e]; obtain ⟨e1, e2, e3, e4⟩ := e; simp [hf, e1, e2, e3, e4]
  · rw [if_neg e]
    have : (decide (x0 ≤ x) && decide (x < x0 + w) && decide (y0 ≤ y) && decide (y < y0 + h)) = false := by
      rw [Bool.eq_false_iff]; intro h; simp only [Bool.and_eq_true, decide_eq_true_eq] at h; exact e ⟨h.1.1.1, h.1.1.2, h.1.2, h.2⟩
    rw [this]; simp
theorem emp_setM {M : Mx} {a b : Nat} {v : Int} (hv : v ≠ -1) (x y : Nat) : emp (setM M a b v) x y = (emp M x y && !inR x y a b 1 1) := by
  unfold emp setM inR
  by_cases e : x = a ∧ y = b
  · rw [if_pos e]; obtain ⟨rfl, rfl⟩ := e; simp [hv]
  · rw [if_neg e]
    have : (decide (a ≤ x) && decide (x < a + 1) && decide (b ≤ y) && decide (y < b + 1)) = false := by
      rw [Bool.eq_false_iff]; intro h; simp only [Bool.and_eq_true, decide_eq_true_eq] at h; exact e (by omega)
    rw [this]; simp
/-- The timing patterns, laid up to k. -/
def timF (k : Nat) (M : Mx) : Mx := fun a b =>
  if M a b = -1 ∧ ((b = 6 ∧ 8 ≤ a ∧ a < k) ∨ (a = 6 ∧ 8 ≤ b ∧ b < k)) then (((if b = 6 then (a + 1) % 2 else (b + 1) % 2 : Nat)) : Int) else M a b
theorem emp_tim {M : Mx} {k : Nat} (hk : 8 ≤ k) (x y : Nat) : emp (timF k M) x y = (emp M x y && !inR x y 8 6 (k - 8) 1 && !inR x y 6 8 1 (k - 8)) := by
  unfold emp timF inR
  by_cases e : M x y = -1
  · by_cases e2 : (y = 6 ∧ 8 ≤ x ∧ x < k) ∨ (x = 6 ∧ 8 ≤ y ∧ y < k)
    · rw [if_pos ⟨e, e2⟩]
      rcases e2 with ⟨rfl, h1, h2⟩ | ⟨rfl, h1, h2⟩
      · have : x < 8 + (k - 8) := by omega
        simp [e, h1, this]; omega
      · have : y < 8 + (k - 8) := by omega
        simp [e, h1, this]
    · rw [if_neg (fun h => e2 h.2)]
      have h1 : (decide (8 ≤ x) && decide (x < 8 + (k - 8)) && decide (6 ≤ y) && decide (y < 6 + 1)) = false := by
        rw [Bool.eq_false_iff]; intro h; simp only [Bool.and_eq_true, decide_eq_true_eq] at h; exact e2 (Or.inl (by omega))
      have h2 : (decide (6 ≤ x) && decide (x < 6 + 1) && decide (8 ≤ y) && decide (y < 8 + (k - 8))) = false := by
        rw [Bool.eq_false_iff]; intro h; simp only [Bool.and_eq_true, decide_eq_true_eq] at h; exact e2 (Or.inr (by omega))
      rw [h1, h2]; simp [e]
  · rw [if_neg (fun h => e h.1)]; simp [e]

theorem ite_ne {p : Prop} [Decidable p] {a b : Int} (ha : a ≠ -1) (hb : b ≠ -1) : (if p then a else b) ≠ -1 := by split <;> assumption
theorem pdp_ne (a b : Nat) : pdp a b ≠ -1 := ite_ne (by decide) (ite_ne (by decide) (by decide))
theorem pap_ne (a b : Nat) : pap a b ≠ -1 := ite_ne (by decide) (ite_ne (by decide) (by decide))
theorem zero_ne (a b : Nat) : (fun _ _ : Nat => (0 : Int)) a b ≠ -1 := by show (0 : Int) ≠ -1; decide

/-- The regions of the corners. -/
def cornerR (n : Nat) : List (Nat × Nat × Nat × Nat) :=
  [(0, 0, 7, 7), (n - 7, 0, 7, 7), (0, n - 7, 7, 7), (0, 7, 8, 1), (n - 8, 7, 8, 1), (0, n - 8, 8, 1), (7, 0, 1, 7), (n - 8, 0, 1, 7), (7, n - 7, 1, 7)]
def inL (x y : Nat) (l : List (Nat × Nat × Nat × Nat)) : Bool := l.any fun r => inR x y r.1 r.2.1 r.2.2.1 r.2.2.2
theorem emp_corners {M : Mx} {n : Nat} (x y : Nat) : emp (corners n M) x y = (emp M x y && !inL x y (cornerR n)) := by
  unfold corners
  simp only
  rw [emp_rect zero_ne, emp_rect zero_ne, emp_rect zero_ne, emp_rect zero_ne, emp_rect zero_ne, emp_rect zero_ne, emp_rect pdp_ne, emp_rect pdp_ne, emp_rect pdp_ne]
  simp only [inL, cornerR, List.any_cons, List.any_nil, Bool.or_false, Bool.not_or, Bool.and_assoc]
theorem emp_dot {M : Mx} {n : Nat} (x y : Nat) : emp (dot n M) x y = (emp M x y && !inR x y 8 (n - 8) 1 1) := emp_setM (by decide) x y

def put (M : Mx) (c : Nat × Nat) : Mx := rect M (c.1 - 2) (c.2 - 2) 5 5 pap
/-- Where patterns of alignment are laid. -/
def spots (v : Nat) : List (Nat × Nat) :=
  match v with
  | 2 => [(18, 18)]
  | 3 => [(22, 22)]
  | 4 => [(26, 26)]
  | 5 => [(30, 30)]
  | 6 => [(34, 34)]
  | 7 => [(22, 6), (6, 22), (22, 22), (38, 22), (22, 38), (38, 38)]
  | _ => []
theorem emp_put {M : Mx} {c : Nat × Nat} (x y : Nat) : emp (put M c) x y = (emp M x y && !inR x y (c.1 - 2) (c.2 - 2) 5 5) := emp_rect pap_ne x y
theorem emp_puts : ∀ (l : List (Nat × Nat)) (M : Mx) (x y : Nat), emp (l.foldl put M) x y = (emp M x y && !inL x y (l.map fun c => (c.1 - 2, c.2 - 2, 5, 5)))
  | [], M, x, y => by simp [inL]
  | c :: l, M, x, y => by
    rw [List.foldl_cons, emp_puts l, emp_put]
    simp only [inL, List.map_cons, List.any_cons, Bool.not_or, Bool.and_assoc]

theorem adjX_nil (y : Int) (M : Mx) : adjX y [] M = M := rfl
theorem adjX_neg {y : Int} {l : List Int} {M : Mx} : adjX y (-1 :: l) M = adjX y l M := by
  show adjX y l (if 0 ≤ (-1 : Int) ∧ _ then _ else M) = _
  rw [if_neg (by omega)]
theorem adjX_full {a b : Nat} {l : List Int} {M : Mx} (h : emp M a b = false) : adjX (b : Int) ((a : Int) :: l) M = adjX b l M := by
  show adjX _ l (if 0 ≤ (a : Int) ∧ M (a : Int).toNat (b : Int).toNat = -1 then _ else M) = _
  have h1 : M a b ≠ -1 := by unfold emp at h; simpa using h
  rw [if_neg (by simpa using h1)]
theorem adjX_put {a b : Nat} {l : List Int} {M : Mx} (h : emp M a b = true) : adjX (b : Int) ((a : Int) :: l) M = adjX b l (put M (a, b)) := by
  show adjX _ l (if 0 ≤ (a : Int) ∧ M (a : Int).toNat (b : Int).toNat = -1 then _ else M) = _
  have h1 : M a b = -1 := by unfold emp at h; simpa using h
  rw [if_pos (by simpa using h1)]
  rfl
theorem adjY_nil (cs : List Int) (M : Mx) : adjY cs [] M = M := rfl
theorem adjY_neg {cs l : List Int} {M : Mx} : adjY cs (-1 :: l) M = adjY cs l M := by
  show adjY cs l (if 0 ≤ (-1 : Int) then _ else M) = _
  rw [if_neg (by omega)]
theorem adjY_pos {cs l : List Int} {b : Nat} {M : Mx} : adjY cs ((b : Int) :: l) M = adjY cs l (adjX b cs M) := by
  show adjY cs l (if 0 ≤ (b : Int) then _ else M) = _
  rw [if_pos (by omega)]

/-- What the cells must be that the writer asks. -/
def empF (v x y : Nat) : Bool := !inL x y (cornerR (side v)) && !inR x y 8 (side v - 8) 1 1
theorem adjust_low (v c : Nat) (M : Mx) (hm : mids v = [6, (c : Int), -1, -1, -1, -1, -1]) (h2 : ¬ v < 2) (h1 : emp M 6 6 = false) (h3 : emp M c 6 = false) (h4 : emp M 6 c = false) (h5 : emp M c c = true) :
    adjust v M = put M (c, c) := by
  unfold adjust
  rw [if_neg h2, hm, show (6 : Int) = ((6 : Nat) : Int) from rfl]
  rw [adjY_pos, adjX_full h1, adjX_full h3, adjX_neg, adjX_neg, adjX_neg, adjX_neg, adjX_neg, adjX_nil]
  rw [adjY_pos, adjX_full h4, adjX_put h5, adjX_neg, adjX_neg, adjX_neg, adjX_neg, adjX_neg, adjX_nil]
  rw [adjY_neg, adjY_neg, adjY_neg, adjY_neg, adjY_neg, adjY_nil]
theorem adjust_seven (M : Mx) (h : ∀ x y, emp M x y = empF 7 x y) : adjust 7 M = (spots 7).foldl put M := by
  have f : ∀ (l : List (Nat × Nat)) (a b : Nat) (r : Bool), (empF 7 a b && !inL a b (l.map fun c => (c.1 - 2, c.2 - 2, 5, 5))) = r → emp (l.foldl put M) a b = r := fun l a b r e => by rw [emp_puts, h, e]
  unfold adjust
  rw [if_neg (by decide), show mids 7 = [((6 : Nat) : Int), ((22 : Nat) : Int), ((38 : Nat) : Int), -1, -1, -1, -1] from rfl]
  rw [adjY_pos, adjX_full (show emp M 6 6 = false from f [] 6 6 false (by decide)), adjX_put (show emp M 22 6 = true from f [] 22 6 true (by decide)), adjX_full (show emp (put M (22, 6)) 38 6 = false from f [(22, 6)] 38 6 false (by decide)), adjX_neg, adjX_neg, adjX_neg, adjX_neg, adjX_nil]
  rw [adjY_pos, adjX_put (show emp (put M (22, 6)) 6 22 = true from f [(22, 6)] 6 22 true (by decide)), adjX_put (show emp (put (put M (22, 6)) (6, 22)) 22 22 = true from f [(22, 6), (6, 22)] 22 22 true (by decide)), adjX_put (show emp (put (put (put M (22, 6)) (6, 22)) (22, 22)) 38 22 = true from f [(22, 6), (6, 22), (22, 22)] 38 22 true (by decide)), adjX_neg, adjX_neg, adjX_neg, adjX_neg, adjX_nil]
  rw [adjY_pos, adjX_full (show emp (put (put (put (put M (22, 6)) (6, 22)) (22, 22)) (38, 22)) 6 38 = false from f [(22, 6), (6, 22), (22, 22), (38, 22)] 6 38 false (by decide)), adjX_put (show emp (put (put (put (put M (22, 6)) (6, 22)) (22, 22)) (38, 22)) 22 38 = true from f [(22, 6), (6, 22), (22, 22), (38, 22)] 22 38 true (by decide)),
    adjX_put (show emp (put (put (put (put (put M (22, 6)) (6, 22)) (22, 22)) (38, 22)) (22, 38)) 38 38 = true from f [(22, 6), (6, 22), (22, 22), (38, 22), (22, 38)] 38 38 true (by decide)), adjX_neg, adjX_neg, adjX_neg, adjX_neg, adjX_nil]
  rw [adjY_neg, adjY_neg, adjY_neg, adjY_neg, adjY_nil]
  rfl
theorem adjust_eq (v : Nat) (h1 : 1 ≤ v) (h7 : v ≤ 7) (M : Mx) (h : ∀ x y, emp M x y = empF v x y) : adjust v M = (spots v).foldl put M := by
  obtain rfl | rfl | rfl | rfl | rfl | rfl | rfl : v = 1 ∨ v = 2 ∨ v = 3 ∨ v = 4 ∨ v = 5 ∨ v = 6 ∨ v = 7 := by omega
  · rfl
  · exact adjust_low 2 18 M rfl (by omega) (by rw [h]; decide) (by rw [h]; decide) (by rw [h]; decide) (by rw [h]; decide)
  · exact adjust_low 3 22 M rfl (by omega) (by rw [h]; decide) (by rw [h]; decide) (by rw [h]; decide) (by rw [h]; decide)
  · exact adjust_low 4 26 M rfl (by omega) (by rw [h]; decide) (by rw [h]; decide) (by rw [h]; decide) (by rw [h]; decide)
  · exact adjust_low 5 30 M rfl (by omega) (by rw [h]; decide) (by rw [h]; decide) (by rw [h]; decide) (by rw [h]; decide)
  · exact adjust_low 6 34 M rfl (by omega) (by rw [h]; decide) (by rw [h]; decide) (by rw [h]; decide) (by rw [h]; decide)
  · exact adjust_seven M h

/-- The places of the format. -/
def tspots (n : Nat) : List (Nat × Nat) := (List.range 15).flatMap fun i => [tcoord.getD i (0, 0), if i < 8 then (n - i - 1, 8) else (8, n - 7 + (i - 8))]
def inP (x y : Nat) (l : List (Nat × Nat)) : Bool := l.any fun c => inR x y c.1 c.2 1 1
theorem emp_tstep {M : Mx} {n i : Nat} {bit : Bool} (x y : Nat) : emp (tstep n M i bit) x y = (emp M x y && !inP x y [tcoord.getD i (0, 0), if i < 8 then (n - i - 1, 8) else (8, n - 7 + (i - 8))]) := by
  unfold tstep
  simp only [inP, List.any_cons, List.any_nil, Bool.or_false, Bool.not_or]
  by_cases h : i < 8
  · rw [if_pos h, emp_setM (b01_ne _), emp_setM (b01_ne _), Bool.and_assoc]; rw [if_pos h]
  · rw [if_neg h, emp_setM (b01_ne _), emp_setM (b01_ne _), Bool.and_assoc]; rw [if_neg h]
theorem inP_append (x y : Nat) (l m : List (Nat × Nat)) : inP x y (l ++ m) = (inP x y l || inP x y m) := by simp [inP]
theorem emp_tinfo {n : Nat} {bits : List Bool} : ∀ (k i : Nat) (M : Mx) (x y : Nat), emp (tinfo n bits k i M) x y =
    (emp M x y && !inP x y ((List.range' i k).flatMap fun i => [tcoord.getD i (0, 0), if i < 8 then (n - i - 1, 8) else (8, n - 7 + (i - 8))]))
  | 0, i, M, x, y => by simp [tinfo, inP]
  | k + 1, i, M, x, y => by
    show emp (tinfo n bits k (i + 1) (tstep n M i _)) x y = _
    rw [emp_tinfo k (i + 1), emp_tstep, List.range'_succ, List.flatMap_cons, inP_append, Bool.not_or, Bool.and_assoc]
def vspots (n : Nat) : List (Nat × Nat) := (List.range 18).flatMap fun q => [(q / 3, n - 11 + q % 3), (n - 11 + q % 3, q / 3)]
theorem emp_vinfo {n : Nat} {bits : List Bool} : ∀ (k q : Nat) (M : Mx) (x y : Nat), emp (vinfo n bits k q M) x y =
    (emp M x y && !inP x y ((List.range' q k).flatMap fun q => [(q / 3, n - 11 + q % 3), (n - 11 + q % 3, q / 3)]))
  | 0, q, M, x, y => by simp [vinfo, inP]
  | k + 1, q, M, x, y => by
    show emp (vinfo n bits k (q + 1) (vstep n M (q / 3) (q % 3) _)) x y = _
    rw [emp_vinfo k (q + 1)]
    unfold vstep
    rw [emp_setM (b01_ne _), emp_setM (b01_ne _), List.range'_succ, List.flatMap_cons, inP_append, Bool.not_or]
    simp only [inP, List.any_cons, List.any_nil, Bool.or_false, Bool.not_or, Bool.and_assoc]

def nil1 : Mx := fun _ _ => -1
/-- All patterns, the format's bits and (from version 7 on) the version's. -/
def base (v : Nat) (tb vb : List Bool) : Mx :=
  let n := side v
  let M := tinfo n tb 15 0 (timF (n - 8) (adjust v (dot n (corners n nil1))))
  if v < 7 then M else vinfo n vb 18 0 M
/-- The cells that are left, by regions. -/
def left (v x y : Nat) : Bool :=
  let n := side v
  !inL x y (cornerR n) && !inR x y 8 (n - 8) 1 1 && !inL x y ((spots v).map fun c => (c.1 - 2, c.2 - 2, 5, 5)) && !inR x y 8 6 (n - 8 - 8) 1 && !inR x y 6 8 1 (n - 8 - 8) && !inP x y (tspots n) && (decide (v < 7) || !inP x y (vspots n))
theorem emp_base (v : Nat) (h1 : 1 ≤ v) (h7 : v ≤ 7) (tb vb : List Bool) (x y : Nat) : emp (base v tb vb) x y = left v x y := by
  have e0 : ∀ x y, emp (dot (side v) (corners (side v) nil1)) x y = empF v x y := fun x y => by
    rw [emp_dot, emp_corners]; simp [empF, emp, nil1]
  have hn : 8 ≤ side v - 8 := by unfold side; omega
  have eM : ∀ x y, emp (tinfo (side v) tb 15 0 (timF (side v - 8) (adjust v (dot (side v) (corners (side v) nil1))))) x y =
      (!inL x y (cornerR (side v)) && !inR x y 8 (side v - 8) 1 1 && !inL x y ((spots v).map fun c => (c.1 - 2, c.2 - 2, 5, 5)) && !inR x y 8 6 (side v - 8 - 8) 1 && !inR x y 6 8 1 (side v - 8 - 8) && !inP x y (tspots (side v))) := fun x y => by
    rw [emp_tinfo, emp_tim hn, adjust_eq v h1 h7 _ e0, emp_puts, e0]
    rfl
  unfold base left
  simp only
  by_cases h : v < 7
  · rw [if_pos h, eM]; simp [h]
  · rw [if_neg h, emp_vinfo, eM]
    have : decide (v < 7) = false := by simpa using h
    rw [this, Bool.false_or]; rfl

end QR
