/-
  Parts of the proof (Bits, GF, Tab, GyP, Rd, Hist).
-/
set_option linter.unusedSimpArgs false
set_option linter.unusedVariables false

namespace QR

/-- The n lowest bits of v, the highest of them first. -/
def bitsOf : Nat → Nat → List Bool
  | 0, _ => []
  | n + 1, v => v.testBit n :: bitsOf n v
def numOfF : Nat → List Bool → Nat
  | r, [] => r
  | r, b :: l => numOfF (2 * r + b.toNat) l
/-- The number that bits are. -/
def numOf (l : List Bool) : Nat := numOfF 0 l
def bytesBits : List Nat → List Bool
  | [] => []
  | d :: l => bitsOf 8 d ++ bytesBits l

theorem bitsOf_length : ∀ n v, (bitsOf n v).length = n
  | 0, _ => rfl
  | n + 1, v => by simp [bitsOf, bitsOf_length n v]
theorem bytesBits_length : ∀ l, (bytesBits l).length = 8 * l.length
  | [] => rfl
  | d :: l => by simp [bytesBits, bitsOf_length, bytesBits_length l]; omega
theorem numOfF_eq : ∀ (l : List Bool) (r : Nat), numOfF r l = r * 2 ^ l.length + numOf l
  | [], r => by simp [numOfF, numOf]
  | b :: l, r => by
    simp only [numOfF, numOf, List.length_cons]
    rw [numOfF_eq l (2 * r + b.toNat), numOfF_eq l (2 * 0 + b.toNat), Nat.add_mul, Nat.pow_succ]
    have : 2 * r * 2 ^ l.length = r * (2 ^ l.length * 2) := by rw [Nat.mul_comm 2 r, Nat.mul_assoc, Nat.mul_comm 2]
    rw [this, Nat.mul_zero, Nat.zero_add]
    omega
theorem numOf_cons (b : Bool) (l : List Bool) : numOf (b :: l) = b.toNat * 2 ^ l.length + numOf l := by
  show numOfF (2 * 0 + b.toNat) l = _
  rw [numOfF_eq]; simp
theorem numOf_append (l m : List Bool) : numOf (l ++ m) = numOf l * 2 ^ m.length + numOf m := by
  induction l with
  | nil => simp [numOf, numOfF]
  | cons b l ih =>
    rw [List.cons_append, numOf_cons, ih, numOf_cons, List.length_append, Nat.pow_add, Nat.add_mul, Nat.mul_assoc]
    omega
theorem numOf_lt : ∀ l : List Bool, numOf l < 2 ^ l.length
  | [] => by simp [numOf, numOfF]
  | b :: l => by
    rw [numOf_cons, List.length_cons, Nat.pow_succ]
    have := numOf_lt l
    cases b <;> simp <;> omega
theorem numOf_bitsOf : ∀ (n v : Nat), numOf (bitsOf n v) = v % 2 ^ n
  | 0, v => by simp [bitsOf, numOf, numOfF, Nat.mod_one]
  | n + 1, v => by
    rw [bitsOf, numOf_cons, bitsOf_length, numOf_bitsOf n v, Nat.mod_pow_succ, Nat.testBit_eq_decide_div_mod_eq]
    have h := Nat.mod_two_eq_zero_or_one (v / 2 ^ n)
    rcases h with h | h <;> simp [h] <;> omega

/-! Segments: digits, letters (numbers below 45), bytes. -/
def encNum : List Nat → List Bool
  | a :: b :: c :: l => bitsOf 10 (a * 100 + b * 10 + c) ++ encNum l
  | [a, b] => bitsOf 7 (a * 10 + b)
  | [a] => bitsOf 4 a
  | [] => []
def encAlpha : List Nat → List Bool
  | a :: b :: l => bitsOf 11 (a * 45 + b) ++ encAlpha l
  | [a] => bitsOf 6 a
  | [] => []

/-- What stands behind n bits. -/
def take? (n : Nat) (l : List Bool) : Option (Nat × List Bool) := if n ≤ l.length then some (numOf (l.take n), l.drop n) else none
theorem take?_bits {n v : Nat} (h : v < 2 ^ n) (l : List Bool) : take? n (bitsOf n v ++ l) = some (v, l) := by
  unfold take?
  have hl := bitsOf_length n v
  rw [if_pos (by simp [hl])]
  have e1 : (bitsOf n v ++ l).take n = bitsOf n v := by rw [List.take_append_of_le_length (by omega), List.take_of_length_le (by omega)]
  have e2 : (bitsOf n v ++ l).drop n = l := by rw [List.drop_append_of_le_length (by omega), List.drop_of_length_le (by omega)]; rfl
  rw [e1, e2, numOf_bitsOf, Nat.mod_eq_of_lt h]

/-- The reader of digits: so many of them. -/
def decNum : Nat → List Bool → Option (List Nat × List Bool)
  | 0, l => some ([], l)
  | 1, l => (take? 4 l).bind fun (x, l) => if 10 ≤ x then none else some ([x], l)
  | 2, l => (take? 7 l).bind fun (x, l) => if 100 ≤ x then none else some ([x / 10, x % 10], l)
  | n + 3, l => (take? 10 l).bind fun (x, l) => if 1000 ≤ x then none else (decNum n l).map fun (r, l) => (x / 100 :: x / 10 % 10 :: x % 10 :: r, l)
def decAlpha : Nat → List Bool → Option (List Nat × List Bool)
  | 0, l => some ([], l)
  | 1, l => (take? 6 l).bind fun (x, l) => if 45 ≤ x then none else some ([x], l)
  | n + 2, l => (take? 11 l).bind fun (x, l) => if 45 ≤ x / 45 then none else (decAlpha n l).map fun (r, l) => (x / 45 :: x % 45 :: r, l)

theorem decNum_enc : ∀ (ds : List Nat) (rest : List Bool), (∀ d ∈ ds, d < 10) → decNum ds.length (encNum ds ++ rest) = some (ds, rest)
  | a :: b :: c :: l, rest, h => by
    have ha := h a (by simp); have hb := h b (by simp); have hc := h c (by simp)
    have ih := decNum_enc l rest (fun d hd => h d (by simp [hd]))
    simp only [encNum, List.length_cons, decNum, List.append_assoc]
    rw [take?_bits (by omega)]
    simp only [Option.bind_some]
    rw [if_neg (by omega), ih]
    simp only [Option.map_some, Option.some.injEq, Prod.mk.injEq, List.cons.injEq, and_true]
    omega
  | [a, b], rest, h => by
    have ha := h a (by simp); have hb := h b (by simp)
    simp only [encNum, List.length_cons, List.length_nil, decNum]
    rw [take?_bits (by omega)]
    simp only [Option.bind_some]
    rw [if_neg (by omega)]
    simp only [Option.some.injEq, Prod.mk.injEq, List.cons.injEq, and_true]
    omega
  | [a], rest, h => by
    have ha := h a (by simp)
    simp only [encNum, List.length_cons, List.length_nil, decNum]
    rw [take?_bits (by omega)]
    simp only [Option.bind_some]
    rw [if_neg (by omega)]
  | [], rest, _ => by simp [encNum, decNum]
theorem decAlpha_enc : ∀ (ds : List Nat) (rest : List Bool), (∀ d ∈ ds, d < 45) → decAlpha ds.length (encAlpha ds ++ rest) = some (ds, rest)
  | a :: b :: l, rest, h => by
    have ha := h a (by simp); have hb := h b (by simp)
    have ih := decAlpha_enc l rest (fun d hd => h d (by simp [hd]))
    simp only [encAlpha, List.length_cons, decAlpha, List.append_assoc]
    rw [take?_bits (by omega)]
    simp only [Option.bind_some]
    rw [if_neg (by omega), ih]
    simp only [Option.map_some, Option.some.injEq, Prod.mk.injEq, List.cons.injEq, and_true]
    omega
  | [a], rest, h => by
    have ha := h a (by simp)
    simp only [encAlpha, List.length_cons, List.length_nil, decAlpha]
    rw [take?_bits (by omega)]
    simp only [Option.bind_some]
    rw [if_neg (by omega)]
  | [], rest, _ => by simp [encAlpha, decAlpha]

end QR

namespace QR

/-- Twice an element. -/
def dbl (x : Nat) : Nat := if 256 ≤ x * 2 then (x * 2 ^^^ 285) &&& 255 else x * 2

def dblN : Nat → Nat → Nat
  | 0, x => x
  | k + 1, x => dbl (dblN k x)

/-- The powers of 2, 256 of them (the last one is 1 again), and the logarithms. -/
def expL : Nat → Nat → List Nat
  | 0, _ => []
  | k + 1, x => x :: expL k (dbl x)
def expT : List Nat := expL 256 1
def logT : List Nat := (List.range 256).map fun a => if a = 0 then 0 else (expT.take 255).idxOf a

def gmul (a b : Nat) : Nat := if a = 0 ∨ b = 0 then 0 else expT.getD ((logT.getD a 0 + logT.getD b 0) % 255) 0

def chk1 : Bool := (List.range 256).all fun a => (List.range 256).all fun b => dbl (a ^^^ b) == (dbl a ^^^ dbl b)
theorem chk1_ok : chk1 = true := by decide +kernel
def chk2 : Bool := (List.range 256).all fun a => decide (dbl a < 256)
theorem chk2_ok : chk2 = true := by decide +kernel
def chk3 : Bool := (List.range 256).all fun a => dblN 255 a == a
theorem chk3_ok : chk3 = true := by decide +kernel
/-- An element other than 0 is the power that its logarithm tells. -/
def chk4 : Bool := (List.range 256).all fun a => a == 0 || (dblN (logT.getD a 0) 1 == a && decide (logT.getD a 0 < 255))
theorem chk4_ok : chk4 = true := by decide +kernel
def chk5 : Bool := (List.range 255).all fun k => expT.getD k 0 == dblN k 1
theorem chk5_ok : chk5 = true := by decide +kernel

theorem all_range {n : Nat} {p : Nat → Bool} (h : (List.range n).all p = true) {a : Nat} (ha : a < n) : p a = true :=
  List.all_eq_true.1 h a (List.mem_range.2 ha)

theorem dbl_xor {a b : Nat} (ha : a < 256) (hb : b < 256) : dbl (a ^^^ b) = dbl a ^^^ dbl b := by
  have := all_range (all_range chk1_ok ha) hb
  simpa using this
theorem dbl_lt {a : Nat} (ha : a < 256) : dbl a < 256 := by simpa using all_range chk2_ok ha
theorem dblN_lt : ∀ (k : Nat) {a : Nat}, a < 256 → dblN k a < 256
  | 0, _, h => h
  | k + 1, _, h => dbl_lt (dblN_lt k h)
theorem dblN_xor : ∀ (k : Nat) {a b : Nat}, a < 256 → b < 256 → dblN k (a ^^^ b) = dblN k a ^^^ dblN k b
  | 0, _, _, _, _ => rfl
  | k + 1, a, b, ha, hb => by simp only [dblN]; rw [dblN_xor k ha hb, dbl_xor (dblN_lt k ha) (dblN_lt k hb)]
theorem dblN_add : ∀ (j k : Nat) (a : Nat), dblN (j + k) a = dblN j (dblN k a)
  | 0, k, a => by simp [dblN]
  | j + 1, k, a => by rw [Nat.add_right_comm]; simp only [dblN]; rw [dblN_add j k a]
theorem dblN_255 {a : Nat} (ha : a < 256) : dblN 255 a = a := by simpa using all_range chk3_ok ha
theorem dblN_mod : ∀ (k : Nat) {a : Nat}, a < 256 → dblN (k % 255) a = dblN k a := by
  intro k
  induction k using Nat.strongRecOn with
  | _ k ih =>
    intro a ha
    by_cases h : k < 255
    · rw [Nat.mod_eq_of_lt h]
    · have e : k = 255 + (k - 255) := by omega
      rw [e, dblN_add, Nat.add_mod_left, ih (k - 255) (by omega) ha, dblN_255 (dblN_lt _ ha)]
theorem dblN_zero : ∀ k, dblN k 0 = 0
  | 0 => rfl
  | k + 1 => by simp only [dblN]; rw [dblN_zero k]; rfl
theorem log_spec {a : Nat} (ha : a < 256) (h0 : a ≠ 0) : dblN (logT.getD a 0) 1 = a ∧ logT.getD a 0 < 255 := by
  have := all_range chk4_ok ha
  simpa [h0] using this
theorem exp_spec {k : Nat} (h : k < 255) : expT.getD k 0 = dblN k 1 := by simpa using all_range chk5_ok h

/-- A product with an element other than 0: as often twice as its logarithm tells. -/
theorem gmul_dbl {a b : Nat} (ha : a < 256) (hb : b < 256) (h0 : a ≠ 0) : gmul a b = dblN (logT.getD a 0) b := by
  unfold gmul
  by_cases hb0 : b = 0
  · subst hb0; rw [if_pos (Or.inr rfl), dblN_zero]
  · rw [if_neg (by simp [h0, hb0]), exp_spec (Nat.mod_lt _ (by omega)), dblN_mod _ (by omega), dblN_add, (log_spec hb hb0).1]
theorem gmul_zero (a : Nat) : gmul a 0 = 0 := by simp [gmul]
theorem zero_gmul (a : Nat) : gmul 0 a = 0 := by simp [gmul]
theorem gmul_comm (a b : Nat) : gmul a b = gmul b a := by simp [gmul, Nat.add_comm, or_comm]
theorem gmul_lt {a b : Nat} (ha : a < 256) (hb : b < 256) : gmul a b < 256 := by
  by_cases h0 : a = 0
  · subst h0; rw [zero_gmul]; omega
  · rw [gmul_dbl ha hb h0]; exact dblN_lt _ hb
theorem xor_lt {a b : Nat} (ha : a < 256) (hb : b < 256) : a ^^^ b < 256 := Nat.xor_lt_two_pow (n := 8) ha hb
theorem gmul_xor {a b c : Nat} (ha : a < 256) (hb : b < 256) (hc : c < 256) : gmul a (b ^^^ c) = gmul a b ^^^ gmul a c := by
  by_cases h0 : a = 0
  · subst h0; simp [zero_gmul]
  · rw [gmul_dbl ha (xor_lt hb hc) h0, gmul_dbl ha hb h0, gmul_dbl ha hc h0, dblN_xor _ hb hc]
theorem gmul_assoc {a b c : Nat} (ha : a < 256) (hb : b < 256) (hc : c < 256) : gmul a (gmul b c) = gmul (gmul a b) c := by
  by_cases h0 : a = 0
  · subst h0; simp [zero_gmul]
  by_cases h1 : b = 0
  · subst h1; simp [zero_gmul, gmul_zero]
  by_cases h2 : c = 0
  · subst h2; simp [gmul_zero]
  rw [gmul_dbl hb hc h1, gmul_dbl ha (dblN_lt _ hc) h0, gmul_comm (gmul a b) c, gmul_dbl hc (gmul_lt ha hb) h2, gmul_dbl ha hb h0]
  rw [← (log_spec hb h1).1, ← (log_spec hc h2).1]
  simp only [← dblN_add]
  rw [(log_spec hb h1).1, (log_spec hc h2).1]
  congr 1
  omega
theorem gmul_one {a : Nat} (ha : a < 256) : gmul 1 a = a := by
  rw [gmul_dbl (by omega) ha (by omega)]
  have : logT.getD 1 0 = 0 := by decide +kernel
  rw [this]; rfl

/-! Polynomials: the highest coefficient first. -/

def evalF (x r : Nat) : List Nat → Nat
  | [] => r
  | c :: l => evalF x (gmul x r ^^^ c) l
/-- The value of a polynomial at x. -/
def eval (x : Nat) (p : List Nat) : Nat := evalF x 0 p
def Bytes (p : List Nat) : Prop := ∀ c ∈ p, c < 256
theorem Bytes.tail {c : Nat} {p : List Nat} (h : Bytes (c :: p)) : Bytes p := fun x hx => h x (List.mem_cons_of_mem _ hx)
theorem Bytes.head {c : Nat} {p : List Nat} (h : Bytes (c :: p)) : c < 256 := h c (List.mem_cons_self ..)

/-- x to the power n, times r. -/
def powM (x : Nat) : Nat → Nat → Nat
  | 0, r => r
  | n + 1, r => powM x n (gmul x r)
theorem powM_lt {x : Nat} (hx : x < 256) : ∀ (n : Nat) {r : Nat}, r < 256 → powM x n r < 256
  | 0, _, h => h
  | n + 1, _, h => powM_lt hx n (gmul_lt hx h)
theorem powM_xor {x : Nat} (hx : x < 256) : ∀ (n : Nat) {r s : Nat}, r < 256 → s < 256 → powM x n (r ^^^ s) = powM x n r ^^^ powM x n s
  | 0, _, _, _, _ => rfl
  | n + 1, r, s, hr, hs => by simp only [powM]; rw [gmul_xor hx hr hs, powM_xor hx n (gmul_lt hx hr) (gmul_lt hx hs)]
theorem powM_zero (x : Nat) : ∀ n, powM x n 0 = 0
  | 0 => rfl
  | n + 1 => by simp only [powM]; rw [gmul_zero, powM_zero x n]
theorem powM_gmul {x s : Nat} (hx : x < 256) (hs : s < 256) : ∀ (n : Nat) {r : Nat}, r < 256 → powM x n (gmul s r) = gmul s (powM x n r)
  | 0, _, _ => rfl
  | n + 1, r, hr => by
    simp only [powM]
    rw [← powM_gmul hx hs n (gmul_lt hx hr), gmul_assoc hx hs hr, gmul_comm x s, ← gmul_assoc hs hx hr]
theorem powM_add (x : Nat) : ∀ (m n r : Nat), powM x (m + n) r = powM x n (powM x m r)
  | 0, n, r => by simp [powM]
  | m + 1, n, r => by rw [Nat.add_right_comm]; simp only [powM]; rw [powM_add x m n]

theorem evalF_split {x : Nat} (hx : x < 256) : ∀ (p : List Nat) {r : Nat}, r < 256 → Bytes p → evalF x r p = powM x p.length r ^^^ eval x p
  | [], r, _, _ => by simp [evalF, eval, powM]
  | c :: p, r, hr, hp => by
    have hg := gmul_lt hx hr
    have hc := hp.head
    simp only [evalF, eval, List.length_cons, powM, gmul_zero, Nat.zero_xor]
    rw [evalF_split hx p (xor_lt hg hc) hp.tail, evalF_split hx p hc hp.tail, powM_xor hx _ hg hc, Nat.xor_assoc]
theorem eval_lt {x : Nat} (hx : x < 256) : ∀ (p : List Nat) (r : Nat), r < 256 → Bytes p → evalF x r p < 256
  | [], r, hr, _ => hr
  | c :: p, r, hr, hp => eval_lt hx p _ (xor_lt (gmul_lt hx hr) hp.head) hp.tail
theorem eval_append {x : Nat} (hx : x < 256) (p q : List Nat) (hp : Bytes p) (hq : Bytes q) :
    eval x (p ++ q) = powM x q.length (eval x p) ^^^ eval x q := by
  have : ∀ (p : List Nat) (r : Nat), evalF x r (p ++ q) = evalF x (evalF x r p) q := by
    intro p; induction p with
    | nil => intro r; rfl
    | cons c p ih => intro r; simp only [List.cons_append, evalF, ih]
  unfold eval
  rw [this, evalF_split hx q (eval_lt hx p 0 (by omega) hp) hq]
  rfl
theorem eval_zeros {x : Nat} : ∀ n, eval x (List.replicate n 0) = 0
  | 0 => rfl
  | n + 1 => by
    have := eval_zeros (x := x) n
    simp only [List.replicate_succ, eval, evalF, gmul_zero, Nat.zero_xor] at this ⊢
    exact this
/-- Zeros ahead count for nothing. -/
theorem eval_zero_cons {x : Nat} (p : List Nat) : eval x (0 :: p) = eval x p := by simp [eval, evalF, gmul_zero]
/-- The sum, place by place, of two polynomials with as many coefficients. -/
theorem eval_zip {x : Nat} (hx : x < 256) : ∀ (p q : List Nat) (r s : Nat), p.length = q.length → Bytes p → Bytes q → r < 256 → s < 256 →
    evalF x (r ^^^ s) (List.zipWith (· ^^^ ·) p q) = evalF x r p ^^^ evalF x s q
  | [], [], r, s, _, _, _, _, _ => rfl
  | a :: p, b :: q, r, s, h, hp, hq, hr, hs => by
    simp only [List.zipWith_cons_cons, evalF]
    rw [gmul_xor hx hr hs, ← eval_zip hx p q _ _ (by simpa using h) hp.tail hq.tail (xor_lt (gmul_lt hx hr) hp.head) (xor_lt (gmul_lt hx hs) hq.head)]
    congr 1
    rw [Nat.xor_assoc, Nat.xor_assoc]
    congr 1
    rw [← Nat.xor_assoc, ← Nat.xor_assoc, Nat.xor_comm a]
  | [], _ :: _, _, _, h, _, _, _, _ => by simp at h
  | _ :: _, [], _, _, h, _, _, _, _ => by simp at h
/-- A polynomial times an element. -/
theorem eval_scale {x s : Nat} (hx : x < 256) (hs : s < 256) : ∀ (p : List Nat) (r : Nat), Bytes p → r < 256 → evalF x (gmul s r) (p.map (gmul s ·)) = gmul s (evalF x r p)
  | [], r, _, _ => rfl
  | c :: p, r, hp, hr => by
    simp only [List.map_cons, evalF]
    rw [← eval_scale hx hs p _ hp.tail (xor_lt (gmul_lt hx hr) hp.head)]
    congr 1
    rw [gmul_xor hs (gmul_lt hx hr) hp.head, gmul_assoc hx hs hr, gmul_comm x s, ← gmul_assoc hs hx hr]

end QR

namespace QR

def acodeT : List Int :=
  [-1, -1, -1, -1, -1, -1, -1, -1, -1, -1, -1, -1, -1, -1, -1, -1, -1, -1, -1, -1, -1, -1, -1, -1, -1, -1, -1, -1, -1, -1, -1, -1,
   36, -1, -1, -1, 37, 38, -1, -1, -1, -1, 39, 40, -1, 41, 42, 43, 0, 1, 2, 3, 4, 5, 6, 7, 8, 9, 44, -1, -1, -1, -1, -1,
   -1, 10, 11, 12, 13, 14, 15, 16, 17, 18, 19, 20, 21, 22, 23, 24, 25, 26, 27, 28, 29, 30, 31, 32, 33, 34, 35, -1, -1, -1, -1, -1]
def acode (c : Nat) : Int := acodeT.getD c (-1)
/-- The letters by their numbers. -/
def achars : List Nat := [48, 49, 50, 51, 52, 53, 54, 55, 56, 57, 65, 66, 67, 68, 69, 70, 71, 72, 73, 74, 75, 76, 77, 78, 79, 80, 81, 82, 83, 84, 85, 86, 87, 88, 89, 90, 32, 36, 37, 42, 43, 45, 46, 47, 58]
def chkA : Bool := (List.range 96).all fun c => decide (acode c = -1) || (decide (0 ≤ acode c) && decide (acode c < 45) && achars.getD (acode c).toNat 0 == c)
theorem chkA_ok : chkA = true := by decide +kernel
theorem acode_spec (c : Nat) : acode c = -1 ∨ (0 ≤ acode c ∧ acode c < 45 ∧ achars.getD (acode c).toNat 0 = c) := by
  by_cases h : c < 96
  · have := List.all_eq_true.1 chkA_ok c (List.mem_range.2 h)
    simp only [Bool.or_eq_true, Bool.and_eq_true, decide_eq_true_eq, beq_iff_eq] at this
    rcases this with h | h
    · exact Or.inl h
    · exact Or.inr ⟨h.1.1, h.1.2, h.2⟩
  · refine Or.inl ?_
    unfold acode
    simp only [List.getD]
    rw [List.getElem?_eq_none (by show 96 ≤ c; omega)]; rfl
theorem acode_ge (c : Nat) : -1 ≤ acode c ∧ acode c < 45 := by
  rcases acode_spec c with h | h <;> omega

def isDigit (c : Nat) : Bool := decide (48 ≤ c) && decide (c ≤ 57)
def isLetter (c : Nat) : Bool := decide (acode c ≠ -1)
/-- The mode of a text (of at least one byte). -/
def modeOf (cs : List Nat) : Nat := if cs.all isDigit then 1 else if cs.all (fun c => isDigit c || isLetter c) then 2 else 4
theorem digit_code (c : Nat) (h : isDigit c = true) : acode c = (c : Int) - 48 := by
  have h1 : 48 ≤ c ∧ c ≤ 57 := by simpa [isDigit] using h
  obtain ⟨h1, h2⟩ := h1
  have : ∀ k, k < 10 → acode (48 + k) = (k : Int) := by decide
  have := this (c - 48) (by omega)
  rw [show 48 + (c - 48) = c by omega] at this
  omega

/-- The data of a text in a mode, as bits. -/
def encOf (m : Nat) (cs : List Nat) : List Bool :=
  if m = 1 then encNum (cs.map (· - 48)) else if m = 2 then encAlpha (cs.map fun c => (acode c).toNat) else bytesBits cs

theorem encNum_length : ∀ (l : List Nat), (encNum l).length = 10 * (l.length / 3) + (if l.length % 3 = 0 then 0 else if l.length % 3 = 1 then 4 else 7)
  | [] => rfl
  | [a] => by simp [encNum, bitsOf_length]
  | [a, b] => by simp [encNum, bitsOf_length]
  | a :: b :: c :: l => by
    simp only [encNum, List.length_append, bitsOf_length, List.length_cons, encNum_length l]
    have e1 : (l.length + 1 + 1 + 1) / 3 = l.length / 3 + 1 := by omega
    have e2 : (l.length + 1 + 1 + 1) % 3 = l.length % 3 := by omega
    simp only [e1, e2]; omega
theorem encAlpha_length : ∀ (l : List Nat), (encAlpha l).length = 11 * (l.length / 2) + (if l.length % 2 = 0 then 0 else 6)
  | [] => rfl
  | [a] => by simp [encAlpha, bitsOf_length]
  | a :: b :: l => by
    simp only [encAlpha, List.length_append, bitsOf_length, List.length_cons, encAlpha_length l]
    have e1 : (l.length + 1 + 1) / 2 = l.length / 2 + 1 := by omega
    have e2 : (l.length + 1 + 1) % 2 = l.length % 2 := by omega
    simp only [e1, e2]; omega
theorem encOf_length (m : Nat) (cs : List Nat) (h : cs.length ≤ 60) : (encOf m cs).length ≤ 480 := by
  unfold encOf
  split
  · rw [encNum_length, List.length_map]; split
    · omega
    · split <;> omega
  · split
    · rw [encAlpha_length, List.length_map]; split <;> omega
    · rw [bytesBits_length]; omega

/-- The bits of a text: the mode, the length, the data. -/
def lenBits : Nat → Nat
  | 1 => 10
  | 2 => 9
  | _ => 8
def segBits (m : Nat) (cs : List Nat) : List Bool := bitsOf 4 m ++ bitsOf (lenBits m) cs.length ++ encOf m cs

end QR

namespace QR

/-- The gray at a place of the list of all. -/
def grayF (P : Nat → Nat → Bool) (W D L : Nat) (i : Nat) : Nat := if P (i % W) (i / W) then D else L
theorem grayF_at {P : Nat → Nat → Bool} {W D L x y : Nat} (hx : x < W) : grayF P W D L (y * W + x) = if P x y then D else L := by
  unfold grayF
  have h1 : (y * W + x) % W = x := by rw [Nat.add_comm, Nat.add_mul_mod_self_right, Nat.mod_eq_of_lt hx]
  have h2 : (y * W + x) / W = y := by rw [Nat.add_comm, Nat.add_mul_div_right _ _ (by omega), Nat.div_eq_of_lt hx, Nat.zero_add]
  rw [h1, h2]
theorem grayF_or (P : Nat → Nat → Bool) (W D L i : Nat) : grayF P W D L i = D ∨ grayF P W D L i = L := by
  unfold grayF; split
  · exact Or.inl rfl
  · exact Or.inr rfl

/-- A histogram of two grays: at most so many in all its buckets. -/
structure Buck (B : Nat → Nat) (D L n : Nat) (some1 : Bool) : Prop where
  off : ∀ x, x ≠ D / 8 → x ≠ L / 8 → B x = 0
  most : ∀ x, B x ≤ n
  has : some1 = true → 0 < B (L / 8)
theorem Buck.zero (D L : Nat) : Buck (fun _ => 0) D L 0 false := ⟨fun _ _ _ => rfl, fun _ => Nat.le_refl _, fun h => by cases h⟩
/-- One more pixel. -/
def bump (B : Nat → Nat) (k : Nat) : Nat → Nat := fun x => if x = k then B x + 1 else B x
theorem Buck.step {B : Nat → Nat} {D L n : Nat} {s : Bool} (h : Buck B D L n s) {p : Nat} (hp : p = D ∨ p = L) : Buck (bump B (p / 8)) D L (n + 1) s := by
  refine ⟨fun x h1 h2 => ?_, fun x => ?_, fun hs => ?_⟩
  · unfold bump
    rw [if_neg (by rcases hp with rfl | rfl <;> assumption)]; exact h.off x h1 h2
  · unfold bump; have := h.most x; split <;> omega
  · unfold bump; have := h.has hs; split <;> omega
theorem Buck.light {B : Nat → Nat} {D L n : Nat} {s : Bool} (h : Buck B D L n s) (t : Bool) : Buck (bump B (L / 8)) D L (n + 1) t := by
  have h1 := h.step (p := L) (Or.inr rfl)
  exact ⟨h1.off, h1.most, fun _ => by unfold bump; rw [if_pos rfl]; omega⟩
theorem Buck.weak {B : Nat → Nat} {D L n m : Nat} {s : Bool} (h : Buck B D L n s) (hm : n ≤ m) : Buck B D L m s := ⟨h.off, fun x => Nat.le_trans (h.most x) hm, h.has⟩

/-- What is known of a part of a block: how many pixels, their sum, the least and the greatest one. -/
structure Part (L n s mn mx : Nat) : Prop where
  sum : s ≤ L * n
  dark : mn < L → s + L ≤ L * n
  most : mx ≤ L
  least : mn ≤ 255
theorem Part.zero (L : Nat) (h : L ≤ 255) : Part L 0 0 255 0 := ⟨by omega, fun h => by omega, by omega, by omega⟩
theorem Part.step {L n s mn mx p : Nat} (h : Part L n s mn mx) (hp : p = 0 ∨ p = L) (mn' mx' : Nat) (h1 : mn' = if p < mn then p else mn) (h2 : mx' = if mx < p then p else mx) : Part L (n + 1) (s + p) mn' mx' := by
  obtain ⟨a, b, c, d⟩ := h
  have e : L * (n + 1) = L * n + L := Nat.mul_succ L n
  rcases hp with rfl | rfl
  · refine ⟨by omega, fun _ => by omega, ?_, ?_⟩
    · rw [h2, if_neg (by omega)]; exact c
    · rw [h1]; split <;> omega
  · refine ⟨by omega, fun h3 => ?_, ?_, ?_⟩
    · rw [h1] at h3
      have : mn < p := by
        by_cases q : p < mn
        · rw [if_pos q] at h3; omega
        · rw [if_neg q] at h3; exact h3
      have := b this; omega
    · rw [h2]; split <;> omega
    · rw [h1]; split <;> omega
/-- Sums alone, when dark and light have been seen. -/
theorem Part.more {L n s mn mx p : Nat} (h : Part L n s mn mx) (hp : p = 0 ∨ p = L) (hd : mn < L) : Part L (n + 1) (s + p) mn mx := by
  obtain ⟨a, b, c, d⟩ := h
  have e : L * (n + 1) = L * n + L := Nat.mul_succ L n
  have := b hd
  rcases hp with rfl | rfl
  · exact ⟨by omega, fun _ => by omega, c, d⟩
  · exact ⟨by omega, fun _ => by omega, c, d⟩
theorem Part.average {L s mn mx : Nat} (h : Part L 64 s mn mx) (hr : 24 < mx - mn) : s / 64 < L := by
  have h1 := h.most
  have := h.dark (by omega)
  omega
theorem Part.half {L n s mn mx : Nat} (h : Part L n s mn mx) (hL : 128 ≤ L) : mn / 2 < L := by
  have := h.least; omega

/-! A picture that is laid dot by dot. -/
def laidTo (P : Nat → Nat → Bool) (y x : Nat) : Nat → Nat → Bool := fun x' y' => P x' y' && decide (y' < y ∨ (y' = y ∧ x' < x))
theorem laid_skip {P : Nat → Nat → Bool} {x y : Nat} (h : P x y = false) (x' y' : Nat) : laidTo P y x x' y' = laidTo P y (x + 1) x' y' := by
  unfold laidTo
  by_cases e : x' = x ∧ y' = y
  · obtain ⟨rfl, rfl⟩ := e; simp [h]
  · have e2 : (y' < y ∨ (y' = y ∧ x' < x + 1)) ↔ (y' < y ∨ (y' = y ∧ x' < x)) := by omega
    simp only [e2]
theorem laid_set {P : Nat → Nat → Bool} {x y : Nat} (h : P x y = true) (x' y' : Nat) : (if x' = x ∧ y' = y then true else laidTo P y x x' y') = laidTo P y (x + 1) x' y' := by
  unfold laidTo
  by_cases e : x' = x ∧ y' = y
  · obtain ⟨rfl, rfl⟩ := e; simp [h]
  · have e2 : (y' < y ∨ (y' = y ∧ x' < x + 1)) ↔ (y' < y ∨ (y' = y ∧ x' < x)) := by omega
    simp only [e2, if_neg e]
theorem laid_row {P : Nat → Nat → Bool} {W y : Nat} (x' y' : Nat) (hx : x' < W) : laidTo P y W x' y' = laidTo P (y + 1) 0 x' y' := by
  unfold laidTo
  have e2 : (y' < y ∨ (y' = y ∧ x' < W)) ↔ (y' < y + 1 ∨ (y' = y + 1 ∧ x' < 0)) := by omega
  simp only [e2]
theorem laid_none {P : Nat → Nat → Bool} (x' y' : Nat) : false = laidTo P 0 0 x' y' := by
  unfold laidTo
  rw [decide_eq_false (by omega)]; simp
theorem laid_all {P : Nat → Nat → Bool} {H : Nat} (x' y' : Nat) (hy : y' < H) : laidTo P H 0 x' y' = P x' y' := by
  unfold laidTo
  rw [decide_eq_true (Or.inl hy)]; simp

/-- What a block adds: its dark dots, rows above k and the first j of row k. -/
def thrF (f P : Nat → Nat → Bool) (xo yo k j : Nat) : Nat → Nat → Bool := fun x y => f x y || (P x y && decide (xo ≤ x ∧ x < xo + 8 ∧ yo ≤ y ∧ (y < yo + k ∨ (y = yo + k ∧ x < xo + j))))
theorem thr_skip {f P : Nat → Nat → Bool} {xo yo k j : Nat} (h : P (xo + j) (yo + k) = false) (x' y' : Nat) : thrF f P xo yo k j x' y' = thrF f P xo yo k (j + 1) x' y' := by
  unfold thrF
  by_cases e : x' = xo + j ∧ y' = yo + k
  · obtain ⟨rfl, rfl⟩ := e; simp [h]
  · have e2 : (xo ≤ x' ∧ x' < xo + 8 ∧ yo ≤ y' ∧ (y' < yo + k ∨ (y' = yo + k ∧ x' < xo + (j + 1)))) ↔ (xo ≤ x' ∧ x' < xo + 8 ∧ yo ≤ y' ∧ (y' < yo + k ∨ (y' = yo + k ∧ x' < xo + j))) := by omega
    simp only [e2]
theorem thr_set {f P : Nat → Nat → Bool} {xo yo k j : Nat} (hj : j < 8) (h : P (xo + j) (yo + k) = true) (x' y' : Nat) : (if x' = xo + j ∧ y' = yo + k then true else thrF f P xo yo k j x' y') = thrF f P xo yo k (j + 1) x' y' := by
  unfold thrF
  by_cases e : x' = xo + j ∧ y' = yo + k
  · obtain ⟨rfl, rfl⟩ := e
    rw [decide_eq_true (by omega : xo ≤ xo + j ∧ xo + j < xo + 8 ∧ yo ≤ yo + k ∧ (yo + k < yo + k ∨ (yo + k = yo + k ∧ xo + j < xo + (j + 1)))), h]
    simp
  · have e2 : (xo ≤ x' ∧ x' < xo + 8 ∧ yo ≤ y' ∧ (y' < yo + k ∨ (y' = yo + k ∧ x' < xo + (j + 1)))) ↔ (xo ≤ x' ∧ x' < xo + 8 ∧ yo ≤ y' ∧ (y' < yo + k ∨ (y' = yo + k ∧ x' < xo + j))) := by omega
    simp only [e2, if_neg e]
theorem thr_row {f P : Nat → Nat → Bool} {xo yo k : Nat} (x' y' : Nat) : thrF f P xo yo k 8 x' y' = thrF f P xo yo (k + 1) 0 x' y' := by
  unfold thrF
  have e2 : (xo ≤ x' ∧ x' < xo + 8 ∧ yo ≤ y' ∧ (y' < yo + k ∨ (y' = yo + k ∧ x' < xo + 8))) ↔ (xo ≤ x' ∧ x' < xo + 8 ∧ yo ≤ y' ∧ (y' < yo + (k + 1) ∨ (y' = yo + (k + 1) ∧ x' < xo + 0))) := by omega
  simp only [e2]
theorem thr_none {f P : Nat → Nat → Bool} {xo yo : Nat} (x' y' : Nat) : f x' y' = thrF f P xo yo 0 0 x' y' := by
  unfold thrF
  rw [decide_eq_false (by omega)]; simp
theorem thr_all {f P : Nat → Nat → Bool} {xo yo : Nat} (x' y' : Nat) : thrF f P xo yo 8 0 x' y' = (f x' y' || (P x' y' && decide (xo ≤ x' ∧ x' < xo + 8 ∧ yo ≤ y' ∧ y' < yo + 8))) := by
  unfold thrF
  have e2 : (xo ≤ x' ∧ x' < xo + 8 ∧ yo ≤ y' ∧ (y' < yo + 8 ∨ (y' = yo + 8 ∧ x' < xo + 0))) ↔ (xo ≤ x' ∧ x' < xo + 8 ∧ yo ≤ y' ∧ y' < yo + 8) := by omega
  simp only [e2]

end QR

namespace QR

/-- The number that n bits are, from place p on. -/
def rd (ds : List Nat) (p n : Nat) : Nat := numOf (((bytesBits ds).drop p).take n)

theorem bitsOf_drop : ∀ (n o v : Nat), o ≤ n → (bitsOf n v).drop o = bitsOf (n - o) v
  | n, 0, v, _ => by simp
  | n + 1, o + 1, v, h => by
    simp only [bitsOf, List.drop_succ_cons, Nat.add_sub_add_right]
    exact bitsOf_drop n o v (by omega)
theorem bitsOf_takeN : ∀ (n t v : Nat), t ≤ n → (bitsOf n v).take t = bitsOf t (v / 2 ^ (n - t))
  | n, 0, v, _ => by simp [bitsOf]
  | n + 1, t + 1, v, h => by
    simp only [bitsOf, List.take_succ_cons, Nat.add_sub_add_right]
    rw [bitsOf_takeN n t v (by omega), Nat.testBit_div_two_pow, Nat.add_comm t, Nat.sub_add_cancel (by omega)]
theorem bytesBits_drop : ∀ (ds : List Nat) (i : Nat), (bytesBits ds).drop (8 * i) = bytesBits (ds.drop i)
  | ds, 0 => by simp
  | [], i + 1 => by simp [bytesBits]
  | d :: ds, i + 1 => by
    rw [bytesBits, show 8 * (i + 1) = 8 + 8 * i by omega, ← List.drop_drop, List.drop_left' (bitsOf_length 8 d), List.drop_succ_cons]
    exact bytesBits_drop ds i

theorem rd_add (ds : List Nat) (p a b : Nat) (h : p + a + b ≤ 8 * ds.length) : rd ds p (a + b) = rd ds p a * 2 ^ b + rd ds (p + a) b := by
  unfold rd
  rw [List.take_add, numOf_append, List.drop_drop, List.length_take, List.length_drop, bytesBits_length, Nat.min_eq_left (by omega)]
theorem rd_zero (ds : List Nat) (p : Nat) : rd ds p 0 = 0 := by simp [rd, numOf, numOfF]
theorem rd_lt (ds : List Nat) (p n : Nat) : rd ds p n < 2 ^ n := by
  have h := numOf_lt (((bytesBits ds).drop p).take n)
  refine Nat.lt_of_lt_of_le h (Nat.pow_le_pow_right (by omega) ?_)
  rw [List.length_take]; omega
theorem drop_getD {α : Type} (l : List α) (i : Nat) (d : α) (h : i < l.length) : l.drop i = l.getD i d :: l.drop (i + 1) := by
  rw [List.drop_eq_getElem_cons h]; simp [List.getD, h]
/-- Bits within one byte. -/
theorem rd_byte (ds : List Nat) (i o t : Nat) (hi : i < ds.length) (ho : o + t ≤ 8) : rd ds (8 * i + o) t = (ds.getD i 0 / 2 ^ (8 - o - t)) % 2 ^ t := by
  unfold rd
  rw [← List.drop_drop, bytesBits_drop, drop_getD ds i 0 hi, bytesBits, List.drop_append_of_le_length (by rw [bitsOf_length]; omega), bitsOf_drop 8 o _ (by omega),
    List.take_append_of_le_length (by rw [bitsOf_length]; omega), bitsOf_takeN _ _ _ (by omega), numOf_bitsOf]

theorem rd_at {ds : List Nat} {p n v : Nat} {R : List Bool} (h : (bytesBits ds).drop p = bitsOf n v ++ R) (hv : v < 2 ^ n) : rd ds p n = v ∧ (bytesBits ds).drop (p + n) = R := by
  unfold rd
  refine ⟨?_, ?_⟩
  · rw [h, List.take_left' (bitsOf_length n v), numOf_bitsOf, Nat.mod_eq_of_lt hv]
  · rw [← List.drop_drop, h, List.drop_left' (bitsOf_length n v)]
theorem rd_room {ds : List Nat} {p : Nat} {R : List Bool} (h : (bytesBits ds).drop p = R) (hp : p ≤ 8 * ds.length) : p + R.length = 8 * ds.length := by
  have := congrArg List.length h
  rw [List.length_drop, bytesBits_length] at this
  omega

/-- Nothing but zeros at the head of the rest: the mode 'end'. -/
theorem rd_end {ds : List Nat} {p : Nat} {R : List Bool} (h : (bytesBits ds).drop p = R) (h4 : 4 ≤ R.length) (hz : ∀ i, i < 4 → R.getD i false = false) : rd ds p 4 = 0 := by
  unfold rd
  rw [h]
  match R, h4 with
  | a :: b :: c :: d :: l, _ =>
    have h0 := hz 0 (by omega); have h1 := hz 1 (by omega); have h2 := hz 2 (by omega); have h3 := hz 3 (by omega)
    simp at h0 h1 h2 h3
    subst h0 h1 h2 h3
    simp [numOf, numOfF]

end QR

namespace QR

/-- The first of the greatest values below k, and that value. -/
def pk (B : Nat → Nat) : Nat → Nat × Nat
  | 0 => (0, 0)
  | k + 1 => if (pk B k).2 < B k then (k, B k) else pk B k
theorem pk_spec (B : Nat → Nat) : ∀ k, (pk B k = (0, 0) ∧ ∀ x, x < k → B x = 0) ∨ ((pk B k).1 < k ∧ (pk B k).2 = B (pk B k).1 ∧ 0 < (pk B k).2 ∧ ∀ x, x < k → B x ≤ (pk B k).2)
  | 0 => Or.inl ⟨rfl, fun x h => by omega⟩
  | k + 1 => by
    rcases pk_spec B k with ⟨h1, h2⟩ | ⟨h1, h2, h3, h4⟩
    · by_cases h : 0 < B k
      · right
        rw [pk, h1, if_pos h]
        exact ⟨by show k < k + 1; omega, rfl, h, fun x hx => by
          by_cases e : x = k
          · subst e; exact Nat.le_refl _
          · have := h2 x (by omega); omega⟩
      · left
        rw [pk, h1, if_neg h]
        exact ⟨rfl, fun x hx => by
          by_cases e : x = k
          · subst e; omega
          · exact h2 x (by omega)⟩
    · right
      by_cases h : (pk B k).2 < B k
      · rw [pk, if_pos h]
        exact ⟨by show k < k + 1; omega, rfl, by show 0 < B k; omega, fun x hx => by
          by_cases e : x = k
          · subst e; exact Nat.le_refl _
          · have := h4 x (by omega); show B x ≤ B k; omega⟩
      · rw [pk, if_neg h]
        exact ⟨by omega, h2, h3, fun x hx => by
          by_cases e : x = k
          · subst e; omega
          · exact h4 x (by omega)⟩
theorem pk_lt (B : Nat → Nat) (k : Nat) (hk : 0 < k) : (pk B k).1 < k := by
  rcases pk_spec B k with ⟨h1, _⟩ | ⟨h1, _⟩
  · rw [h1]; exact hk
  · exact h1
theorem pk_le (B : Nat → Nat) (k M : Nat) (h : ∀ x, B x ≤ M) : (pk B k).2 ≤ M := by
  rcases pk_spec B k with ⟨h1, _⟩ | ⟨_, h1, _⟩
  · rw [h1]; exact Nat.zero_le _
  · rw [h1]; exact h _

def dist (x y : Nat) : Nat := if x < y then y - x else x - y
/-- The scores of second peaks. -/
def sc2 (B : Nat → Nat) (fp : Nat) (x : Nat) : Nat := B x * dist x fp * dist x fp
/-- The scores of valleys. -/
def sc3 (B : Nat → Nat) (mx lo hi x : Nat) : Nat := (x - lo) * (x - lo) * (hi - x) * (mx - B x)
/-- The valley behind k steps, from above. -/
def vk (B : Nat → Nat) (mx lo hi : Nat) : Nat → Nat × Int
  | 0 => (hi - 1, -1)
  | k + 1 => if (vk B mx lo hi k).2 < (sc3 B mx lo hi (hi - 1 - k) : Int) then (hi - 1 - k, (sc3 B mx lo hi (hi - 1 - k) : Int)) else vk B mx lo hi k
theorem vk_spec (B : Nat → Nat) (mx lo hi : Nat) (h : lo + 1 < hi) : ∀ k, k ≤ hi - 1 - lo → lo < (vk B mx lo hi k).1 ∧ (vk B mx lo hi k).1 < hi ∧ -1 ≤ (vk B mx lo hi k).2 ∧
    (k = 0 ∨ (vk B mx lo hi k).2 = (sc3 B mx lo hi (vk B mx lo hi k).1 : Int)) ∧ ∀ x, hi - 1 - k < x → x < hi → (sc3 B mx lo hi x : Int) ≤ (vk B mx lo hi k).2
  | 0, _ => ⟨by show lo < hi - 1; omega, by show hi - 1 < hi; omega, by show (-1 : Int) ≤ -1; omega, Or.inl rfl, fun x h1 h2 => by omega⟩
  | k + 1, hk => by
    obtain ⟨h1, h2, h3, h4, h5⟩ := vk_spec B mx lo hi h k (by omega)
    by_cases e : (vk B mx lo hi k).2 < (sc3 B mx lo hi (hi - 1 - k) : Int)
    · rw [vk, if_pos e]
      refine ⟨by show lo < hi - 1 - k; omega, by show hi - 1 - k < hi; omega, by show (-1 : Int) ≤ ((sc3 B mx lo hi (hi - 1 - k) : Nat) : Int); omega, Or.inr rfl, fun x x1 x2 => ?_⟩
      show _ ≤ ((sc3 B mx lo hi (hi - 1 - k) : Nat) : Int)
      by_cases e2 : x = hi - 1 - k
      · subst e2; exact Int.le_refl _
      · have := h5 x (by omega) x2; omega
    · rw [vk, if_neg e]
      refine ⟨h1, h2, h3, Or.inr ?_, fun x x1 x2 => ?_⟩
      · rcases h4 with h4 | h4
        · subst h4
          exfalso; apply e
          show (-1 : Int) < _
          omega
        · exact h4
      · by_cases e2 : x = hi - 1 - k
        · subst e2; omega
        · exact h5 x (by omega) x2

def chkH : Bool := (List.range 32).all fun L => (List.range 11).all fun D => (List.range 11).all fun y => decide (L < 16) || decide (L < 3 * D) || decide (D < y) || decide (y * y * (L - y) < (D + 1) * (D + 1) * (L - (D + 1)))
theorem chkH_ok : chkH = true := by decide +kernel
theorem steep {L D y : Nat} (h1 : 16 ≤ L) (h2 : L < 32) (h3 : 3 * D ≤ L) (h4 : y ≤ D) : y * y * (L - y) < (D + 1) * (D + 1) * (L - (D + 1)) := by
  have h := chkH_ok
  unfold chkH at h
  rw [List.all_eq_true] at h
  have a := h L (List.mem_range.2 h2)
  rw [List.all_eq_true] at a
  have b := a D (List.mem_range.2 (by omega))
  rw [List.all_eq_true] at b
  have c := b y (List.mem_range.2 (by omega))
  simp only [Bool.or_eq_true, decide_eq_true_eq] at c
  omega

/-- The peaks, in order. -/
def lowP (B : Nat → Nat) : Nat := min (pk B 32).1 (pk (sc2 B (pk B 32).1) 32).1
def highP (B : Nat → Nat) : Nat := max (pk B 32).1 (pk (sc2 B (pk B 32).1) 32).1
def valley (B : Nat → Nat) : Nat := (vk B (pk B 32).2 (lowP B) (highP B) (highP B - 1 - lowP B)).1

theorem peaks {B : Nat → Nat} {D L : Nat} (hD : 3 * D ≤ L) (h1 : 16 ≤ L) (h2 : L < 32) (hB : ∀ x, x ≠ D → x ≠ L → B x = 0) (hL : 0 < B L) :
    highP B = L ∧ ((B D = 0 ∧ lowP B = 0 ∧ (pk B 32).2 = B L) ∨ lowP B = D) := by
  have hpk : ((pk B 32).1 = D ∨ (pk B 32).1 = L) ∧ (pk B 32).2 = B (pk B 32).1 ∧ ∀ x, x < 32 → B x ≤ (pk B 32).2 := by
    rcases pk_spec B 32 with ⟨_, h⟩ | ⟨a, b, c, d⟩
    · have := h L h2; omega
    · refine ⟨?_, b, d⟩
      by_cases e : (pk B 32).1 = D
      · exact Or.inl e
      · by_cases e2 : (pk B 32).1 = L
        · exact Or.inr e2
        · have := hB _ e e2; omega
  obtain ⟨p1, p2, p3⟩ := hpk
  have hs0 : ∀ x, x ≠ D → x ≠ L → sc2 B (pk B 32).1 x = 0 := fun x a b => by unfold sc2; rw [hB x a b]; simp
  have hsp : sc2 B (pk B 32).1 (pk B 32).1 = 0 := by unfold sc2 dist; simp
  unfold highP lowP
  by_cases hz : B D = 0
  · have e : (pk B 32).1 = L := by
      rcases p1 with e | e
      · rw [e, hz] at p2
        have := p3 L h2; omega
      · exact e
    rcases pk_spec (sc2 B (pk B 32).1) 32 with ⟨a, _⟩ | ⟨_, b, c, _⟩
    · rw [a, e]
      refine ⟨by simp, Or.inl ⟨hz, by simp, by rw [p2, e]⟩⟩
    · exfalso
      have hne : ∀ x, sc2 B (pk B 32).1 x = 0 := fun x => by
        by_cases x1 : x = D
        · subst x1; unfold sc2; rw [hz]; simp
        · by_cases x2 : x = L
          · subst x2; rw [← e]; exact hsp
          · exact hs0 x x1 x2
      rw [hne] at b; omega
  · have hDL : D ≠ L := by omega
    -- the other one has a score
    have other : ∀ p q, (pk B 32).1 = p → (p = D ∧ q = L ∨ p = L ∧ q = D) → 0 < sc2 B (pk B 32).1 q := by
      intro p q ep hpq
      unfold sc2
      have hq : 0 < B q := by rcases hpq with ⟨_, e⟩ | ⟨_, e⟩ <;> subst e <;> omega
      have hd : 0 < dist q (pk B 32).1 := by
        unfold dist
        rw [ep]
        rcases hpq with ⟨e, e'⟩ | ⟨e, e'⟩ <;> subst e <;> subst e' <;> split <;> omega
      exact Nat.mul_pos (Nat.mul_pos hq hd) hd
    have second : ∀ p q, (pk B 32).1 = p → (p = D ∧ q = L ∨ p = L ∧ q = D) → (pk (sc2 B (pk B 32).1) 32).1 = q := by
      intro p q ep hpq
      have ho := other p q ep hpq
      have hq32 : q < 32 := by rcases hpq with ⟨_, e⟩ | ⟨_, e⟩ <;> omega
      rcases pk_spec (sc2 B (pk B 32).1) 32 with ⟨_, h⟩ | ⟨_, b, c, _⟩
      · have := h q hq32; omega
      · by_cases e : (pk (sc2 B (pk B 32).1) 32).1 = q
        · exact e
        · exfalso
          have h0 : sc2 B (pk B 32).1 (pk (sc2 B (pk B 32).1) 32).1 = 0 := by
            by_cases e2 : (pk (sc2 B (pk B 32).1) 32).1 = p
            · rw [e2, ← ep]; exact hsp
            · rcases hpq with ⟨a1, a2⟩ | ⟨a1, a2⟩
              · exact hs0 _ (by rw [← a1]; exact e2) (by rw [← a2]; exact e)
              · exact hs0 _ (by rw [← a2]; exact e) (by rw [← a1]; exact e2)
          omega
    rcases p1 with e | e
    · rw [second D L e (Or.inl ⟨rfl, rfl⟩), e]
      exact ⟨by omega, Or.inr (by omega)⟩
    · rw [second L D e (Or.inr ⟨rfl, rfl⟩), e]
      exact ⟨by omega, Or.inr (by omega)⟩

/-- The peaks are far apart, and the valley lies above the dark bucket and below the light one. -/
theorem valley_ok {B : Nat → Nat} {D L : Nat} (hD : 3 * D ≤ L) (h1 : 16 ≤ L) (h2 : L < 32) (hB : ∀ x, x ≠ D → x ≠ L → B x = 0) (hL : 0 < B L) :
    highP B = L ∧ lowP B + 2 < highP B ∧ D < valley B ∧ valley B < L := by
  obtain ⟨p1, p2⟩ := peaks hD h1 h2 hB hL
  unfold valley
  rw [p1]
  rcases p2 with ⟨z, l0, hm⟩ | l0
  · rw [l0, hm]
    obtain ⟨a1, a2, _, a4, a5⟩ := vk_spec B (B L) 0 L (by omega) (L - 1 - 0) (by omega)
    refine ⟨rfl, by omega, ?_, a2⟩
    have hm := a5 (D + 1) (by omega) (by omega)
    rcases a4 with a4 | a4
    · omega
    · by_cases e : (vk B (B L) 0 L (L - 1 - 0)).1 ≤ D
      · exfalso
        rw [a4] at hm
        have hm' := Int.ofNat_le.1 hm
        generalize (vk B (B L) 0 L (L - 1 - 0)).1 = y at *
        have hst := steep h1 h2 hD e
        unfold sc3 at hm'
        have hy : B y ≤ 0 ∨ y = D := by
          by_cases e3 : y = D
          · exact Or.inr e3
          · exact Or.inl (by rw [hB y e3 (by omega)]; exact Nat.le_refl _)
        have hy0 : B y = 0 := by
          rcases hy with h | h
          · omega
          · subst h; exact z
        have hd0 : B (D + 1) = 0 := hB _ (by omega) (by omega)
        rw [hy0, hd0] at hm'
        simp only [Nat.sub_zero] at hm'
        have := Nat.mul_lt_mul_of_pos_right hst hL
        omega
      · omega
  · rw [l0]
    obtain ⟨a1, a2, _⟩ := vk_spec B (pk B 32).2 D L (by omega) (L - 1 - D) (by omega)
    exact ⟨rfl, by omega, a1, a2⟩

/-- So the black point parts dark and light. -/
theorem black_point {B : Nat → Nat} {dark light : Nat} (h1 : 3 * dark ≤ light) (h2 : 128 ≤ light) (h3 : light < 256) (hB : ∀ x, x ≠ dark / 8 → x ≠ light / 8 → B x = 0) (hL : 0 < B (light / 8)) :
    lowP B + 2 < highP B ∧ highP B < 32 ∧ dark < 8 * valley B ∧ 8 * valley B ≤ light := by
  obtain ⟨a, b, c, d⟩ := valley_ok (B := B) (D := dark / 8) (L := light / 8) (by omega) (by omega) (by omega) hB hL
  refine ⟨b, by omega, by omega, by omega⟩

end QR
