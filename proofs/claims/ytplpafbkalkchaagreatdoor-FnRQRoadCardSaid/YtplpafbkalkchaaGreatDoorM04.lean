/-
  Parts of the proof (MixP, MixR, RdL, MixK).
-/
import Derived.Test.YtplpafbkalkchaaGreatDoorM01
import Derived.Test.YtplpafbkalkchaaGreatDoorM02
set_option linter.unusedSimpArgs false
set_option linter.unusedVariables false

namespace QR

/-- The i-th things of lists, where they have one; all of them, for the first m places. -/
def col (bs : List (List Nat)) (i : Nat) : List Nat := bs.filterMap fun b => b[i]?
def cols (bs : List (List Nat)) (m : Nat) : List Nat := (List.range m).flatMap (col bs)

theorem cols_succ (bs : List (List Nat)) (m : Nat) : cols bs (m + 1) = cols bs m ++ col bs m := by
  unfold cols; rw [List.range_succ, List.flatMap_append]; simp
theorem col_all {i : Nat} : ∀ {bs : List (List Nat)}, (∀ b ∈ bs, i < b.length) → col bs i = bs.map fun b => b.getD i 0
  | [], _ => rfl
  | b :: bs, h => by
    have hb := h b (List.mem_cons_self ..)
    have ih := col_all (bs := bs) (fun b' hb' => h b' (List.mem_cons_of_mem _ hb'))
    unfold col at ih ⊢
    rw [List.filterMap_cons, List.getElem?_eq_getElem hb]
    simp only [List.map_cons]
    rw [ih]; simp [List.getD, hb]
theorem col_none {i : Nat} : ∀ {bs : List (List Nat)}, (∀ b ∈ bs, b.length ≤ i) → col bs i = []
  | [], _ => rfl
  | b :: bs, h => by
    have hb := h b (List.mem_cons_self ..)
    have ih := col_none (bs := bs) (fun b' hb' => h b' (List.mem_cons_of_mem _ hb'))
    unfold col at ih ⊢
    rw [List.filterMap_cons, List.getElem?_eq_none hb]
    exact ih
theorem col_append (as bs : List (List Nat)) (i : Nat) : col (as ++ bs) i = col as i ++ col bs i := by
  unfold col; rw [List.filterMap_append]
theorem cols_length {bs : List (List Nat)} : ∀ {m : Nat}, (∀ b ∈ bs, m ≤ b.length) → (cols bs m).length = m * bs.length
  | 0, _ => by simp [cols]
  | m + 1, h => by
    rw [cols_succ, List.length_append, cols_length (fun b hb => by have := h b hb; omega), col_all (fun b hb => by have := h b hb; omega)]
    simp [Nat.add_mul]
theorem cols_get {bs : List (List Nat)} : ∀ {m i j : Nat}, (∀ b ∈ bs, m ≤ b.length) → i < m → j < bs.length → (cols bs m).getD (i * bs.length + j) 0 = (bs.getD j []).getD i 0
  | 0, _, _, _, h, _ => by omega
  | m + 1, i, j, h, hi, hj => by
    have hl := cols_length (bs := bs) (m := m) (fun b hb => by have := h b hb; omega)
    rw [cols_succ]
    by_cases e : i < m
    · have ih := cols_get (bs := bs) (m := m) (i := i) (j := j) (fun b hb => by have := h b hb; omega) e hj
      have hlt : i * bs.length + j < (cols bs m).length := by
        rw [hl]
        have : (i + 1) * bs.length ≤ m * bs.length := Nat.mul_le_mul_right _ e
        rw [Nat.add_mul] at this; omega
      rw [← ih]
      simp only [List.getD]
      rw [List.getElem?_append_left hlt]
    · have e2 : i = m := by omega
      subst e2
      simp only [List.getD]
      rw [List.getElem?_append_right (by rw [hl]; omega), hl, Nat.add_sub_cancel_left, col_all (fun b hb => by have := h b hb; omega)]
      simp [List.getD, hj]

/-- Blocks in two groups: k1 of s words, k2 of s + 1. -/
structure Two (bs : List (List Nat)) (k1 k2 s : Nat) : Prop where
  len : bs.length = k1 + k2
  lo : ∀ j, j < k1 → (bs.getD j []).length = s
  hi : ∀ j, k1 ≤ j → j < k1 + k2 → (bs.getD j []).length = s + 1
theorem Two.all {bs : List (List Nat)} {k1 k2 s : Nat} (h : Two bs k1 k2 s) : ∀ b ∈ bs, s ≤ b.length := fun b hb => by
  obtain ⟨j, hj, rfl⟩ := List.getElem_of_mem hb
  have hj' : j < k1 + k2 := by rw [← h.len]; exact hj
  have e : bs.getD j [] = bs[j] := by simp [List.getD, hj]
  by_cases hk : j < k1
  · have := h.lo j hk; rw [e] at this; omega
  · have := h.hi j (by omega) hj'; rw [e] at this; omega
theorem Two.last {bs : List (List Nat)} {k1 k2 s : Nat} (h : Two bs k1 k2 s) : col bs s = (bs.drop k1).map fun b => b.getD s 0 := by
  conv => lhs; rw [← List.take_append_drop k1 bs]
  rw [col_append, col_none (bs := bs.take k1), List.nil_append, col_all]
  · intro b hb
    obtain ⟨j, hj, rfl⟩ := List.getElem_of_mem hb
    simp only [List.length_drop, h.len] at hj
    have := h.hi (k1 + j) (by omega) (by omega)
    rw [List.getElem_drop]
    have hlt : k1 + j < bs.length := by rw [h.len]; omega
    simp only [List.getD, List.getElem?_eq_getElem hlt, Option.getD_some] at this
    omega
  · intro b hb
    obtain ⟨j, hj, rfl⟩ := List.getElem_of_mem hb
    simp only [List.length_take, h.len] at hj
    have := h.lo j (by omega)
    rw [List.getElem_take]
    have hlt : j < bs.length := by rw [h.len]; omega
    simp only [List.getD, List.getElem?_eq_getElem hlt, Option.getD_some] at this
    omega
/-- The data words, mixed. -/
def mixD (bs : List (List Nat)) (s k2 : Nat) : List Nat := cols bs (if k2 = 0 then s else s + 1)
theorem mixD_eq {bs : List (List Nat)} {k1 k2 s : Nat} (h : Two bs k1 k2 s) : mixD bs s k2 = cols bs s ++ (bs.drop k1).map fun b => b.getD s 0 := by
  unfold mixD
  by_cases e : k2 = 0
  · rw [if_pos e]
    have : bs.drop k1 = [] := List.drop_of_length_le (by rw [h.len]; omega)
    rw [this]; simp
  · rw [if_neg e, cols_succ, h.last]
theorem mixD_length {bs : List (List Nat)} {k1 k2 s : Nat} (h : Two bs k1 k2 s) : (mixD bs s k2).length = s * (k1 + k2) + k2 := by
  rw [mixD_eq h, List.length_append, cols_length h.all, h.len, List.length_map, List.length_drop, h.len]; omega
theorem mixD_lo {bs : List (List Nat)} {k1 k2 s : Nat} (h : Two bs k1 k2 s) {i j : Nat} (hi : i < s) (hj : j < k1 + k2) : (mixD bs s k2).getD (i * (k1 + k2) + j) 0 = (bs.getD j []).getD i 0 := by
  have hl := cols_length h.all
  rw [h.len] at hl
  have hlt : i * (k1 + k2) + j < (cols bs s).length := by
    rw [hl]
    have : (i + 1) * (k1 + k2) ≤ s * (k1 + k2) := Nat.mul_le_mul_right _ hi
    rw [Nat.add_mul] at this; omega
  have hg := cols_get h.all (i := i) (j := j) hi (by rw [h.len]; exact hj)
  rw [h.len] at hg
  rw [← hg, mixD_eq h]
  simp only [List.getD]
  rw [List.getElem?_append_left hlt]
theorem mixD_hi {bs : List (List Nat)} {k1 k2 s : Nat} (h : Two bs k1 k2 s) {j : Nat} (h1 : k1 ≤ j) (hj : j < k1 + k2) : (mixD bs s k2).getD (s * (k1 + k2) + (j - k1)) 0 = (bs.getD j []).getD s 0 := by
  have hl := cols_length h.all
  rw [h.len] at hl
  rw [mixD_eq h]
  simp only [List.getD]
  rw [List.getElem?_append_right (by rw [hl]; omega), hl, Nat.add_sub_cancel_left, List.getElem?_map, List.getElem?_drop, show k1 + (j - k1) = j by omega]
  have : j < bs.length := by rw [h.len]; exact hj
  simp [this]

end QR

namespace QR

/-- The word at place p of block j, as the reader takes it out of the mixed words. -/
def cwAt (raw : List Nat) (nb k1 k2 s j p : Nat) : Nat :=
  if p < s then raw.getD (p * nb + j) 0 else if j < k1 then raw.getD (s * nb + k2 + (p - s) * nb + j) 0
  else if p = s then raw.getD (s * nb + (j - k1)) 0 else raw.getD (s * nb + k2 + (p - s - 1) * nb + j) 0

theorem getD_left {α : Type} (l m : List α) (i : Nat) (d : α) (h : i < l.length) : (l ++ m).getD i d = l.getD i d := by
  simp [List.getD, List.getElem?_append_left h]
theorem getD_right {α : Type} (l m : List α) (i : Nat) (d : α) (h : l.length ≤ i) : (l ++ m).getD i d = m.getD (i - l.length) d := by
  simp [List.getD, List.getElem?_append_right h]
theorem place_lt {i j s nb : Nat} (hi : i < s) (hj : j < nb) : i * nb + j < s * nb := by
  have h := Nat.mul_le_mul (show i + 1 ≤ s by omega) (Nat.le_refl nb)
  rw [Nat.succ_mul] at h; omega

theorem cwAt_ok {ds es : List (List Nat)} {k1 k2 s ec j p : Nat} (h : Two ds k1 k2 s) (he : es.length = k1 + k2) (hes : ∀ j, j < k1 + k2 → (es.getD j []).length = ec) (hj : j < k1 + k2)
    (hp : p < (ds.getD j []).length + ec) : cwAt (mixD ds s k2 ++ cols es ec) (k1 + k2) k1 k2 s j p = ((ds.getD j []) ++ (es.getD j [])).getD p 0 := by
  have hml := mixD_length h
  have hem : ∀ b ∈ es, ec ≤ b.length := fun b hb => by
    obtain ⟨i, hi, e⟩ := List.getElem_of_mem hb
    have := hes i (by omega)
    rw [show es.getD i [] = b by simp [List.getD, hi, e]] at this
    omega
  unfold cwAt
  by_cases p1 : p < s
  · rw [if_pos p1, getD_left _ _ _ _ (by have := place_lt p1 hj; omega), mixD_lo h p1 hj, getD_left]
    by_cases hk : j < k1
    · rw [h.lo j hk]; exact p1
    · rw [h.hi j (by omega) hj]; omega
  · rw [if_neg p1]
    by_cases hk : j < k1
    · have hl := h.lo j hk
      rw [if_pos hk, getD_right _ _ _ _ (by omega), hml, getD_right _ _ _ _ (by omega), hl,
        show s * (k1 + k2) + k2 + (p - s) * (k1 + k2) + j - (s * (k1 + k2) + k2) = (p - s) * es.length + j by rw [he]; omega, cols_get hem (by omega) (by omega)]
    · have hl := h.hi j (by omega) hj
      rw [if_neg hk]
      by_cases p2 : p = s
      · subst p2
        rw [if_pos rfl, getD_left _ _ _ _ (by omega), mixD_hi h (by omega) hj, getD_left _ _ _ _ (by omega)]
      · rw [if_neg p2, getD_right _ _ _ _ (by omega), hml, getD_right _ _ _ _ (by omega), hl,
          show s * (k1 + k2) + k2 + (p - s - 1) * (k1 + k2) + j - (s * (k1 + k2) + k2) = (p - s - 1) * es.length + j by rw [he]; omega, cols_get hem (by omega) (by omega),
          show p - (s + 1) = p - s - 1 by omega]

end QR

namespace QR

/-- The words that are whole; the bits behind them. -/
def cwF (s : List Bool) (i : Nat) : Nat := if 8 * i + 8 ≤ s.length then numOf ((s.drop (8 * i)).take 8) else 0
def curB (s : List Bool) : Nat := numOf (s.drop (8 * (s.length / 8)))

theorem curB_lt (s : List Bool) : curB s < 128 := by
  refine Nat.lt_of_lt_of_le (numOf_lt _) (show _ ≤ 2 ^ 7 from Nat.pow_le_pow_right (by omega) ?_)
  rw [List.length_drop]; omega
theorem numOf_snoc (s : List Bool) (b : Bool) : numOf (s ++ [b]) = 2 * numOf s + b.toNat := by
  rw [numOf_append]; simp [numOf, numOfF]; omega
theorem curB_snoc_no {s : List Bool} (b : Bool) (h : s.length % 8 ≠ 7) : curB (s ++ [b]) = 2 * curB s + b.toNat := by
  unfold curB
  rw [List.length_append, List.length_singleton, show (s.length + 1) / 8 = s.length / 8 by omega, List.drop_append_of_le_length (by omega), numOf_snoc]
theorem curB_snoc_yes {s : List Bool} (b : Bool) (h : s.length % 8 = 7) : curB (s ++ [b]) = 0 := by
  unfold curB
  rw [List.drop_of_length_le (by rw [List.length_append, List.length_singleton]; omega)]; rfl
theorem cwF_snoc_no {s : List Bool} (b : Bool) (h : s.length % 8 ≠ 7) (i : Nat) : cwF (s ++ [b]) i = cwF s i := by
  unfold cwF
  rw [List.length_append, List.length_singleton]
  by_cases e : 8 * i + 8 ≤ s.length
  · rw [if_pos e, if_pos (by omega), List.drop_append_of_le_length (by omega), List.take_append_of_le_length (by rw [List.length_drop]; omega)]
  · rw [if_neg e, if_neg (by omega)]
theorem cwF_snoc_yes {s : List Bool} (b : Bool) (h : s.length % 8 = 7) (i : Nat) : cwF (s ++ [b]) i = if i = s.length / 8 then 2 * curB s + b.toNat else cwF s i := by
  by_cases e1 : i = s.length / 8
  · subst e1
    rw [if_pos rfl]
    unfold cwF curB
    rw [List.length_append, List.length_singleton, if_pos (by omega), List.drop_append_of_le_length (by omega), List.take_of_length_le (by rw [List.length_append, List.length_drop, List.length_singleton]; omega), numOf_snoc]
  · rw [if_neg e1]
    unfold cwF
    rw [List.length_append, List.length_singleton]
    by_cases e : 8 * i + 8 ≤ s.length
    · rw [if_pos e, if_pos (by omega), List.drop_append_of_le_length (by omega), List.take_append_of_le_length (by rw [List.length_drop]; omega)]
    · rw [if_neg e, if_neg (by omega)]
theorem readL_le {pat G : Nat → Nat → Bool} {l : List (Nat × Nat)} {s ALL : List Bool} (h : readL pat G s l = ALL) : s.length ≤ ALL.length := by
  rw [← h, readL_eq, List.length_append]; omega
theorem readL_cons (pat G : Nat → Nat → Bool) (c : Nat × Nat) (l : List (Nat × Nat)) (s : List Bool) : readL pat G s (c :: l) = readL pat G (if pat c.1 c.2 then s else s ++ [G c.1 c.2]) l := rfl
theorem cwF_all (ds : List Nat) (z : List Bool) (hb : ∀ d ∈ ds, d < 256) (i : Nat) (h : i < ds.length) : cwF (bytesBits ds ++ z) i = ds.getD i 0 := by
  unfold cwF
  rw [List.length_append, bytesBits_length, if_pos (by omega), List.drop_append_of_le_length (by rw [bytesBits_length]; omega), bytesBits_drop, drop_getD ds i 0 h, bytesBits, List.append_assoc,
    List.take_left' (bitsOf_length 8 _), numOf_bitsOf, Nat.mod_eq_of_lt]
  have : ds.getD i 0 ∈ ds := by simp [List.getD, h]
  exact hb _ this

end QR

namespace QR

/-- The place of a block's word among the mixed words. -/
def rk (nb k1 k2 s j p : Nat) : Nat :=
  if p < s then p * nb + j else if j < k1 then s * nb + k2 + (p - s) * nb + j else if p = s then s * nb + (j - k1) else s * nb + k2 + (p - s - 1) * nb + j
theorem cwAt_rk (raw : List Nat) (nb k1 k2 s j p : Nat) : cwAt raw nb k1 k2 s j p = raw.getD (rk nb k1 k2 s j p) 0 := by
  unfold cwAt rk
  split
  · rfl
  · split
    · rfl
    · split <;> rfl
theorem rk_a {nb k1 k2 s j p : Nat} (h : p < s) : rk nb k1 k2 s j p = p * nb + j := by unfold rk; rw [if_pos h]
theorem rk_b {nb k1 k2 s j : Nat} (h : k1 ≤ j) : rk nb k1 k2 s j s = s * nb + (j - k1) := by unfold rk; rw [if_neg (by omega), if_neg (by omega), if_pos rfl]
theorem rk_c {nb k1 k2 s j i : Nat} (h : s ≤ i) : rk nb k1 k2 s j (if j < k1 then i else i + 1) = s * nb + k2 + (i - s) * nb + j := by
  unfold rk
  by_cases e : j < k1
  · rw [if_pos e, if_neg (by omega), if_pos e]
  · rw [if_neg e, if_neg (by omega), if_neg e, if_neg (by omega), show i + 1 - s - 1 = i - s by omega]
/-- The row and the class of a place. -/
theorem rk_row (nb k1 k2 s j p : Nat) (hj : j < nb) (hk : nb = k1 + k2) :
    (p < s ∧ rk nb k1 k2 s j p < s * nb) ∨ (p = s ∧ k1 ≤ j ∧ s * nb ≤ rk nb k1 k2 s j p ∧ rk nb k1 k2 s j p < s * nb + k2) ∨
      (s ≤ p ∧ (j < k1 ∨ s < p) ∧ s * nb + k2 ≤ rk nb k1 k2 s j p ∧ rk nb k1 k2 s j p = s * nb + k2 + ((if j < k1 then p - s else p - s - 1) * nb + j)) := by
  by_cases h : p < s
  · left
    rw [rk_a h]
    exact ⟨h, place_lt h hj⟩
  · right
    by_cases h2 : j < k1
    · right
      refine ⟨by omega, Or.inl h2, ?_, ?_⟩
      · unfold rk; rw [if_neg h, if_pos h2]; omega
      · unfold rk; rw [if_neg h, if_pos h2, if_pos h2]; omega
    · by_cases h3 : p = s
      · left
        subst h3
        rw [rk_b (by omega)]
        omega
      · right
        refine ⟨by omega, Or.inr (by omega), ?_, ?_⟩
        · unfold rk; rw [if_neg h, if_neg h2, if_neg h3]; omega
        · unfold rk; rw [if_neg h, if_neg h2, if_neg h3, if_neg h2]; omega
theorem row_inj {nb a b j k : Nat} (hj : j < nb) (hk : k < nb) (h : a * nb + j = b * nb + k) : a = b ∧ j = k := by
  have e1 : (a * nb + j) / nb = a := by rw [Nat.mul_comm, Nat.mul_add_div (by omega), Nat.div_eq_of_lt hj, Nat.add_zero]
  have e2 : (b * nb + k) / nb = b := by rw [Nat.mul_comm, Nat.mul_add_div (by omega), Nat.div_eq_of_lt hk, Nat.add_zero]
  have : a = b := by rw [← e1, ← e2, h]
  subst this
  omega
theorem rk_inj {nb k1 k2 s j p j' p' : Nat} (hj : j < nb) (hj' : j' < nb) (hk : nb = k1 + k2) (h : rk nb k1 k2 s j p = rk nb k1 k2 s j' p') : j = j' ∧ p = p' := by
  rcases rk_row nb k1 k2 s j p hj hk with ⟨a1, a2⟩ | ⟨a1, a2, a3, a4⟩ | ⟨a1, a2, a3, a4⟩ <;> rcases rk_row nb k1 k2 s j' p' hj' hk with ⟨b1, b2⟩ | ⟨b1, b2, b3, b4⟩ | ⟨b1, b2, b3, b4⟩
  · rw [rk_a a1, rk_a b1] at h
    have := row_inj hj hj' h; omega
  · omega
  · omega
  · omega
  · subst a1 b1
    rw [rk_b a2, rk_b b2] at h
    omega
  · omega
  · omega
  · omega
  · rw [a4, b4] at h
    have h2 := row_inj hj hj' (Nat.add_left_cancel h)
    obtain ⟨h3, rfl⟩ := h2
    refine ⟨rfl, ?_⟩
    by_cases e : j < k1
    · rw [if_pos e, if_pos e] at h3; omega
    · rw [if_neg e, if_neg e] at h3; omega

/-- The blocks behind q words. -/
def fillF (raw : List Nat) (nb k1 k2 s q j p : Nat) : Nat := if rk nb k1 k2 s j p < q then raw.getD (rk nb k1 k2 s j p) 0 else 0
theorem fill_zero (raw : List Nat) (nb k1 k2 s j p : Nat) : fillF raw nb k1 k2 s 0 j p = 0 := by unfold fillF; rw [if_neg (by omega)]
theorem fill_step {raw : List Nat} {nb k1 k2 s q j p : Nat} (hj : j < nb) (hk : nb = k1 + k2) (h : rk nb k1 k2 s j p = q) (j' p' : Nat) (hj' : j' < nb) :
    (if j' = j ∧ p' = p then raw.getD q 0 else fillF raw nb k1 k2 s q j' p') = fillF raw nb k1 k2 s (q + 1) j' p' := by
  unfold fillF
  by_cases e : j' = j ∧ p' = p
  · obtain ⟨rfl, rfl⟩ := e
    rw [if_pos ⟨rfl, rfl⟩, if_pos (by omega), h]
  · rw [if_neg e]
    have hne : rk nb k1 k2 s j' p' ≠ q := fun e2 => by
      have := rk_inj hj' hj hk (e2.trans h.symm)
      exact e this
    by_cases e3 : rk nb k1 k2 s j' p' < q
    · rw [if_pos e3, if_pos (by omega)]
    · rw [if_neg e3, if_neg (by omega)]
theorem rk_lt {nb k1 k2 s ec j p : Nat} (hj : j < nb) (hk : nb = k1 + k2) (hp : p < (if j < k1 then s else s + 1) + ec) : rk nb k1 k2 s j p < s * nb + k2 + ec * nb := by
  rcases rk_row nb k1 k2 s j p hj hk with ⟨a1, a2⟩ | ⟨a1, a2, a3, a4⟩ | ⟨a1, a2, a3, a4⟩
  · omega
  · omega
  · rw [a4]
    have : (if j < k1 then p - s else p - s - 1) < ec := by
      by_cases e : j < k1
      · rw [if_pos e] at hp ⊢; omega
      · rw [if_neg e] at hp ⊢; omega
    have := place_lt this hj
    omega
theorem fill_all {raw : List Nat} {nb k1 k2 s ec j p : Nat} (hj : j < nb) (hk : nb = k1 + k2) (hp : p < (if j < k1 then s else s + 1) + ec) : fillF raw nb k1 k2 s (s * nb + k2 + ec * nb) j p = cwAt raw nb k1 k2 s j p := by
  unfold fillF
  rw [if_pos (rk_lt hj hk hp), cwAt_rk]

end QR
