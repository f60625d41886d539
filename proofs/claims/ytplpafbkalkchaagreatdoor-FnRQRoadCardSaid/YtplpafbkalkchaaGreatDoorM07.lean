/-
  Parts of the proof (Ver, RS, RS2, RS3).
-/
import Derived.Test.YtplpafbkalkchaaGreatDoorM01
import Derived.Test.YtplpafbkalkchaaGreatDoorM06
import Derived.Deep.RegionWith
set_option linter.unusedSimpArgs false
set_option linter.unusedVariables false

namespace Go.Proofs.YtplpafbkalkchaaGreatDoor
open Go.RowKit

namespace QR
def verTab : Nat → List (Nat × List (Nat × Nat))
  | 1 => [(7, [(1, 19)]), (10, [(1, 16)]), (13, [(1, 13)]), (17, [(1, 9)])]
  | 2 => [(10, [(1, 34)]), (16, [(1, 28)]), (22, [(1, 22)]), (28, [(1, 16)])]
  | 3 => [(15, [(1, 55)]), (26, [(1, 44)]), (18, [(2, 17)]), (22, [(2, 13)])]
  | 4 => [(20, [(1, 80)]), (18, [(2, 32)]), (26, [(2, 24)]), (16, [(4, 9)])]
  | 5 => [(26, [(1, 108)]), (24, [(2, 43)]), (18, [(2, 15), (2, 16)]), (22, [(2, 11), (2, 12)])]
  | 6 => [(18, [(2, 68)]), (16, [(4, 27)]), (24, [(4, 19)]), (28, [(4, 15)])]
  | 7 => [(20, [(2, 78)]), (18, [(4, 31)]), (18, [(2, 14), (4, 15)]), (26, [(4, 13), (1, 14)])]
  | _ => []
/-- Error correction words of each block, at place i (L, M, Q, H). -/
def ecN (v i : Nat) : Nat := ((verTab v).getD i (0, [])).1
/-- Groups of blocks: how many, of how many data words. -/
def grp (v i : Nat) : List (Nat × Nat) := ((verTab v).getD i (0, [])).2
def numBlocks (v i : Nat) : Nat := ((grp v i).map (·.1)).sum
def dataWords (v i : Nat) : Nat := ((grp v i).map fun p => p.1 * p.2).sum
def total (v : Nat) : Nat := ((grp v 0).map fun p => p.1 * (p.2 + ecN v 0)).sum
def centers : Nat → List Nat
  | 1 => []
  | 7 => [6, 22, 38]
  | v => [6, 4 * v + 10]
end QR

def vi (n : Nat) : Value := .int .i64 (n : Int)
def pairs (l : List (Nat × Nat)) : List Value := l.flatMap fun p => [vi p.1, vi p.2]
def ecRow (v s : Nat) : List Value :=
  [vi (QR.ecN v 0), .slice (some ⟨s + 1, 0, none⟩) (QR.grp v 0).length (QR.grp v 0).length, vi (QR.ecN v 1), .slice (some ⟨s + 2, 0, none⟩) (QR.grp v 1).length (QR.grp v 1).length,
   vi (QR.ecN v 2), .slice (some ⟨s + 3, 0, none⟩) (QR.grp v 2).length (QR.grp v 2).length, vi (QR.ecN v 3), .slice (some ⟨s + 4, 0, none⟩) (QR.grp v 3).length (QR.grp v 3).length]

/-- A Version at block b; what it holds from block s on. -/
structure Ver (w : World) (s b v : Nat) : Prop where
  head : Blk w b [vi v, .slice (some ⟨s, 0, none⟩) (QR.centers v).length (QR.centers v).length, .slice (some ⟨s + 5, 0, none⟩) 4 4, vi (QR.total v)] 207
  cen : Blk w s ((QR.centers v).map vi) 3
  ecs : Blk w (s + 5) (ecRow v s) 204
  grps : ∀ i, i < 4 → Blk w (s + 1 + i) (pairs (QR.grp v i)) 217
  lo : s + 5 < b
theorem Ver.keep {S : Nat → Prop} {w w' : World} {s b v : Nat} (h : Ver w s b v) (hk : Keeps S w w') (hn : ∀ i, s ≤ i → i ≤ b → ¬ S i) : Ver w' s b v :=
  ⟨h.head.keep hk (hn b (by have := h.lo; omega) (Nat.le_refl _)), h.cen.keep hk (hn s (Nat.le_refl _) (by have := h.lo; omega)), h.ecs.keep hk (hn _ (by omega) (by have := h.lo; omega)),
    fun i hi => (h.grps i hi).keep hk (hn _ (by omega) (by have := h.lo; omega)), h.lo⟩
theorem Ver.ltb {w : World} {s b v : Nat} (h : Ver w s b v) : b < w.heap.size := h.head.lt

set_option maxRecDepth 100000 in
theorem getNumber_ok (s b v : Nat) (w : World) (h : Ver w s b v) : Calls Tryz.prog 138 #[.pointer (some ⟨b, 0, none⟩)] w fun e w' => e = .returned (.int .i64 (v : Int)) ∧ w = w' := by
  have h0 := h.head.cell (i := 0) rfl
  unfold vi at h0
  clear h
  go_enter Tryz.func138, Tryz.ntmps138
  go_wp2
  go_ret
  exact ⟨rfl, rfl⟩
set_option maxRecDepth 100000 in
theorem getTotal_ok (s b v : Nat) (w : World) (h : Ver w s b v) : Calls Tryz.prog 54 #[.pointer (some ⟨b, 0, none⟩)] w fun e w' => e = .returned (.int .i64 (QR.total v : Int)) ∧ w = w' := by
  have h0 := h.head.cell (i := 3) rfl
  unfold vi at h0
  clear h
  generalize QR.total v = t at *
  go_enter Tryz.func54, Tryz.ntmps54
  go_wp2
  go_ret
  exact ⟨rfl, rfl⟩
set_option maxRecDepth 100000 in
theorem getDim_ok (s b v : Nat) (w : World) (h : Ver w s b v) (hv : v ≤ 40) : Calls Tryz.prog 63 #[.pointer (some ⟨b, 0, none⟩)] w fun e w' => e = .returned (.int .i64 ((17 + 4 * v : Nat) : Int)) ∧ w = w' := by
  have h0 := h.head.cell (i := 0) rfl
  unfold vi at h0
  clear h
  go_enter Tryz.func63, Tryz.ntmps63
  go_wp2
  go_ret
  exact ⟨ret_int (by omega), rfl⟩

/-- The words on a level: at (block, place) o of it. -/
structure ECL (w : World) (q o c v i : Nat) : Prop where
  num : w.cell? ⟨q, o, none⟩ = some (vi (QR.ecN v i))
  sl : w.cell? ⟨q, o + 1, none⟩ = some (.slice (some ⟨c, 0, none⟩) (QR.grp v i).length (QR.grp v i).length)
  grps : Blk w c (pairs (QR.grp v i)) 217
  ltq : q < w.heap.size
theorem ECL.keep {S : Nat → Prop} {w w' : World} {q o c v i : Nat} (h : ECL w q o c v i) (hk : Keeps S w w') (hq : ¬ S q) (hc : ¬ S c) : ECL w' q o c v i :=
  ⟨(hk.cell h.ltq hq).trans h.num, (hk.cell h.ltq hq).trans h.sl, h.grps.keep hk hc, Nat.lt_of_lt_of_le h.ltq hk.size⟩

/-- The place of a level's bits. -/
def lvAt : Nat → Nat
  | 1 => 0
  | 0 => 1
  | 3 => 2
  | _ => 3
theorem Ver.ecl {w : World} {s b v : Nat} (h : Ver w s b v) : ECL w (s + 5) 0 (s + 1) v 0 ∧ ECL w (s + 5) 2 (s + 2) v 1 ∧ ECL w (s + 5) 4 (s + 3) v 2 ∧ ECL w (s + 5) 6 (s + 4) v 3 :=
  ⟨⟨h.ecs.cell rfl, h.ecs.cell rfl, h.grps 0 (by omega), h.ecs.lt⟩, ⟨h.ecs.cell rfl, h.ecs.cell rfl, h.grps 1 (by omega), h.ecs.lt⟩,
    ⟨h.ecs.cell rfl, h.ecs.cell rfl, h.grps 2 (by omega), h.ecs.lt⟩, ⟨h.ecs.cell rfl, h.ecs.cell rfl, h.grps 3 (by omega), h.ecs.lt⟩⟩

set_option maxRecDepth 100000 in
theorem getLevel_ok (s b v l : Nat) (w : World) (h : Ver w s b v) (hl : l < 4) : Calls Tryz.prog 53 #[.pointer (some ⟨b, 0, none⟩), .int .i64 (l : Int)] w fun e w' =>
    e = .returned (.pointer (some ⟨s + 5, 2 * lvAt l, none⟩)) ∧ ECL w (s + 5) (2 * lvAt l) (s + 1 + lvAt l) v (lvAt l) ∧ w = w' := by
  have h0 := h.head.cell (i := 2) rfl
  obtain ⟨e0, e1, e2, e3⟩ := h.ecl
  have E := Lib.hid (And.intro e0 (And.intro e1 (And.intro e2 e3)))
  clear h e0 e1 e2 e3
  obtain ⟨q, hq⟩ : ∃ q, s + 5 = q := ⟨_, rfl⟩
  rw [hq] at h0 E
  have HQ := Lib.hid hq
  clear hq
  obtain rfl | rfl | rfl | rfl : l = 0 ∨ l = 1 ∨ l = 2 ∨ l = 3 := by omega
  all_goals
    go_enter Tryz.func53, Tryz.ntmps53
    go_wp2
    go_ret
    rw [HQ.out]
  · exact ⟨rfl, E.out.2.1, rfl⟩
  · exact ⟨rfl, E.out.1, rfl⟩
  · exact ⟨rfl, E.out.2.2.2, rfl⟩
  · exact ⟨rfl, E.out.2.2.1, rfl⟩

set_option maxRecDepth 100000 in
theorem getEC_ok (q o c v i : Nat) (w : World) (h : ECL w q o c v i) : Calls Tryz.prog 171 #[.pointer (some ⟨q, o, none⟩)] w fun e w' => e = .returned (.int .i64 (QR.ecN v i : Int)) ∧ w = w' := by
  have h0 := h.num
  unfold vi at h0
  clear h
  generalize QR.ecN v i = t at *
  go_enter Tryz.func171, Tryz.ntmps171
  go_wp2
  go_ret
  exact ⟨rfl, rfl⟩
set_option maxRecDepth 100000 in
theorem getGrp_ok (q o c v i : Nat) (w : World) (h : ECL w q o c v i) : Calls Tryz.prog 172 #[.pointer (some ⟨q, o, none⟩)] w fun e w' =>
    e = .returned (.slice (some ⟨c, 0, none⟩) (QR.grp v i).length (QR.grp v i).length) ∧ w = w' := by
  have h0 := h.sl
  clear h
  generalize (QR.grp v i).length = t at *
  go_enter Tryz.func172, Tryz.ntmps172
  go_wp2
  go_ret
  exact ⟨rfl, rfl⟩

set_option maxRecDepth 100000 in
theorem getCount_ok (k d : Int) (w : World) : Calls Tryz.prog 122 #[.agg #[.int .i64 k, .int .i64 d]] w fun e w' => e = .returned (.int .i64 k) ∧ w.alloc (.cells #[.int .i64 k, .int .i64 d] 217) = w' := by
  go_enter Tryz.func122, Tryz.ntmps122
  go_wp2
  go_ret
  exact ⟨rfl, rfl⟩
set_option maxRecDepth 100000 in
theorem getData_ok (k d : Int) (w : World) : Calls Tryz.prog 173 #[.agg #[.int .i64 k, .int .i64 d]] w fun e w' => e = .returned (.int .i64 d) ∧ w.alloc (.cells #[.int .i64 k, .int .i64 d] 217) = w' := by
  go_enter Tryz.func173, Tryz.ntmps173
  go_wp2
  go_ret
  exact ⟨rfl, rfl⟩

set_option maxRecDepth 100000 in
set_option maxHeartbeats 400000 in
theorem newVersion_ok (w : World) (s v k d nc : Nat) (hE : ECL w (s + 5) 0 (s + 1) v 0) (hg : QR.grp v 0 = [(k, d)]) (hk : k ≤ 100) (hd : d ≤ 1000) (he : QR.ecN v 0 ≤ 100) :
    Calls Tryz.prog 137 #[.int .i64 (v : Int), .slice (some ⟨s, 0, none⟩) nc nc, .slice (some ⟨s + 5, 0, none⟩) 4 4] w fun e w' => ∃ b, e = .returned (.pointer (some ⟨b, 0, none⟩)) ∧
      Blk w' b [vi v, .slice (some ⟨s, 0, none⟩) nc nc, .slice (some ⟨s + 5, 0, none⟩) 4 4, vi (QR.total v)] 207 ∧ Keeps (fun _ => False) w w' ∧ w.heap.size ≤ b := by
  have hgr := hE.grps
  have hlen : (QR.grp v 0).length = 1 := by rw [hg]; rfl
  rw [hg] at hgr
  have h2 := hgr.cell (i := 0) (v := .int .i64 (k : Int)) rfl
  have h3 := hgr.cell (i := 1) (v := .int .i64 (d : Int)) rfl
  have hcl := hgr.lt
  have htot : (QR.total v : Int) = (k : Int) * ((d : Int) + (QR.ecN v 0 : Int)) := by unfold QR.total; rw [hg]; simp
  have hm : k * (d + QR.ecN v 0) ≤ 100 * 1100 := Nat.mul_le_mul hk (by omega)
  have hm1 : (k : Int) * ((d : Int) + (QR.ecN v 0 : Int)) ≤ 110000 := by rw [← Int.natCast_add, ← Int.natCast_mul]; omega
  have hm2 : 0 ≤ (k : Int) * ((d : Int) + (QR.ecN v 0 : Int)) := by rw [← Int.natCast_add, ← Int.natCast_mul]; omega
  have HE := Lib.hid (And.intro hE hlen)
  clear hE hgr hg hm hlen
  obtain ⟨q, hq⟩ : ∃ q, s + 5 = q := ⟨_, rfl⟩
  obtain ⟨c, hc⟩ : ∃ c, s + 1 = c := ⟨_, rfl⟩
  rw [hq, hc] at HE
  rw [hc] at h2 h3 hcl
  have HT := Lib.hid htot
  clear htot
  rw [hq]
  clear hq hc
  obtain ⟨ec, hec⟩ : ∃ ec, QR.ecN v 0 = ec := ⟨_, rfl⟩
  rw [hec] at hm1 hm2 HT he
  have HEC := Lib.hid hec
  clear hec
  go_enter Tryz.func137, Tryz.ntmps137
  go_wp2_with (first | (go_at_call 171; refine (getEC_ok q 0 c v 0 w HE.out.1).mono ?_; rintro e w1 ⟨rfl, rfl⟩; rw [HEC.out]) | (go_at_call 172; refine (getGrp_ok q 0 c v 0 w HE.out.1).mono ?_; rintro e w1 ⟨rfl, rfl⟩; rw [HE.out.2]))
  go_loopw [7, 20] (fun t i wr => (i = .int .i64 0 ∧ t = .int .i64 0 ∧ wr = w) ∨ (i = .int .i64 1 ∧ t = .int .i64 ((k : Int) * ((d : Int) + (ec : Int))) ∧ Keeps (fun _ => False) w wr)) (fun _ i _ => 1 - (intOf i).toNat)
  case atStart => exact Or.inl ⟨rfl, rfl, rfl⟩
  case round =>
    rcases hrel with ⟨rfl, rfl, rfl⟩ | ⟨rfl, rfl, r1⟩
    · go_wp2_with fail
      go_region_with (first | (go_at_call 122; refine (getCount_ok k d _).mono ?_; rintro e w1 ⟨rfl, rfl⟩) | (go_at_call 173; refine (getData_ok k d _).mono ?_; rintro e w1 ⟨rfl, rfl⟩))
      all_goals go_wp2
      all_goals
        go_roundw
        case rel => exact Or.inr ⟨rfl, rfl, ((((Keeps.refl _ wr).alloc _).alloc _).alloc _).drew⟩
        case measure => simp [intOf]
    · have R := Lib.hid r1
      have hs := r1.size
      clear r1
      go_wp2
      go_ret
      refine ⟨_, rfl, ?_, R.out.alloc _, hs⟩
      have h := Blk.new wr [vi v, .slice (some ⟨s, 0, none⟩) nc nc, .slice (some ⟨q, 0, none⟩) 4 4, vi (QR.total v)] 207
      unfold vi at h ⊢
      rw [HT.out] at h ⊢
      exact h

end Go.Proofs.YtplpafbkalkchaaGreatDoor

namespace Go.Proofs.YtplpafbkalkchaaGreatDoor
open Go.RowKit

namespace QR
/-- Without zeros ahead; one zero, if there is nothing else. -/
def strip (l : List Nat) : List Nat := match l.dropWhile (· == 0) with
  | [] => [0]
  | m => m
theorem dropWhile_zeros : ∀ (k : Nat) (l : List Nat), k ≤ l.length → (∀ i, i < k → l.getD i 0 = 0) → l.dropWhile (· == 0) = (l.drop k).dropWhile (· == 0)
  | 0, l, _, _ => by simp
  | k + 1, [], h, _ => by simp at h
  | k + 1, a :: l, h, hz => by
    have h0 : a = 0 := by simpa using hz 0 (by omega)
    subst h0
    simp only [List.dropWhile_cons, beq_self_eq_true, if_true, List.drop_succ_cons]
    exact dropWhile_zeros k l (by simpa using h) (fun i hi => by simpa using hz (i + 1) (by omega))
theorem strip_drop {l : List Nat} {k : Nat} (hk : k < l.length) (hz : ∀ i, i < k → l.getD i 0 = 0) (h : l.getD k 0 ≠ 0) : strip l = l.drop k := by
  unfold strip
  rw [dropWhile_zeros k l (by omega) hz, List.drop_eq_getElem_cons hk]
  have : l[k] ≠ 0 := by simpa [List.getD, hk] using h
  have e : (l[k] == 0) = false := by simpa using this
  rw [List.dropWhile_cons, e]
  rfl
theorem strip_zeros {l : List Nat} (hz : ∀ i, i < l.length → l.getD i 0 = 0) : strip l = [0] := by
  unfold strip
  rw [dropWhile_zeros l.length l (by omega) hz]
  simp
/-- No zero ahead, unless alone. -/
def Nrm (l : List Nat) : Prop := l ≠ [] ∧ (l.length = 1 ∨ l.getD 0 0 ≠ 0)
theorem strip_nrm (l : List Nat) : Nrm (strip l) := by
  unfold strip
  generalize h : l.dropWhile (· == 0) = m
  cases m with
  | nil => exact ⟨by simp, Or.inl rfl⟩
  | cons a m =>
    refine ⟨by simp, Or.inr ?_⟩
    have hne : l.dropWhile (· == 0) ≠ [] := by rw [h]; simp
    have := List.head_dropWhile_not (· == 0) hne
    simp only [h] at this
    simpa using this
theorem strip_of_nrm {l : List Nat} (h : Nrm l) : strip l = l := by
  obtain ⟨h0, h1⟩ := h
  cases l with
  | nil => exact absurd rfl h0
  | cons a l =>
    by_cases ha : a = 0
    · subst ha
      rcases h1 with h1 | h1
      · have : l = [] := by simpa using h1
        subst this; rfl
      · simp at h1
    · simp [strip, List.dropWhile_cons, ha]
theorem strip_bytes {l : List Nat} (h : _root_.QR.Bytes l) : _root_.QR.Bytes (strip l) := by
  unfold strip
  generalize hm : l.dropWhile (· == 0) = m
  cases m with
  | nil => intro c hc; simp at hc; omega
  | cons a m =>
    intro c hc
    have : c ∈ l.dropWhile (· == 0) := by rw [hm]; exact hc
    exact h c ((List.dropWhile_sublist _).subset this)
theorem eval_strip {x : Nat} : ∀ (l : List Nat), _root_.QR.eval x (strip l) = _root_.QR.eval x l
  | [] => by simp [strip, _root_.QR.eval, _root_.QR.evalF, _root_.QR.gmul_zero]
  | a :: l => by
    by_cases ha : a = 0
    · subst ha
      have e : strip (0 :: l) = strip l := by simp [strip, List.dropWhile_cons]
      rw [e, eval_strip l, _root_.QR.eval_zero_cons]
    · rw [strip_of_nrm ⟨by simp, Or.inr (by simpa using ha)⟩]
theorem strip_length (l : List Nat) : (strip l).length ≤ max l.length 1 := by
  unfold strip
  generalize hm : l.dropWhile (· == 0) = m
  cases m with
  | nil => simp; omega
  | cons a m =>
    have := (List.dropWhile_sublist (· == 0) (l := l)).length_le
    rw [hm] at this
    show (a :: m).length ≤ _
    omega
end QR

/-- Coefficients, from place o of block c on. -/
def Cof (w : World) (c o : Nat) (l : List Nat) : Prop := ∃ (cs : List Value), Blk w c cs 3 ∧ ∀ i, i < l.length → cs[o + i]? = some (vi (l.getD i 0))
theorem Cof.cell {w : World} {c o : Nat} {l : List Nat} (h : Cof w c o l) {i : Nat} (hi : i < l.length) : w.cell? ⟨c, o + i, none⟩ = some (.int .i64 ((l.getD i 0 : Nat) : Int)) := by
  obtain ⟨cs, h1, h2⟩ := h
  exact h1.cell (h2 i hi)
theorem Cof.keep {S : Nat → Prop} {w w' : World} {c o : Nat} {l : List Nat} (h : Cof w c o l) (hk : Keeps S w w') (hn : ¬ S c) : Cof w' c o l := by
  obtain ⟨cs, h1, h2⟩ := h
  exact ⟨cs, h1.keep hk hn, h2⟩
theorem Cof.lt {w : World} {c o : Nat} {l : List Nat} (h : Cof w c o l) : c < w.heap.size := by obtain ⟨_, h, _⟩ := h; exact h.lt
theorem Cof.drop {w : World} {c o : Nat} {l : List Nat} (h : Cof w c o l) (k : Nat) : Cof w c (o + k) (l.drop k) := by
  obtain ⟨cs, h1, h2⟩ := h
  refine ⟨cs, h1, fun i hi => ?_⟩
  rw [Nat.add_assoc, h2 (k + i) (by simp at hi; omega)]
  simp [List.getD]
theorem Cof.alloc {w : World} {c o : Nat} {l : List Nat} (h : Cof w c o l) (ob : Obj) : Cof (w.alloc ob) c o l := by
  obtain ⟨cs, h1, h2⟩ := h
  exact ⟨cs, h1.alloc ob, h2⟩
theorem Cof.of_fb {w : World} {c n : Nat} {F : Nat → Value} (h : FB w c n F 3) {l : List Nat} (hl : l.length = n) (e : ∀ i, i < n → F i = vi (l.getD i 0)) : Cof w c 0 l :=
  ⟨_, h, fun i hi => by rw [Nat.zero_add]; simp [show i < n by omega, e i (by omega)]⟩
theorem Cof.of_blk {w : World} {c : Nat} {l : List Nat} (h : Blk w c (l.map vi) 3) : Cof w c 0 l :=
  ⟨_, h, fun i hi => by rw [Nat.zero_add]; simp [hi]⟩
theorem Cof.far {w : World} {c o : Nat} {l : List Nat} (h : Cof w c o l) {p : Addr} (hp : c ≠ p.block) (v : Value) : Cof (w.setCell p v) c o l := by
  obtain ⟨cs, h1, h2⟩ := h
  exact ⟨cs, h1.far hp v, h2⟩
/-- Blocks of two types are two blocks. -/
theorem Blk.ne {w : World} {b b' : Nat} {cs cs' : List Value} {t t' : TypeId} (h : Blk w b cs t) (h' : Blk w b' cs' t') (ht : t ≠ t') : b ≠ b' := by
  rintro rfl
  unfold Blk at h h'
  rw [h] at h'
  injection h' with h'
  injection h' with _ h2
  exact ht h2

/-- A polynomial at block p over the field at block g. -/
structure Poly (w : World) (p g : Nat) (l : List Nat) : Prop where
  ex : ∃ c o cap, Blk w p [.pointer (some ⟨g, 0, none⟩), .slice (some ⟨c, o, none⟩) l.length cap] 309 ∧ Cof w c o l ∧ l.length ≤ cap
  nrm : QR.Nrm l
  byt : _root_.QR.Bytes l
theorem Poly.keep {w w' : World} {p g : Nat} {l : List Nat} (h : Poly w p g l) (hk : Keeps (fun _ => False) w w') : Poly w' p g l := by
  obtain ⟨⟨c, o, cap, h1, h2, h3⟩, h4, h5⟩ := h
  exact ⟨⟨c, o, cap, h1.keep hk (fun h => h), h2.keep hk (fun h => h), h3⟩, h4, h5⟩
theorem Poly.far {w : World} {p g q : Nat} {l : List Nat} {cs : List Value} {t : TypeId} (h : Poly w p g l) (hq : Blk w q cs t) (h1 : t ≠ 3) (h2 : t ≠ 309) (i : Nat) (v : Value) : Poly (w.setCell ⟨q, i, none⟩ v) p g l := by
  obtain ⟨⟨c, o, cap, k1, k2, k3⟩, h4, h5⟩ := h
  refine ⟨⟨c, o, cap, k1.far (k1.ne hq (Ne.symm h2)) v, k2.far ?_ v, k3⟩, h4, h5⟩
  obtain ⟨cs, k2, _⟩ := k2
  exact k2.ne hq (Ne.symm h1)
theorem Poly.lt {w : World} {p g : Nat} {l : List Nat} (h : Poly w p g l) : p < w.heap.size := by obtain ⟨⟨_, _, _, h, _⟩, _⟩ := h; exact h.lt

set_option maxRecDepth 100000 in
set_option maxHeartbeats 400000 in
theorem newPoly_ok (g c o cap n : Nat) (l : List Nat) (w : World) (h : Cof w c o l) (hn : n = l.length) (hl : 0 < l.length) (hcap : n ≤ cap) (hb : _root_.QR.Bytes l) (hm : n ≤ 100000) :
    Calls Tryz.prog 157 #[.pointer (some ⟨g, 0, none⟩), .slice (some ⟨c, o, none⟩) n cap] w fun e w' => ∃ p, e = .returned (.tuple #[.pointer (some ⟨p, 0, none⟩), .nilIface]) ∧ Poly w' p g (QR.strip l) ∧ Keeps (fun _ => False) w w' ∧ w.heap.size ≤ p := by
  have hcl := h.lt
  have h0 : w.cell? ⟨c, o, none⟩ = some (.int .i64 ((l.getD 0 0 : Nat) : Int)) := h.cell hl
  obtain ⟨a, ha⟩ : ∃ a, l.getD 0 0 = a := ⟨_, rfl⟩
  rw [ha] at h0
  have HC := Lib.hid h
  have HB := Lib.hid hb
  have HA := Lib.hid ha
  have HNL := Lib.hid hn
  clear h hb ha
  have hn1 : 0 < n := by omega
  have dn : (decide ((n : Int) = 0)) = false := decide_eq_false (by omega)
  have dn2 : ((n : Int) == 0) = false := by simp; omega
  clear hn hl
  by_cases hs : n = 1 ∨ a ≠ 0
  · have hnrm : QR.Nrm l := ⟨by intro e; have := HNL.out; rw [e] at this; simp at this; omega, by rcases hs with e | e; exact Or.inl (by rw [← HNL.out]; exact e); exact Or.inr (by rw [HA.out]; exact e)⟩
    have fin : Poly (w.alloc (.cells #[.pointer (some ⟨g, 0, none⟩), .slice (some ⟨c, o, none⟩) n cap] 309)) w.heap.size g (QR.strip l) := by
      rw [QR.strip_of_nrm hnrm]
      exact ⟨⟨c, o, cap, by rw [← HNL.out]; exact Blk.new w [.pointer (some ⟨g, 0, none⟩), .slice (some ⟨c, o, none⟩) n cap] 309, HC.out.alloc _, by rw [← HNL.out]; exact hcap⟩, hnrm, HB.out⟩
    have F := Lib.hid fin
    clear fin hnrm
    by_cases h1 : n = 1
    · subst h1
      clear hs
      go_enter Tryz.func157, Tryz.ntmps157
      go_wp2
      go_ret2
      exact ⟨_, rfl, F.out, (Keeps.refl _ w).alloc _, Nat.le_refl _⟩
    · have ha0 : a ≠ 0 := by rcases hs with h | h; exact absurd h h1; exact h
      have d1 : (decide ((1 : Int) < (n : Int))) = true := decide_eq_true (by omega)
      have d2 : ((a : Int) == 0) = false := by simp; omega
      clear hs
      go_enter Tryz.func157, Tryz.ntmps157
      go_wp2
      go_ret2
      exact ⟨_, rfl, F.out, (Keeps.refl _ w).alloc _, Nat.le_refl _⟩
  · have h1 : n ≠ 1 := fun e => hs (Or.inl e)
    have ha0 : a = 0 := by by_cases e : a = 0; exact e; exact absurd (Or.inr e) hs
    clear hs
    subst ha0
    have d1 : (decide ((1 : Int) < (n : Int))) = true := decide_eq_true (by omega)
    go_enter Tryz.func157, Tryz.ntmps157
    go_wp2_with fail
    go_loop [8] (fun i => ∃ k : Nat, 1 ≤ k ∧ k ≤ n ∧ i = .int .i64 (k : Int) ∧ Hid (∀ j, j < k → l.getD j 0 = 0)) (fun i => n - (intOf i).toNat)
    case atStart => exact ⟨1, by omega, by omega, rfl, Lib.hid (fun j hj => by
      have e : j = 0 := by omega
      rw [e]; exact HA.out)⟩
    case round =>
      obtain ⟨k, k1, k2, rfl, HK⟩ := hrel
      by_cases hlt : k < n
      · have hc := HC.out.cell (i := k) (by rw [← HNL.out]; exact hlt)
        obtain ⟨x, hx⟩ : ∃ x, l.getD k 0 = x := ⟨_, rfl⟩
        rw [hx] at hc
        have HX := Lib.hid hx
        clear hx
        have hlt' := Int.ofNat_lt.2 hlt
        by_cases hx0 : x = 0
        · subst hx0
          go_wp2
          go_round
          case rel => exact ⟨k + 1, by omega, by omega, by go_num, Lib.hid (fun j hj => by
              by_cases e : j = k
              · rw [e]; exact HX.out
              · exact HK.out j (by omega))⟩
          case measure => simp [intOf]; omega
        · have d2 : ((x : Int) == 0) = false := by simp; omega
          have d3 : ((k : Int) == (n : Int)) = false := by simp; omega
          have hst : QR.strip l = l.drop k := QR.strip_drop (by rw [← HNL.out]; exact hlt) HK.out (by rw [HX.out]; exact hx0)
          have hfin : ∀ v, v = n - k → Poly (w.alloc (.cells #[.pointer (some ⟨g, 0, none⟩), .slice (some ⟨c, o + k, none⟩) v (cap - k)] 309)) w.heap.size g (QR.strip l) := fun v hv => by
            refine ⟨?_, QR.strip_nrm l, QR.strip_bytes HB.out⟩
            rw [hst]
            refine ⟨c, o + k, cap - k, ?_, (HC.out.drop k).alloc _, by rw [List.length_drop, ← HNL.out]; omega⟩
            rw [List.length_drop, ← HNL.out, ← hv]
            exact Blk.new w [.pointer (some ⟨g, 0, none⟩), .slice (some ⟨c, o + k, none⟩) v (cap - k)] 309
          have F := Lib.hid hfin
          clear hst hfin
          go_wp2
          go_ret2
          have HS := F.out (n - k) rfl
          exact ⟨_, rfl, HS, (Keeps.refl _ w).alloc _, Nat.le_refl _⟩
      · obtain rfl : k = n := by omega
        have hst : QR.strip l = [0] := QR.strip_zeros (fun i hi => HK.out i (by rw [HNL.out]; exact hi))
        have HST := Lib.hid hst
        clear hst
        go_wp2
        go_ret2
        refine ⟨_, rfl, ?_, ((Keeps.refl _ w).alloc _).alloc _, Nat.le_refl _⟩
        rw [HST.out]
        refine ⟨⟨w.heap.size + 1, 0, 1, ?_, ?_, Nat.le_refl _⟩, ⟨by simp, Or.inl rfl⟩, fun c hc => by simp at hc; omega⟩
        · exact (Blk.new w [.pointer (some ⟨g, 0, none⟩), .slice (some ⟨w.heap.size + 1, 0, none⟩) 1 1] 309).alloc _
        · refine Cof.of_blk ?_
          have h := Blk.new (w.alloc (.cells #[.pointer (some ⟨g, 0, none⟩), .slice (some ⟨w.heap.size + 1, 0, none⟩) 1 1] 309)) [.int .i64 0] 3
          simpa [vi] using h

end Go.Proofs.YtplpafbkalkchaaGreatDoor

namespace Go.Proofs.YtplpafbkalkchaaGreatDoor
open Go.RowKit

theorem info3 : (Tryz.prog.info? 3).map (fun i => (i.zero, i.size, i.bytes)) = some (some (.int .i64 0), 1, 8) := by kernel_rfl

namespace QR
open _root_.QR
def chkE : Bool := (List.range 256).all fun k => expT.getD k 0 == dblN k 1
theorem chkE_ok : chkE = true := by decide +kernel
def chkL : Bool := (List.range 255).all fun k => logT.getD (dblN k 1) 0 == k
theorem chkL_ok : chkL = true := by decide +kernel
theorem expT_eq {k : Nat} (h : k < 256) : expT.getD k 0 = dblN k 1 := by simpa using all_range chkE_ok h
theorem logT_dbl {k : Nat} (h : k < 255) : logT.getD (dblN k 1) 0 = k := by simpa using all_range chkL_ok h
theorem dblN_ne {k : Nat} : dblN k 1 ≠ 0 := by
  intro h
  have := dblN_mod k (show 1 < 256 by omega)
  rw [h] at this
  have h2 := logT_dbl (Nat.mod_lt k (show 0 < 255 by omega))
  rw [this] at h2
  have h0 : logT.getD 0 0 = 0 := by decide +kernel
  rw [h0] at h2
  rw [← h2] at this
  simp [dblN] at this
theorem logT_zero : logT.getD 0 0 = 0 := by decide +kernel
end QR

theorem xor_i64 {x y : Nat} (hx : x < 2 ^ 62) (hy : y < 2 ^ 62) : bits .xor .i64 (x : Int) (y : Int) = ((x ^^^ y : Nat) : Int) := by
  have hl : x ^^^ y < 2 ^ 62 := Nat.xor_lt_two_pow hx hy
  have h1 : (BitVec.ofInt 64 (x : Int)).toNat = x := by
    rw [BitVec.ofInt_natCast, BitVec.toNat_ofNat]; exact Nat.mod_eq_of_lt (by omega)
  have h2 : (BitVec.ofInt 64 (y : Int)).toNat = y := by
    rw [BitVec.ofInt_natCast, BitVec.toNat_ofNat]; exact Nat.mod_eq_of_lt (by omega)
  show IntKind.i64.wrap ((BitVec.ofInt 64 (x : Int) ^^^ BitVec.ofInt 64 (y : Int)).toNat : Int) = _
  rw [BitVec.toNat_xor, h1, h2, wraps_i64 _ (by omega) (by omega)]
theorem dbl_bits {x : Nat} (h : x < 256) (h2 : 256 ≤ x * 2) : bits .and .i64 (bits .xor .i64 ((x : Int) * 2) 285) 255 = ((QR.dbl x : Nat) : Int) := by
  have e1 : ((x : Int) * 2) = ((x * 2 : Nat) : Int) := by omega
  rw [e1, show (285 : Int) = ((285 : Nat) : Int) from rfl, xor_i64 (by omega) (by omega)]
  have hlt : x * 2 ^^^ 285 < 512 := Nat.xor_lt_two_pow (n := 9) (by omega) (by omega)
  have := (bits_nat .i64 62 (by decide) wraps_i64 (x * 2 ^^^ 285) 255 (by omega) (by omega)).1
  rw [show (255 : Int) = ((255 : Nat) : Int) from rfl, this]
  unfold QR.dbl; rw [if_pos h2]

/-- The field's tables, while they are made. -/
structure FMake (w wr : World) (g : Nat) (k j : Nat) : Prop where
  head : Blk wr g [.slice none 0 0, .slice none 0 0, .pointer none, .pointer none, .int .i64 256, .int .i64 285, .int .i64 0] 267
  exp : FB wr (g + 1) 256 (fun i => vi (if i < k then QR.dblN i 1 else 0)) 3
  log : FB wr (g + 2) 256 (fun i => vi (if i ≠ 0 ∧ QR.logT.getD i 0 < j then QR.logT.getD i 0 else 0)) 3
  keep : Keeps (fun _ => False) w wr
  new : w.heap.size ≤ g

/-- The field at block g. -/
structure Fld (w : World) (g : Nat) : Prop where
  ex : ∃ e l z o, Blk w g [.slice (some ⟨e, 0, none⟩) 256 256, .slice (some ⟨l, 0, none⟩) 256 256, .pointer (some ⟨z, 0, none⟩), .pointer (some ⟨o, 0, none⟩), .int .i64 256, .int .i64 285, .int .i64 0] 267 ∧
    FB w e 256 (fun i => vi (QR.expT.getD i 0)) 3 ∧ FB w l 256 (fun i => vi (QR.logT.getD i 0)) 3 ∧ Poly w z g [0]
theorem Fld.keep {w w' : World} {g : Nat} (h : Fld w g) (hk : Keeps (fun _ => False) w w') : Fld w' g := by
  obtain ⟨⟨e, l, z, o, h1, h2, h3, h4⟩⟩ := h
  exact ⟨⟨e, l, z, o, h1.keep hk (fun h => h), h2.keep hk (fun h => h), h3.keep hk (fun h => h), h4.keep hk⟩⟩

set_option maxRecDepth 100000 in
set_option maxHeartbeats 800000 in
theorem newField_ok (w : World) : Calls Tryz.prog 130 #[.int .i64 285, .int .i64 256, .int .i64 0] w fun e w' => ∃ g, e = .returned (.pointer (some ⟨g, 0, none⟩)) ∧ Fld w' g ∧ Keeps (fun _ => False) w w' ∧ w.heap.size ≤ g := by
  have hmk : ∀ w : World, (Instr.makeSlice 157 (.int .i64 256) (.int .i64 256)).run Tryz.prog w = .ok (.slice (some ⟨w.heap.size, 0, none⟩) 256 256) (w.alloc (.cells (rep 256 (.int .i64 0)).toArray 3)) :=
    fun w => make_rep (P := Tryz.prog) 157 3 (.int .i64 0) 8 Tryz.underlying157 info3 rfl 256 (by omega) (by omega) w
  have h0 : FMake w (((w.alloc (.cells #[.slice none 0 0, .slice none 0 0, .pointer none, .pointer none, .int .i64 256, .int .i64 285, .int .i64 0] 267)).alloc (.cells (rep 256 (.int .i64 0)).toArray 3)).alloc (.cells (rep 256 (.int .i64 0)).toArray 3)) w.heap.size 0 0 := by
    refine ⟨((Blk.new w [.slice none 0 0, .slice none 0 0, .pointer none, .pointer none, .int .i64 256, .int .i64 285, .int .i64 0] 267).alloc _).alloc _, ?_, ?_, (((Keeps.refl _ w).alloc _).alloc _).alloc _, Nat.le_refl _⟩
    · have h := (FB.new (w.alloc (.cells #[.slice none 0 0, .slice none 0 0, .pointer none, .pointer none, .int .i64 256, .int .i64 285, .int .i64 0] 267)) 256 (.int .i64 0) 3).alloc (.cells (rep 256 (.int .i64 0)).toArray 3)
      have e : (w.alloc (.cells #[.slice none 0 0, .slice none 0 0, .pointer none, .pointer none, .int .i64 256, .int .i64 285, .int .i64 0] 267)).heap.size = w.heap.size + 1 := by simp
      rw [e] at h
      exact h.congr (fun i _ => by simp [vi])
    · have h := (FB.new ((w.alloc (.cells #[.slice none 0 0, .slice none 0 0, .pointer none, .pointer none, .int .i64 256, .int .i64 285, .int .i64 0] 267)).alloc (.cells (rep 256 (.int .i64 0)).toArray 3)) 256 (.int .i64 0) 3)
      have e : ((w.alloc (.cells #[.slice none 0 0, .slice none 0 0, .pointer none, .pointer none, .int .i64 256, .int .i64 285, .int .i64 0] 267)).alloc (.cells (rep 256 (.int .i64 0)).toArray 3)).heap.size = w.heap.size + 2 := by simp
      rw [e] at h
      exact h.congr (fun i _ => by simp [vi])
  have hm1 := hmk (w.alloc (.cells #[.slice none 0 0, .slice none 0 0, .pointer none, .pointer none, .int .i64 256, .int .i64 285, .int .i64 0] 267))
  have hm2 := hmk ((w.alloc (.cells #[.slice none 0 0, .slice none 0 0, .pointer none, .pointer none, .int .i64 256, .int .i64 285, .int .i64 0] 267)).alloc (.cells (rep 256 (.int .i64 0)).toArray 3))
  have H0 := Lib.hid h0
  clear hmk h0
  generalize hg : w.heap.size = g at H0
  have HG := Lib.hid hg
  go_enter Tryz.func130, Tryz.ntmps130
  go_wp2_with fail
  clear hm1 hm2
  go_loopw [10, 11] (fun x i wr => ∃ k y : Nat, k ≤ 256 ∧ i = .int .i64 (k : Int) ∧ x = .int .i64 (y : Int) ∧ y < 256 ∧ Hid (y = QR.dblN k 1) ∧ FMake w wr g k 0) (fun _ i _ => 256 - (intOf i).toNat)
  case atStart => exact ⟨0, 1, by omega, rfl, rfl, by omega, Lib.hid rfl, H0.out⟩
  case round =>
    obtain ⟨k, y, k1, rfl, rfl, hy, HY, r1⟩ := hrel
    have R1 := Lib.hid r1
    by_cases hlt : k < 256
    · have a1 := r1.exp.cell hlt
      have a2 := r1.exp.free k
      unfold vi at a1
      have hset : FMake w (wr.setCell ⟨g + 1, k, none⟩ (.int .i64 (y : Int))) g (k + 1) 0 := by
        refine ⟨r1.head.far (by show g ≠ g + 1; omega) _, r1.exp.set k _ (fun j _ => ?_), r1.log.far (by show g + 2 ≠ g + 1; omega) _, r1.keep.setCell (Or.inr (by have := r1.new; show _ ≤ g + 1; omega)) _, r1.new⟩
        by_cases e : j = k
        · subst e; simp [vi, HY.out]
        · have h2 : (j < k + 1) ↔ (j < k) := by omega
          simp only [e, if_false, h2]
      have HS := Lib.hid hset
      clear r1 hset
      have hlt' : ((k : Nat) : Int) < 256 := by omega
      generalize (if k < k then QR.dblN k 1 else 0) = old at a1
      by_cases hd : 256 ≤ y * 2
      · have d1 : decide ((256 : Int) ≤ (y : Int) * 2) = true := decide_eq_true (by omega)
        have hb := Lib.hid (dbl_bits hy hd)
        go_wp2
        go_roundw
        case rel =>
          rw [hb.out]
          exact ⟨k + 1, QR.dbl y, by omega, by go_num, rfl, QR.dbl_lt hy, Lib.hid (by rw [HY.out]; rfl), HS.out⟩
        case measure => simp [intOf]; omega
      · have d1 : decide ((256 : Int) ≤ (y : Int) * 2) = false := decide_eq_false (by omega)
        go_wp2
        go_roundw
        case rel => exact ⟨k + 1, y * 2, by omega, by go_num, by go_num, by omega, Lib.hid (by simp only [QR.dblN]; rw [← HY.out]; unfold QR.dbl; rw [if_neg hd]), HS.out⟩
        case measure => simp [intOf]; omega
    · obtain rfl : k = 256 := by omega
      clear r1
      go_wp2_with fail
      go_loopw [12] (fun i wr => ∃ k : Nat, k ≤ 255 ∧ i = .int .i64 (k : Int) ∧ FMake w wr g 256 k) (fun i _ => 255 - (intOf i).toNat)
      case atStart => exact ⟨0, by omega, rfl, R1.out⟩
      case round =>
        obtain ⟨k, k1, rfl, r1⟩ := hrel
        have R1 := Lib.hid r1
        by_cases hlt : k < 255
        · have a1 := r1.exp.cell (i := k) (by omega)
          rw [if_pos (show k < 256 by omega)] at a1
          unfold vi at a1
          have hyl : QR.dblN k 1 < 256 := QR.dblN_lt k (by omega)
          have hy0 := QR.dblN_ne (k := k)
          have hyl2 := QR.logT_dbl hlt
          obtain ⟨y, hy⟩ : ∃ y, QR.dblN k 1 = y := ⟨_, rfl⟩
          rw [hy] at a1 hyl hy0 hyl2
          have a2 := r1.log.cell (i := y) hyl
          have a3 := r1.log.free y
          unfold vi at a2
          have hset : FMake w (wr.setCell ⟨g + 2, y, none⟩ (.int .i64 (k : Int))) g 256 (k + 1) := by
            refine ⟨r1.head.far (by show g ≠ g + 2; omega) _, r1.exp.far (by show g + 1 ≠ g + 2; omega) _, r1.log.set y _ (fun j hj => ?_), r1.keep.setCell (Or.inr (by have := r1.new; show _ ≤ g + 2; omega)) _, r1.new⟩
            by_cases e : j = y
            · subst e
              rw [if_pos rfl, if_pos ⟨hy0, by rw [hyl2]; omega⟩, hyl2]; rfl
            · have h2 : (j ≠ 0 ∧ QR.logT.getD j 0 < k + 1) ↔ (j ≠ 0 ∧ QR.logT.getD j 0 < k) := by
                constructor
                · rintro ⟨h1, h2⟩
                  refine ⟨h1, ?_⟩
                  by_cases e2 : QR.logT.getD j 0 = k
                  · exact absurd (by rw [← hy, ← e2, (QR.log_spec hj h1).1]) e
                  · omega
                · rintro ⟨h1, h2⟩; exact ⟨h1, by omega⟩
              simp only [e, if_false, h2]
          have HS := Lib.hid hset
          clear r1 hset hy0 hyl2 hy
          have hlt' : ((k : Nat) : Int) < 256 := by omega
          have hyl' : ((y : Nat) : Int) < 256 := by omega
          generalize (if y ≠ 0 ∧ QR.logT.getD y 0 < k then QR.logT.getD y 0 else 0) = old at a2
          go_wp2
          go_roundw
          case rel => exact ⟨k + 1, by omega, by go_num, HS.out⟩
          case measure => simp [intOf]; omega
        · obtain rfl : k = 255 := by omega
          clear r1
          have hgl := R1.out.head.lt
          have b0 := R1.out.head.cell (i := 0) rfl
          have b1 := R1.out.head.cell (i := 1) rfl
          have b2 := R1.out.head.cell (i := 2) rfl
          have b3 := R1.out.head.cell (i := 3) rfl
          have f0 := R1.out.head.free 0
          have f1 := R1.out.head.free 1
          have f2 := R1.out.head.free 2
          have f3 := R1.out.head.free 3
          have hH := (((R1.out.head.set 0 (.slice (some ⟨g + 1, 0, none⟩) 256 256)).set 1 (.slice (some ⟨g + 2, 0, none⟩) 256 256)).alloc (.cells #[.int .i64 0] 3))
          have hE := ((R1.out.exp.far (p := ⟨g, 0, none⟩) (by show g + 1 ≠ g; omega) (.slice (some ⟨g + 1, 0, none⟩) 256 256)).far (p := ⟨g, 1, none⟩) (by show g + 1 ≠ g; omega) (.slice (some ⟨g + 2, 0, none⟩) 256 256)).alloc (.cells #[.int .i64 0] 3)
          have hL := ((R1.out.log.far (p := ⟨g, 0, none⟩) (by show g + 2 ≠ g; omega) (.slice (some ⟨g + 1, 0, none⟩) 256 256)).far (p := ⟨g, 1, none⟩) (by show g + 2 ≠ g; omega) (.slice (some ⟨g + 2, 0, none⟩) 256 256)).alloc (.cells #[.int .i64 0] 3)
          have hK := ((R1.out.keep.setCell (p := ⟨g, 0, none⟩) (Or.inr R1.out.new) (.slice (some ⟨g + 1, 0, none⟩) 256 256)).setCell (p := ⟨g, 1, none⟩) (Or.inr R1.out.new) (.slice (some ⟨g + 2, 0, none⟩) 256 256)).alloc (.cells #[.int .i64 0] 3)
          have hC : Cof (((wr.setCell ⟨g, 0, none⟩ (.slice (some ⟨g + 1, 0, none⟩) 256 256)).setCell ⟨g, 1, none⟩ (.slice (some ⟨g + 2, 0, none⟩) 256 256)).alloc (.cells #[.int .i64 0] 3)) wr.heap.size 0 [0] := by
            refine Cof.of_blk ?_
            have h := Blk.new ((wr.setCell ⟨g, 0, none⟩ (.slice (some ⟨g + 1, 0, none⟩) 256 256)).setCell ⟨g, 1, none⟩ (.slice (some ⟨g + 2, 0, none⟩) 256 256)) [.int .i64 0] 3
            simpa [vi, World.setCell] using h
          have HH := Lib.hid hH
          have HE := Lib.hid hE
          have HL := Lib.hid hL
          have HK := Lib.hid hK
          have HC := Lib.hid hC
          clear hH hE hL hK hC H0
          go_wp2_with fail
          refine (newPoly_ok g wr.heap.size 0 1 1 [0] _ HC.out rfl (by simp) (by omega) (by intro c hc; simp at hc; omega) (by omega)).mono ?_
          rintro e w2 ⟨z, rfl, z1, z2, z3⟩
          have hB := HH.out.keep z2 (fun h => h)
          have KB := Lib.hid hB
          have KE := Lib.hid (HE.out.keep z2 (fun h => h))
          have KL := Lib.hid (HL.out.keep z2 (fun h => h))
          have KK := Lib.hid (HK.out.trans z2)
          have Z1 := Lib.hid z1
          have hgl2 := hB.lt
          have hzg : z ≠ g := by have := R1.out.head.lt; simp [World.setCell] at z3; omega
          have c2 := hB.cell (i := 2) rfl
          have c3 := hB.cell (i := 3) rfl
          have e2 := hB.free 2
          have e3 := hB.free 3
          clear hB z1 z2 z3 b0 b1 b2 b3 f0 f1 f2 f3 HH HE HL HK HC
          have hH2 := ((KB.out.set 2 (.pointer (some ⟨z, 0, none⟩))).alloc (.cells #[.int .i64 1] 3))
          have hE2 := (KE.out.far (p := ⟨g, 2, none⟩) (by show g + 1 ≠ g; omega) (.pointer (some ⟨z, 0, none⟩))).alloc (.cells #[.int .i64 1] 3)
          have hL2 := (KL.out.far (p := ⟨g, 2, none⟩) (by show g + 2 ≠ g; omega) (.pointer (some ⟨z, 0, none⟩))).alloc (.cells #[.int .i64 1] 3)
          have hK2 := (KK.out.setCell (p := ⟨g, 2, none⟩) (Or.inr R1.out.new) (.pointer (some ⟨z, 0, none⟩))).alloc (.cells #[.int .i64 1] 3)
          have hZ2 := (Z1.out.far KB.out (by decide) (by decide) 2 (.pointer (some ⟨z, 0, none⟩))).keep ((Keeps.refl _ _).alloc (.cells #[.int .i64 1] 3))
          have hC2 : Cof ((w2.setCell ⟨g, 2, none⟩ (.pointer (some ⟨z, 0, none⟩))).alloc (.cells #[.int .i64 1] 3)) w2.heap.size 0 [1] := by
            refine Cof.of_blk ?_
            have h := Blk.new (w2.setCell ⟨g, 2, none⟩ (.pointer (some ⟨z, 0, none⟩))) [.int .i64 1] 3
            simpa [vi, World.setCell] using h
          have HH := Lib.hid hH2
          have HE := Lib.hid hE2
          have HL := Lib.hid hL2
          have HK := Lib.hid hK2
          have HC := Lib.hid hC2
          have HZ := Lib.hid hZ2
          clear hH2 hE2 hL2 hK2 hC2 hZ2
          go_wp2_with fail
          refine (newPoly_ok g w2.heap.size 0 1 1 [1] _ HC.out rfl (by simp) (by omega) (by intro c hc; simp at hc; omega) (by omega)).mono ?_
          rintro e w3 ⟨o, rfl, z1, z2, z3⟩
          have hB := HH.out.keep z2 (fun h => h)
          have F := Lib.hid (show Fld (w3.setCell ⟨g, 3, none⟩ (.pointer (some ⟨o, 0, none⟩))) g from ⟨⟨g + 1, g + 2, z, o, hB.set 3 (.pointer (some ⟨o, 0, none⟩)),
            ((HE.out.keep z2 (fun h => h)).congr (fun i hi => by simp only [if_pos hi, QR.expT_eq hi])).far (p := ⟨g, 3, none⟩) (by show g + 1 ≠ g; omega) _,
            ((HL.out.keep z2 (fun h => h)).congr (fun i hi => by
              by_cases e : i = 0
              · subst e; rw [if_neg (fun h => h.1 rfl), QR.logT_zero]
              · rw [if_pos ⟨e, (QR.log_spec hi e).2⟩])).far (p := ⟨g, 3, none⟩) (by show g + 2 ≠ g; omega) _,
            (HZ.out.keep z2).far hB (by decide) (by decide) 3 _⟩⟩)
          have KK2 := Lib.hid ((HK.out.trans z2).setCell (p := ⟨g, 3, none⟩) (Or.inr R1.out.new) (.pointer (some ⟨o, 0, none⟩)))
          have hgl3 := hB.lt
          have d3 := hB.cell (i := 3) rfl
          have q3 := hB.free 3
          clear hB z1 z2 z3 c2 c3 e2 e3
          go_wp2
          go_ret
          exact ⟨g, rfl, F.out, KK2.out, HG.out ▸ Nat.le_refl _⟩

set_option maxRecDepth 100000 in
theorem qrField_ok (w : World) : Calls Tryz.prog 93 #[] w fun e w' => ∃ g, e = .returned (.pointer (some ⟨g, 0, none⟩)) ∧ Fld w' g ∧ Keeps (fun _ => False) w w' ∧ w.heap.size ≤ g := by
  go_enter Tryz.func93, Tryz.ntmps93
  go_wp2_with fail
  refine (newField_ok w).mono ?_
  rintro e w1 ⟨g, rfl, h⟩
  have H := Lib.hid h
  clear h
  go_wp2
  go_ret
  exact ⟨g, rfl, H.out⟩

end Go.Proofs.YtplpafbkalkchaaGreatDoor

namespace Go.Proofs.YtplpafbkalkchaaGreatDoor
open Go.RowKit

theorem Fld.drewN {w : World} {g : Nat} (h : Fld w g) (n : Nat) : Fld (w.drewN n) g := h.keep ((Keeps.refl _ w).drewN n)
theorem Fld.drew {w : World} {g : Nat} (h : Fld w g) : Fld w.drew g := h.keep ((Keeps.refl _ w).drew)
theorem Poly.drew {w : World} {p g : Nat} {l : List Nat} (h : Poly w p g l) : Poly w.drew p g l := h.keep ((Keeps.refl _ w).drew)
theorem Poly.drewN {w : World} {p g : Nat} {l : List Nat} (h : Poly w p g l) (n : Nat) : Poly (w.drewN n) p g l := h.keep ((Keeps.refl _ w).drewN n)

set_option maxRecDepth 100000 in
set_option maxHeartbeats 400000 in
theorem gfMul_ok (g a b : Nat) (w : World) (h : Fld w g) (ha : a < 256) (hb : b < 256) : Calls Tryz.prog 212 #[.pointer (some ⟨g, 0, none⟩), .int .i64 (a : Int), .int .i64 (b : Int)] w fun e w' =>
    e = .returned (.int .i64 (QR.gmul a b : Int)) ∧ ∃ m, w' = w.drewN m := by
  obtain ⟨⟨e, l, z, o, h1, h2, h3, h4⟩⟩ := h
  by_cases h0 : a = 0 ∨ b = 0
  · have hz : QR.gmul a b = 0 := by unfold QR.gmul; rw [if_pos h0]
    have HZ := Lib.hid hz
    clear hz h1 h2 h3 h4
    rcases h0 with rfl | rfl
    · go_enter Tryz.func212, Tryz.ntmps212
      go_wp2
      go_ret
      exact ⟨ret_int (by rw [HZ.out]; rfl), 0, rfl⟩
    · by_cases ha0 : a = 0
      · subst ha0
        go_enter Tryz.func212, Tryz.ntmps212
        go_wp2
        go_ret
        exact ⟨ret_int (by rw [HZ.out]; rfl), 0, rfl⟩
      · have d1 : ((a : Int) == 0) = false := by simp; omega
        go_enter Tryz.func212, Tryz.ntmps212
        go_wp2
        go_ret
        exact ⟨ret_int (by rw [HZ.out]; rfl), 0, rfl⟩
  · have d1 : ((a : Int) == 0) = false := by simp; omega
    have d2 : ((b : Int) == 0) = false := by simp; omega
    have e1 := h1.cell (i := 0) rfl
    have e2 := h1.cell (i := 1) rfl
    have e3 := h1.cell (i := 4) rfl
    obtain ⟨x, hx⟩ : ∃ x, QR.logT.getD a 0 = x := ⟨_, rfl⟩
    obtain ⟨y, hy⟩ : ∃ y, QR.logT.getD b 0 = y := ⟨_, rfl⟩
    have hx255 : x < 255 := by rw [← hx]; exact (QR.log_spec ha (by omega)).2
    have hy255 : y < 255 := by rw [← hy]; exact (QR.log_spec hb (by omega)).2
    have l1 := h3.cellv ha (v := .int .i64 (x : Int)) (by rw [hx]; rfl)
    have l2 := h3.cellv hb (v := .int .i64 (y : Int)) (by rw [hy]; rfl)
    have hr255 : (x + y) % 255 < 255 := Nat.mod_lt _ (by omega)
    obtain ⟨v, hv⟩ : ∃ v, QR.expT.getD ((x + y) % 255) 0 = v := ⟨_, rfl⟩
    have l3 := h2.cellv (i := (x + y) % 255) (by omega) (v := .int .i64 (v : Int)) (by rw [hv]; rfl)
    have hg : QR.gmul a b = v := by unfold QR.gmul; rw [if_neg h0, hx, hy, hv]
    have HG := Lib.hid hg
    have ha' : (a : Int) < 256 := by omega
    have hb' : (b : Int) < 256 := by omega
    clear hg hx hy hv h1 h2 h3 h4 h0
    go_enter Tryz.func212, Tryz.ntmps212
    go_wp2_with fail
    go_region
    all_goals go_wp2
    all_goals
      go_ret
      exact ⟨ret_int (by rw [HG.out]), 1, rfl⟩

set_option maxRecDepth 100000 in
theorem gfExp_ok (g a : Nat) (w : World) (h : Fld w g) (ha : a < 256) (A : Int) (hA : A = (a : Int)) : Calls Tryz.prog 208 #[.pointer (some ⟨g, 0, none⟩), .int .i64 A] w fun e w' => e = .returned (.int .i64 (QR.expT.getD a 0 : Nat)) ∧ w = w' := by
  subst hA
  obtain ⟨⟨e, l, z, o, h1, h2, h3, h4⟩⟩ := h
  have e1 := h1.cell (i := 0) rfl
  obtain ⟨x, hx⟩ : ∃ x, QR.expT.getD a 0 = x := ⟨_, rfl⟩
  have l1 := h2.cellv ha (v := .int .i64 (x : Int)) (by rw [hx]; rfl)
  rw [hx]
  have ha' : (a : Int) < 256 := by omega
  clear h1 h2 h3 h4 hx
  go_enter Tryz.func208, Tryz.ntmps208
  go_wp2
  go_ret
  exact ⟨rfl, rfl⟩
set_option maxRecDepth 100000 in
theorem gfBase_ok (g : Nat) (w : World) (h : Fld w g) : Calls Tryz.prog 209 #[.pointer (some ⟨g, 0, none⟩)] w fun e w' => e = .returned (.int .i64 0) ∧ w = w' := by
  obtain ⟨⟨e, l, z, o, h1, h2, h3, h4⟩⟩ := h
  have e1 := h1.cell (i := 6) rfl
  clear h1 h2 h3 h4
  go_enter Tryz.func209, Tryz.ntmps209
  go_wp2
  go_ret
  exact ⟨rfl, rfl⟩
set_option maxRecDepth 100000 in
theorem gfZero_ok (g : Nat) (w : World) (h : Fld w g) : Calls Tryz.prog 211 #[.pointer (some ⟨g, 0, none⟩)] w fun e w' => ∃ z, e = .returned (.pointer (some ⟨z, 0, none⟩)) ∧ Poly w z g [0] ∧ w = w' := by
  obtain ⟨⟨e, l, z, o, h1, h2, h3, h4⟩⟩ := h
  have e1 := h1.cell (i := 2) rfl
  have H4 := Lib.hid h4
  clear h1 h2 h3 h4
  go_enter Tryz.func211, Tryz.ntmps211
  go_wp2
  go_ret
  exact ⟨z, rfl, H4.out, rfl⟩
set_option maxRecDepth 100000 in
theorem gfInv1_ok (g : Nat) (w : World) (h : Fld w g) : Calls Tryz.prog 216 #[.pointer (some ⟨g, 0, none⟩), .int .i64 1] w fun e w' => e = .returned (.tuple #[.int .i64 1, .nilIface]) ∧ ∃ m, w' = w.drewN m := by
  obtain ⟨⟨e, l, z, o, h1, h2, h3, h4⟩⟩ := h
  have e1 := h1.cell (i := 0) rfl
  have e2 := h1.cell (i := 1) rfl
  have e3 := h1.cell (i := 4) rfl
  have l1 : w.cell? ⟨l, 1, none⟩ = some (.int .i64 0) := h3.cellv (i := 1) (by omega) (by rw [show QR.logT.getD 1 0 = 0 by decide +kernel]; rfl)
  have l2 : w.cell? ⟨e, 255, none⟩ = some (.int .i64 1) := h2.cellv (i := 255) (by omega) (by rw [show QR.expT.getD 255 0 = 1 by decide +kernel]; rfl)
  clear h1 h2 h3 h4
  go_enter Tryz.func216, Tryz.ntmps216
  go_wp2_with fail
  go_region
  all_goals go_wp2
  all_goals
    go_ret2
    exact ⟨rfl, 1, rfl⟩
set_option maxRecDepth 100000 in
theorem gfAdd_ok (a b : Nat) (w : World) (ha : a < 256) (hb : b < 256) : Calls Tryz.prog 253 #[.int .i64 (a : Int), .int .i64 (b : Int)] w fun e w' => e = .returned (.int .i64 (a ^^^ b : Nat)) ∧ w = w' := by
  have hx := xor_i64 (x := a) (y := b) (by omega) (by omega)
  go_enter Tryz.func253, Tryz.ntmps253
  go_wp2
  go_ret
  exact ⟨rfl, rfl⟩

theorem Poly.pos {w : World} {p g : Nat} {l : List Nat} (h : Poly w p g l) : 0 < l.length := by
  cases l with
  | nil => exact absurd rfl h.nrm.1
  | cons => simp
set_option maxRecDepth 100000 in
theorem polyIsZero_ok (p g : Nat) (l : List Nat) (w : World) (h : Poly w p g l) : Calls Tryz.prog 213 #[.pointer (some ⟨p, 0, none⟩)] w fun e w' => e = .returned (.bool ((l.getD 0 0) == 0)) ∧ w = w' := by
  have hl := h.pos
  obtain ⟨⟨c, o, cap, h1, h2, h3⟩, _, _⟩ := h
  have e1 := h1.cell (i := 1) rfl
  have e2 := h2.cell hl
  have hl' := Int.ofNat_lt.2 hl
  rw [Nat.add_zero] at e2
  generalize l.getD 0 0 = x at *
  have hx : ((x : Int) == 0) = (x == 0) := by rw [Bool.eq_iff_iff]; simp
  generalize l.length = n at *
  clear h1 h2
  go_enter Tryz.func213, Tryz.ntmps213
  go_wp2
  go_ret
  exact ⟨ret_bool (by rw [← hx]), rfl⟩
set_option maxRecDepth 100000 in
theorem polyDeg_ok (p g : Nat) (l : List Nat) (w : World) (h : Poly w p g l) (hm : l.length ≤ 100000) : Calls Tryz.prog 215 #[.pointer (some ⟨p, 0, none⟩)] w fun e w' => e = .returned (.int .i64 ((l.length : Int) - 1)) ∧ w = w' := by
  have hl := h.pos
  obtain ⟨⟨c, o, cap, h1, h2, h3⟩, _, _⟩ := h
  have e1 := h1.cell (i := 1) rfl
  generalize l.length = n at *
  clear h1 h2
  go_enter Tryz.func215, Tryz.ntmps215
  go_wp2
  go_ret
  exact ⟨rfl, rfl⟩
set_option maxRecDepth 100000 in
theorem polyLead_ok (p g : Nat) (l : List Nat) (w : World) (h : Poly w p g l) (hm : l.length ≤ 100000) (D : Int) (hD : D = (l.length : Int) - 1) : Calls Tryz.prog 214 #[.pointer (some ⟨p, 0, none⟩), .int .i64 D] w fun e w' =>
    e = .returned (.int .i64 (l.getD 0 0 : Nat)) ∧ ∃ m, w' = w.drewN m := by
  subst hD
  have hl := h.pos
  obtain ⟨⟨c, o, cap, h1, h2, h3⟩, _, _⟩ := h
  have e1 := h1.cell (i := 1) rfl
  have e2 := h2.cell hl
  rw [Nat.add_zero] at e2
  generalize l.getD 0 0 = x at *
  generalize l.length = n at *
  have hl' := Int.ofNat_lt.2 hl
  clear h1 h2
  go_enter Tryz.func214, Tryz.ntmps214
  go_wp2_with fail
  go_region
  all_goals go_wp2
  all_goals
    go_ret
    exact ⟨rfl, 1, rfl⟩
set_option maxRecDepth 100000 in
theorem polyCoef_ok (p g : Nat) (l : List Nat) (w : World) (h : Poly w p g l) : Calls Tryz.prog 177 #[.pointer (some ⟨p, 0, none⟩)] w fun e w' =>
    ∃ c o cap, e = .returned (.slice (some ⟨c, o, none⟩) l.length cap) ∧ Cof w c o l ∧ l.length ≤ cap ∧ w = w' := by
  obtain ⟨⟨c, o, cap, h1, h2, h3⟩, _, _⟩ := h
  have e1 := h1.cell (i := 1) rfl
  have H2 := Lib.hid h2
  have H3 := Lib.hid h3
  clear h1 h2 h3
  generalize hn : l.length = n at *
  have HN := Lib.hid hn
  clear hn
  go_enter Tryz.func177, Tryz.ntmps177
  go_wp2
  go_ret
  exact ⟨c, o, cap, rfl, H2.out, H3.out, rfl⟩

end Go.Proofs.YtplpafbkalkchaaGreatDoor
