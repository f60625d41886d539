/-
  Parts of the proof (Ver3, TX).
-/
import Derived.Test.YtplpafbkalkchaaGreatDoorM01
import Derived.Test.YtplpafbkalkchaaGreatDoorM12
import Derived.Test.YtplpafbkalkchaaGreatDoorM13
set_option linter.unusedSimpArgs false
set_option linter.unusedVariables false

namespace Go.Proofs.YtplpafbkalkchaaGreatDoor
open Go.RowKit

theorem grp_shape (v i : Nat) (h1 : 1 ≤ v) (h7 : v ≤ 7) (hi : i < 4) : ∃ p l, QR.grp v i = p :: l ∧ (l = [] ∨ ∃ q, l = [q]) ∧ (∀ x ∈ p :: l, x.1 ≤ 4 ∧ x.2 ≤ 108 ∧ 1 ≤ x.1 ∧ 9 ≤ x.2) ∧ QR.ecN v i ≤ 28 ∧ 7 ≤ QR.ecN v i := by
  obtain rfl | rfl | rfl | rfl | rfl | rfl | rfl : v = 1 ∨ v = 2 ∨ v = 3 ∨ v = 4 ∨ v = 5 ∨ v = 6 ∨ v = 7 := by omega
  all_goals
    obtain rfl | rfl | rfl | rfl : i = 0 ∨ i = 1 ∨ i = 2 ∨ i = 3 := by omega
  all_goals
    refine ⟨_, _, rfl, ?_, ?_, ?_, ?_⟩
    · first | exact Or.inl rfl | exact Or.inr ⟨_, rfl⟩
    · decide
    · decide
    · decide

set_option maxRecDepth 100000 in
set_option maxHeartbeats 400000 in
theorem numBlocks_ok (q o c v i : Nat) (w : World) (h : ECL w q o c v i) (h1 : 1 ≤ v) (h7 : v ≤ 7) (hi : i < 4) :
    Calls Tryz.prog 58 #[.pointer (some ⟨q, o, none⟩)] w fun e w' => e = .returned (.int .i64 (QR.numBlocks v i : Int)) ∧ Keeps (fun _ => False) w w' := by
  obtain ⟨p, l, hg, hl, hb, _, _⟩ := grp_shape v i h1 h7 hi
  have hsl := h.sl
  have hgr := h.grps
  have hnum : QR.numBlocks v i = ((p :: l).map (·.1)).sum := by unfold QR.numBlocks; rw [hg]
  rw [hg] at hsl hgr
  have HN := Lib.hid hnum
  have HGR := Lib.hid hgr
  clear h hg hnum
  obtain ⟨k, d⟩ := p
  have hk := (hb (k, d) (by simp)).1
  have hcl := hgr.lt
  have g0 : w.cell? ⟨c, 0, none⟩ = some (.int .i64 (k : Int)) := hgr.cell rfl
  have g1 : w.cell? ⟨c, 1, none⟩ = some (.int .i64 (d : Int)) := hgr.cell rfl
  clear hgr
  rcases hl with rfl | ⟨⟨k2, d2⟩, rfl⟩
  · have e : (([(k, d)] : List (Nat × Nat)).length) = 1 := rfl
    rw [e] at hsl
    clear hb
    go_enter Tryz.func58, Tryz.ntmps58
    go_wp2_with fail
    clear hsl
    go_loopw [3, 11] (fun t i wr => (i = .int .i64 0 ∧ t = .int .i64 0 ∧ wr = w) ∨ (i = .int .i64 1 ∧ t = .int .i64 (k : Int) ∧ Keeps (fun _ => False) w wr)) (fun _ i _ => 1 - (intOf i).toNat)
    case atStart => exact Or.inl ⟨rfl, rfl, rfl⟩
    case round =>
      rcases hrel with ⟨rfl, rfl, rfl⟩ | ⟨rfl, rfl, r1⟩
      · go_wp2_with (go_at_call 122; refine (getCount_ok k d _).mono ?_; rintro e w1 ⟨rfl, rfl⟩)
        go_roundw
        case rel => exact Or.inr ⟨rfl, rfl, (((Keeps.refl _ wr).alloc _).alloc _)⟩
        case measure => simp [intOf]
      · have R := Lib.hid r1
        clear r1
        go_wp2
        go_ret
        exact ⟨ret_int (by rw [HN.out]; simp), R.out⟩
  · have e : (([(k, d), (k2, d2)] : List (Nat × Nat)).length) = 2 := rfl
    rw [e] at hsl
    have hk2 := (hb (k2, d2) (by simp)).1
    have g2 : w.cell? ⟨c, 2, none⟩ = some (.int .i64 (k2 : Int)) := HGR.out.cell rfl
    have g3 : w.cell? ⟨c, 3, none⟩ = some (.int .i64 (d2 : Int)) := HGR.out.cell rfl
    clear hb
    simp only at hk hk2
    go_enter Tryz.func58, Tryz.ntmps58
    go_wp2_with fail
    clear hsl
    go_loopw [3, 11] (fun t i wr => (i = .int .i64 0 ∧ t = .int .i64 0 ∧ wr = w) ∨ (i = .int .i64 1 ∧ t = .int .i64 (k : Int) ∧ Keeps (fun _ => False) w wr) ∨ (i = .int .i64 2 ∧ t = .int .i64 ((k : Int) + (k2 : Int)) ∧ Keeps (fun _ => False) w wr)) (fun _ i _ => 2 - (intOf i).toNat)
    case atStart => exact Or.inl ⟨rfl, rfl, rfl⟩
    case round =>
      rcases hrel with ⟨rfl, rfl, rfl⟩ | ⟨rfl, rfl, r1⟩ | ⟨rfl, rfl, r1⟩
      · go_wp2_with (go_at_call 122; refine (getCount_ok k d _).mono ?_; rintro e w1 ⟨rfl, rfl⟩)
        go_roundw
        case rel => exact Or.inr (Or.inl ⟨rfl, rfl, (((Keeps.refl _ wr).alloc _).alloc _)⟩)
        case measure => simp [intOf]
      · have R := Lib.hid r1
        have G := HGR.out.keep r1 (fun h => h)
        have hcl2 := G.lt
        have g2' : wr.cell? ⟨c, 2, none⟩ = some (.int .i64 (k2 : Int)) := G.cell rfl
        have g3' : wr.cell? ⟨c, 3, none⟩ = some (.int .i64 (d2 : Int)) := G.cell rfl
        clear r1 G
        go_wp2_with (go_at_call 122; refine (getCount_ok k2 d2 _).mono ?_; rintro e w1 ⟨rfl, rfl⟩)
        go_roundw
        case rel => exact Or.inr (Or.inr ⟨rfl, rfl, ((R.out.alloc _).alloc _)⟩)
        case measure => simp [intOf]
      · have R := Lib.hid r1
        clear r1
        go_wp2
        go_ret
        exact ⟨ret_int (by rw [HN.out]; simp), R.out⟩

set_option maxRecDepth 100000 in
set_option maxHeartbeats 400000 in
theorem totalEC_ok (q o c v i : Nat) (w : World) (h : ECL w q o c v i) (h1 : 1 ≤ v) (h7 : v ≤ 7) (hi : i < 4) :
    Calls Tryz.prog 55 #[.pointer (some ⟨q, o, none⟩)] w fun e w' => e = .returned (.int .i64 ((QR.ecN v i * QR.numBlocks v i : Nat) : Int)) ∧ Keeps (fun _ => False) w w' := by
  obtain ⟨p, l, hg, hl, hb, he, _⟩ := grp_shape v i h1 h7 hi
  have hnb : QR.numBlocks v i ≤ 8 := by
    have hnum : QR.numBlocks v i = ((p :: l).map (·.1)).sum := by unfold QR.numBlocks; rw [hg]
    rw [hnum]
    rcases hl with rfl | ⟨q, rfl⟩
    · have := (hb p (by simp)).1; simp; omega
    · have := (hb p (by simp)).1; have := (hb q (by simp)).1; simp; omega
  have hn := h.num
  unfold vi at hn
  have hm : QR.ecN v i * QR.numBlocks v i ≤ 28 * 8 := Nat.mul_le_mul he hnb
  have HE := Lib.hid h
  clear h hb hg hl
  generalize hA : QR.ecN v i = A at *
  generalize hB : QR.numBlocks v i = B at *
  have HB := Lib.hid hB
  have hm1 : (A : Int) * (B : Int) ≤ 110000 := by rw [← Int.natCast_mul]; omega
  have hm2 : 0 ≤ (A : Int) * (B : Int) := by rw [← Int.natCast_mul]; omega
  clear hA hB hm
  go_enter Tryz.func55, Tryz.ntmps55
  go_wp2_with fail
  have HD := Lib.hid (show ECL w.drew q o c v i from HE.out.keep ((Keeps.refl (fun _ => False) w).drew) (fun h => h) (fun h => h))
  have hql := Lib.hid HE.out.ltq
  have HNQ := Lib.hid hn
  go_region_with (go_at_call 58; refine (numBlocks_ok q o c v i w.drew HD.out h1 h7 hi).mono ?_; rintro e w1 ⟨rfl, r1⟩; rw [HB.out]; have hn1 := (r1.cell (p := ⟨q, o, none⟩) hql.out (fun h => h)).trans HNQ.out; have R1 := Lib.hid r1; clear r1)
  all_goals go_wp2
  all_goals
    go_ret
    exact ⟨ret_int (by rw [Int.natCast_mul]; exact wraps_i64 _ hm2 (by omega)), (R1.out : Keeps _ w.drew _) |> fun h => ((Keeps.refl (fun _ => False) w).drew).trans h⟩

set_option maxRecDepth 100000 in
theorem modeBits_ok (m : Int) (w : World) : Calls Tryz.prog 104 #[.int .i64 m] w fun e w' => e = .returned (.int .i64 m) ∧ w = w' := by
  go_enter Tryz.func104, Tryz.ntmps104
  go_wp2
  go_ret
  exact ⟨rfl, rfl⟩
set_option maxRecDepth 100000 in
theorem levelBits_ok (m : Int) (w : World) : Calls Tryz.prog 189 #[.int .i64 m] w fun e w' => e = .returned (.int .i64 m) ∧ w = w' := by
  go_enter Tryz.func189, Tryz.ntmps189
  go_wp2
  go_ret
  exact ⟨rfl, rfl⟩

/-- How many bits tell the length, by the mode's bits (1, 2, 4). -/
def QR.lenBits : Nat → Nat
  | 1 => 10
  | 2 => 9
  | _ => 8
set_option maxRecDepth 100000 in
set_option maxHeartbeats 400000 in
theorem charBits_ok (m s b v : Nat) (w : World) (h : Ver w s b v) (hm : m = 1 ∨ m = 2 ∨ m = 4) (h7 : v ≤ 7) : Calls Tryz.prog 111 #[.int .i64 (m : Int), .pointer (some ⟨b, 0, none⟩)] w fun e w' =>
    e = .returned (.int .i64 (QR.lenBits m : Int)) ∧ Keeps (fun _ => False) w w' := by
  have H := Lib.hid h
  clear h
  have d1 : (decide ((v : Int) ≤ 9)) = true := decide_eq_true (by omega)
  have key : ∀ k : Int, Calls Tryz.prog 139 #[.int .i64 (m : Int)] w fun e w' => e = .returned (.slice (some ⟨w.heap.size, 0, none⟩) 3 3) ∧ ∃ x y : Value, w.alloc (.cells #[.int .i64 (QR.lenBits m : Int), x, y] 3) = w' := by
    intro k
    rcases hm with rfl | rfl | rfl
    all_goals
      go_enter Tryz.func139, Tryz.ntmps139
      go_wp2
      go_ret
      exact ⟨rfl, _, _, rfl⟩
  have HK := Lib.hid (key 0)
  clear key
  generalize hL : QR.lenBits m = L at *
  clear hL hm
  go_enter Tryz.func111, Tryz.ntmps111
  go_wp2_with (first | (go_at_call 138; refine (getNumber_ok s b v w H.out).mono ?_; rintro e w1 ⟨rfl, rfl⟩) | (go_at_call 139; refine HK.out.mono ?_; rintro e w1 ⟨rfl, x, y, rfl⟩))
  go_ret
  exact ⟨rfl, (Keeps.refl _ w).alloc _⟩

end Go.Proofs.YtplpafbkalkchaaGreatDoor

namespace Go.Proofs.YtplpafbkalkchaaGreatDoor
open Go.RowKit

theorem lenBits_eq (m : Nat) (h : m = 1 ∨ m = 2 ∨ m = 4) : QR.lenBits m = _root_.QR.lenBits m := by rcases h with rfl | rfl | rfl <;> rfl

set_option maxRecDepth 100000 in
set_option maxHeartbeats 1000000 in
theorem atable_ok (w : World) : Calls Tryz.prog 136 #[] w fun e w' => e = .returned (.slice (some ⟨w.heap.size, 0, none⟩) 96 96) ∧ w.alloc (.cells (_root_.QR.acodeT.map fun n => Value.int .i64 n).toArray 3) = w' := by
  go_enter Tryz.func136, Tryz.ntmps136
  go_wp2
  go_ret
  exact ⟨rfl, rfl⟩

/-- The codes of a text. -/
def codes (s : ByteArray) : List Nat := s.data.toList.map UInt8.toNat
theorem codes_length (s : ByteArray) : (codes s).length = s.size := by simp [codes]
theorem codes_get (s : ByteArray) (k : Nat) (h : k < s.size) : (codes s).getD k 0 = s[k].toNat := by
  have h' : k < s.data.toList.length := by simpa using h
  simp only [codes, List.getD, List.getElem?_map, List.getElem?_eq_getElem h', Option.map_some, Option.getD_some]
  rfl
theorem codes_lt (s : ByteArray) (k : Nat) : (codes s).getD k 0 < 256 := by
  by_cases h : k < s.size
  · rw [codes_get s k h]; exact UInt8.toNat_lt _
  · have : (codes s).length ≤ k := by rw [codes_length]; omega
    simp [List.getD, List.getElem?_eq_none this]

set_option maxRecDepth 100000 in
set_option maxHeartbeats 400000 in
theorem acode_ok (c : Nat) (hc : c < 256) (C : Int) (hC : C = (c : Int)) (w : World) : Calls Tryz.prog 100 #[.int .u8 C] w fun e w' => e = .returned (.int .i64 (_root_.QR.acode c)) ∧ Keeps (fun _ => False) w w' := by
  subst hC
  have T : Hid (∀ w, Calls Tryz.prog 136 #[] w fun e w' => e = .returned (.slice (some ⟨w.heap.size, 0, none⟩) 96 96) ∧ w.alloc (.cells (_root_.QR.acodeT.map fun n => Value.int .i64 n).toArray 3) = w') := Lib.hid atable_ok
  have hl : (_root_.QR.acodeT.map fun n => Value.int .i64 n).length = 96 := by rfl
  have hcell : ∀ w : World, c < 96 → (w.alloc (.cells (_root_.QR.acodeT.map fun n => Value.int .i64 n).toArray 3)).cell? ⟨w.heap.size, c, none⟩ = some (.int .i64 (_root_.QR.acode c)) := fun w h => by
    refine (Blk.new w (_root_.QR.acodeT.map fun n => Value.int .i64 n) 3).cell ?_
    have h' : c < _root_.QR.acodeT.length := h
    unfold _root_.QR.acode
    simp [List.getD, h']
  have HC := Lib.hid hcell
  clear hcell hl
  by_cases h : c < 96
  · generalize (_root_.QR.acodeT.map fun n => Value.int .i64 n).toArray = A at *
    go_enter Tryz.func100, Tryz.ntmps100
    go_wp2_with fail
    refine (T.out _).mono ?_
    rintro e w1 ⟨rfl, rfl⟩
    go_wp2_with fail
    refine (T.out _).mono ?_
    rintro e w1 ⟨rfl, rfl⟩
    have hx := HC.out (w.alloc (.cells A 3)) h
    rw [show (w.alloc (.cells A 3)).heap.size = w.heap.size + 1 by simp] at hx
    have h' : ((c : Nat) : Int) < 96 := by omega
    obtain ⟨v, hv⟩ : ∃ v, _root_.QR.acode c = v := ⟨_, rfl⟩
    rw [hv] at hx
    have HV := Lib.hid hv
    clear hv HC
    go_wp2
    go_ret
    exact ⟨ret_int HV.out.symm, ((Keeps.refl _ w).alloc _).alloc _⟩
  · have hv : _root_.QR.acode c = -1 := by
      unfold _root_.QR.acode
      simp only [List.getD]
      rw [List.getElem?_eq_none (by show 96 ≤ c; omega)]; rfl
    rw [hv]
    have h' : ¬ ((c : Nat) : Int) < 96 := by omega
    generalize (_root_.QR.acodeT.map fun n => Value.int .i64 n).toArray = A at *
    clear HC hv
    go_enter Tryz.func100, Tryz.ntmps100
    go_wp2_with fail
    refine (T.out _).mono ?_
    rintro e w1 ⟨rfl, rfl⟩
    go_wp2
    go_ret
    exact ⟨rfl, (Keeps.refl _ w).alloc _⟩

/-- The mode while it is looked for. -/
theorem take_all (cs : List Nat) (p : Nat → Bool) (k : Nat) (h : k < cs.length) : (cs.take (k + 1)).all p = ((cs.take k).all p && p (cs.getD k 0)) := by
  rw [List.take_succ_eq_append_getElem h, List.all_append]
  simp [List.getD, h]
theorem take_any (cs : List Nat) (p : Nat → Bool) (k : Nat) (h : k < cs.length) : (cs.take (k + 1)).any p = ((cs.take k).any p || p (cs.getD k 0)) := by
  rw [List.take_succ_eq_append_getElem h, List.any_append]
  simp [List.getD, h]

set_option maxRecDepth 100000 in
set_option maxHeartbeats 800000 in
theorem chooseMode_ok (s : ByteArray) (w : World) (h1 : 1 ≤ s.size) (h2 : s.size ≤ 1000) : Calls Tryz.prog 40 #[.string s] w fun e w' => e = .returned (.int .i64 ((_root_.QR.modeOf (codes s) : Nat) : Int)) ∧ Keeps (fun _ => False) w w' := by
  have hl := Lib.hid (codes_length s)
  have hg := Lib.hid (codes_get s)
  generalize hcs : codes s = cs at *
  clear hcs
  go_enter Tryz.func40, Tryz.ntmps40
  go_wp2_with fail
  go_loopw [3, 4, 5] (fun a b i wr => ∃ (k : Nat) (x y : Bool), k ≤ s.size ∧ i = .int .i64 (k : Int) ∧ a = .bool x ∧ b = .bool y ∧ Hid (x = (cs.take k).any _root_.QR.isDigit) ∧ Hid (y = !(cs.take k).all _root_.QR.isDigit) ∧ Hid ((cs.take k).all (fun c => _root_.QR.isDigit c || _root_.QR.isLetter c) = true) ∧ Keeps (fun _ => False) w wr) (fun _ _ i _ => s.size - (intOf i).toNat)
  case atStart => exact ⟨0, false, false, by omega, rfl, rfl, rfl, Lib.hid rfl, Lib.hid rfl, Lib.hid rfl, Keeps.refl _ _⟩
  case round =>
    obtain ⟨k, x, y, hk, rfl, rfl, rfl, hx, hy, hz, hkp⟩ := hrel
    by_cases hlt : k < s.size
    · have hkl : k < cs.length := by rw [hl.out]; exact hlt
      have HA := Lib.hid (take_all cs _root_.QR.isDigit k hkl)
      have HB := Lib.hid (take_any cs _root_.QR.isDigit k hkl)
      have HC := Lib.hid (take_all cs (fun c => _root_.QR.isDigit c || _root_.QR.isLetter c) k hkl)
      have hgk : s[k].toNat = cs.getD k 0 := (hg.out k hlt).symm
      have hc256 : s[k].toNat < 256 := UInt8.toNat_lt _
      have KP := Lib.hid hkp
      have HKL := Lib.hid hkl
      clear hkp hkl
      by_cases hd : 48 ≤ s[k].toNat ∧ s[k].toNat ≤ 57
      · obtain ⟨d1, d2⟩ := hd
        have e : _root_.QR.isDigit (cs.getD k 0) = true := by rw [← hgk]; simp [_root_.QR.isDigit, d1, d2]
        have E := Lib.hid e
        clear e hgk
        go_wp2
        go_roundw
        case rel => exact ⟨k + 1, true, y, by omega, by go_num, rfl, rfl, Lib.hid (by rw [HB.out, E.out]; simp), Lib.hid (by rw [HA.out, E.out, hy.out]; simp), Lib.hid (by rw [HC.out, E.out, hz.out]; simp), KP.out⟩
        case measure => simp [intOf]; omega
      · have e : _root_.QR.isDigit (cs.getD k 0) = false := by
          rw [← hgk]; simp only [_root_.QR.isDigit]
          rw [Bool.eq_false_iff]; intro h; simp only [Bool.and_eq_true, decide_eq_true_eq] at h; exact hd h
        have E := Lib.hid e
        have HGK := Lib.hid hgk
        by_cases hq : _root_.QR.acode (cs.getD k 0) = -1
        · have q : (_root_.QR.acode (s[k].toNat) != -1) = false := by rw [hgk, hq]; rfl
          have hfin : _root_.QR.modeOf cs = 4 := by
            unfold _root_.QR.modeOf
            have hm : cs.getD k 0 ∈ cs := by
              have := HKL.out
              simp [List.getD, this]
            have n1 : cs.all _root_.QR.isDigit = false := by
              rw [Bool.eq_false_iff]; intro h; have := List.all_eq_true.1 h _ hm; rw [e] at this; cases this
            have n2 : cs.all (fun c => _root_.QR.isDigit c || _root_.QR.isLetter c) = false := by
              rw [Bool.eq_false_iff]; intro h; have := List.all_eq_true.1 h _ hm
              have e3 : _root_.QR.isLetter (cs.getD k 0) = false := by unfold _root_.QR.isLetter; exact decide_eq_false (fun h => h hq)
              rw [e, e3] at this; cases this
            rw [n1, n2]; rfl
          have HF := Lib.hid hfin
          clear e hgk hfin hq
          by_cases d1 : 48 ≤ s[k].toNat
          · have d2 : ¬ s[k].toNat ≤ 57 := fun h => hd ⟨d1, h⟩
            clear hd
            go_wp2_with (go_at_call 100; refine (acode_ok s[k].toNat hc256 _ rfl _).mono ?_; rintro e w1 ⟨rfl, r1⟩)
            have R1 := Lib.hid r1
            clear r1
            go_wp2
            go_ret
            exact ⟨ret_int (by rw [HF.out]; rfl), KP.out.trans R1.out⟩
          · clear hd
            go_wp2_with (go_at_call 100; refine (acode_ok s[k].toNat hc256 _ rfl _).mono ?_; rintro e w1 ⟨rfl, r1⟩)
            go_ret
            exact ⟨ret_int (by rw [HF.out]; rfl), KP.out.trans r1⟩
        · have q : (_root_.QR.acode (s[k].toNat) != -1) = true := by rw [hgk]; simpa using hq
          have e2 : _root_.QR.isLetter (cs.getD k 0) = true := by unfold _root_.QR.isLetter; exact decide_eq_true hq
          have E2 := Lib.hid e2
          clear e hgk hq e2
          by_cases d1 : 48 ≤ s[k].toNat
          · have d2 : ¬ s[k].toNat ≤ 57 := fun h => hd ⟨d1, h⟩
            clear hd
            go_wp2_with (go_at_call 100; refine (acode_ok s[k].toNat hc256 _ rfl _).mono ?_; rintro e w1 ⟨rfl, r1⟩)
            go_roundw
            case rel => exact ⟨k + 1, x, true, by omega, by go_num, rfl, rfl, Lib.hid (by rw [HB.out, E.out, hx.out]; simp), Lib.hid (by rw [HA.out, E.out]; simp), Lib.hid (by rw [HC.out, E.out, E2.out, hz.out]; rfl), KP.out.trans r1⟩
            case measure => simp [intOf]; omega
          · clear hd
            go_wp2_with (go_at_call 100; refine (acode_ok s[k].toNat hc256 _ rfl _).mono ?_; rintro e w1 ⟨rfl, r1⟩)
            go_roundw
            case rel => exact ⟨k + 1, x, true, by omega, by go_num, rfl, rfl, Lib.hid (by rw [HB.out, E.out, hx.out]; simp), Lib.hid (by rw [HA.out, E.out]; simp), Lib.hid (by rw [HC.out, E.out, E2.out, hz.out]; rfl), KP.out.trans r1⟩
            case measure => simp [intOf]; omega
    · obtain rfl : k = s.size := by omega
      have et : cs.take s.size = cs := by rw [← hl.out]; exact List.take_length
      have X := hx.out
      have Y := hy.out
      have Z := hz.out
      rw [et] at X Y Z
      have KP := Lib.hid hkp
      cases hall : cs.all _root_.QR.isDigit with
      | true =>
        rw [hall] at Y
        have hm : _root_.QR.modeOf cs = 1 := by unfold _root_.QR.modeOf; rw [hall]; rfl
        have hxt : x = true := by
          rw [X]
          cases hcs : cs with
          | nil => rw [hcs] at hl; have := hl.out; simp at this; omega
          | cons c l => rw [hcs] at hall; simp only [List.all_cons, Bool.and_eq_true] at hall; simp [hall.1]
        subst hxt
        have HM := Lib.hid hm
        obtain rfl : y = false := Y
        clear X Z hall hm et hx hy hz hkp
        go_wp2
        go_ret
        exact ⟨ret_int (by rw [HM.out]; rfl), KP.out⟩
      | false =>
        rw [hall] at Y
        have hm : _root_.QR.modeOf cs = 2 := by unfold _root_.QR.modeOf; rw [hall, Z]; rfl
        have HM := Lib.hid hm
        obtain rfl : y = true := Y
        clear X Z hall hm et hx hy hz hkp
        go_wp2
        go_ret
        exact ⟨ret_int (by rw [HM.out]; rfl), KP.out⟩

end Go.Proofs.YtplpafbkalkchaaGreatDoor
