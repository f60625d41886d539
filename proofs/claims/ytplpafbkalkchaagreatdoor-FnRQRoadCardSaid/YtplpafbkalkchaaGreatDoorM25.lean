/-
  Parts of the proof (TX2, TX3, TX4).
-/
import Derived.Test.YtplpafbkalkchaaGreatDoorM03
import Derived.Test.YtplpafbkalkchaaGreatDoorM14
import Derived.Lib.ConvBytes
set_option linter.unusedSimpArgs false
set_option linter.unusedVariables false

namespace Go.Proofs.YtplpafbkalkchaaGreatDoor
open Go.RowKit

/-- A BitArray that grows: what is not its own is as it was. -/
def Grow (w0 : World) (b c : Nat) (wr : World) (l : List Bool) : Prop :=
  ∃ cr, BA wr b cr l ∧ (cr = c ∨ w0.heap.size ≤ cr) ∧ Keeps (fun i => i = b ∨ i = c) w0 wr
theorem Grow.start {w : World} {b c : Nat} {l : List Bool} (h : BA w b c l) : Grow w b c w l := ⟨c, h, Or.inl rfl, Keeps.refl _ _⟩
theorem Grow.step {w0 wr w' : World} {b c : Nat} {l l' : List Bool} (h : Grow w0 b c wr l)
    (h2 : ∀ cr, BA wr b cr l → ∃ c', BA w' b c' l' ∧ (c' = cr ∨ wr.heap.size ≤ c') ∧ Keeps (fun i => i = b ∨ i = cr) wr w') : Grow w0 b c w' l' := by
  obtain ⟨cr, h1, h3, h4⟩ := h
  obtain ⟨c', k1, k2, k3⟩ := h2 cr h1
  have hs := h4.size
  refine ⟨c', k1, ?_, h4.step k3 (fun i hi e => ?_)⟩
  · rcases k2 with k2 | k2
    · rw [k2]; exact h3
    · exact Or.inr (by omega)
  · rcases e with e | e
    · exact Or.inl e
    · rcases h3 with h3 | h3
      · exact Or.inr (by omega)
      · omega
theorem Grow.keep {w0 wr w' : World} {b c : Nat} {l : List Bool} (h : Grow w0 b c wr l) (hk : Keeps (fun _ => False) wr w') : Grow w0 b c w' l := by
  obtain ⟨cr, h1, h3, h4⟩ := h
  exact ⟨cr, h1.keep hk (fun h => h) (fun h => h), h3, h4.trans (hk.mono (fun _ _ h => h.elim))⟩
theorem Grow.keeps {w0 wr : World} {b c : Nat} {l : List Bool} (h : Grow w0 b c wr l) : Keeps (fun i => i = b ∨ i = c) w0 wr := by obtain ⟨_, _, _, h⟩ := h; exact h
theorem Grow.congr {w0 wr : World} {b c : Nat} {l l' : List Bool} (h : Grow w0 b c wr l) (e : l = l') : Grow w0 b c wr l' := e ▸ h

theorem appendBits_g (w0 wr : World) (b c k : Nat) (l : List Bool) (v : Nat) (h : Grow w0 b c wr l) (hk : k ≤ 32) (hv : v < 4611686018427387904) (hlen : l.length ≤ 100000) (V K : Int) (hV : V = (v : Int)) (hK : K = (k : Int)) :
    Calls Tryz.prog 103 #[.pointer (some ⟨b, 0, none⟩), .int .i64 V, .int .i64 K] wr fun e w' => e = .returned .nilIface ∧ Grow w0 b c w' (l ++ QR.bitsOf k v) := by
  obtain ⟨cr, h1, h3, h4⟩ := id h
  exact (appendBits_ok b cr k l v wr hk hv h1 hlen V K hV hK).mono fun e w' ⟨he, c', g1, g2, g3⟩ => ⟨he, h.step (fun cr' hc => by
    have : cr' = cr := by
      obtain ⟨_, _, _, ws, _, _, _, q4, _⟩ := hc
      obtain ⟨_, _, _, ws2, _, _, _, r4, _⟩ := h1
      have e1 := q4.cell (i := 0) rfl
      have e2 := r4.cell (i := 0) rfl
      rw [e1] at e2
      simp at e2
      exact e2.1
    subst this
    exact ⟨c', g1, by rcases g2 with g2 | g2; exact Or.inl g2; exact Or.inr (by omega), g3⟩)⟩

theorem map_drop_cons (cs : List Nat) (f : Nat → Nat) (k : Nat) (h : k < cs.length) : (cs.drop k).map f = f (cs.getD k 0) :: (cs.drop (k + 1)).map f := by
  rw [List.drop_eq_getElem_cons h, List.map_cons]
  congr 2
  simp [List.getD, h]

set_option maxRecDepth 100000 in
set_option maxHeartbeats 1000000 in
theorem appendNum_ok (s : ByteArray) (b c : Nat) (l : List Bool) (w : World) (h : BA w b c l) (h2 : s.size ≤ 1000) (hl : l.length ≤ 1000) (hd : ∀ k, k < s.size → 48 ≤ (codes s).getD k 0 ∧ (codes s).getD k 0 ≤ 57) :
    Calls Tryz.prog 105 #[.string s, .pointer (some ⟨b, 0, none⟩)] w fun e w' => e = .returned (.tuple #[]) ∧ Grow w b c w' (l ++ _root_.QR.encNum ((codes s).map (· - 48))) := by
  have HG := Lib.hid (Grow.start h)
  have hcl := Lib.hid (codes_length s)
  have hcg := Lib.hid (codes_get s)
  obtain ⟨cs, hcs⟩ : ∃ cs, codes s = cs := ⟨_, rfl⟩
  rw [hcs] at hcl hcg hd ⊢
  have HD := Lib.hid hd
  clear h hd hcs
  go_enter Tryz.func105, Tryz.ntmps105
  go_wp2_with fail
  go_loopw [5] (fun i wr => ∃ (k : Nat) (e : List Bool), k ≤ s.size ∧ i = .int .i64 (k : Int) ∧ Hid (e ++ _root_.QR.encNum ((cs.drop k).map (· - 48)) = _root_.QR.encNum (cs.map (· - 48))) ∧ Hid (e.length ≤ 4 * k) ∧ Grow w b c wr (l ++ e)) (fun i _ => s.size - (intOf i).toNat)
  case atStart => exact ⟨0, [], by omega, rfl, Lib.hid rfl, Lib.hid (by simp), by simpa using HG.out⟩
  case round =>
    obtain ⟨k, e, hk, rfl, he, hel, hg⟩ := hrel
    have G := Lib.hid hg
    clear hg
    by_cases h0 : k < s.size
    · obtain ⟨x, hx⟩ : ∃ x, s[k].toNat = x := ⟨_, rfl⟩
      have hxc := hcg.out k h0
      rw [hx] at hxc
      have hxd := HD.out k h0
      rw [hxc] at hxd
      obtain ⟨x1, x2⟩ := hxd
      have D0 := Lib.hid (map_drop_cons cs (· - 48) k (by rw [hcl.out]; exact h0))
      have XC := Lib.hid hxc
      clear hxc
      by_cases h3 : k + 2 < s.size
      · have h1 : k + 1 < s.size := by omega
        obtain ⟨y, hy⟩ : ∃ y, s[k + 1].toNat = y := ⟨_, rfl⟩
        obtain ⟨z, hz⟩ : ∃ z, s[k + 2].toNat = z := ⟨_, rfl⟩
        have hyc := hcg.out (k + 1) h1
        rw [hy] at hyc
        have hyd := HD.out (k + 1) h1
        rw [hyc] at hyd
        obtain ⟨y1, y2⟩ := hyd
        have hzc := hcg.out (k + 2) h3
        rw [hz] at hzc
        have hzd := HD.out (k + 2) h3
        rw [hzc] at hzd
        obtain ⟨z1, z2⟩ := hzd
        have D1 := Lib.hid (map_drop_cons cs (· - 48) (k + 1) (by rw [hcl.out]; exact h1))
        have D2 := Lib.hid (map_drop_cons cs (· - 48) (k + 2) (by rw [hcl.out]; exact h3))
        have YC := Lib.hid hyc
        have ZC := Lib.hid hzc
        clear hyc hzc
        go_wp2_with fail
        refine (appendBits_g w _ b c 10 (l ++ e) ((x - 48) * 100 + (y - 48) * 10 + (z - 48)) G.out (by omega) (by omega) (by have := hel.out; simp; omega) _ _ (by omega) rfl).mono ?_
        rintro e1 w2 ⟨rfl, g2⟩
        have G2 := Lib.hid g2
        clear g2
        go_wp2
        go_roundw
        case rel =>
          refine ⟨k + 3, e ++ QR.bitsOf 10 ((x - 48) * 100 + (y - 48) * 10 + (z - 48)), by omega, by go_num, Lib.hid ?_, Lib.hid ?_, by rw [← List.append_assoc]; exact G2.out⟩
          · rw [← he.out, D0.out, D1.out, D2.out, XC.out, YC.out, ZC.out, List.append_assoc]; rfl
          · have := hel.out
            rw [List.length_append, show (QR.bitsOf 10 ((x - 48) * 100 + (y - 48) * 10 + (z - 48))).length = 10 from _root_.QR.bitsOf_length _ _]; omega
        case measure => simp [intOf]; omega
      · have h3' : ¬ ((k : Int) + 2 < (s.size : Int)) := by omega
        by_cases h1 : k + 1 < s.size
        · obtain ⟨y, hy⟩ : ∃ y, s[k + 1].toNat = y := ⟨_, rfl⟩
          have hyc := hcg.out (k + 1) h1
          rw [hy] at hyc
          have hyd := HD.out (k + 1) h1
          rw [hyc] at hyd
          obtain ⟨y1, y2⟩ := hyd
          have D1 := Lib.hid (map_drop_cons cs (· - 48) (k + 1) (by rw [hcl.out]; exact h1))
          have D2 := Lib.hid (show (cs.drop (k + 2)).map (· - 48) = [] by rw [List.drop_of_length_le (by rw [hcl.out]; omega)]; rfl)
          have YC := Lib.hid hyc
          clear hyc
          go_wp2_with fail
          refine (appendBits_g w _ b c 7 (l ++ e) ((x - 48) * 10 + (y - 48)) G.out (by omega) (by omega) (by have := hel.out; simp; omega) _ _ (by omega) rfl).mono ?_
          rintro e1 w2 ⟨rfl, g2⟩
          have G2 := Lib.hid g2
          clear g2
          go_wp2
          go_roundw
          case rel =>
            refine ⟨k + 2, e ++ QR.bitsOf 7 ((x - 48) * 10 + (y - 48)), by omega, by go_num, Lib.hid ?_, Lib.hid ?_, by rw [← List.append_assoc]; exact G2.out⟩
            · rw [← he.out, D0.out, D1.out, D2.out, XC.out, YC.out, List.append_assoc]; simp [_root_.QR.encNum]
            · have := hel.out
              rw [List.length_append, show (QR.bitsOf 7 ((x - 48) * 10 + (y - 48))).length = 7 from _root_.QR.bitsOf_length _ _]; omega
          case measure => simp [intOf]; omega
        · have h1' : ¬ ((k : Int) + 1 < (s.size : Int)) := by omega
          have D1 := Lib.hid (show (cs.drop (k + 1)).map (· - 48) = [] by rw [List.drop_of_length_le (by rw [hcl.out]; omega)]; rfl)
          go_wp2_with fail
          refine (appendBits_g w _ b c 4 (l ++ e) (x - 48) G.out (by omega) (by omega) (by have := hel.out; simp; omega) _ _ (by omega) rfl).mono ?_
          rintro e1 w2 ⟨rfl, g2⟩
          have G2 := Lib.hid g2
          clear g2
          go_wp2
          go_roundw
          case rel =>
            refine ⟨k + 1, e ++ QR.bitsOf 4 (x - 48), by omega, by go_num, Lib.hid ?_, Lib.hid ?_, by rw [← List.append_assoc]; exact G2.out⟩
            · rw [← he.out, D0.out, D1.out, XC.out, List.append_assoc]; simp [_root_.QR.encNum]
            · have := hel.out
              rw [List.length_append, show (QR.bitsOf 4 (x - 48)).length = 4 from _root_.QR.bitsOf_length _ _]; omega
          case measure => simp [intOf]; omega
    · obtain rfl : k = s.size := by omega
      have e9 : e = _root_.QR.encNum (cs.map (· - 48)) := by
        rw [← he.out, List.drop_of_length_le (by rw [hcl.out]; omega)]; simp [_root_.QR.encNum]
      have E9 := Lib.hid e9
      clear e9
      go_wp2
      go_end0
      exact ⟨rfl, by rw [← E9.out]; exact G.out⟩

end Go.Proofs.YtplpafbkalkchaaGreatDoor

namespace Go.Proofs.YtplpafbkalkchaaGreatDoor
open Go.RowKit

set_option maxRecDepth 100000 in
set_option maxHeartbeats 1000000 in
theorem appendAlpha_ok (s : ByteArray) (b c : Nat) (l : List Bool) (w : World) (h : BA w b c l) (h2 : s.size ≤ 1000) (hl : l.length ≤ 1000) (hd : ∀ k, k < s.size → _root_.QR.acode ((codes s).getD k 0) ≠ -1) :
    Calls Tryz.prog 106 #[.string s, .pointer (some ⟨b, 0, none⟩)] w fun e w' => e = .returned .nilIface ∧ Grow w b c w' (l ++ _root_.QR.encAlpha ((codes s).map fun c => (_root_.QR.acode c).toNat)) := by
  have HG := Lib.hid (Grow.start h)
  have hcl := Lib.hid (codes_length s)
  have hcg := Lib.hid (codes_get s)
  obtain ⟨cs, hcs⟩ : ∃ cs, codes s = cs := ⟨_, rfl⟩
  rw [hcs] at hcl hcg hd ⊢
  have HD := Lib.hid hd
  clear h hd hcs
  obtain ⟨F, hF⟩ : ∃ F : Nat → Nat, (fun c => (_root_.QR.acode c).toNat) = F := ⟨_, rfl⟩
  have HF := Lib.hid (show ∀ c, (_root_.QR.acode c).toNat = F c from fun c => by rw [← hF])
  rw [hF]
  clear hF
  have spec : ∀ k, (hk : k < s.size) → ∃ x : Nat, s[k].toNat < 256 ∧ _root_.QR.acode s[k].toNat = (x : Int) ∧ x < 45 ∧ F (cs.getD k 0) = x := fun k hk => by
    have e := hcg.out k hk
    have hne := HD.out k hk
    rw [e] at hne
    have hs := (_root_.QR.acode_spec s[k].toNat).resolve_left hne
    refine ⟨(_root_.QR.acode s[k].toNat).toNat, UInt8.toNat_lt _, by omega, by omega, ?_⟩
    rw [← HF.out, e]
  have SP := Lib.hid spec
  clear spec
  go_enter Tryz.func106, Tryz.ntmps106
  go_wp2_with fail
  go_loopw [6] (fun i wr => ∃ (k : Nat) (e : List Bool), k ≤ s.size ∧ i = .int .i64 (k : Int) ∧ Hid (e ++ _root_.QR.encAlpha ((cs.drop k).map F) = _root_.QR.encAlpha (cs.map F)) ∧ Hid (e.length ≤ 6 * k) ∧ Grow w b c wr (l ++ e)) (fun i _ => s.size - (intOf i).toNat)
  case atStart => exact ⟨0, [], by omega, rfl, Lib.hid rfl, Lib.hid (by simp), by simpa using HG.out⟩
  case round =>
    obtain ⟨k, e, hk, rfl, he, hel, hg⟩ := hrel
    have G := Lib.hid hg
    clear hg
    by_cases h0 : k < s.size
    · obtain ⟨x, hx256, hx, hx45, hxc⟩ := SP.out k h0
      have D0 := Lib.hid (map_drop_cons cs F k (by rw [hcl.out]; exact h0))
      have XC := Lib.hid hxc
      have XA := Lib.hid hx
      clear hxc hx
      have hxne : ((x : Int) == -1) = false := by simp
      by_cases h1 : k + 1 < s.size
      · obtain ⟨y, hy256, hy, hy45, hyc⟩ := SP.out (k + 1) h1
        have D1 := Lib.hid (map_drop_cons cs F (k + 1) (by rw [hcl.out]; exact h1))
        have YC := Lib.hid hyc
        have YA := Lib.hid hy
        have hyne : ((y : Int) == -1) = false := by simp
        clear hyc hy
        go_wp2_with fail
        refine (acode_ok _ hx256 _ rfl _).mono ?_
        rw [XA.out]
        rintro e1 w1 ⟨rfl, r1⟩
        have G1 := Lib.hid (G.out.keep r1)
        clear r1
        go_wp2_with fail
        refine (acode_ok _ hy256 _ rfl _).mono ?_
        rw [YA.out]
        rintro e1 w2 ⟨rfl, r1⟩
        have G2 := Lib.hid (G1.out.keep r1)
        clear r1
        go_wp2_with fail
        refine (appendBits_g w _ b c 11 (l ++ e) (x * 45 + y) G2.out (by omega) (by omega) (by have := hel.out; simp; omega) _ _ (by omega) rfl).mono ?_
        rintro e1 w3 ⟨rfl, g3⟩
        have G3 := Lib.hid g3
        clear g3
        go_wp2
        go_roundw
        case rel =>
          refine ⟨k + 2, e ++ QR.bitsOf 11 (x * 45 + y), by omega, by go_num, Lib.hid ?_, Lib.hid ?_, by rw [← List.append_assoc]; exact G3.out⟩
          · rw [← he.out, D0.out, D1.out, XC.out, YC.out, List.append_assoc]; rfl
          · have := hel.out
            rw [List.length_append, show (QR.bitsOf 11 (x * 45 + y)).length = 11 from _root_.QR.bitsOf_length _ _]; omega
        case measure => simp [intOf]; omega
      · have h1' : ¬ ((k : Int) + 1 < (s.size : Int)) := by omega
        have D1 := Lib.hid (show (cs.drop (k + 1)).map F = [] by rw [List.drop_of_length_le (by rw [hcl.out]; omega)]; rfl)
        go_wp2_with fail
        refine (acode_ok _ hx256 _ rfl _).mono ?_
        rw [XA.out]
        rintro e1 w1 ⟨rfl, r1⟩
        have G1 := Lib.hid (G.out.keep r1)
        clear r1
        go_wp2_with fail
        refine (appendBits_g w _ b c 6 (l ++ e) x G1.out (by omega) (by omega) (by have := hel.out; simp; omega) _ _ (by omega) rfl).mono ?_
        rintro e1 w3 ⟨rfl, g3⟩
        have G3 := Lib.hid g3
        clear g3
        go_wp2
        go_roundw
        case rel =>
          refine ⟨k + 1, e ++ QR.bitsOf 6 x, by omega, by go_num, Lib.hid ?_, Lib.hid ?_, by rw [← List.append_assoc]; exact G3.out⟩
          · rw [← he.out, D0.out, D1.out, XC.out, List.append_assoc]; simp [_root_.QR.encAlpha]
          · have := hel.out
            rw [List.length_append, show (QR.bitsOf 6 x).length = 6 from _root_.QR.bitsOf_length _ _]; omega
        case measure => simp [intOf]; omega
    · obtain rfl : k = s.size := by omega
      have e9 : e = _root_.QR.encAlpha (cs.map F) := by
        rw [← he.out, List.drop_of_length_le (by rw [hcl.out]; omega)]; simp [_root_.QR.encAlpha]
      have E9 := Lib.hid e9
      clear e9
      go_wp2
      go_ret
      exact ⟨rfl, by rw [← E9.out]; exact G.out⟩

/-- .. and blocks of other types stay as they are. -/
theorem appendBits_t (w0 wr : World) (b c k : Nat) (l : List Bool) (v : Nat) (h : Grow w0 b c wr l) (hk : k ≤ 32) (hv : v < 4611686018427387904) (hlen : l.length ≤ 100000) (V K : Int) (hV : V = (v : Int)) (hK : K = (k : Int)) :
    Calls Tryz.prog 103 #[.pointer (some ⟨b, 0, none⟩), .int .i64 V, .int .i64 K] wr fun e w' => e = .returned .nilIface ∧ Grow w0 b c w' (l ++ QR.bitsOf k v) ∧
      ∀ (B : Nat) (cs : Array Value) (t : TypeId) (m : Nat × Nat), t ≠ 151 → t ≠ 193 → wr.heap[B]? = some (.cells cs t m) → w'.heap[B]? = some (.cells cs t m) := by
  obtain ⟨cr, h1, h3, h4⟩ := id h
  refine (appendBits_ok b cr k l v wr hk hv h1 hlen V K hV hK).mono fun e w' ⟨he, c', g1, g2, g3⟩ => ⟨he, ⟨c', g1, ?_, h4.step g3 (fun i hi e => ?_)⟩, fun B cs t m ht1 ht2 hB => ?_⟩
  · have := h4.size
    rcases g2 with g2 | g2
    · rw [g2]; exact h3
    · exact Or.inr (by omega)
  · rcases e with e | e
    · exact Or.inl e
    · rcases h3 with h3 | h3
      · exact Or.inr (by omega)
      · omega
  · have hlt : B < wr.heap.size := by
      rcases Nat.lt_or_ge B wr.heap.size with h | h
      · exact h
      · rw [Array.getElem?_eq_none h] at hB; cases hB
    rw [g3.block B hlt, hB]
    obtain ⟨_, _, _, ws, _, _, _, q4, q5, _⟩ := h1
    unfold Blk at q4 q5
    rintro (rfl | rfl)
    · rw [q4] at hB; injection hB with hB; injection hB with _ hB; exact ht2 hB.symm
    · rw [q5] at hB; injection hB with hB; injection hB with _ hB; exact ht1 hB.symm

theorem bytes_keeps (w : World) (e : TypeId) (s : ByteArray) : Keeps (fun _ => False) w (Lib.bytesWorld w e s) :=
  ⟨rfl, rfl, rfl, by rw [Lib.bytesWorld_size]; omega, fun k hk _ => Lib.bytesWorld_at_old w e s k hk⟩
theorem drop_cons (cs : List Nat) (k : Nat) (h : k < cs.length) : cs.drop k = cs.getD k 0 :: cs.drop (k + 1) := by
  rw [List.drop_eq_getElem_cons h]; simp [List.getD, h]

set_option maxRecDepth 100000 in
set_option maxHeartbeats 1000000 in
theorem appendBytes8_ok (s : ByteArray) (b c : Nat) (l : List Bool) (w : World) (h : BA w b c l) (h2 : s.size ≤ 1000) (hl : l.length ≤ 1000) :
    Calls Tryz.prog 107 #[.string s, .pointer (some ⟨b, 0, none⟩)] w fun e w' => e = .returned .nilIface ∧ Grow w b c w' (l ++ _root_.QR.bytesBits (codes s)) := by
  have hcv := Lib.run_convert_string_bytes (P := Tryz.prog) w 9 35 5 s Tryz.underlying9 Tryz.underlying35 Tryz.underlying5
  have hbk := bytes_keeps w 5 s
  have hcell : ∀ k, k < s.size → (Lib.bytesWorld w 5 s).cell? ⟨w.heap.size, k, none⟩ = some (.int .u8 (((codes s).getD k 0 : Nat) : Int)) := fun k hk => by
    rw [Lib.bytesWorld_cell w 5 s k hk]
    have h' : k < s.data.toList.length := by simpa using hk
    simp only [codes, List.getD, List.getElem?_map, List.getElem?_eq_getElem h', Option.map_some, Option.getD_some]
  have hlt := Lib.bytesWorld_size w 5 s
  have hnew := Lib.bytesWorld_at_new w 5 s
  generalize Lib.bytesCells w 5 s = CS at *
  generalize (CS.size, CS.size + 1) = MK at *
  generalize Lib.bytesWorld w 5 s = W1 at *
  generalize grownCap w s.size 0 5 = cap at *
  have HG := Lib.hid ((Grow.start h).keep hbk)
  have hcl := Lib.hid (codes_length s)
  have hc256 := Lib.hid (codes_lt s)
  obtain ⟨cs, hcs⟩ : ∃ cs, codes s = cs := ⟨_, rfl⟩
  rw [hcs] at hcl hcell hc256 ⊢
  have HCELL := Lib.hid hcell
  have HNEW := Lib.hid hnew
  have hbc := Lib.hid (show b < w.heap.size ∧ c < w.heap.size from ⟨h.ltb, h.ltc⟩)
  have hlt' : w.heap.size < W1.heap.size := by omega
  clear hcs h hcell hbk hlt hnew
  go_enter Tryz.func107, Tryz.ntmps107
  go_wp2_with fail
  clear hcv
  generalize hB : w.heap.size = B at *
  have HB := Lib.hid hB
  clear hB
  go_loopw [12] (fun i wr => ∃ (k : Nat) (e : List Bool), k ≤ s.size ∧ i = .int .i64 (k : Int) ∧ Hid (e ++ _root_.QR.bytesBits (cs.drop k) = _root_.QR.bytesBits cs) ∧ Hid (e.length = 8 * k) ∧ Grow w b c wr (l ++ e) ∧ wr.heap[B]? = some (.cells CS 5 MK)) (fun i _ => s.size - (intOf i).toNat)
  case atStart => exact ⟨0, [], by omega, rfl, Lib.hid rfl, Lib.hid (by simp), by simpa using HG.out, HNEW.out⟩
  case round =>
    obtain ⟨k, e, hk, rfl, he, hel, hg, hkp⟩ := hrel
    have G := Lib.hid hg
    have KP := Lib.hid hkp
    by_cases h0 : k < s.size
    · have c1 : wr.cell? ⟨B, k, none⟩ = some (.int .u8 ((cs.getD k 0 : Nat) : Int)) := (World.cell?_of_block (w := W1) (w' := wr) (a := ⟨B, k, none⟩) (hkp.trans HNEW.out.symm)).trans (HCELL.out k h0)
      have hx256 := hc256.out k
      obtain ⟨x, hx⟩ : ∃ x, cs.getD k 0 = x := ⟨_, rfl⟩
      rw [hx] at c1 hx256
      have XC := Lib.hid hx
      have D0 := Lib.hid (drop_cons cs k (by rw [hcl.out]; exact h0))
      have h0' : (k : Int) < (s.size : Int) := by omega
      clear hg hkp hx
      go_wp2_with fail
      refine (appendBits_t w _ b c 8 (l ++ e) x G.out (by omega) (by omega) (by have := hel.out; simp; omega) _ _ (by omega) rfl).mono ?_
      rintro e1 w3 ⟨rfl, g3, g4⟩
      have G3 := Lib.hid g3
      have K3 := Lib.hid (g4 B CS 5 MK (by decide) (by decide) KP.out)
      clear g3 g4 c1
      go_wp2
      go_roundw
      case rel =>
        refine ⟨k + 1, e ++ QR.bitsOf 8 x, by omega, by go_num, Lib.hid ?_, Lib.hid ?_, by rw [← List.append_assoc]; exact G3.out, K3.out⟩
        · rw [← he.out, D0.out, XC.out, List.append_assoc]; rfl
        · have := hel.out
          rw [List.length_append, show (QR.bitsOf 8 x).length = 8 from _root_.QR.bitsOf_length _ _]; omega
      case measure => simp [intOf]; omega
    · obtain rfl : k = s.size := by omega
      have e9 : e = _root_.QR.bytesBits cs := by
        rw [← he.out, List.drop_of_length_le (by rw [hcl.out]; omega)]; simp [_root_.QR.bytesBits]
      have E9 := Lib.hid e9
      clear e9 hg hkp
      go_wp2
      go_ret
      exact ⟨rfl, by rw [← E9.out]; exact G.out⟩

end Go.Proofs.YtplpafbkalkchaaGreatDoor

namespace Go.Proofs.YtplpafbkalkchaaGreatDoor
open Go.RowKit

/-- A mode that fits a text. -/
structure Fits (m : Nat) (cs : List Nat) : Prop where
  mode : m = 1 ∨ m = 2 ∨ m = 4
  num : m = 1 → ∀ k, k < cs.length → 48 ≤ cs.getD k 0 ∧ cs.getD k 0 ≤ 57
  alpha : m = 2 → ∀ k, k < cs.length → _root_.QR.acode (cs.getD k 0) ≠ -1
theorem modeOf_fits (cs : List Nat) : Fits (_root_.QR.modeOf cs) cs := by
  unfold _root_.QR.modeOf
  have hm : ∀ k, k < cs.length → cs.getD k 0 ∈ cs := fun k hk => by simp [List.getD, hk]
  cases h1 : cs.all _root_.QR.isDigit with
  | true =>
    refine ⟨Or.inl rfl, fun _ k hk => ?_, fun h => by simp at h⟩
    have := List.all_eq_true.1 h1 _ (hm k hk)
    simpa [_root_.QR.isDigit] using this
  | false =>
    cases h2 : cs.all (fun c => _root_.QR.isDigit c || _root_.QR.isLetter c) with
    | true =>
      refine ⟨Or.inr (Or.inl rfl), fun h => by simp at h, fun _ k hk => ?_⟩
      have := List.all_eq_true.1 h2 _ (hm k hk)
      simp only [Bool.or_eq_true] at this
      rcases this with h | h
      · have := _root_.QR.digit_code _ h
        have h3 : 48 ≤ cs.getD k 0 := by simp [_root_.QR.isDigit] at h; simpa using h.1
        omega
      · simpa [_root_.QR.isLetter] using h
    | false => exact ⟨Or.inr (Or.inr rfl), fun h => by simp at h, fun h => by simp at h⟩

set_option maxRecDepth 100000 in
set_option maxHeartbeats 1000000 in
theorem appendText_ok (s : ByteArray) (m b c : Nat) (l : List Bool) (w : World) (h : BA w b c l) (h2 : s.size ≤ 1000) (hl : l.length ≤ 1000) (hf : Fits m (codes s)) (M : Int) (hM : M = (m : Int)) :
    Calls Tryz.prog 44 #[.string s, .int .i64 M, .pointer (some ⟨b, 0, none⟩)] w fun e w' => e = .returned .nilIface ∧ Grow w b c w' (l ++ _root_.QR.encOf m (codes s)) := by
  subst hM
  have HB := Lib.hid h
  have hcl := codes_length s
  obtain ⟨hm, hn, ha⟩ := hf
  rcases hm with rfl | rfl | rfl
  · have hn' := Lib.hid (show ∀ k, k < s.size → 48 ≤ (codes s).getD k 0 ∧ (codes s).getD k 0 ≤ 57 from fun k hk => hn rfl k (by rw [hcl]; exact hk))
    clear h hn ha hcl
    go_enter Tryz.func44, Tryz.ntmps44
    go_wp2_with fail
    refine (appendNum_ok s b c l w HB.out h2 hl hn'.out).mono ?_
    rintro e w1 ⟨rfl, g⟩
    have G := Lib.hid g
    clear g
    go_wp2
    go_ret
    exact ⟨rfl, G.out⟩
  · have hn' := Lib.hid (show ∀ k, k < s.size → _root_.QR.acode ((codes s).getD k 0) ≠ -1 from fun k hk => ha rfl k (by rw [hcl]; exact hk))
    clear h hn ha hcl
    go_enter Tryz.func44, Tryz.ntmps44
    go_wp2_with fail
    refine (appendAlpha_ok s b c l w HB.out h2 hl hn'.out).mono ?_
    rintro e w1 ⟨rfl, g⟩
    have G := Lib.hid g
    clear g
    go_wp2
    go_ret
    exact ⟨rfl, G.out⟩
  · clear h hn ha hcl
    go_enter Tryz.func44, Tryz.ntmps44
    go_wp2_with fail
    refine (appendBytes8_ok s b c l w HB.out h2 hl).mono ?_
    rintro e w1 ⟨rfl, g⟩
    have G := Lib.hid g
    clear g
    go_wp2
    go_ret
    exact ⟨rfl, G.out⟩

set_option maxRecDepth 100000 in
theorem appendMode_ok (m b c : Nat) (l : List Bool) (w : World) (h : BA w b c l) (hl : l.length ≤ 1000) (hm : m ≤ 100) (M : Int) (hM : M = (m : Int)) :
    Calls Tryz.prog 43 #[.int .i64 M, .pointer (some ⟨b, 0, none⟩)] w fun e w' => e = .returned (.tuple #[]) ∧ Grow w b c w' (l ++ QR.bitsOf 4 m) := by
  subst hM
  have HB := Lib.hid h
  clear h
  go_enter Tryz.func43, Tryz.ntmps43
  go_wp2_with fail
  refine (modeBits_ok _ _).mono ?_
  rintro e w1 ⟨rfl, rfl⟩
  go_wp2_with fail
  refine (appendBits_g w w b c 4 l m (Grow.start HB.out) (by omega) (by omega) (by omega) _ _ rfl rfl).mono ?_
  rintro e w1 ⟨rfl, g⟩
  have G := Lib.hid g
  clear g
  go_wp2
  go_end0
  exact ⟨rfl, G.out⟩

set_option maxRecDepth 100000 in
set_option maxHeartbeats 800000 in
theorem appendLen_ok (n m s b v yb c : Nat) (l : List Bool) (w : World) (hV : Ver w s b v) (hv : v ≤ 7) (hG : BA w yb c l) (hl : l.length ≤ 1000) (hm : m = 1 ∨ m = 2 ∨ m = 4) (hn : n ≤ 200) (N M : Int) (hN : N = (n : Int)) (hM : M = (m : Int)) :
    Calls Tryz.prog 52 #[.int .i64 N, .pointer (some ⟨b, 0, none⟩), .int .i64 M, .pointer (some ⟨yb, 0, none⟩)] w fun e w' => e = .returned .nilIface ∧ Grow w yb c w' (l ++ QR.bitsOf (_root_.QR.lenBits m) n) := by
  subst hN hM
  have HV := Lib.hid hV
  have HB := Lib.hid hG
  clear hV hG
  rcases hm with rfl | rfl | rfl
  · go_enter Tryz.func52, Tryz.ntmps52
    go_wp2_with fail
    refine (charBits_ok 1 s b v w HV.out (by omega) hv).mono ?_
    rw [show QR.lenBits 1 = 10 from rfl]
    rintro e w1 ⟨rfl, k1⟩
    have K := Lib.hid k1
    clear k1
    go_wp2_with fail
    refine (appendBits_g w w1 yb c 10 l n ((Grow.start HB.out).keep K.out) (by omega) (by omega) (by omega) _ _ rfl rfl).mono ?_
    rintro e w1 ⟨rfl, g⟩
    have G := Lib.hid g
    clear g
    go_wp2
    go_ret
    exact ⟨rfl, G.out⟩
  · go_enter Tryz.func52, Tryz.ntmps52
    go_wp2_with fail
    refine (charBits_ok 2 s b v w HV.out (by omega) hv).mono ?_
    rw [show QR.lenBits 2 = 9 from rfl]
    rintro e w1 ⟨rfl, k1⟩
    have K := Lib.hid k1
    clear k1
    go_wp2_with fail
    refine (appendBits_g w w1 yb c 9 l n ((Grow.start HB.out).keep K.out) (by omega) (by omega) (by omega) _ _ rfl rfl).mono ?_
    rintro e w1 ⟨rfl, g⟩
    have G := Lib.hid g
    clear g
    go_wp2
    go_ret
    exact ⟨rfl, G.out⟩
  · go_enter Tryz.func52, Tryz.ntmps52
    go_wp2_with fail
    refine (charBits_ok 4 s b v w HV.out (by omega) hv).mono ?_
    rw [show QR.lenBits 4 = 8 from rfl]
    rintro e w1 ⟨rfl, k1⟩
    have K := Lib.hid k1
    clear k1
    go_wp2_with fail
    refine (appendBits_g w w1 yb c 8 l n ((Grow.start HB.out).keep K.out) (by omega) (by omega) (by omega) _ _ rfl rfl).mono ?_
    rintro e w1 ⟨rfl, g⟩
    have G := Lib.hid g
    clear g
    go_wp2
    go_ret
    exact ⟨rfl, G.out⟩

theorem room_ok (v i : Nat) (h1 : 1 ≤ v) (h7 : v ≤ 7) (hi : i < 4) : QR.total v = QR.ecN v i * QR.numBlocks v i + QR.dataWords v i ∧ QR.total v ≤ 196 ∧ QR.total v = _root_.QR.wordsN v := by
  have h : ∀ v, v < 8 → ∀ i, i < 4 → v = 0 ∨ (QR.total v = QR.ecN v i * QR.numBlocks v i + QR.dataWords v i ∧ QR.total v ≤ 196 ∧ QR.total v = _root_.QR.wordsN v) := by decide
  exact (h v (by omega) i hi).resolve_left (by omega)
theorem room7_ok (i : Nat) (hi : i < 4) : 66 ≤ QR.dataWords 7 i := by
  have h : ∀ i, i < 4 → 66 ≤ QR.dataWords 7 i := by decide
  exact h i hi
theorem lvAt_lt (l : Nat) : lvAt l < 4 := by unfold lvAt; split <;> omega

set_option maxRecDepth 100000 in
set_option maxHeartbeats 800000 in
theorem willFit_ok (n s b v l : Nat) (w : World) (hV : Ver w s b v) (h1 : 1 ≤ v) (h7 : v ≤ 7) (hl : l < 4) (hn : n ≤ 100000) (N L : Int) (hN : N = (n : Int)) (hL : L = (l : Int)) :
    Calls Tryz.prog 48 #[.int .i64 N, .pointer (some ⟨b, 0, none⟩), .int .i64 L] w fun e w' => e = .returned (.bool (decide ((n + 7) / 8 ≤ QR.dataWords v (lvAt l)))) ∧ Keeps (fun _ => False) w w' := by
  subst hN hL
  have HV := Lib.hid hV
  have hr := room_ok v (lvAt l) h1 h7 (lvAt_lt l)
  have HL := Lib.hid (lvAt_lt l)
  clear hV
  generalize hT : QR.total v = T at *
  generalize hX : QR.ecN v (lvAt l) * QR.numBlocks v (lvAt l) = X at *
  generalize hD : QR.dataWords v (lvAt l) = D at *
  obtain ⟨r1, r2, _⟩ := hr
  have HT := Lib.hid hT
  have HX := Lib.hid hX
  have hTX : (X : Int) ≤ (T : Int) := by omega
  have R1 := Lib.hid r1
  have hT2 : (T : Int) ≤ 196 := by omega
  clear hT hX hD r1 r2
  go_enter Tryz.func48, Tryz.ntmps48
  go_wp2_with fail
  refine (getTotal_ok s b v w HV.out).mono ?_
  rw [HT.out]
  rintro e w1 ⟨rfl, rfl⟩
  go_wp2_with fail
  refine (getLevel_ok s b v l w HV.out hl).mono ?_
  rintro e w1 ⟨rfl, hE, rfl⟩
  have HE := Lib.hid hE
  clear hE
  go_wp2_with fail
  refine (totalEC_ok _ _ _ v _ w HE.out h1 h7 HL.out).mono ?_
  rw [HX.out]
  rintro e w1 ⟨rfl, k1⟩
  have K := Lib.hid k1
  clear k1
  go_wp2
  go_ret
  exact ⟨ret_bool (decide_eq_decide.2 (by have := R1.out; omega)), K.out⟩

set_option maxRecDepth 100000 in
set_option maxHeartbeats 800000 in
theorem chooseVersion_ok (n l : Nat) (w : World) (hl : l < 4) (hn : (n + 7) / 8 ≤ 66) (N L : Int) (hN : N = (n : Int)) (hL : L = (l : Int)) :
    Calls Tryz.prog 112 #[.int .i64 N, .int .i64 L] w fun e w' => ∃ s b v, e = .returned (.tuple #[.pointer (some ⟨b, 0, none⟩), .nilIface]) ∧ Ver w' s b v ∧ 1 ≤ v ∧ v ≤ 7 ∧ (n + 7) / 8 ≤ QR.dataWords v (lvAt l) ∧ Keeps (fun _ => False) w w' ∧ w.heap.size ≤ s := by
  subst hN hL
  have H7 := Lib.hid (room7_ok (lvAt l) (lvAt_lt l))
  go_enter Tryz.func112, Tryz.ntmps112
  go_wp2_with fail
  go_loopw [6] (fun i wr => ∃ k : Nat, 1 ≤ k ∧ k ≤ 7 ∧ i = .int .i64 (k : Int) ∧ Keeps (fun _ => False) w wr) (fun i _ => 7 - (intOf i).toNat)
  case atStart => exact ⟨1, by omega, by omega, rfl, Keeps.refl _ _⟩
  case round =>
    obtain ⟨k, k1, k7, rfl, hk⟩ := hrel
    have K := Lib.hid hk
    clear hk
    have hs := K.out.size
    go_wp2_with fail
    refine (version_ok k wr k1 k7 _ rfl).mono ?_
    rintro e w1 ⟨b, rfl, hV, hk⟩
    have HV := Lib.hid hV
    have K1 := Lib.hid hk
    clear hV hk
    go_wp2_with fail
    refine (willFit_ok n _ b k l _ HV.out k1 k7 hl (by omega) _ _ rfl rfl).mono ?_
    rintro e w2 ⟨rfl, hk⟩
    have K2 := Lib.hid hk
    clear hk
    by_cases hf : (n + 7) / 8 ≤ QR.dataWords k (lvAt l)
    · have hd : decide ((n + 7) / 8 ≤ QR.dataWords k (lvAt l)) = true := decide_eq_true hf
      have HF := Lib.hid hf
      rw [hd]
      clear hf hd
      go_wp2
      go_ret2
      exact ⟨_, b, k, rfl, HV.out.keep K2.out (fun _ _ _ h => h), k1, k7, HF.out, (K.out.trans K1.out).trans K2.out, hs⟩
    · have hd : decide ((n + 7) / 8 ≤ QR.dataWords k (lvAt l)) = false := decide_eq_false hf
      have h6 : k < 7 := by
        rcases Nat.lt_or_ge k 7 with h | h
        · exact h
        · obtain rfl : k = 7 := by omega
          have := H7.out
          omega
      rw [hd]
      clear hf hd
      go_wp2
      go_roundw
      case rel => exact ⟨k + 1, by omega, by omega, by go_num, (K.out.trans K1.out).trans K2.out⟩
      case measure => simp [intOf]; omega

set_option maxRecDepth 100000 in
set_option maxHeartbeats 800000 in
theorem bitsNeeded_ok (m s b v b1 c1 b2 c2 : Nat) (l1 l2 : List Bool) (w : World) (hV : Ver w s b v) (h7 : v ≤ 7) (h1 : BA w b1 c1 l1) (h2 : BA w b2 c2 l2) (hl1 : l1.length ≤ 1000) (hl2 : l2.length ≤ 1000) (hm : m = 1 ∨ m = 2 ∨ m = 4) (M : Int) (hM : M = (m : Int)) :
    Calls Tryz.prog 47 #[.int .i64 M, .pointer (some ⟨b1, 0, none⟩), .pointer (some ⟨b2, 0, none⟩), .pointer (some ⟨b, 0, none⟩)] w fun e w' =>
      e = .returned (.int .i64 ((l1.length + _root_.QR.lenBits m + l2.length : Nat) : Int)) ∧ Keeps (fun _ => False) w w' := by
  subst hM
  have HV := Lib.hid hV
  have H1 := Lib.hid h1
  have H2 := Lib.hid h2
  have hq : _root_.QR.lenBits m ≤ 10 := by rcases hm with rfl | rfl | rfl <;> decide
  have HQ := Lib.hid (lenBits_eq m hm)
  clear hV h1 h2
  generalize _root_.QR.lenBits m = q at *
  go_enter Tryz.func47, Tryz.ntmps47
  go_wp2_with fail
  refine (getSize_ok b1 c1 l1 w H1.out).mono ?_
  rintro e w1 ⟨rfl, rfl⟩
  go_wp2_with fail
  refine (charBits_ok m s b v w HV.out hm h7).mono ?_
  rw [HQ.out]
  rintro e w1 ⟨rfl, k1⟩
  have K := Lib.hid k1
  clear k1
  go_wp2_with fail
  refine (getSize_ok b2 c2 l2 w1 (H2.out.keep K.out (fun h => h) (fun h => h))).mono ?_
  rintro e w2 ⟨rfl, rfl⟩
  go_wp2
  go_ret
  exact ⟨ret_int (by omega), K.out⟩

set_option maxRecDepth 100000 in
set_option maxHeartbeats 800000 in
theorem recommend_ok (m l b1 c1 b2 c2 : Nat) (l1 l2 : List Bool) (w : World) (h1 : BA w b1 c1 l1) (h2 : BA w b2 c2 l2) (hl : l < 4) (hm : m = 1 ∨ m = 2 ∨ m = 4) (hl1 : l1.length ≤ 1000) (hl2 : l2.length ≤ 1000) (hn : (l1.length + _root_.QR.lenBits m + l2.length + 7) / 8 ≤ 66) (M L : Int) (hM : M = (m : Int)) (hL : L = (l : Int)) :
    Calls Tryz.prog 49 #[.int .i64 L, .int .i64 M, .pointer (some ⟨b1, 0, none⟩), .pointer (some ⟨b2, 0, none⟩)] w fun e w' => ∃ s b v, e = .returned (.tuple #[.pointer (some ⟨b, 0, none⟩), .nilIface]) ∧ Ver w' s b v ∧ 1 ≤ v ∧ v ≤ 7 ∧
      (l1.length + _root_.QR.lenBits m + l2.length + 7) / 8 ≤ QR.dataWords v (lvAt l) ∧ Keeps (fun _ => False) w w' ∧ w.heap.size ≤ s := by
  subst hM hL
  have H1 := Lib.hid h1
  have H2 := Lib.hid h2
  clear h1 h2
  go_enter Tryz.func49, Tryz.ntmps49
  go_wp2_with fail
  refine (version_ok 1 w (by omega) (by omega) _ rfl).mono ?_
  rintro e w1 ⟨vb, rfl, hV, hk⟩
  have HV := Lib.hid hV
  have K1 := Lib.hid hk
  clear hV hk
  go_wp2_with fail
  refine (bitsNeeded_ok m _ vb 1 b1 c1 b2 c2 l1 l2 _ HV.out (by omega) (H1.out.keep K1.out (fun h => h) (fun h => h)) (H2.out.keep K1.out (fun h => h) (fun h => h)) hl1 hl2 hm _ rfl).mono ?_
  rintro e w2 ⟨rfl, hk⟩
  have K2 := Lib.hid (K1.out.trans hk)
  clear hk
  go_wp2_with fail
  refine (chooseVersion_ok _ l _ hl hn _ _ rfl rfl).mono ?_
  rintro e w3 ⟨s3, b3, v3, rfl, hV, a1, a7, _, hk, hs⟩
  have HV3 := Lib.hid hV
  have K3 := Lib.hid (K2.out.trans hk)
  clear hV hk hs
  go_wp2_with fail
  refine (bitsNeeded_ok m s3 b3 v3 b1 c1 b2 c2 l1 l2 _ HV3.out a7 (H1.out.keep K3.out (fun h => h) (fun h => h)) (H2.out.keep K3.out (fun h => h) (fun h => h)) hl1 hl2 hm _ rfl).mono ?_
  rintro e w4 ⟨rfl, hk⟩
  have K4 := Lib.hid (K3.out.trans hk)
  clear hk
  go_wp2_with fail
  refine (chooseVersion_ok _ l _ hl hn _ _ rfl rfl).mono ?_
  rintro e w5 ⟨s5, b5, v5, rfl, hV, c1', c7, c8, hk, hs⟩
  have HR := Lib.hid (show Ver w5 s5 b5 v5 ∧ 1 ≤ v5 ∧ v5 ≤ 7 ∧ (l1.length + _root_.QR.lenBits m + l2.length + 7) / 8 ≤ QR.dataWords v5 (lvAt l) ∧ Keeps (fun _ => False) w w5 ∧ w.heap.size ≤ s5 from
    ⟨hV, c1', c7, c8, K4.out.trans hk, Nat.le_trans K4.out.size hs⟩)
  clear hV c8 hk hs
  go_wp2
  go_ret2
  exact ⟨s5, b5, v5, rfl, HR.out⟩

end Go.Proofs.YtplpafbkalkchaaGreatDoor
