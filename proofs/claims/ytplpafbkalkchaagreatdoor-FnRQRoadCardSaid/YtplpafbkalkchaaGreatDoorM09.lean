/-
  Parts of the proof (RS5, RS6).
-/
import Derived.Test.YtplpafbkalkchaaGreatDoorM08
set_option linter.unusedSimpArgs false
set_option linter.unusedVariables false

namespace Go.Proofs.YtplpafbkalkchaaGreatDoor
open Go.RowKit

namespace QR
open _root_.QR
/-- A polynomial times c x^d, before zeros ahead are left out. -/
def monoL (l : List Nat) (d c : Nat) : List Nat := l.map (gmul · c) ++ List.replicate d 0
theorem monoL_length (l : List Nat) (d c : Nat) : (monoL l d c).length = l.length + d := by simp [monoL]
theorem monoL_get (l : List Nat) (d c j : Nat) : (monoL l d c).getD j 0 = if j < l.length then gmul (l.getD j 0) c else 0 := by
  unfold monoL
  simp only [List.getD, List.getElem?_append, List.length_map]
  by_cases h : j < l.length
  · simp [h]
  · rw [if_neg h, if_neg h, List.getElem?_replicate]; split <;> rfl
theorem monoL_bytes {l : List Nat} (h : Bytes l) (d : Nat) {c : Nat} (hc : c < 256) : Bytes (monoL l d c) := by
  intro x hx
  rcases List.mem_append.1 hx with h1 | h1
  · obtain ⟨y, hy, rfl⟩ := List.mem_map.1 h1; exact gmul_lt (h y hy) hc
  · have := List.eq_of_mem_replicate h1; omega
theorem eval_monoL {x : Nat} (hx : x < 256) {l : List Nat} (h : Bytes l) (d : Nat) {c : Nat} (hc : c < 256) : eval x (monoL l d c) = powM x d (gmul c (eval x l)) := by
  have hb : Bytes (l.map (gmul · c)) := fun x hx => by obtain ⟨y, hy, rfl⟩ := List.mem_map.1 hx; exact gmul_lt (h y hy) hc
  unfold monoL
  rw [eval_append hx _ _ hb (fun c hc => by have := List.eq_of_mem_replicate hc; omega), eval_zeros, Nat.xor_zero, List.length_replicate]
  congr 1
  have e : l.map (gmul · c) = l.map (gmul c ·) := List.map_congr_left (fun y _ => gmul_comm y c)
  rw [e]
  have := eval_scale hx hc l 0 h (by omega)
  rw [gmul_zero] at this
  exact this
end QR

set_option maxRecDepth 100000 in
set_option maxHeartbeats 400000 in
theorem polyMono_ok (p g d c : Nat) (l : List Nat) (w : World) (hp : Poly w p g l) (hg : Fld w g) (hl : l.length ≤ 10000) (hd : d ≤ 10000) (hc : c < 256) (hc0 : c ≠ 0) (D C : Int) (hD : D = (d : Int)) (hC : C = (c : Int)) :
    Calls Tryz.prog 175 #[.pointer (some ⟨p, 0, none⟩), .int .i64 D, .int .i64 C] w fun e w' => ∃ r, e = .returned (.tuple #[.pointer (some ⟨r, 0, none⟩), .nilIface]) ∧ Poly w' r g (QR.strip (QR.monoL l d c)) ∧ Keeps (fun _ => False) w w' := by
  subst hD hC
  obtain ⟨⟨ca, oa, ka, p1, hca, hka⟩, na, ba⟩ := id hp
  have hpos := hp.pos
  have e0 := p1.cell (i := 0) rfl
  have e1 := p1.cell (i := 1) rfl
  have HP := Lib.hid (And.intro p1 hca)
  have HG := Lib.hid hg
  have HB := Lib.hid (QR.monoL_bytes ba d hc)
  have hmk := make_rep (P := Tryz.prog) 157 3 (.int .i64 0) 8 Tryz.underlying157 info3 rfl (l.length + d) (by omega) (by omega) w
  rw [show ((l.length + d : Nat) : Int) = (l.length : Int) + (d : Int) by omega] at hmk
  have dc : ((c : Int) == 0) = false := by simp; omega
  have hlt0 := p1.lt
  have hnew : FB (w.alloc (.cells (rep (l.length + d) (.int .i64 0)).toArray 3)) w.heap.size (l.length + d) (fun j => vi (if j < 0 then _root_.QR.gmul (l.getD j 0) c else 0)) 3 := (FB.new w (l.length + d) (.int .i64 0) 3).congr (fun j _ => by simp [vi])
  have R0 := Lib.hid (And.intro hnew ((Keeps.refl (fun _ => False) w).alloc (.cells (rep (l.length + d) (.int .i64 0)).toArray 3)))
  generalize hB : w.heap.size = B at *
  have HBB := Lib.hid hB
  have HBA := Lib.hid ba
  clear hnew hB p1 hca hp hg ba
  go_enter Tryz.func175, Tryz.ntmps175
  go_wp2_with fail
  clear hmk e0 e1
  go_loopw [10] (fun i wr => ∃ k : Nat, k ≤ l.length ∧ i = .int .i64 (k : Int) ∧ FB wr B (l.length + d) (fun j => vi (if j < k then _root_.QR.gmul (l.getD j 0) c else 0)) 3 ∧ Keeps (fun _ => False) w wr) (fun i _ => l.length - (intOf i).toNat)
  case atStart => exact ⟨0, by omega, rfl, R0.out.1, R0.out.2⟩
  case round =>
    obtain ⟨k, k1, rfl, r1, r2⟩ := hrel
    have e0 := (HP.out.1.keep r2 (fun h => h)).cell (i := 0) rfl
    have e1 := (HP.out.1.keep r2 (fun h => h)).cell (i := 1) rfl
    by_cases hlt : k < l.length
    · have b1 := (HP.out.2.keep r2 (fun h => h)).cell hlt
      have b3 := r1.cell (i := k) (by omega)
      have b4 := r1.free k
      obtain ⟨x, hx⟩ : ∃ x, l.getD k 0 = x := ⟨_, rfl⟩
      have hxl : x < 256 := HBA.out x (by rw [← hx]; simp [List.getD, hlt])
      rw [hx] at b1
      rw [if_neg (by omega)] at b3
      unfold vi at b3
      have hset : FB (wr.setCell ⟨B, k, none⟩ (.int .i64 ((_root_.QR.gmul x c : Nat) : Int))) B (l.length + d) (fun j => vi (if j < k + 1 then _root_.QR.gmul (l.getD j 0) c else 0)) 3 :=
        r1.set k _ (fun j _ => by
          by_cases e : j = k
          · subst e; rw [if_pos rfl, if_pos (by omega), hx]; rfl
          · have h2 : (j < k + 1) ↔ (j < k) := by omega
            simp only [e, if_false, h2])
      have HS := Lib.hid (And.intro hset (r2.setCell (p := ⟨B, k, none⟩) (Or.inr (by show w.heap.size ≤ B; rw [HBB.out]; exact Nat.le_refl _)) (.int .i64 ((_root_.QR.gmul x c : Nat) : Int))))
      have HGR := Lib.hid (HG.out.keep r2)
      have hlt' := Int.ofNat_lt.2 hlt
      have hlt2 : (k : Int) < ((l.length + d : Nat) : Int) := by omega
      clear r1 r2 hset hx
      go_wp2_with fail
      go_region_with (go_at_call 212; refine (gfMul_ok g x c _ HGR.out.drew hxl hc).mono ?_; rintro e w1 ⟨rfl, m, rfl⟩)
      all_goals go_wp2
      all_goals
        go_roundw
        case rel => exact ⟨k + 1, by omega, by go_num, HS.out.1.drewN _, HS.out.2.drewN _⟩
        case measure => simp [intOf]; omega
    · obtain rfl : k = l.length := by omega
      have HC := Lib.hid (Cof.of_fb r1 (l := QR.monoL l d c) (QR.monoL_length l d c) (fun j hj => by rw [QR.monoL_get]))
      have HK := Lib.hid r2
      have HLN := Lib.hid (show l.length + d = (QR.monoL l d c).length from (QR.monoL_length l d c).symm)
      clear r1 r2
      go_wp2_with fail
      refine (newPoly_ok g B 0 (l.length + d) (l.length + d) (QR.monoL l d c) wr HC.out HLN.out (by rw [← HLN.out]; omega) (Nat.le_refl _) HB.out (by omega)).mono ?_
      rintro e w1 ⟨r, rfl, z1, z2, z3⟩
      have Z1 := Lib.hid (And.intro z1 (HK.out.trans z2))
      clear z1 z2 z3
      go_wp2
      go_ret2
      exact ⟨r, rfl, Z1.out⟩

set_option maxRecDepth 100000 in
set_option maxHeartbeats 400000 in
theorem gfMono_ok (g d c : Nat) (w : World) (hg : Fld w g) (hd : d ≤ 10000) (hc : c < 256) (hc0 : c ≠ 0) (D C : Int) (hD : D = (d : Int)) (hC : C = (c : Int)) :
    Calls Tryz.prog 217 #[.pointer (some ⟨g, 0, none⟩), .int .i64 D, .int .i64 C] w fun e w' => ∃ r l, e = .returned (.tuple #[.pointer (some ⟨r, 0, none⟩), .nilIface]) ∧ Poly w' r g l ∧ l.length ≤ d + 1 ∧ Keeps (fun _ => False) w w' := by
  subst hD hC
  have hmk := make_rep (P := Tryz.prog) 157 3 (.int .i64 0) 8 Tryz.underlying157 info3 rfl (d + 1) (by omega) (by omega) w
  rw [show ((d + 1 : Nat) : Int) = (d : Int) + 1 by omega] at hmk
  have dc : ((c : Int) == 0) = false := by simp; omega
  have hnew := FB.new w (d + 1) (.int .i64 0) 3
  have b0 := hnew.cell (i := 0) (by omega)
  have b1 := hnew.free 0
  have hset := hnew.set (G := fun j => vi ((c :: List.replicate d 0).getD j 0)) 0 (.int .i64 (c : Int)) (fun j hj => by
    cases j with
    | zero => rfl
    | succ j =>
      rw [if_neg (by omega)]
      have : (c :: List.replicate d 0).getD (j + 1) 0 = 0 := by
        simp only [List.getD, List.getElem?_cons_succ, List.getElem?_replicate]; split <;> rfl
      rw [this]; rfl)
  have hkk : Keeps (fun _ => False) w ((w.alloc (.cells (rep (d + 1) (.int .i64 0)).toArray 3)).setCell ⟨w.heap.size, 0, none⟩ (.int .i64 (c : Int))) := ((Keeps.refl _ w).alloc _).setCell (Or.inr (Nat.le_refl _)) _
  have HC := Lib.hid (And.intro (Cof.of_fb hset (l := c :: List.replicate d 0) (by simp) (fun j _ => rfl)) hkk)
  have hgl : g < w.heap.size := by obtain ⟨⟨_, _, _, _, h, _⟩⟩ := hg; exact h.lt
  clear hnew hset hkk hg
  generalize (w.alloc (.cells (rep (d + 1) (.int .i64 0)).toArray 3)) = W1 at *
  generalize w.heap.size = B at *
  have HBY := Lib.hid (show _root_.QR.Bytes (c :: List.replicate d 0) from fun x hx => by
    rcases List.mem_cons.1 hx with rfl | h
    · exact hc
    · have := List.eq_of_mem_replicate h; omega)
  go_enter Tryz.func217, Tryz.ntmps217
  go_wp2_with fail
  refine (newPoly_ok g B 0 (d + 1) (d + 1) (c :: List.replicate d 0) _ HC.out.1 (by simp) (by simp) (Nat.le_refl _) HBY.out (by omega)).mono ?_
  rintro e w1 ⟨r, rfl, z1, z2, z3⟩
  have Z1 := Lib.hid (And.intro z1 (HC.out.2.trans z2))
  clear z1 z2 z3
  go_wp2
  go_ret2
  refine ⟨r, _, rfl, Z1.out.1, ?_, Z1.out.2⟩
  have := QR.strip_length (c :: List.replicate d 0)
  simp at this
  omega

end Go.Proofs.YtplpafbkalkchaaGreatDoor

namespace Go.Proofs.YtplpafbkalkchaaGreatDoor
open Go.RowKit

/-- What a round of the division keeps. -/
structure DivRel (w0 wr : World) (g qb rb : Nat) (a b lq lr : List Nat) : Prop where
  quo : Poly wr qb g lq
  rem : Poly wr rb g lr
  hlq : lq.length ≤ a.length
  hlr : lr.length ≤ a.length
  ev : ∀ x, x < 256 → _root_.QR.eval x b = 0 → _root_.QR.eval x lr = _root_.QR.eval x a
  keep : Keeps (fun _ => False) w0 wr

set_option maxRecDepth 100000 in
set_option maxHeartbeats 1000000 in
theorem polyDiv_ok (p q g : Nat) (a b : List Nat) (w : World) (hp : Poly w p g a) (hq : Poly w q g b) (hg : Fld w g) (hla : a.length ≤ 5000) (hlb : 2 ≤ b.length) (hlb2 : b.length ≤ 5000) (hb1 : b.getD 0 0 = 1) :
    Calls Tryz.prog 176 #[.pointer (some ⟨p, 0, none⟩), .pointer (some ⟨q, 0, none⟩)] w fun e w' => ∃ qb rb lq lr, e = .returned (.tuple #[.pointer (some ⟨qb, 0, none⟩), .pointer (some ⟨rb, 0, none⟩), .nilIface]) ∧ DivRel w w' g qb rb a b lq lr ∧ (lr.length < b.length ∨ lr.getD 0 0 = 0) := by
  obtain ⟨⟨ca, oa, ka, p1, hca, hka⟩, na, ba⟩ := id hp
  obtain ⟨⟨cb, ob, kb, q1, hcb, hkb⟩, nb, bb⟩ := id hq
  have e0 := p1.cell (i := 0) rfl
  have e2 := q1.cell (i := 0) rfl
  have HP := Lib.hid hp
  have HQ := Lib.hid hq
  have HG := Lib.hid hg
  have HPB := Lib.hid p1
  have hpa := hp.pos
  have hne := neq177 ⟨g, 0, none⟩
  have Z := Lib.hid (show (b.getD 0 0 == 0) = false by rw [hb1]; rfl)
  have HB1 := Lib.hid hb1
  have HNB := Lib.hid nb
  have HBB := Lib.hid bb
  clear p1 q1 hca hcb hka hkb na ba nb bb hp hq hg hb1
  go_enter Tryz.func176, Tryz.ntmps176
  go_wp2_with fail
  go_region
  all_goals clear hne
  go_wp2_with fail
  refine (polyIsZero_ok q g b _ HQ.out.drew).mono ?_
  rw [Z.out]
  rintro e w1 ⟨rfl, rfl⟩
  go_wp2_with fail
  refine (gfZero_ok g _ HG.out.drew).mono ?_
  rintro e w1 ⟨z, rfl, hz, rfl⟩
  have HZ := Lib.hid hz
  clear hz
  go_wp2_with fail
  refine (polyDeg_ok q g b _ HQ.out.drew (by omega)).mono ?_
  rintro e w1 ⟨rfl, rfl⟩
  go_wp2_with fail
  refine (polyLead_ok q g b _ HQ.out.drew (by omega) _ rfl).mono ?_
  rw [HB1.out]
  rintro e w1 ⟨rfl, m, rfl⟩
  go_wp2_with fail
  refine (gfInv1_ok g (w.drewN (1 + m)) (HG.out.drewN _)).mono ?_
  rintro e w1 ⟨rfl, m2, rfl⟩
  have hst : DivRel w (w.drewN (1 + m + m2)) g z p a b [0] a := ⟨HZ.out.keep (w := w.drew) ⟨rfl, rfl, rfl, Nat.le_refl _, fun _ _ _ => rfl⟩, HP.out.drewN _, hpa, Nat.le_refl _, fun _ _ _ => rfl, (Keeps.refl _ w).drewN _⟩
  have ST := Lib.hid hst
  clear hst e0 e2
  go_wp2_with fail
  go_loopg [4, 5] a.length (fun k s4 s5 wr => ∃ qb rb lq lr, k = lr.length ∧ s4 = .pointer (some ⟨qb, 0, none⟩) ∧ s5 = .pointer (some ⟨rb, 0, none⟩) ∧ DivRel w wr g qb rb a b lq lr)
  case atStart => exact ⟨z, p, [0], a, rfl, rfl, rfl, ST.out⟩
  case round =>
    obtain ⟨qb, rb, lq, lr, rfl, rfl, rfl, hr⟩ := hrel
    have hkeep := hr.keep
    have HR := Lib.hid hr
    have hlr := hr.hlr
    have hlq := hr.hlq
    have hlr0 := hr.rem.pos
    have HQR := Lib.hid (HQ.out.keep hkeep)
    have HGR := Lib.hid (HG.out.keep hkeep)
    have f0 := (HPB.out.keep hkeep (fun h => h)).cell (i := 0) rfl
    have HPR := Lib.hid (HPB.out.keep hkeep (fun h => h))
    clear hr hkeep
    go_wp2_with fail
    refine (polyDeg_ok rb g lr _ HR.out.rem (by omega)).mono ?_
    rintro e w1 ⟨rfl, rfl⟩
    go_wp2_with fail
    refine (polyDeg_ok q g b _ HQR.out (by omega)).mono ?_
    rintro e w1 ⟨rfl, rfl⟩
    by_cases hlen : lr.length < b.length
    · have d1 : (decide ((b.length : Int) - 1 ≤ (lr.length : Int) - 1)) = false := decide_eq_false (by omega)
      go_wp2
      go_ret3
      exact ⟨qb, rb, lq, lr, rfl, HR.out, Or.inl hlen⟩
    · have d1 : (decide ((b.length : Int) - 1 ≤ (lr.length : Int) - 1)) = true := decide_eq_true (by omega)
      go_wp2_with fail
      refine (polyIsZero_ok rb g lr _ HR.out.rem).mono ?_
      rintro e w1 ⟨rfl, rfl⟩
      by_cases hz : lr.getD 0 0 = 0
      · rw [show (lr.getD 0 0 == 0) = true by rw [hz]; rfl]
        have HZ0 := Lib.hid hz
        clear hz
        go_wp2
        go_ret3
        exact ⟨qb, rb, lq, lr, rfl, HR.out, Or.inr HZ0.out⟩
      · rw [show (lr.getD 0 0 == 0) = false by simpa using hz]
        obtain ⟨s, hs⟩ : ∃ s, lr.getD 0 0 = s := ⟨_, rfl⟩
        have hsl : s < 256 := HR.out.rem.byt s (by
          have : 0 < lr.length := hlr0
          rw [← hs]; simp [List.getD, this])
        rw [hs] at hz
        have HS := Lib.hid hs
        clear hs d1
        go_wp2_with fail
        refine (polyDeg_ok rb g lr _ HR.out.rem (by omega)).mono ?_
        rintro e w1 ⟨rfl, rfl⟩
        go_wp2_with fail
        refine (polyDeg_ok q g b _ HQR.out (by omega)).mono ?_
        rintro e w1 ⟨rfl, rfl⟩
        go_wp2_with fail
        have c215 := Lib.hid (fun n => (polyDeg_ok rb g lr (wr.drewN n) (HR.out.rem.drewN n) (by omega)).mono (fun e w' h => (⟨h.1, h.2.symm⟩ : e = .returned (.int .i64 ((lr.length : Int) - 1)) ∧ w' = wr.drewN n)))
        have c214 : Hid (∀ n, Calls Tryz.prog 214 #[.pointer (some ⟨rb, 0, none⟩), .int .i64 ((lr.length : Int) - 1)] (wr.drewN n) fun e w' => e = .returned (.int .i64 (s : Int)) ∧ ∃ m, w' = (wr.drewN n).drewN m) :=
          Lib.hid (fun n => by have h := polyLead_ok rb g lr (wr.drewN n) (HR.out.rem.drewN n) (by omega) _ rfl; rw [HS.out] at h; exact h)
        have c212 : Hid (∀ n, Calls Tryz.prog 212 #[.pointer (some ⟨g, 0, none⟩), .int .i64 (s : Int), .int .i64 1] (wr.drewN n) fun e w' => e = .returned (.int .i64 (s : Int)) ∧ ∃ m, w' = (wr.drewN n).drewN m) :=
          Lib.hid (fun n => by have h := gfMul_ok g s 1 (wr.drewN n) (HGR.out.drewN n) hsl (by omega); rw [_root_.QR.gmul_comm, _root_.QR.gmul_one hsl] at h; exact h)
        go_quiet (first | (go_at_call 215; exact Calls.quiet_of_same (c215.out _)) | (go_at_call 214; exact Calls.quiet_of (c214.out _)) | (go_at_call 212; exact Calls.quiet_of (c212.out _)))
        obtain ⟨d, hd⟩ : ∃ d, lr.length - b.length = d := ⟨_, rfl⟩
        clear c215 c214 c212
        have f1 := f0
        clear f0
        go_wp2_with fail
        refine (polyMono_ok q g d s b _ (HQR.out.drewN nq) (HGR.out.drewN nq) (by omega) (by omega) hsl hz _ _ (by omega) rfl).mono ?_
        rintro e w1 ⟨tb, rfl, t1, t2⟩
        have T := Lib.hid (And.intro t1 t2)
        have f2 : w1.cell? ⟨p, 0, none⟩ = some (.pointer (some ⟨g, 0, none⟩)) := (t2.cell (p := ⟨p, 0, none⟩) (show p < wr.heap.size from HPR.out.lt) (fun h => h)).trans f1
        have HG1 := Lib.hid (HGR.out.keep (w' := w1) (((Keeps.refl _ wr).drewN nq).trans t2))
        have HR1 := Lib.hid (HR.out.rem.keep (w' := w1) (((Keeps.refl _ wr).drewN nq).trans t2))
        have HQ1 := Lib.hid (HR.out.quo.keep (w' := w1) (((Keeps.refl _ wr).drewN nq).trans t2))
        have HK1 := Lib.hid ((HR.out.keep.drewN nq).trans t2)
        clear t1 t2 f1
        go_wp2_with fail
        refine (gfMono_ok g d s _ HG1.out (by omega) hsl hz _ _ (by omega) rfl).mono ?_
        rintro e w2 ⟨mb, lm, rfl, m1, m2, m3⟩
        have M := Lib.hid (And.intro m1 m2)
        have HR2 := Lib.hid (HR1.out.keep m3)
        have HQ2 := Lib.hid (HQ1.out.keep m3)
        have HT2 := Lib.hid (T.out.1.keep m3)
        have HK2 := Lib.hid (HK1.out.trans m3)
        clear m1 m2 m3 f2
        go_wp2_with fail
        refine (polyAdd_ok qb mb g lq lm _ HQ2.out M.out.1 (by omega) (by have := M.out.2; omega)).mono ?_
        rintro e w3 ⟨q2, rfl, a1, a2⟩
        have A1 := Lib.hid a1
        have HR3 := Lib.hid (HR2.out.keep a2)
        have HT3 := Lib.hid (HT2.out.keep a2)
        have HK3 := Lib.hid (HK2.out.trans a2)
        clear a1 a2
        have hml := QR.monoL_length b d s
        have hmh : (QR.monoL b d s).getD 0 0 = s := by
          rw [QR.monoL_get, if_pos (by omega), HB1.out, _root_.QR.gmul_one hsl]
        have hnrm : QR.strip (QR.monoL b d s) = QR.monoL b d s := QR.strip_of_nrm ⟨fun e => by rw [e] at hml; simp at hml; omega, Or.inr (by rw [hmh]; exact hz)⟩
        have HML := Lib.hid (And.intro hml (And.intro hmh hnrm))
        clear hml hmh hnrm
        go_wp2_with fail
        refine (polyAdd_ok rb tb g lr (QR.strip (QR.monoL b d s)) _ HR3.out HT3.out (by omega) (by rw [HML.out.2.2, HML.out.1]; omega)).mono ?_
        rintro e w4 ⟨r2, rfl, a3, a4⟩
        have A3 := Lib.hid (And.intro a3 a4)
        have hshort := QR.addP_short (a := lr) (b := QR.strip (QR.monoL b d s)) (by rw [HML.out.2.2, HML.out.1]; omega) (by omega) (by rw [HML.out.2.2, HML.out.2.1]; exact HS.out) (by rw [HS.out]; exact hz)
        have hql := QR.addP_length (a := lq) (b := lm) HQ2.out.pos M.out.1.pos
        clear a3 a4
        go_wp2
        go_roundg ((QR.addP lr (QR.strip (QR.monoL b d s))).length)
        case rel =>
          refine ⟨q2, r2, QR.addP lq lm, _, rfl, rfl, rfl, A1.out.keep A3.out.2, A3.out.1, by have := M.out.2; omega, by omega, fun x hx hxb => ?_, HK3.out.trans A3.out.2⟩
          rw [QR.eval_addP hx HR.out.rem.nrm HT3.out.nrm HR.out.rem.byt HT3.out.byt, QR.eval_strip, QR.eval_monoL hx HBB.out d hsl, hxb, _root_.QR.gmul_zero, _root_.QR.powM_zero, Nat.xor_zero, HR.out.ev x hx hxb]
        case measure => omega

end Go.Proofs.YtplpafbkalkchaaGreatDoor
