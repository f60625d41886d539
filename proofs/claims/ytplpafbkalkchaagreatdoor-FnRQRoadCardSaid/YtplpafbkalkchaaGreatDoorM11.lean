/-
  Parts of the proof (RS7, RS8).
-/
import Derived.Test.YtplpafbkalkchaaGreatDoorM09
import Derived.Test.YtplpafbkalkchaaGreatDoorM10
import Derived.Deep.RegionHeld3
set_option linter.unusedSimpArgs false
set_option linter.unusedVariables false

namespace Go.Proofs.YtplpafbkalkchaaGreatDoor
open Go.RowKit

namespace QR
open _root_.QR
/-- A polynomial times (x + c). -/
def linP (a : List Nat) (c : Nat) : List Nat := List.zipWith (· ^^^ ·) (a ++ [0]) (0 :: a.map (gmul · c))
theorem linP_length (a : List Nat) (c : Nat) : (linP a c).length = a.length + 1 := by simp [linP]
/-- .. while it is formed. -/
def linF (a : List Nat) (c k k' t : Nat) : Nat := (if t < k then a.getD t 0 else 0) ^^^ (if 1 ≤ t ∧ t ≤ k' then gmul (a.getD (t - 1) 0) c else 0)
theorem linP_get (a : List Nat) (c t : Nat) (h : t < a.length + 1) : (linP a c).getD t 0 = linF a c a.length a.length t := by
  unfold linP linF
  simp only [List.getD, List.getElem?_zipWith]
  have h1 : (a ++ [0])[t]? = some (if t < a.length then a[t]?.getD 0 else 0) := by
    rw [List.getElem?_append]
    by_cases e : t < a.length
    · simp [e]
    · have : t - a.length = 0 := by omega
      simp [e, this]
  have h2 : (0 :: a.map (gmul · c))[t]? = some (if 1 ≤ t ∧ t ≤ a.length then gmul (a[t - 1]?.getD 0) c else 0) := by
    cases t with
    | zero => simp
    | succ t =>
      have e : t < a.length := by omega
      simp [e]
      omega
  rw [h1, h2]
  rfl
theorem linP_bytes {a : List Nat} (h : Bytes a) {c : Nat} (hc : c < 256) : Bytes (linP a c) := by
  refine zip_bytes (fun x hx => ?_) (fun x hx => ?_)
  · rcases List.mem_append.1 hx with h1 | h1
    · exact h x h1
    · simp at h1; omega
  · rcases List.mem_cons.1 hx with h1 | h1
    · omega
    · obtain ⟨y, hy, rfl⟩ := List.mem_map.1 h1; exact gmul_lt (h y hy) hc
theorem linP_head (a : List Nat) (c : Nat) (h : 0 < a.length) : (linP a c).getD 0 0 = a.getD 0 0 := by
  rw [linP_get a c 0 (by omega)]; simp [linF, h]
theorem linP_nrm {a : List Nat} (c : Nat) (h : 0 < a.length) (h0 : a.getD 0 0 ≠ 0) : Nrm (linP a c) :=
  ⟨fun e => by have := linP_length a c; rw [e] at this; simp at this, Or.inr (by rw [linP_head a c h]; exact h0)⟩
/-- Its value: times (x + c). -/
theorem eval_linP {x : Nat} (hx : x < 256) {a : List Nat} (h : Bytes a) {c : Nat} (hc : c < 256) : eval x (linP a c) = gmul (x ^^^ c) (eval x a) := by
  have hb1 : Bytes (a ++ [0]) := fun y hy => by
    rcases List.mem_append.1 hy with h1 | h1
    · exact h y h1
    · simp at h1; omega
  have hb3 : Bytes (a.map (gmul · c)) := fun y hy => by obtain ⟨z, hz, rfl⟩ := List.mem_map.1 hy; exact gmul_lt (h z hz) hc
  have hb2 : Bytes (0 :: a.map (gmul · c)) := fun y hy => by
    rcases List.mem_cons.1 hy with h1 | h1
    · omega
    · exact hb3 y h1
  have e := eval_zip hx (a ++ [0]) (0 :: a.map (gmul · c)) 0 0 (by simp) hb1 hb2 (by omega) (by omega)
  rw [Nat.xor_zero] at e
  have e1 : eval x (a ++ [0]) = gmul x (eval x a) := by
    rw [eval_append hx a [0] h (by intro c hc; simp at hc; omega)]
    simp [powM, eval, evalF, gmul_zero]
  have e2 : eval x (0 :: a.map (gmul · c)) = gmul c (eval x a) := by
    rw [eval_zero_cons]
    have e : a.map (gmul · c) = a.map (gmul c ·) := List.map_congr_left (fun y _ => gmul_comm y c)
    rw [e]
    have := eval_scale hx hc a 0 h (by omega)
    rw [gmul_zero] at this
    exact this
  have hlt : eval x a < 256 := eval_lt hx a 0 (by omega) h
  show evalF x 0 (linP a c) = _
  unfold linP
  rw [e]
  show eval x (a ++ [0]) ^^^ eval x (0 :: a.map (gmul · c)) = _
  rw [e1, e2, gmul_comm x, gmul_comm c, gmul_comm (x ^^^ c), gmul_xor hlt hx hc]
end QR

set_option maxRecDepth 100000 in
set_option maxHeartbeats 1600000 in
theorem polyLin_ok (p q g c : Nat) (a : List Nat) (w : World) (hp : Poly w p g a) (hq : Poly w q g [1, c]) (hg : Fld w g) (hla : a.length ≤ 5000) (ha0 : a.getD 0 0 ≠ 0) (hc : c < 256) :
    Calls Tryz.prog 210 #[.pointer (some ⟨p, 0, none⟩), .pointer (some ⟨q, 0, none⟩)] w fun e w' => ∃ r, e = .returned (.tuple #[.pointer (some ⟨r, 0, none⟩), .nilIface]) ∧ Poly w' r g (QR.linP a c) ∧ Keeps (fun _ => False) w w' := by
  obtain ⟨⟨ca, oa, ka, p1, hca, hka⟩, na, ba⟩ := id hp
  obtain ⟨⟨cb, ob, kb, q1, hcb, hkb⟩, nb, bb⟩ := id hq
  have e0 := p1.cell (i := 0) rfl
  have e1 := p1.cell (i := 1) rfl
  have e2 := q1.cell (i := 0) rfl
  have e3 := q1.cell (i := 1) rfl
  have hpa := hp.pos
  have HP := Lib.hid hp
  have HQ := Lib.hid hq
  have HG := Lib.hid hg
  have HPB := Lib.hid (And.intro p1 hca)
  have HCB := Lib.hid hcb
  have HBA := Lib.hid ba
  have hne := neq177 ⟨g, 0, none⟩
  have Z1 := Lib.hid (show (a.getD 0 0 == 0) = false by simpa using ha0)
  have HA0 := Lib.hid ha0
  have hlen2 : ([1, c] : List Nat).length = 2 := rfl
  rw [hlen2] at e3
  have hmk2 : (Instr.makeSlice 157 (.int .i64 ((a.length : Int) + 2 - 1)) (.int .i64 ((a.length : Int) + 2 - 1))).run Tryz.prog w.drew = .ok (.slice (some ⟨w.heap.size, 0, none⟩) (a.length + 1) (a.length + 1)) (w.drew.alloc (.cells (rep (a.length + 1) (.int .i64 0)).toArray 3)) := by
    have := make_rep (P := Tryz.prog) 157 3 (.int .i64 0) 8 Tryz.underlying157 info3 rfl (a.length + 1) (by omega) (by omega) w.drew
    rw [show ((a.length + 1 : Nat) : Int) = (a.length : Int) + 2 - 1 by omega] at this
    exact this
  have hnew : FB (w.alloc (.cells (rep (a.length + 1) (.int .i64 0)).toArray 3)).drew w.heap.size (a.length + 1) (fun t => vi (QR.linF a c 0 0 t)) 3 := ((FB.new w (a.length + 1) (.int .i64 0) 3).drew).congr (fun t _ => by
    have : QR.linF a c 0 0 t = 0 := by
      unfold QR.linF; rw [if_neg (by omega), if_neg (by omega)]; rfl
    rw [this]; rfl)
  have R0 := Lib.hid (And.intro hnew (((Keeps.refl (fun _ => False) w).alloc (.cells (rep (a.length + 1) (.int .i64 0)).toArray 3)).drew))
  generalize hB : w.heap.size = B at *
  have HBB := Lib.hid hB
  clear p1 q1 hca hcb hka hkb na ba nb bb hp hq hg ha0 hlen2 hnew hB
  go_enter Tryz.func210, Tryz.ntmps210
  go_wp2_with fail
  go_region
  all_goals clear hne
  go_wp2_with fail
  refine (polyIsZero_ok p g a _ HP.out.drew).mono ?_
  rw [Z1.out]
  rintro e w1 ⟨rfl, rfl⟩
  go_wp2_with fail
  refine (polyIsZero_ok q g [1, c] _ HQ.out.drew).mono ?_
  rintro e w1 ⟨rfl, rfl⟩
  go_wp2_with fail
  clear hmk2 e0 e1 e2 e3
  go_loopw [11] (fun i wr => ∃ k : Nat, k ≤ a.length ∧ i = .int .i64 (k : Int) ∧ FB wr B (a.length + 1) (fun t => vi (QR.linF a c k k t)) 3 ∧ Keeps (fun _ => False) w wr) (fun i _ => a.length - (intOf i).toNat)
  case atStart => exact ⟨0, by omega, rfl, R0.out.1, R0.out.2⟩
  case round =>
    obtain ⟨k, k1, rfl, r1, r2⟩ := hrel
    by_cases hlt : k < a.length
    · have b1 := (HPB.out.2.keep r2 (fun h => h)).cell hlt
      obtain ⟨x, hx⟩ : ∃ x, a.getD k 0 = x := ⟨_, rfl⟩
      have hxl : x < 256 := HBA.out x (by rw [← hx]; simp [List.getD, hlt])
      rw [hx] at b1
      have HX := Lib.hid hx
      have R := Lib.hid (And.intro r1 r2)
      have hlt' := Int.ofNat_lt.2 hlt
      clear r1 r2 hx
      go_wp2_with fail
      clear b1
      go_loopw [13] (fun j wr => ((j = .int .i64 0 ∧ FB wr B (a.length + 1) (fun t => vi (QR.linF a c k k t)) 3) ∨ (j = .int .i64 1 ∧ FB wr B (a.length + 1) (fun t => vi (QR.linF a c (k + 1) k t)) 3) ∨ (j = .int .i64 2 ∧ FB wr B (a.length + 1) (fun t => vi (QR.linF a c (k + 1) (k + 1) t)) 3)) ∧ Keeps (fun _ => False) w wr) (fun j _ => 2 - (intOf j).toNat)
      case atStart => exact ⟨Or.inl ⟨rfl, R.out.1⟩, R.out.2⟩
      case round =>
        obtain ⟨h3, r2⟩ := hrel
        have e0 := (HPB.out.1.keep r2 (fun h => h)).cell (i := 0) rfl
        have HGR := Lib.hid (HG.out.keep r2)
        rcases h3 with ⟨rfl, r1⟩ | ⟨rfl, r1⟩ | ⟨rfl, r1⟩
        · have b2 : wr.cell? ⟨cb, ob, none⟩ = some (.int .i64 1) := (HCB.out.keep r2 (fun h => h)).cell (i := 0) (by simp)
          have b3 := r1.cell (i := k) (by omega)
          have b4 := r1.free k
          obtain ⟨y, hy⟩ : ∃ y, QR.linF a c k k k = y := ⟨_, rfl⟩
          have hyl : y < 256 := by
            rw [← hy]
            unfold QR.linF
            rw [if_neg (by omega), Nat.zero_xor]
            split
            · exact _root_.QR.gmul_lt (by
                by_cases h : k - 1 < a.length
                · exact HBA.out _ (by simp [List.getD, h])
                · simp [List.getD, Nat.le_of_not_lt h]) hc
            · omega
          rw [hy] at b3
          unfold vi at b3
          have hset : FB (wr.setCell ⟨B, k, none⟩ (.int .i64 ((y ^^^ x : Nat) : Int))) B (a.length + 1) (fun t => vi (QR.linF a c (k + 1) k t)) 3 :=
            r1.set k _ (fun t _ => by
              by_cases e : t = k
              · subst e
                rw [if_pos rfl, ← hy]
                unfold QR.linF
                rw [if_neg (by omega), if_pos (show t < t + 1 by omega), HX.out, Nat.zero_xor, Nat.xor_comm]; rfl
              · rw [if_neg e]
                unfold QR.linF
                have h2 : (t < k + 1) ↔ (t < k) := by omega
                simp only [h2])
          have HS := Lib.hid (And.intro hset (r2.setCell (p := ⟨B, k, none⟩) (Or.inr (by show w.heap.size ≤ B; rw [HBB.out]; exact Nat.le_refl _)) (.int .i64 ((y ^^^ x : Nat) : Int))))
          have hlt2 : (k : Int) < (a.length : Int) + 1 := by omega
          have c212 : Hid (∀ n, Calls Tryz.prog 212 #[.pointer (some ⟨g, 0, none⟩), .int .i64 (x : Int), .int .i64 1] (wr.drewN n) fun e w' => e = .returned (.int .i64 (x : Int)) ∧ ∃ m, w' = (wr.drewN n).drewN m) :=
            Lib.hid (fun n => by have h := gfMul_ok g x 1 (wr.drewN n) (HGR.out.drewN n) hxl (by omega); rw [_root_.QR.gmul_comm, _root_.QR.gmul_one hxl] at h; exact h)
          have c253 := Lib.hid (fun n => (gfAdd_ok y x (wr.drewN n) hyl hxl).mono (fun e w' h => (⟨h.1, h.2.symm⟩ : e = .returned (.int .i64 (y ^^^ x : Nat)) ∧ w' = wr.drewN n)))
          have i1 : IntKind.i64.wrap ((k : Int) + 0) = (k : Int) := by rw [wraps_i64 _ (by omega) (by omega)]; omega
          have i2 : IntKind.i64.wrap (k : Int) = (k : Int) := wraps_i64 _ (by omega) (by omega)
          clear r1 r2 hset hy
          go_wp2_with fail
          refine wp_region_quiet_tail 22 (by kernel_rfl) (by kernel_rfl) ?_
          simp only [List.take_succ_cons, List.take_zero, List.drop_succ_cons, List.drop_zero]
          repeat (quiet_step ((first | (go_at_call 212; exact Calls.quiet_of (c212.out _)) | (go_at_call 253; exact Calls.quiet_of_same (c253.out _)))))
          refine wpQuiet_nil ?_
          intro _ hw'
          obtain ⟨nq, hw''⟩ := hw'
          subst hw''
          clear i1 i2 c212 c253
          go_wp2
          go_roundw
          case rel => exact ⟨Or.inr (Or.inl ⟨rfl, HS.out.1.drewN _⟩), HS.out.2.drewN _⟩
          case measure => simp [intOf]
        · have b2 : wr.cell? ⟨cb, ob + 1, none⟩ = some (.int .i64 (c : Int)) := (HCB.out.keep r2 (fun h => h)).cell (i := 1) (by simp)
          have b3 := r1.cell (i := k + 1) (by omega)
          have b4 := r1.free (k + 1)
          have hy : QR.linF a c (k + 1) k (k + 1) = 0 := by unfold QR.linF; rw [if_neg (by omega), if_neg (by omega)]; rfl
          rw [hy] at b3
          unfold vi at b3
          obtain ⟨v, hv⟩ : ∃ v, _root_.QR.gmul x c = v := ⟨_, rfl⟩
          have hvl : v < 256 := by rw [← hv]; exact _root_.QR.gmul_lt hxl hc
          have hset : FB (wr.setCell ⟨B, k + 1, none⟩ (.int .i64 (v : Int))) B (a.length + 1) (fun t => vi (QR.linF a c (k + 1) (k + 1) t)) 3 :=
            r1.set (k + 1) _ (fun t _ => by
              by_cases e : t = k + 1
              · subst e
                rw [if_pos rfl]
                unfold QR.linF
                rw [if_neg (by omega), if_pos (by omega), show k + 1 - 1 = k by omega, HX.out, hv, Nat.zero_xor]; rfl
              · rw [if_neg e]
                unfold QR.linF
                have h2 : (1 ≤ t ∧ t ≤ k + 1) ↔ (1 ≤ t ∧ t ≤ k) := by omega
                simp only [h2])
          have HS := Lib.hid (And.intro hset (r2.setCell (p := ⟨B, k + 1, none⟩) (Or.inr (by show w.heap.size ≤ B; rw [HBB.out]; exact Nat.le_refl _)) (.int .i64 (v : Int))))
          have hlt2 : (k : Int) + 1 < (a.length : Int) + 1 := by omega
          have hlt3 : (0 : Int) ≤ (k : Int) + 1 := by omega
          have c212 : Hid (∀ n, Calls Tryz.prog 212 #[.pointer (some ⟨g, 0, none⟩), .int .i64 (x : Int), .int .i64 (c : Int)] (wr.drewN n) fun e w' => e = .returned (.int .i64 (v : Int)) ∧ ∃ m, w' = (wr.drewN n).drewN m) :=
            Lib.hid (fun n => by have h := gfMul_ok g x c (wr.drewN n) (HGR.out.drewN n) hxl hc; rw [hv] at h; exact h)
          have c253 := Lib.hid (fun n => (gfAdd_ok 0 v (wr.drewN n) (by omega) hvl).mono (fun e w' h => (⟨by rw [h.1, Nat.zero_xor], h.2.symm⟩ : e = .returned (.int .i64 (v : Int)) ∧ w' = wr.drewN n)))
          have i1 : IntKind.i64.wrap ((k : Int) + 1) = (k : Int) + 1 := wraps_i64 _ (by omega) (by omega)
          clear r1 r2 hset hy hv
          go_wp2_with fail
          refine wp_region_quiet_tail 22 (by kernel_rfl) (by kernel_rfl) ?_
          simp only [List.take_succ_cons, List.take_zero, List.drop_succ_cons, List.drop_zero]
          repeat (quiet_step ((first | (go_at_call 212; exact Calls.quiet_of (c212.out _)) | (go_at_call 253; exact Calls.quiet_of_same (c253.out _)))))
          refine wpQuiet_nil ?_
          intro _ hw'
          obtain ⟨nq, hw''⟩ := hw'
          subst hw''
          clear i1 c212 c253
          go_wp2
          go_roundw
          case rel => exact ⟨Or.inr (Or.inr ⟨rfl, HS.out.1.drewN _⟩), HS.out.2.drewN _⟩
          case measure => simp [intOf]
        · have S := Lib.hid (And.intro r1 r2)
          clear r1 r2 e0
          go_wp2
          go_roundw
          case rel => exact ⟨k + 1, by omega, by go_num, S.out.1, S.out.2⟩
          case measure => simp [intOf]; omega
    · obtain rfl : k = a.length := by omega
      have e0 := (HPB.out.1.keep r2 (fun h => h)).cell (i := 0) rfl
      have HC := Lib.hid (Cof.of_fb r1 (l := QR.linP a c) (QR.linP_length a c) (fun t ht => by rw [QR.linP_get a c t ht]))
      have HK := Lib.hid r2
      have HLN := Lib.hid (show a.length + 1 = (QR.linP a c).length from (QR.linP_length a c).symm)
      have HBY := Lib.hid (QR.linP_bytes HBA.out hc)
      have HNR := Lib.hid (QR.strip_of_nrm (QR.linP_nrm c hpa HA0.out))
      clear r1 r2
      go_wp2_with fail
      refine (newPoly_ok g B 0 (a.length + 1) (a.length + 1) (QR.linP a c) wr HC.out HLN.out (by rw [← HLN.out]; omega) (Nat.le_refl _) HBY.out (by omega)).mono ?_
      rw [HNR.out]
      rintro e w1 ⟨r, rfl, z1, z2, z3⟩
      have Z1 := Lib.hid (And.intro z1 (HK.out.trans z2))
      clear z1 z2 z3
      go_wp2
      go_ret2
      exact ⟨r, rfl, Z1.out⟩

end Go.Proofs.YtplpafbkalkchaaGreatDoor

namespace Go.Proofs.YtplpafbkalkchaaGreatDoor
open Go.RowKit

namespace QR
open _root_.QR
def gens : Nat → List Nat
  | 0 => [1]
  | d + 1 => linP (gens d) (expT.getD d 0)
theorem gens_length : ∀ d, (gens d).length = d + 1
  | 0 => rfl
  | d + 1 => by show (linP _ _).length = _; rw [linP_length, gens_length d]
theorem expT_lt {k : Nat} (h : k < 256) : expT.getD k 0 < 256 := by rw [expT_eq h]; exact dblN_lt k (by omega)
theorem gens_bytes : ∀ d, d ≤ 255 → Bytes (gens d)
  | 0, _ => fun c hc => by simp [gens] at hc; omega
  | d + 1, h => linP_bytes (gens_bytes d (by omega)) (expT_lt (by omega))
theorem gens_head : ∀ d, (gens d).getD 0 0 = 1
  | 0 => rfl
  | d + 1 => by show (linP _ _).getD 0 0 = _; rw [linP_head _ _ (by rw [gens_length]; omega), gens_head d]
theorem gens_nrm (d : Nat) : Nrm (gens d) := ⟨fun e => by have := gens_length d; rw [e] at this; simp at this, Or.inr (by rw [gens_head]; omega)⟩
theorem gens_zero : ∀ (d : Nat), d ≤ 255 → ∀ i, i < d → eval (expT.getD i 0) (gens d) = 0
  | 0, _, i, h => by omega
  | d + 1, hd, i, h => by
    show eval _ (linP (gens d) (expT.getD d 0)) = 0
    rw [eval_linP (expT_lt (by omega)) (gens_bytes d (by omega)) (expT_lt (by omega))]
    by_cases e : i = d
    · subst e; rw [Nat.xor_self, zero_gmul]
    · rw [gens_zero d (by omega) i (by omega), gmul_zero]
end QR

theorem info265 : (Tryz.prog.info? 265).map (fun i => (i.zero, i.size, i.bytes)) = some (some (.pointer none), 1, 8) := by kernel_rfl

/-- A block of a type. -/
def TypeAt (w : World) (i : Nat) (t : TypeId) : Prop := ∃ cs m, w.heap[i]? = some (.cells cs t m)
theorem TypeAt.ne {w : World} {i j : Nat} {t u : TypeId} (h : TypeAt w i t) (h2 : TypeAt w j u) (hn : t ≠ u) : i ≠ j := by
  rintro rfl
  obtain ⟨_, _, h⟩ := h
  obtain ⟨_, _, h2⟩ := h2
  rw [h] at h2
  injection h2 with h2
  injection h2 with _ h2
  exact hn h2
theorem Blk.typ {w : World} {b : Nat} {cs : List Value} {t : TypeId} (h : Blk w b cs t) : TypeAt w b t := ⟨_, _, h⟩
theorem Poly.keepS {S : Nat → Prop} {w w' : World} {p g : Nat} {l : List Nat} (h : Poly w p g l) (hk : Keeps S w w') (hS : ∀ i, S i → i < w.heap.size → ∃ t, TypeAt w i t ∧ t ≠ 3 ∧ t ≠ 309) : Poly w' p g l := by
  obtain ⟨⟨c, o, cap, h1, h2, h3⟩, h4, h5⟩ := h
  have n1 : ¬ S p := fun h => by obtain ⟨t, ht, _, h309⟩ := hS p h h1.lt; exact ht.ne h1.typ h309 rfl
  have n2 : ¬ S c := fun h => by
    obtain ⟨t, ht, h3', _⟩ := hS c h h2.lt
    obtain ⟨cs, q, _⟩ := h2
    exact ht.ne q.typ h3' rfl
  exact ⟨⟨c, o, cap, h1.keep hk n1, h2.keep hk n2, h3⟩, h4, h5⟩
theorem Fld.keepS {S : Nat → Prop} {w w' : World} {g : Nat} (h : Fld w g) (hk : Keeps S w w') (hS : ∀ i, S i → i < w.heap.size → ∃ t, TypeAt w i t ∧ t ≠ 3 ∧ t ≠ 309 ∧ t ≠ 267) : Fld w' g := by
  obtain ⟨⟨e, l, z, o, h1, h2, h3, h4⟩⟩ := h
  have n1 : ¬ S g := fun h => by obtain ⟨t, ht, _, _, hn⟩ := hS g h h1.lt; exact ht.ne h1.typ hn rfl
  have n2 : ¬ S e := fun h => by obtain ⟨t, ht, hn, _, _⟩ := hS e h h2.lt; exact ht.ne (Blk.typ h2) hn rfl
  have n3 : ¬ S l := fun h => by obtain ⟨t, ht, hn, _, _⟩ := hS l h h3.lt; exact ht.ne (Blk.typ h3) hn rfl
  exact ⟨⟨e, l, z, o, h1.keep hk n1, h2.keep hk n2, h3.keep hk n3, h4.keepS hk (fun i hi hl => by obtain ⟨t, a, b, c, _⟩ := hS i hi hl; exact ⟨t, a, b, c⟩)⟩⟩

/-- A row of one's own, known by its cells. -/
theorem own_cell {w : World} {base : Nat} {e : TypeId} {v : Value} {n : Nat} {xs : List Value} (h : w.ownsRow base e 1 v n xs) (hn : 0 < n) :
    ∃ r cap, v = .slice (some ⟨r, 0, none⟩) n cap ∧ TypeAt w r e ∧ (∀ i u, xs[i]? = some u → w.cell? ⟨r, i, none⟩ = some u) ∧ n ≤ cap ∧ xs.length = n := by
  obtain ⟨hl, h | ⟨g, cap, cur, hv, _, hb, h1, _, hsz, hx⟩⟩ := h
  · omega
  · refine ⟨g, cap, hv, ⟨_, _, hb⟩, fun i u hi => ?_, h1, by omega⟩
    have hlt : i < xs.length := by
      rcases Nat.lt_or_ge i xs.length with h | h
      · exact h
      · rw [List.getElem?_eq_none h] at hi; cases hi
    have hc : cur[i]? = some u := by
      rw [← hx, List.getElem?_take, if_pos (by omega)] at hi
      simpa using hi
    simp [World.cell?, hb, hc]
theorem own_keep {S : Nat → Prop} {w w' : World} {base : Nat} {e : TypeId} {v : Value} {n : Nat} {xs : List Value} (h : w.ownsRow base e 1 v n xs) (hk : Keeps S w w') (hS : ∀ r, v.ownBlock = some r → ¬ S r) : w'.ownsRow base e 1 v n xs := by
  obtain ⟨hl, h | ⟨g, cap, cur, hv, hb0, hb, h1, h2, hsz, hx⟩⟩ := h
  · exact ⟨hl, Or.inl h⟩
  · refine ⟨hl, Or.inr ⟨g, cap, cur, hv, hb0, ?_, h1, h2, hsz, hx⟩⟩
    have hlt : g < w.heap.size := by
      rcases Nat.lt_or_ge g w.heap.size with h | h
      · exact h
      · rw [Array.getElem?_eq_none h] at hb; cases hb
    rw [hk.block g hlt (hS g (by rw [hv]; rfl)), hb]

theorem gfExp_any (g : Nat) (k : Nat) (w : World) (hg : Fld w g) (hk : k < 256) (n : Nat) : Calls Tryz.prog 208 #[.pointer (some ⟨g, 0, none⟩), .int .i64 (k : Int)] (w.drewN n) fun e w' => e = .returned (.int .i64 (_root_.QR.expT.getD k 0 : Nat)) ∧ w' = w.drewN n :=
  (gfExp_ok g k (w.drewN n) (hg.drewN n) hk _ rfl).mono (fun e w' h => ⟨h.1, h.2.symm⟩)

set_option maxRecDepth 100000 in
set_option maxHeartbeats 2000000 in
theorem buildGen_ok (B eb cb q0 g D : Nat) (w : World) (hB : B ≤ eb ∧ B ≤ cb ∧ B ≤ w.heap.size) (he : Blk w eb [.pointer (some ⟨g, 0, none⟩), .slice (some ⟨cb, 0, none⟩) 1 1] 294) (hc : Blk w cb [.pointer (some ⟨q0, 0, none⟩)] 265) (hp : Poly w q0 g [1]) (hg : Fld w g) (h1 : 1 ≤ D) (hD : D ≤ 100) (D' : Int) (hD' : D' = (D : Int)) :
    Calls Tryz.prog 174 #[.pointer (some ⟨eb, 0, none⟩), .int .i64 D'] w fun e w' => ∃ q, e = .returned (.pointer (some ⟨q, 0, none⟩)) ∧ Poly w' q g (QR.gens D) ∧ Fld w' g ∧ Keeps (fun i => B ≤ i) w w' ∧ w'.cell? ⟨eb, 0, none⟩ = some (.pointer (some ⟨g, 0, none⟩)) := by
  subst hD'
  obtain ⟨i0, hi, hz0, hz1, hz2⟩ := info_parts info265
  have a0 := he.cell (i := 0) rfl
  have a1 := he.cell (i := 1) rfl
  have c0 := hc.cell (i := 0) rfl
  have d0 : decide ((1 : Int) ≤ (D : Int)) = true := decide_eq_true (by omega)
  have HE := Lib.hid he
  have HC := Lib.hid hc
  have HP := Lib.hid hp
  have HF := Lib.hid hg
  have HOWN : Hid (w.ownsRow B 265 1 (.slice (some ⟨cb, 0, none⟩) 1 1) 1 [.pointer (some ⟨q0, 0, none⟩)]) := Lib.hid ⟨rfl, Or.inr ⟨cb, 1, #[.pointer (some ⟨q0, 0, none⟩)], rfl, hB.2.1, hc, Nat.le_refl _, by unfold maxLen; omega, rfl, rfl⟩⟩
  clear he hc hp hg
  go_enter Tryz.func174, Tryz.ntmps174
  go_wp2_with fail
  clear a0 a1 c0 d0
  go_loopw [6, 7] (fun s6 s7 wr => ∃ (k q : Nat) (v : Value) (xs : List Value), 1 ≤ k ∧ k ≤ D + 1 ∧ s7 = .int .i64 (k : Int) ∧ s6 = .pointer (some ⟨q, 0, none⟩) ∧ Poly wr q g (QR.gens (k - 1)) ∧ Blk wr eb [.pointer (some ⟨g, 0, none⟩), v] 294 ∧
      wr.ownsRow B 265 1 v k xs ∧ Hid (xs[k - 1]? = some (.pointer (some ⟨q, 0, none⟩))) ∧ Fld wr g ∧ Keeps (fun i => B ≤ i) w wr) (fun _ s7 _ => D + 1 - (intOf s7).toNat)
  case atStart => exact ⟨1, q0, _, _, by omega, by omega, rfl, rfl, HP.out, HE.out, HOWN.out, Lib.hid rfl, HF.out, Keeps.refl _ _⟩
  case round =>
    obtain ⟨k, q, v, xs, k1, kD, rfl, rfl, r1, r2, r3, r4, r6, r7⟩ := hrel
    by_cases hk : k ≤ D
    · obtain ⟨kk, rfl⟩ : ∃ kk, k = kk + 1 := ⟨k - 1, by omega⟩
      have R := Lib.hid (And.intro r1 (And.intro r2 (And.intro r3 (And.intro r6 r7))))
      have a0 := r2.cell (i := 0) rfl
      have hebl := r2.lt
      have hk' : (kk : Int) + 1 ≤ (D : Int) := by omega
      have i1 : IntKind.i64.wrap (kk : Int) = (kk : Int) := wraps_i64 _ (by omega) (by omega)
      have i2 : IntKind.i64.wrap ((kk : Int) + 1 - 1) = (kk : Int) := by rw [wraps_i64 _ (by omega) (by omega)]; omega
      obtain ⟨x, hx⟩ : ∃ x, _root_.QR.expT.getD kk 0 = x := ⟨_, rfl⟩
      have hx256 : x < 256 := by rw [← hx]; exact QR.expT_lt (by omega)
      have c208 : Hid (∀ w', Keeps (fun _ => False) wr w' → Calls Tryz.prog 208 #[.pointer (some ⟨g, 0, none⟩), .int .i64 (kk : Int)] w' fun e w'' => e = .returned (.int .i64 (x : Int)) ∧ w' = w'') :=
        Lib.hid (fun w' hk => by have h := gfExp_ok g kk w' (r6.keep hk) (by omega) _ rfl; rw [hx] at h; exact h)
      have A1 := Lib.hid (fun o => ((r2.alloc o).drew).cell (i := 0) rfl)
      have HX := Lib.hid hx
      clear r1 r2 r3 r6 r7 hx
      go_wp2_with fail
      have HFR := Lib.hid R.out.2.2.2.1
      have hby : _root_.QR.Bytes [1, x] := fun c hc => by simp at hc; omega
      go_region_held3 (fun w' => w'.cell? ⟨eb, 0, none⟩ = some (.pointer (some ⟨g, 0, none⟩)) ∧ Keeps (fun _ => False) wr w')
        (first
          | exact ⟨a0, (Keeps.refl _ _).drew⟩
          | exact ⟨A1.out _, ((Keeps.refl _ wr).alloc _).drew⟩
          | exact ⟨(n2.cell (p := ⟨eb, 0, none⟩) (by simp; omega) (fun h => h)).trans (A1.out _), (((Keeps.refl _ wr).alloc _).drew).trans n2⟩)
        (first
          | (go_at_call 209; refine (gfBase_ok g _ (HFR.out.keep ?_)).mono ?_; (first | assumption | exact (Keeps.refl _ _).drew); rintro e w' ⟨rfl, rfl⟩)
          | (go_at_call 208; refine (c208.out _ ?_).mono ?_; (first | assumption | exact (Keeps.refl _ _).drew); rintro e w' ⟨rfl, rfl⟩)
          | (go_at_call 157; refine (newPoly_ok g _ 0 2 2 [1, x] _ ?_ rfl (by simp) (Nat.le_refl _) hby (by omega)).mono ?_; (exact Cof.of_blk ((Blk.new _ _ _).drew)); rintro e w' ⟨p, rfl, n1, n2, n3⟩))
      rw [show QR.strip [1, x] = [1, x] from rfl] at n1
      have KP := Lib.hid ((((Keeps.refl (fun _ => False) wr).alloc (.cells #[.int .i64 1, .int .i64 (x : Int)] 3)).drew).trans n2)
      have N1 := Lib.hid n1
      have P1 := Lib.hid (R.out.1.keep KP.out)
      have F1 := Lib.hid (R.out.2.2.2.1.keep KP.out)
      clear n1 n2 n3 i1 i2
      simp only [Nat.add_sub_cancel] at P1
      go_wp2_with fail
      refine (polyLin_ok q p g x (QR.gens kk) _ P1.out N1.out F1.out (by rw [QR.gens_length]; omega) (by rw [QR.gens_head]; omega) hx256).mono ?_
      rintro e w2 ⟨r, rfl, m1, m2⟩
      have K2 := Lib.hid (KP.out.trans m2)
      have M1 := Lib.hid m1
      have m3 := Lib.hid m2
      clear m1 m2 a0
      have hown2 := own_keep R.out.2.2.1 K2.out (fun _ _ h => h)
      have hb2 := R.out.2.1.keep K2.out (fun h => h)
      obtain ⟨r0, cap0, hv0, ht0, hx0, hcap0, hlen0⟩ := own_cell hown2 (by omega)
      subst hv0
      have a0 := hb2.cell (i := 0) rfl
      have a1 := hb2.cell (i := 1) rfl
      have hne : eb ≠ r0 := hb2.typ.ne ht0 (by decide)
      have hrl := Lib.hid ht0
      have HB2 := Lib.hid hb2
      have HX0 := Lib.hid hx0
      have HL0 := Lib.hid hlen0
      clear hb2 hx0 hlen0 ht0
      go_wp2_with (at_builtin; refine wpList_append_own _ rfl _ _ 292 rfl B 265 i0 (.pointer none) 1 8 Tryz.underlying292 hi hz0 hz1 hz2 rfl (by decide) _ _ _ rfl (hown2.alloc _) ⟨w2.heap.size, 0, none⟩ 1 1 [.pointer (some ⟨r, 0, none⟩)] rfl rfl ?c1 ?c2 ?c3 ?c4 ?c5 ?_)
      case c1 => exact cell_one_new _ _ _
      case c2 => intro u hu; simp at hu; subst hu; rfl
      case c3 => unfold maxLen; omega
      case c4 => omega
      case c5 => have h1 := K2.out.size; have h2 := R.out.2.2.2.2.size; have h3 := hB.2.2; simp; omega
      intro v3 w3 hown3 hgrow hnil
      have hk3 : Keeps (fun i => i = r0) w2 w3 := ((Keeps.refl _ w2).alloc _).grown hgrow (fun k hk => Or.inl (by simpa [Value.ownBlock] using hk.symm))
      obtain ⟨r3, cap3, hv3, ht3, hx3, hcap3, hlen3⟩ := own_cell hown3 (by omega)
      rw [hv3] at hown3
      rw [hv3]
      have hb3 := HB2.out.keep hk3 hne
      have b0 := hb3.cell (i := 0) rfl
      have b1 := hb3.cell (i := 1) rfl
      have f1 := hb3.free 1
      have hne3 : eb ≠ r3 := hb3.typ.ne ht3 (by decide)
      have hst := hb3.set 1 (.slice (some ⟨r3, 0, none⟩) (kk + 1 + 1) cap3)
      have hk4 := (Keeps.refl (fun i => i = eb) w3).setCell (p := ⟨eb, 1, none⟩) (Or.inl rfl) (.slice (some ⟨r3, 0, none⟩) (kk + 1 + 1) cap3)
      have hown4 := own_keep hown3 hk4 (fun r hr h => by simp [Value.ownBlock] at hr; omega)
      have hkk : Keeps (fun i => i = r0 ∨ i = eb) w2 (w3.setCell ⟨eb, 1, none⟩ (.slice (some ⟨r3, 0, none⟩) (kk + 1 + 1) cap3)) :=
        (hk3.mono (S' := fun i => i = r0 ∨ i = eb) (fun _ _ h => Or.inl h)).trans (hk4.mono (fun _ _ h => Or.inr h))
      have hty : ∀ i, (i = r0 ∨ i = eb) → i < w2.heap.size → ∃ t, TypeAt w2 i t ∧ t ≠ 3 ∧ t ≠ 309 ∧ t ≠ 267 := fun i hi _ => by
        rcases hi with rfl | rfl
        · exact ⟨265, hrl.out, by decide, by decide, by decide⟩
        · exact ⟨294, HB2.out.typ, by decide, by decide, by decide⟩
      have hpol := M1.out.keepS hkk (fun i hi hl => by obtain ⟨t, a, b, c, _⟩ := hty i hi hl; exact ⟨t, a, b, c⟩)
      have hfld := (F1.out.keep m3.out).keepS hkk hty
      have hB0 : B ≤ r0 := by
        obtain ⟨_, h | ⟨g', _, _, hv', hb', _⟩⟩ := hown2
        · omega
        · simp at hv'; omega
      have hkall := (R.out.2.2.2.2.trans (K2.out.mono (S' := fun i => B ≤ i) (fun _ _ h => h.elim))).trans (hkk.mono (S' := fun i => B ≤ i) (fun i _ h => by rcases h with h | h <;> omega))
      have HALL := Lib.hid (And.intro hpol (And.intro hfld (And.intro hst (And.intro hown4 hkall))))
      clear hkall
      clear hown2 hown3 hgrow hnil hk3 hv3 ht3 hx3 hlen3 hst hk4 hown4 hkk hty hpol hfld hb3 a0 a1
      go_wp2
      go_roundw
      case rel => exact ⟨kk + 2, r, _, xs ++ [.pointer (some ⟨r, 0, none⟩)], by omega, by omega, by go_num, rfl, by
          have h := HALL.out.1
          rw [← HX.out] at h
          exact h, HALL.out.2.2.1, HALL.out.2.2.2.1, Lib.hid (by
          have := HL0.out
          rw [List.getElem?_append_right (by omega)]
          simp [this]), HALL.out.2.1, HALL.out.2.2.2.2⟩
      case measure => simp [intOf]; omega
    · obtain rfl : k = D + 1 := by omega
      obtain ⟨r0, cap0, hv0, ht0, hx0, hcap0, hlen0⟩ := own_cell r3 (by omega)
      subst hv0
      have a1 := r2.cell (i := 1) rfl
      have c1 := hx0 _ _ r4.out
      rw [Nat.add_sub_cancel] at c1
      have hR := Lib.hid (And.intro r1 (And.intro r6 (And.intro r7 (r2.cell (i := 0) rfl))))
      rw [Nat.add_sub_cancel] at hR
      have hd1 : (D : Int) < (D : Int) + 1 := by omega
      clear r1 r2 r3 r6 r7 hx0 ht0 hlen0
      go_wp2
      go_ret
      exact ⟨q, rfl, hR.out⟩

end Go.Proofs.YtplpafbkalkchaaGreatDoor
