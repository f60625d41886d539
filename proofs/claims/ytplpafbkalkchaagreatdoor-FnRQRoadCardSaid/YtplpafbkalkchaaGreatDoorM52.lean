/-
  Parts of the proof (Law).
-/
import Derived.Test.YtplpafbkalkchaaGreatDoorM50
import Derived.Test.YtplpafbkalkchaaGreatDoorM51
import Derived.Below
set_option linter.unusedSimpArgs false
set_option linter.unusedVariables false

namespace Go.Proofs.YtplpafbkalkchaaGreatDoor
open Go.RowKit

theorem nat_u8 {a : Int} (h : (Lit.int .u8 a).wf = true) : ∃ n : Nat, a = (n : Int) ∧ n < 256 := by
  simp [Lit.wf, IntKind.min, IntKind.max, IntKind.signed, IntKind.bits] at h
  exact ⟨a.toNat, by omega, by omega⟩
theorem nat_u16 {a : Int} (h : (Lit.int .u16 a).wf = true) : ∃ n : Nat, a = (n : Int) ∧ n < 65536 := by
  simp [Lit.wf, IntKind.min, IntKind.max, IntKind.signed, IntKind.bits] at h
  exact ⟨a.toNat, by omega, by omega⟩

set_option maxRecDepth 100000 in
set_option maxHeartbeats 4000000 in
theorem law_ok (s : ByteArray) (a1 a2 a3 a4 a5 n0 n1 n2 n3 n4 n5 n6 : Int) (b : Bool) (w1 : (Lit.int .u8 a1).wf = true) (w2 : (Lit.int .u8 a2).wf = true) (w3 : (Lit.int .u8 a3).wf = true) (w4 : (Lit.int .u16 a4).wf = true) (w5 : (Lit.int .u16 a5).wf = true)
    (x5 : (Lit.int .u8 n5).wf = true) (x6 : (Lit.int .u8 n6).wf = true) (w : World) :
    Calls Tryz.prog 3 #[.string s, .int .u8 a1, .int .u8 a2, .int .u8 a3, .int .u16 a4, .int .u16 a5, .agg #[.int .u8 n0, .int .u8 n1, .int .u8 n2, .int .u8 n3, .int .u8 n4, .int .u8 n5, .int .u8 n6, .bool b]] w fun e w' => e = .returned (.bool true) ∧ Below w.heap.size w w' := by
  obtain ⟨kd, rfl, hkd⟩ := nat_u8 w1
  obtain ⟨lv, rfl, hlv⟩ := nat_u8 w2
  obtain ⟨bd, rfl, hbd⟩ := nat_u8 w3
  obtain ⟨wd, rfl, hwd⟩ := nat_u16 w4
  obtain ⟨ht, rfl, hht⟩ := nat_u16 w5
  obtain ⟨dk, rfl, hdk⟩ := nat_u8 x5
  obtain ⟨lg, rfl, hlg⟩ := nat_u8 x6
  clear w1 w2 w3 w4 w5 x5 x6
  by_cases hbig : 2147483647 < s.size
  · have hbig' : (2147483647 : Int) < (s.size : Int) := by omega
    go_enter Tryz.func3, Tryz.ntmps3
    go_wp2_with fail
    go_ret
    exact ⟨rfl, ((Keeps.refl (fun _ => False) w).alloc _).below⟩
  · have hbig' : ¬ (2147483647 : Int) < (s.size : Int) := by omega
    go_enter Tryz.func3, Tryz.ntmps3
    go_wp2_with fail
    have V0 := Lib.hid (Blk.new w [.int .u8 n0, .int .u8 n1, .int .u8 n2, .int .u8 n3, .int .u8 n4, .int .u8 (dk : Int), .int .u8 (lg : Int), .bool b] 25)
    have K0 := Lib.hid ((Keeps.refl (fun _ => False) w).alloc (.cells #[.int .u8 n0, .int .u8 n1, .int .u8 n2, .int .u8 n3, .int .u8 n4, .int .u8 (dk : Int), .int .u8 (lg : Int), .bool b] 25))
    obtain ⟨vb, hvb⟩ : ∃ v, w.heap.size = v := ⟨_, rfl⟩
    rw [hvb] at V0 ⊢
    clear hvb
    refine (ascii_ok s kd hkd _).mono ?_
    rintro e w2 ⟨⟨t, rfl, t1, t2⟩, k1⟩
    have V2 := Lib.hid (V0.out.keep k1 (fun h => h))
    have K2 := Lib.hid (K0.out.trans k1)
    clear k1
    obtain ⟨W, hW, hW2⟩ : ∃ q : Nat, (wd : Int) % 301 = (q : Int) ∧ q ≤ 300 := ⟨wd % 301, by omega, by omega⟩
    obtain ⟨H, hH, hH2⟩ : ∃ q : Nat, (ht : Int) % 301 = (q : Int) ∧ q ≤ 300 := ⟨ht % 301, by omega, by omega⟩
    obtain ⟨z, hz, hz2, hz3⟩ : ∃ q : Nat, 1 + (bd : Int) % 20 = (q : Int) ∧ 1 ≤ q ∧ q ≤ 20 := ⟨1 + bd % 20, by omega, by omega, by omega⟩
    obtain ⟨l, hl, hl2⟩ : ∃ q : Nat, lv % 4 = q ∧ q < 4 := ⟨lv % 4, rfl, by omega⟩
    have c6 := Lib.hid (level4_ok lv w2 hlv)
    rw [hl] at c6
    clear hl
    go_wp2_with fail
    refine c6.out.mono ?_
    rintro e w3 ⟨rfl, rfl⟩
    go_wp2_with fail
    refine (qrWrite_ok l W H z t w2 t1 t2 hl2 hW2 hH2 hz2 hz3 _ _ _ _ rfl rfl rfl rfl).mono ?_
    rintro e w3 ⟨pm, g, P, OW, OH, n, mu, lt, tp, v, m, bits, T0, es, rfl, a1, a2, a3⟩
    have R3 := Lib.hid a1
    have WR := Lib.hid a2
    have K3 := Lib.hid (K2.out.trans a3)
    have V3 := Lib.hid (V2.out.keep a3 (fun h => h))
    have SE := Lib.hid (Seen.of_sym a2.shown a2.hn a2.hv1 a2.hv7 a2.hmu a2.hW a2.hH)
    have hfi := SE.out.first
    have hFI := Lib.hid hfi
    have hp := SE.out.pos
    have hmu1 := a2.shown.hmu
    have hWW := a2.shown.hW
    have hHH := a2.shown.hH
    have oW := a2.hW
    have oH := a2.hH
    have oW1 : 21 ≤ OW := by omega
    have oH1 : 21 ≤ OH := by omega
    have hltW := hfi.hx
    have htpH := hfi.hy
    clear a1 a2 a3 hfi hp hmu1 hWW hHH hW hH hz c6
    go_wp2_with fail
    refine (even_ok pm OW OH g _ w3 R3.out oW1 oW oH1 oH).mono ?_
    rintro e w4 ⟨rfl, rfl⟩
    have v0 := V3.out.cell (i := 0) rfl
    have v1 := V3.out.cell (i := 1) rfl
    have v2 := V3.out.cell (i := 2) rfl
    have v3 := V3.out.cell (i := 3) rfl
    have v4 := V3.out.cell (i := 4) rfl
    have v5 := V3.out.cell (i := 5) rfl
    have v6 := V3.out.cell (i := 6) rfl
    have v7 := V3.out.cell (i := 7) rfl
    go_wp2_with fail
    refine (tones_ok n0 n1 n2 n3 n4 dk lg b hdk hlg w3).mono ?_
    rintro e w4 ⟨D, L, rfl, d1, d2, d3, k4⟩
    have R4 := Lib.hid (R3.out.keep k4 (fun h => h) (fun _ _ h => h))
    have V4 := Lib.hid (V3.out.keep k4 (fun h => h))
    have K4 := Lib.hid (K3.out.trans k4)
    clear k4 v0 v1 v2 v3 v4 v5 v6 v7
    have v7 := V4.out.cell (i := 7) rfl
    go_wp2_with fail
    refine (told_ok pm OW OH D lt tp g P b w4 R4.out oW1 oW oH1 oH hltW htpH hFI.out.on (by omega)).mono ?_
    rintro e w5 ⟨⟨tt, rfl, htt⟩, rfl⟩
    have HT := Lib.hid htt
    clear htt
    cases tt
    · go_wp2_with fail
      go_ret
      exact ⟨rfl, K4.out.below⟩
    · go_wp2_with fail
      refine (grays_ok pm OW OH D L g P w4 R4.out oW1 oW oH1 oH).mono ?_
      rintro e w5 ⟨d, k, rfl, g1, g2⟩
      have G5 := Lib.hid g1
      have K5 := Lib.hid (K4.out.trans g2)
      have V5 := Lib.hid (V4.out.keep g2 (fun h => h))
      clear g1 g2 v7
      have v7 := V5.out.cell (i := 7) rfl
      have c11 := Lib.hid (pure_ok d OW OH (OH * OW) k D L n mu lt tp v l m P t bits T0 es b w5 G5.out (Nat.mul_comm _ _) d1 d2 d3 WR.out hl2 t1 t2 (HT.out trivial))
      go_wp2_with fail
      refine c11.out.mono ?_
      rintro e w6 ⟨ra, sa, nr, rk, ns, sk, u, y0, y1, y2, y3, rfl, k6⟩
      have K6 := Lib.hid (K5.out.trans k6)
      clear k6
      go_wp2_with fail
      go_ret
      exact ⟨rfl, (K6.out.alloc _).below⟩

end Go.Proofs.YtplpafbkalkchaaGreatDoor
