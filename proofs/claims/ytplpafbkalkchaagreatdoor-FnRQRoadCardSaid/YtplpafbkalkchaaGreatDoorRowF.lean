/-
  Proved here: the given statement 'FnRQRoadCardSaid': whatever the input, the law FnRQRoad returns true and every argument reads as it did, where the listed tables and sentinels are as the program's text lays them (the tied card).
-/
import Derived.Test.YtplpafbkalkchaaGreatDoorRows
import Derived.Test.YtplpafbkalkchaaGreatDoorCards
import Derived.Test.YtplpafbkalkchaaGreatDoorTie
import Derived.Test.YtplpafbkalkchaaGreatDoorM52
import Derived.Test.YtplpafbkalkchaaGreatDoorM53
import Derived.ProofKit
import Derived.LaidMore
import Derived.OpenShut
import Derived.ShutString
import Derived.Carry
import Derived.Below
import Derived.Stop.Joined
import Derived.SevenTiedAt
set_option linter.unusedSimpArgs false
set_option linter.unusedVariables false
namespace Go.Proofs.YtplpafbkalkchaaGreatDoor
open Go.ChangeShapes Go.WideShapes Go.ChangeAt Go.RowKit
open Go.ChangeMaps (open_string shut_string)

theorem own : ownKnob Tryz.prog.godebug = none := by kernel_rfl
abbrev laidL {H : Type} : List (String × DataW H) := [("math/bits.deBruijn32tab", Rows.laid_math_bits_deBruijn32tab), ("math/bits.deBruijn64tab", Rows.laid_math_bits_deBruijn64tab), ("internal/strconv.uint64pow10", Rows.laid_internal_strconv_uint64pow10), ("strconv.ErrRange", Rows.laid_strconv_ErrRange), ("strconv.ErrSyntax", Rows.laid_strconv_ErrSyntax)]

/-- The door's own heap meets the condition: three closed facts. -/
theorem door_met (os : Os) (args : Array Value) : laidMetH Tryz.prog laidL ((World.doorLaid Tryz.prog 62 os).forCall (fun _ _ => 0) ⟨#[], args, []⟩).memory :=
  laidMetH_of_parts3 (fuel := 8) (laidMet_of_run' 8 (by kernel_rfl) (by kernel_rfl)) (by kernel_rfl) (by kernel_rfl)

theorem cells25 : Tryz.prog.cellTypes Tryz.prog.depth 25 = some [5, 5, 5, 5, 5, 5, 5, 4] := by kernel_rfl
theorem size25 : Tryz.prog.cellsOf 25 = 8 := by kernel_rfl
theorem struct25 : ∃ fs, Tryz.prog.underlying 25 = some (.struct fs) := ⟨_, Tryz.underlying25⟩
set_option maxRecDepth 1000000 in
theorem byte_cell {W : World} {base : Nat} {v : Value} (h : Cell.okWide Tryz.prog W .any base 5 v) : ∃ n : Int, v = .int .u8 n ∧ (Lit.int .u8 n).wf = true := by
  have h' : Value.okWide Tryz.prog W .any base 5 v := by unfold Value.okWide; rw [Tryz.underlying5]; exact h
  obtain ⟨n, rfl⟩ := okWide_int Tryz.underlying5 h'
  refine ⟨n, rfl, ?_⟩
  unfold Cell.okWide at h
  rw [Tryz.underlying5] at h
  unfold Cell.ok at h
  rw [Tryz.underlying5] at h
  have h2 : IntKind.u8.has n := h.2
  have h3 : IntKind.u8.min ≤ n ∧ n ≤ IntKind.u8.max := h2
  simp [Lit.wf, h3.1, h3.2]
set_option maxRecDepth 1000000 in
theorem bool_cell {W : World} {base : Nat} {v : Value} (h : Cell.okWide Tryz.prog W .any base 4 v) : ∃ b : Bool, v = .bool b := by
  have h' : Value.okWide Tryz.prog W .any base 4 v := by unfold Value.okWide; rw [Tryz.underlying4]; exact h
  exact okWide_bool Tryz.underlying4 h'
set_option maxRecDepth 1000000 in
theorem view_open {W : World} {base : Nat} {v : Value} (h : Value.okWide Tryz.prog W .any base 25 v) :
    ∃ (n0 n1 n2 n3 n4 n5 n6 : Int) (b : Bool), v = .agg #[.int .u8 n0, .int .u8 n1, .int .u8 n2, .int .u8 n3, .int .u8 n4, .int .u8 n5, .int .u8 n6, .bool b] ∧ (Lit.int .u8 n5).wf = true ∧ (Lit.int .u8 n6).wf = true := by
  unfold Value.okWide at h
  rw [Tryz.underlying25] at h
  obtain ⟨cs, rfl, hsz, ts, hts, _, hc⟩ := h
  rw [size25] at hsz
  obtain rfl := Option.some.inj (cells25.symm.trans hts)
  obtain ⟨l⟩ := cs
  match l, hsz with
  | [c0, c1, c2, c3, c4, c5, c6, c7], _ =>
    obtain ⟨u0, e0, k0⟩ := hc 0 c0 rfl
    obtain ⟨u1, e1, k1⟩ := hc 1 c1 rfl
    obtain ⟨u2, e2, k2⟩ := hc 2 c2 rfl
    obtain ⟨u3, e3, k3⟩ := hc 3 c3 rfl
    obtain ⟨u4, e4, k4⟩ := hc 4 c4 rfl
    obtain ⟨u5, e5, k5⟩ := hc 5 c5 rfl
    obtain ⟨u6, e6, k6⟩ := hc 6 c6 rfl
    obtain ⟨u7, e7, k7⟩ := hc 7 c7 rfl
    obtain rfl : u0 = 5 := Option.some.inj e0.symm
    obtain rfl : u1 = 5 := Option.some.inj e1.symm
    obtain rfl : u2 = 5 := Option.some.inj e2.symm
    obtain rfl : u3 = 5 := Option.some.inj e3.symm
    obtain rfl : u4 = 5 := Option.some.inj e4.symm
    obtain rfl : u5 = 5 := Option.some.inj e5.symm
    obtain rfl : u6 = 5 := Option.some.inj e6.symm
    obtain rfl : u7 = 4 := Option.some.inj e7.symm
    obtain ⟨n0, rfl, _⟩ := byte_cell k0
    obtain ⟨n1, rfl, _⟩ := byte_cell k1
    obtain ⟨n2, rfl, _⟩ := byte_cell k2
    obtain ⟨n3, rfl, _⟩ := byte_cell k3
    obtain ⟨n4, rfl, _⟩ := byte_cell k4
    obtain ⟨n5, rfl, w5⟩ := byte_cell k5
    obtain ⟨n6, rfl, w6⟩ := byte_cell k6
    obtain ⟨b, rfl⟩ := bool_cell k7
    exact ⟨n0, n1, n2, n3, n4, n5, n6, b, rfl, w5, w6⟩

set_option maxRecDepth 100000 in
theorem lifted (os : Os) (started : os.Started) (H : Type) (enc : TypeId × Value → H) :
    ReturnsInHanded {} Tryz.checked os 3 .any (fun w args => (Rows.fnRQRoadSpec.pre enc Tryz.prog Tryz.f3 [] false w args ∧ laidMetH Tryz.prog laidL w) ∧ sizedMet enc Tryz.prog Tryz.f3 (OpenSpec.ofChange Rows.fnRQRoadSpec) false w args)
      (Rows.fnRQRoadSpec.post enc Tryz.prog Tryz.f3 false true false false) := by
  refine returnsInHanded_of_change_and (C := Tryz.checked) (X := fun w _ => laidMetH Tryz.prog laidL w) (fun _ _ _ hh h => h.of_heap hh) own started (by kernel_rfl) Tryz.func3
    (ChangeSpec.witness_shaped (enc := enc) (C := Tryz.checked) (os := os) (X := fun w _ => laidMetH Tryz.prog laidL w) false (World.doorLaid Tryz.prog 62 os) #[.string ⟨#[]⟩, .int .u8 0, .int .u8 0, .int .u8 0, .int .u16 0, .int .u16 0, .agg #[.int .u8 0, .int .u8 0, .int .u8 0, .int .u8 0, .int .u8 0, .int .u8 0, .int .u8 0, .bool false]] 8 rfl (World.shaped_of_RefB (by kernel_rfl) (by kernel_rfl)) (by kernel_rfl) (by kernel_rfl) (by kernel_rfl) (door_met os _)) ?_
  intro W base args ds gs before hval0 hW _ _ hL _
  have hval : ∀ (j : Nat) t v, Tryz.f3.params[j]? = some t → args[j]? = some v → Value.okWide Tryz.prog W .any base t v := hval0
  have hW' := hW
  obtain ⟨p, q, hA0, hV, rfl, hfz, hnd⟩ := hW
  have hA : DataW.TrodAll enc Tryz.prog W 0 (fun _ => true) true Tryz.f3.params.toList args.toList ds p := hA0
  rw [Tryz.params3] at hA hval
  obtain ⟨v0, vs0, d0, ds0, p0, q0, hargs, rfl, rfl, h0, r0⟩ := trodAll_cons hA
  obtain ⟨v1, vs1, d1, ds1, p1, q1, rfl, rfl, rfl, h1, r1⟩ := trodAll_cons r0
  obtain ⟨v2, vs2, d2, ds2, p2, q2, rfl, rfl, rfl, h2, r2⟩ := trodAll_cons r1
  obtain ⟨v3, vs3, d3, ds3, p3, q3, rfl, rfl, rfl, h3, r3⟩ := trodAll_cons r2
  obtain ⟨v4, vs4, d4, ds4, p4, q4, rfl, rfl, rfl, h4, r4⟩ := trodAll_cons r3
  obtain ⟨v5, vs5, d5, ds5, p5, q5, rfl, rfl, rfl, h5, r5⟩ := trodAll_cons r4
  obtain ⟨v6, vs6, d6, ds6, p6, q6, rfl, rfl, rfl, h6, r6⟩ := trodAll_cons r5
  obtain ⟨rfl, rfl, rfl⟩ := trodAll_nil r6
  obtain rfl : args = #[v0, v1, v2, v3, v4, v5, v6] := by cases args; simp_all
  obtain ⟨rfl, rfl⟩ := trodVars_none hV
  obtain ⟨a0, rfl, rfl, rfl, w0⟩ := open_string Tryz.underlying9 (hval 0 9 v0 rfl rfl) h0
  obtain ⟨a1, rfl, rfl, rfl, w1⟩ := open_int Tryz.underlying5 (hval 1 5 v1 rfl rfl) h1
  obtain ⟨a2, rfl, rfl, rfl, w2⟩ := open_int Tryz.underlying5 (hval 2 5 v2 rfl rfl) h2
  obtain ⟨a3, rfl, rfl, rfl, w3⟩ := open_int Tryz.underlying5 (hval 3 5 v3 rfl rfl) h3
  obtain ⟨a4, rfl, rfl, rfl, w4⟩ := open_int Tryz.underlying22 (hval 4 22 v4 rfl rfl) h4
  obtain ⟨a5, rfl, rfl, rfl, w5⟩ := open_int Tryz.underlying22 (hval 5 22 v5 rfl rfl) h5
  have k6 := h6
  have lt6 : ∀ x ∈ p6, x.block < W.heap.size := by obtain ⟨m, hm⟩ := k6; exact DataW.trod_lt m _ _ _ hm
  obtain ⟨n0, n1, n2, n3, n4, n5, n6, b, rfl, x5, x6⟩ := view_open (hval 6 25 v6 rfl rfl)
  clear hA0 hval0
  refine (law_ok a0 a1 a2 a3 a4 a5 n0 n1 n2 n3 n4 n5 n6 b w1 w2 w3 w4 w5 x5 x6 W).mono fun e W' ⟨he, bel⟩ => ?_
  subst he
  exact ⟨_, rfl, _, _, _, [], _, [], hW', trodAll_mk1 (shut_bool Tryz.underlying4 _), (trodAll_cons_mk (shut_string Tryz.underlying9 w0) (trodAll_cons_mk (shut_int Tryz.underlying5 w1) (trodAll_cons_mk (shut_int Tryz.underlying5 w2) (trodAll_cons_mk (shut_int Tryz.underlying5 w3) (trodAll_cons_mk (shut_int Tryz.underlying22 w4) (trodAll_cons_mk (shut_int Tryz.underlying22 w5)
    (trodAll_cons_mk (Below.trod FaR.k2 (by kernel_rfl) (of_decide_eq_true (by kernel_rfl)) k6 bel lt6) trodAll_mk0))))))), rfl, bel.frame _, fun h => by cases h⟩

set_option maxRecDepth 1000000 in
theorem row_holds : Rows.FnRQRoadSaid :=
  OpenClaim.holds_of_wide 3 Tryz.f3 rfl rfl rfl rfl rfl rfl rfl ⟨rfl, rfl, rfl, rfl, rfl⟩ rfl rfl rfl rfl rfl FaR.named3 Tryz.func3 FaR.closed
    FaR.inst FaR.wrap (fun os started H enc _ => lifted os started H enc)

set_option maxRecDepth 1000000 in
theorem stands (f : FuncId) (fn : Func) (hf : Tryz.prog.funcNamed Rows.fnRQRoadRow.func = some f) (hfn : Tryz.prog.funcs[f]? = some fn) : true = Tryz.prog.looks [] ∧ ∀ (j : Nat) t, fn.params[j]? = some t → Tryz.prog.wantsStandIn t = false := by
  obtain rfl : f = 3 := (Option.some.inj (FaR.named3.symm.trans hf)).symm
  obtain rfl : fn = Tryz.f3 := (Option.some.inj (Tryz.func3.symm.trans hfn)).symm
  exact ⟨FaR.looks, fun j t ht => by
    rw [Tryz.params3] at ht
    have hm : t ∈ [9, 5, 5, 5, 22, 22, 25] := by simpa using Array.mem_of_getElem? ht
    exact (show Tryz.prog.wantsStandIn t = false by simpa using List.all_eq_true.1 FaR.stand t hm)⟩

set_option maxRecDepth 1000000 in
/-- THE GIVEN STATEMENT: the tied card. -/
theorem card_holds : Rows.FnRQRoadCardSaid :=
  Claim7.holds_tied_plain_at .later [] [.data, .data, .data, .sentinel, .sentinel] true (true, "1fb088c9e43e54ae418d298ecd0204a7099609636b216657a61e4fef3a1f26bb") true
    row_holds (fun _ h => by cases h) FaR.wfBy (fun _ h => by cases h) fnRQRoad_row_tie rfl ⟨rfl, rfl⟩ FaR.mainIs rfl
    stands FaR.goes
#print axioms card_holds
end Go.Proofs.YtplpafbkalkchaaGreatDoor
