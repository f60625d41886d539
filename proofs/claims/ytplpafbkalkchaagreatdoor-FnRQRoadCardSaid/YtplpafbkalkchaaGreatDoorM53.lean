/-
  Parts of the proof (FaR).
-/
import Derived.Test.YtplpafbkalkchaaGreatDoorRows
import Derived.ProofKit
import Derived.JoinedOf
import Derived.SevenTiedAt
set_option linter.unusedSimpArgs false
set_option linter.unusedVariables false

namespace Go.Proofs.YtplpafbkalkchaaGreatDoor
namespace FaR

theorem and2 {a b : Bool} (h : a = true) (k : b = true) : (a && b) = true := by rw [h, k]; rfl
theorem k1 : Rows.fnRQRoadRow.wf (OpenSpec.ofChange Rows.fnRQRoadSpec) = true := by kernel_rfl
theorem k2 : laidOutB Tryz.prog = true := by kernel_rfl
theorem k3 : mapsRowed Tryz.prog = true := by kernel_rfl
theorem k4 : Tryz.f3.params.all (Tryz.prog.readableRec ·) = true := by kernel_rfl
theorem k5 : namedTie Tryz.prog Rows.fnRQRoadRow.named Rows.fnRQRoadSpec.vars = true := by kernel_rfl
theorem k6 : (Rows.fnRQRoadRow.stops == []) = true := by kernel_rfl
theorem k7 : (Tryz.prog.stops == []) = true := by kernel_rfl
theorem k8 : (Rows.fnRQRoadRow.knobs == []) = true := by kernel_rfl
theorem k9 : (Tryz.prog.stopKnobs == []) = true := by kernel_rfl
theorem k10 : (Rows.fnRQRoadRow.inPlace == Tryz.prog.inPlace 3) = true := by kernel_rfl
theorem k11 : (Rows.fnRQRoadRow.unfollowed == Tryz.prog.unfollowed 3) = true := by kernel_rfl
theorem k12 : (Rows.fnRQRoadRow.recurses == Tryz.prog.recurses 3) = true := by kernel_rfl
theorem k13 : (Rows.fnRQRoadRow.named == Tryz.prog.varsNamed 3) = true := by kernel_rfl
theorem k14 : (Rows.fnRQRoadRow.maps == (Tryz.f3.params.toList ++ Rows.fnRQRoadSpec.plain.varTypes Tryz.prog).any (Tryz.prog.mapsRec ·)) = true := by kernel_rfl
theorem k15 : (Rows.fnRQRoadRow.ifaces == (Tryz.f3.params.toList ++ Rows.fnRQRoadSpec.plain.varTypes Tryz.prog).any (Tryz.prog.ifacesRec ·)) = true := by kernel_rfl
theorem k16 : (Rows.fnRQRoadRow.mapsOut == Tryz.prog.mapsAmong Tryz.f3.resultTypes.toList) = true := by kernel_rfl
theorem k17 : (Rows.fnRQRoadRow.loops == (Tryz.f3.params.toList ++ Rows.fnRQRoadSpec.plain.varTypes Tryz.prog).any (Tryz.prog.loopsFrom ·)) = true := by kernel_rfl
theorem k18 : (Rows.fnRQRoadRow.wideKeys == (Tryz.f3.params.toList ++ Rows.fnRQRoadSpec.plain.varTypes Tryz.prog ++ Tryz.f3.resultTypes.toList).any (Tryz.prog.wideKeysFrom ·)) = true := by kernel_rfl
theorem k19 : Rows.fnRQRoadSpec.vars.all (Tryz.prog.varReadable ·) = true := by kernel_rfl
theorem k20 : Tryz.f3.resultTypes.all (fun t => Tryz.prog.readableRec t && decide (t < Tryz.prog.types.size)) = true := by kernel_rfl
theorem k21 : (Rows.fnRQRoadRow.ifacesOut == Tryz.f3.resultTypes.toList.any (Tryz.prog.ifacesRec ·)) = true := by kernel_rfl
theorem k22 : (Rows.fnRQRoadRow.loopsOut == Tryz.f3.resultTypes.toList.any (Tryz.prog.loopsFrom ·)) = true := by kernel_rfl
theorem k23 : (Rows.fnRQRoadRow.plainKeys == Tryz.prog.plainKeys) = true := by kernel_rfl
theorem k24 : Rows.fnRQRoadRow.shortTexts.isNone = true := by kernel_rfl
theorem k25 : Tryz.prog.stopsHeard = true := by kernel_rfl
theorem k26 : Tryz.prog.mayEnter = true := by kernel_rfl
theorem k27 : (Rows.fnRQRoadRow.lifted == Tryz.prog.liftsFinal) = true := by kernel_rfl
theorem k28 : (Tryz.prog.make == some Rows.fnRQRoadRow.make) = true := by kernel_rfl
theorem k29 : (Rows.fnRQRoadRow.kinds == (if Rows.fnRQRoadRow.domain.isEmpty then [] else Tryz.f3.params.toList.map fun t => match Tryz.prog.underlying t with | some (.int k) => some k | _ => none)) = true := by kernel_rfl
theorem k30 : (Rows.fnRQRoadRow.pinned == Rows.fnRQRoadRow.pinnedBy) = true := by kernel_rfl
theorem k31 : (Rows.fnRQRoadRow.veiled == (Tryz.f3.params.toList ++ Rows.fnRQRoadSpec.plain.varTypes Tryz.prog ++ Tryz.f3.resultTypes.toList).any (Tryz.prog.veiledRec ·)) = true := by kernel_rfl
theorem k32 : Rows.fnRQRoadRow.veiledFits Tryz.prog Tryz.f3.params.toList (Tryz.f3.params.toList ++ Rows.fnRQRoadSpec.plain.varTypes Tryz.prog ++ Tryz.f3.resultTypes.toList) = true := by kernel_rfl

set_option maxRecDepth 1000000 in
theorem closed : joinedFacts Tryz.prog 3 Tryz.f3 Rows.fnRQRoadSpec Rows.fnRQRoadRow = true :=
  and2 (and2 (and2 (and2 (and2 (and2 (and2 (and2 (and2 (and2 (and2 (and2 (and2 (and2 (and2 (and2 (and2 (and2 (and2 (and2 (and2 (and2 (and2 (and2 (and2 (and2 (and2 (and2 (and2 (and2 (and2 k1 k2) k3) k4) k5) k6) k7) k8) k9) k10) k11) k12) k13) k14) k15) k16) k17) k18) k19) k20) k21) k22) k23) k24) k25) k26) k27) k28) k29) k30) k31) k32
theorem named3 : Tryz.prog.funcNamed Rows.fnRQRoadRow.func = some 3 := by kernel_rfl
theorem inst : Tryz.f3.isInstance Tryz.prog Rows.fnRQRoadRow.origin Rows.fnRQRoadRow.targs := of_decide_eq_true (by kernel_rfl)
theorem wrap : Tryz.f3.isWrapper Tryz.prog Rows.fnRQRoadRow.wrapper Rows.fnRQRoadRow.mainSum := by
  unfold Func.isWrapper
  first | (rw [if_pos (by decide +kernel)]; kernel_rfl) | (rw [if_neg (by decide +kernel)]; exact ⟨rfl, rfl⟩)
theorem wfBy : Rows.fnRQRoadRow.wfByText (OpenSpec.ofChange Rows.fnRQRoadSpec) = true := by kernel_rfl
theorem mainIs : Tryz.prog.mainIs = some (true, "1fb088c9e43e54ae418d298ecd0204a7099609636b216657a61e4fef3a1f26bb".toList) := by kernel_rfl
theorem looks : true = Tryz.prog.looks [] := by kernel_rfl
theorem goes : false = Rows.fnRQRoadRow.goesBy Tryz.prog := by kernel_rfl
theorem stand : ([9, 5, 5, 5, 22, 22, 25].all fun u => !Tryz.prog.wantsStandIn u) = true := by kernel_rfl
theorem noInit : Tryz.checked.prog.inits.idxOf? 3 = none := by kernel_rfl

end FaR
end Go.Proofs.YtplpafbkalkchaaGreatDoor
