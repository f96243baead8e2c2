/- The closed facts of law 3's row, each by itself. -/
import Derived.Test.YtplpafbkalkchaaGreatDoorRows
import Derived.WalkKit
import Derived.ProofKit
import Derived.JoinedOf
import Derived.ChangeMaps5
namespace Go.Proofs.YtplpafbkalkchaaGreatDoor
open Go Go.RowKit Go.Proofs
set_option linter.all false

section
open Go.ChangeMaps Go.ChangeShapes Go.WideShapes Go.ChangeAt Go.WideMaps Go.WideElems
set_option maxRecDepth 1000000 in
theorem fact0 : (Rows.fnRQRoadRow.wf (OpenSpec.ofChange Rows.fnRQRoadSpec)) = true := by kernel_rfl
set_option maxRecDepth 1000000 in
theorem fact1 : (laidOutB Tryz.prog) = true := by kernel_rfl
set_option maxRecDepth 1000000 in
theorem fact2 : (mapsRowed Tryz.prog) = true := by kernel_rfl
set_option maxRecDepth 1000000 in
theorem fact3 : (Tryz.f3.params.all (Tryz.prog.readableRec ·)) = true := by kernel_rfl
set_option maxRecDepth 1000000 in
theorem fact4 : (namedTie Tryz.prog Rows.fnRQRoadRow.named Rows.fnRQRoadSpec.vars) = true := by kernel_rfl
set_option maxRecDepth 1000000 in
theorem fact5 : ((Rows.fnRQRoadRow.stops == [])) = true := by kernel_rfl
set_option maxRecDepth 1000000 in
theorem fact6 : ((Tryz.prog.stops == [])) = true := by kernel_rfl
set_option maxRecDepth 1000000 in
theorem fact7 : ((Rows.fnRQRoadRow.knobs == [])) = true := by kernel_rfl
set_option maxRecDepth 1000000 in
theorem fact8 : ((Tryz.prog.stopKnobs == [])) = true := by kernel_rfl
set_option maxRecDepth 1000000 in
theorem fact9 : ((Rows.fnRQRoadRow.inPlace == Tryz.prog.inPlace 3)) = true := by kernel_rfl
set_option maxRecDepth 1000000 in
theorem fact10 : ((Rows.fnRQRoadRow.unfollowed == Tryz.prog.unfollowed 3)) = true := by kernel_rfl
set_option maxRecDepth 1000000 in
theorem fact11 : ((Rows.fnRQRoadRow.recurses == Tryz.prog.recurses 3)) = true := by kernel_rfl
set_option maxRecDepth 1000000 in
theorem fact12 : ((Rows.fnRQRoadRow.named == Tryz.prog.varsNamed 3)) = true := by kernel_rfl
set_option maxRecDepth 1000000 in
theorem fact13 : ((Rows.fnRQRoadRow.maps == (Tryz.f3.params.toList ++ Rows.fnRQRoadSpec.plain.varTypes Tryz.prog).any (Tryz.prog.mapsRec ·))) = true := by kernel_rfl
set_option maxRecDepth 1000000 in
theorem fact14 : ((Rows.fnRQRoadRow.ifaces == (Tryz.f3.params.toList ++ Rows.fnRQRoadSpec.plain.varTypes Tryz.prog).any (Tryz.prog.ifacesRec ·))) = true := by kernel_rfl
set_option maxRecDepth 1000000 in
theorem fact15 : ((Rows.fnRQRoadRow.mapsOut == Tryz.prog.mapsAmong Tryz.f3.resultTypes.toList)) = true := by kernel_rfl
set_option maxRecDepth 1000000 in
theorem fact16 : ((Rows.fnRQRoadRow.loops == (Tryz.f3.params.toList ++ Rows.fnRQRoadSpec.plain.varTypes Tryz.prog).any (Tryz.prog.loopsFrom ·))) = true := by kernel_rfl
set_option maxRecDepth 1000000 in
theorem fact17 : ((Rows.fnRQRoadRow.wideKeys == (Tryz.f3.params.toList ++ Rows.fnRQRoadSpec.plain.varTypes Tryz.prog ++ Tryz.f3.resultTypes.toList).any (Tryz.prog.wideKeysFrom ·))) = true := by kernel_rfl
set_option maxRecDepth 1000000 in
theorem fact18 : (Rows.fnRQRoadSpec.vars.all (Tryz.prog.varReadable ·)) = true := by kernel_rfl
set_option maxRecDepth 1000000 in
theorem fact19 : (Tryz.f3.resultTypes.all (fun t => Tryz.prog.readableRec t && decide (t < Tryz.prog.types.size))) = true := by kernel_rfl
set_option maxRecDepth 1000000 in
theorem fact20 : ((Rows.fnRQRoadRow.ifacesOut == Tryz.f3.resultTypes.toList.any (Tryz.prog.ifacesRec ·))) = true := by kernel_rfl
set_option maxRecDepth 1000000 in
theorem fact21 : ((Rows.fnRQRoadRow.loopsOut == Tryz.f3.resultTypes.toList.any (Tryz.prog.loopsFrom ·))) = true := by kernel_rfl
set_option maxRecDepth 1000000 in
theorem fact22 : ((Rows.fnRQRoadRow.plainKeys == Tryz.prog.plainKeys)) = true := by kernel_rfl
set_option maxRecDepth 1000000 in
theorem fact23 : (Rows.fnRQRoadRow.shortTexts.isNone) = true := by kernel_rfl
set_option maxRecDepth 1000000 in
theorem fact24 : (Tryz.prog.stopsHeard) = true := by kernel_rfl
set_option maxRecDepth 1000000 in
theorem fact25 : (Tryz.prog.mayEnter) = true := by kernel_rfl
set_option maxRecDepth 1000000 in
theorem fact26 : ((Rows.fnRQRoadRow.lifted == Tryz.prog.liftsFinal)) = true := by kernel_rfl
set_option maxRecDepth 1000000 in
theorem fact27 : ((Tryz.prog.make == some Rows.fnRQRoadRow.make)) = true := by kernel_rfl
set_option maxRecDepth 1000000 in
theorem fact28 : ((Rows.fnRQRoadRow.kinds == (if Rows.fnRQRoadRow.domain.isEmpty then [] else Tryz.f3.params.toList.map fun t => match Tryz.prog.underlying t with | some (.int k) => some k | _ => none))) = true := by kernel_rfl
set_option maxRecDepth 1000000 in
theorem fact29 : ((Rows.fnRQRoadRow.pinned == Rows.fnRQRoadRow.pinnedBy)) = true := by kernel_rfl
set_option maxRecDepth 1000000 in
theorem fact30 : ((Rows.fnRQRoadRow.veiled == (Tryz.f3.params.toList ++ Rows.fnRQRoadSpec.plain.varTypes Tryz.prog ++ Tryz.f3.resultTypes.toList).any (Tryz.prog.veiledRec ·))) = true := by kernel_rfl
set_option maxRecDepth 1000000 in
theorem fact31 : (Rows.fnRQRoadRow.veiledFits Tryz.prog Tryz.f3.params.toList (Tryz.f3.params.toList ++ Rows.fnRQRoadSpec.plain.varTypes Tryz.prog ++ Tryz.f3.resultTypes.toList)) = true := by kernel_rfl
theorem both {a b : Bool} (h : a = true) (k : b = true) : (a && b) = true := by rw [h, k]; rfl
set_option maxRecDepth 1000000 in
theorem facts : joinedFacts Tryz.pinned.checked.prog 3 Tryz.f3 Rows.fnRQRoadSpec Rows.fnRQRoadRow = true := by
  unfold joinedFacts
  exact (both (both (both (both (both (both (both (both (both (both (both (both (both (both (both (both (both (both (both (both (both (both (both (both (both (both (both (both (both (both (both fact0 fact1) fact2) fact3) fact4) fact5) fact6) fact7) fact8) fact9) fact10) fact11) fact12) fact13) fact14) fact15) fact16) fact17) fact18) fact19) fact20) fact21) fact22) fact23) fact24) fact25) fact26) fact27) fact28) fact29) fact30) fact31)
set_option maxRecDepth 1000000 in
theorem fact_name : Tryz.pinned.checked.prog.funcNamed Rows.fnRQRoadRow.func = some 3 := by kernel_rfl
set_option maxRecDepth 1000000 in
theorem fact_inst : Tryz.f3.isInstance Tryz.pinned.checked.prog Rows.fnRQRoadRow.origin Rows.fnRQRoadRow.targs := of_decide_eq_true (by kernel_rfl)
set_option maxRecDepth 1000000 in
theorem fact_wrap : Tryz.f3.isWrapper Tryz.pinned.checked.prog Rows.fnRQRoadRow.wrapper Rows.fnRQRoadRow.mainSum := by
  unfold Func.isWrapper
  first | (rw [if_pos (by decide +kernel)]; kernel_rfl) | (rw [if_neg (by decide +kernel)]; exact ⟨rfl, rfl⟩)
end
end Go.Proofs.YtplpafbkalkchaaGreatDoor
