/- The law FnRQRoad answers true at every input, and leaves its arguments as they were: a text of printable ASCII of 1 to 60 bytes that is drawn as a QR code, at any level, border, size and grays that the law lets in, is read from the picture; where the law's own guards turn an input away it answers true as well. The row's five package variables are tied to the program's text. -/
import Derived.Test.YtplpafbkalkchaaGreatDoorTie
import Derived.Test.YtplpafbkalkchaaGreatDoorCards
import Derived.SevenTiedAt
import Derived.Test.YtplpafbkalkchaaGreatDoorW52
import Derived.Test.YtplpafbkalkchaaGreatDoorW53
namespace Go.Proofs.YtplpafbkalkchaaGreatDoor
open Go Go.RowKit Go.Proofs
set_option linter.all false

section
open Go.ChangeMaps Go.ChangeShapes Go.WideShapes Go.ChangeAt Go.WideMaps Go.WideElems
theorem fnRQRoad_holds : Rows.FnRQRoadSaid :=
  OpenClaim.holds_of_wide 3 Tryz.f3 rfl rfl rfl rfl rfl rfl rfl ⟨rfl, rfl, rfl, rfl, rfl⟩ rfl rfl rfl rfl rfl fact_name Tryz.func3 facts fact_inst fact_wrap
    (fun os started H enc _ => lifted os started H enc)
set_option maxRecDepth 1000000 in
theorem card_wf : Rows.fnRQRoadRow.wfByText (OpenSpec.ofChange Rows.fnRQRoadSpec) = true := by kernel_rfl
set_option maxRecDepth 1000000 in
theorem card_main : Tryz.pinned.checked.prog.mainIs = some (true, "1fb088c9e43e54ae418d298ecd0204a7099609636b216657a61e4fef3a1f26bb".toList) := by kernel_rfl
set_option maxRecDepth 1000000 in
theorem card_looks : true = Tryz.pinned.checked.prog.looks [] := by kernel_rfl
set_option maxRecDepth 1000000 in
theorem card_params : ([9, 5, 5, 5, 22, 22, 25].all fun u => !Tryz.pinned.checked.prog.wantsStandIn u) = true := by kernel_rfl
set_option maxRecDepth 1000000 in
theorem card_goes : false = Rows.fnRQRoadRow.goesBy Tryz.pinned.checked.prog := by kernel_rfl
theorem card_calls : ∀ f fn, Tryz.pinned.checked.prog.funcNamed Rows.fnRQRoadRow.func = some f → Tryz.pinned.checked.prog.funcs[f]? = some fn →
    true = Tryz.pinned.checked.prog.looks [] ∧ ∀ (j : Nat) t, fn.params[j]? = some t → Tryz.pinned.checked.prog.wantsStandIn t = false := by
  intro f fn hf hfn
  obtain rfl : f = 3 := Option.some.inj (fact_name.symm.trans hf) |>.symm
  obtain rfl : fn = Tryz.f3 := (Option.some.inj (Tryz.func3.symm.trans hfn)).symm
  refine ⟨card_looks, fun j t ht => ?_⟩
  rw [Tryz.params3] at ht
  have hm : t ∈ [9, 5, 5, 5, 22, 22, 25] := by simpa using Array.mem_of_getElem? ht
  have := List.all_eq_true.1 card_params t hm
  rw [Bool.not_eq_true'] at this
  exact this
theorem fnRQRoad_card : Rows.FnRQRoadCardSaid :=
  Claim7.holds_tied_plain_at .later [] [.data, .data, .data, .sentinel, .sentinel] true (true, "1fb088c9e43e54ae418d298ecd0204a7099609636b216657a61e4fef3a1f26bb") true
    fnRQRoad_holds (fun _ h => by cases h) card_wf (fun _ h => by cases h) fnRQRoad_row_tie rfl ⟨rfl, rfl⟩ card_main rfl card_calls card_goes
#print axioms fnRQRoad_card
end
end Go.Proofs.YtplpafbkalkchaaGreatDoor
