/-
  Proved: FnDocumentsRead returns true for all documents and all choices, and both arguments read behind the call as they read before; package variables as the program's text lays them (the tied card).
  The walks are F0 to F53 (the scanner, the parser, the reference), the plain law P0 to P3, the arguments J0 to J4.
-/
import Derived.Test.YtnfbcfflkphbiaaGreatDoorA38
namespace Go.Proofs.YtnfbcfflkphbiaaGreatDoor
open Go Go.Proofs Tryz
set_option linter.all false
set_option maxRecDepth 100000
set_option maxHeartbeats 8000000
section
open Go Go.Proofs Go.ChangeShapes Go.WideShapes Go.ChangeAt Go.RowKit Tryz
theorem said : Rows.FnDocumentsReadSaid :=
 OpenClaim.holds_of_wide 3 Tryz.f3 rfl rfl rfl rfl rfl rfl rfl ⟨rfl, rfl, rfl, rfl, rfl⟩ rfl rfl rfl rfl rfl (by kernel_rfl) func3 (by kernel_rfl)
  (of_decide_eq_true (by kernel_rfl)) (by unfold Func.isWrapper; first | (rw [if_pos (by decide +kernel)]; kernel_rfl) | (rw [if_neg (by decide +kernel)]; exact ⟨rfl, rfl⟩))
  (fun os started H enc _ => lifted os started H enc)
theorem card : Rows.FnDocumentsReadCardSaid :=
 Claim7.holds_tied_plain_at .later [] _ _ _ _ said (fun _ h => by cases h) (by kernel_rfl) (fun _ h => by cases h) fnDocumentsRead_row_tie rfl ⟨rfl, rfl⟩ (by kernel_rfl) rfl
  (fun f fn hf hfn => by
   obtain rfl : f = 3 := Option.some.inj ((show prog.funcNamed "given.example/pub-quincunx/laws.FnDocumentsRead" = some 3 by kernel_rfl).symm.trans hf) |>.symm
   obtain rfl : fn = Tryz.f3 := (Option.some.inj (func3.symm.trans hfn)).symm
   exact ⟨by kernel_rfl, fun j t ht => by
    rw [Tryz.params3] at ht
    have hm : t ∈ [22, 23] := by simpa using Array.mem_of_getElem? ht
    have hall : ([22, 23].all fun u => !prog.wantsStandIn u) = true := by kernel_rfl
    exact (show prog.wantsStandIn t = false by simpa using List.all_eq_true.1 hall t hm)⟩)
  (by kernel_rfl)
end
end Go.Proofs.YtnfbcfflkphbiaaGreatDoor
