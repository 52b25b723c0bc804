/-
  Texts of the proof, joined: J4. No Go text.
-/
import Derived.Test.YtnfbcfflkphbiaaGreatDoorA37
namespace Go.Proofs.YtnfbcfflkphbiaaGreatDoor
open Go Go.Proofs Tryz
set_option linter.all false
set_option maxRecDepth 100000
set_option maxHeartbeats 8000000
section
open Go Go.Proofs Go.ChangeShapes Go.WideShapes Go.ChangeAt Go.RowKit Tryz
theorem lifted (os : Os) (started : os.Started) (H : Type) (enc : TypeId × Value → H) :
  ReturnsInHanded {} Tryz.checked os 3 .any (fun w args => (Rows.fnDocumentsReadSpec.pre enc prog Tryz.f3 Rows.fnDocumentsReadRow.domain false w args ∧ laidMetH prog Rows.fnDocumentsReadRow.laid w) ∧ sizedMet enc prog Tryz.f3 (OpenSpec.ofChange Rows.fnDocumentsReadSpec) false w args)
   (Rows.fnDocumentsReadSpec.post enc prog Tryz.f3 false true false false) := by
 refine returnsInHanded_of_change_and (C := Tryz.checked) (X := fun w _ => laidMetH prog Rows.fnDocumentsReadRow.laid w) (fun _ _ _ hh h => h.of_heap hh) own started (by kernel_rfl) func3
  (ChangeSpec.witness_shaped (enc := enc) (C := Tryz.checked) (os := os) (X := fun w _ => laidMetH prog Rows.fnDocumentsReadRow.laid w) false (World.laidAll prog os Rows.fnDocumentsReadRow.laid) #[zS, zS] 8 (World.laidAll_os _ _ _)
   (World.shaped_of_ZipB (by kernel_rfl) (by kernel_rfl)) (by kernel_rfl) (by kernel_rfl) (by kernel_rfl)
   (by rw [MakeChecks.laidMetH_plain _ _ _ (by kernel_rfl)]; exact laidMet_laidAll _ (by kernel_rfl) (by kernel_rfl))) ?_
 intro W base args ds gs before hval0 hW _ _ hL _
 exact contract H enc W base args ds gs before hval0 hW hL
end
end Go.Proofs.YtnfbcfflkphbiaaGreatDoor
