/-
  ONE START THAT FITS FnFmtbufWriteStringScriptAgreesWithWrite: a nil slice and two empty strings.
-/
import Derived.Test.YoebuwDoorStart
namespace Go.Proofs.YoebuwDoor.Ten
open Go.ChangeShapes Go.WideShapes Go.ChangeAt Go.WideMaps Go.WideElems Go.RowKit

theorem start_ok (os : Os) : Input.okWideB Ebug.checked.prog ((World.laidAll Ebug.prog os laidL).forCall (fun _ _ => 0) ⟨#[], #[.slice none 0 0, .string ⟨#[]⟩, .string ⟨#[]⟩], []⟩) 10 ⟨#[], #[.slice none 0 0, .string ⟨#[]⟩, .string ⟨#[]⟩], []⟩ = true := by kernel_rfl

theorem start_pre (os : Os) (H : Type) (enc : TypeId × Value → H) : Rows.fnFmtbufWriteStringScriptAgreesWithWriteSpec.preB enc Ebug.checked.prog Ebug.f10 [] false ((World.laidAll Ebug.prog os laidL).forCall (fun _ _ => 0) ⟨#[], #[.slice none 0 0, .string ⟨#[]⟩, .string ⟨#[]⟩], []⟩).memory #[.slice none 0 0, .string ⟨#[]⟩, .string ⟨#[]⟩] 8 = true := by kernel_rfl

theorem start_sized (os : Os) (H : Type) (enc : TypeId × Value → H) : Rows.fnFmtbufWriteStringScriptAgreesWithWriteSpec.sizedB enc Ebug.checked.prog Ebug.f10 false ((World.laidAll Ebug.prog os laidL).forCall (fun _ _ => 0) ⟨#[], #[.slice none 0 0, .string ⟨#[]⟩, .string ⟨#[]⟩], []⟩).memory #[.slice none 0 0, .string ⟨#[]⟩, .string ⟨#[]⟩] 8 = true := by kernel_rfl
end Go.Proofs.YoebuwDoor.Ten
