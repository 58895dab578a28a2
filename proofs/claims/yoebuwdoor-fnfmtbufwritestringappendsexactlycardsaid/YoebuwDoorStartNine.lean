/-
  ONE START THAT FITS FnFmtbufWriteStringAppendsExactly: a nil slice and the empty string.
-/
import Derived.Test.YoebuwDoorStart
namespace Go.Proofs.YoebuwDoor.Nine
open Go.ChangeShapes Go.WideShapes Go.ChangeAt Go.WideMaps Go.WideElems Go.RowKit

theorem start_ok (os : Os) : Input.okWideB Ebug.checked.prog ((World.laidAll Ebug.prog os laidL).forCall (fun _ _ => 0) ⟨#[], #[.slice none 0 0, .string ⟨#[]⟩], []⟩) 9 ⟨#[], #[.slice none 0 0, .string ⟨#[]⟩], []⟩ = true := by kernel_rfl

theorem start_pre (os : Os) (H : Type) (enc : TypeId × Value → H) : Rows.fnFmtbufWriteStringAppendsExactlySpec.preB enc Ebug.checked.prog Ebug.f9 [] false ((World.laidAll Ebug.prog os laidL).forCall (fun _ _ => 0) ⟨#[], #[.slice none 0 0, .string ⟨#[]⟩], []⟩).memory #[.slice none 0 0, .string ⟨#[]⟩] 8 = true := by kernel_rfl

theorem start_sized (os : Os) (H : Type) (enc : TypeId × Value → H) : Rows.fnFmtbufWriteStringAppendsExactlySpec.sizedB enc Ebug.checked.prog Ebug.f9 false ((World.laidAll Ebug.prog os laidL).forCall (fun _ _ => 0) ⟨#[], #[.slice none 0 0, .string ⟨#[]⟩], []⟩).memory #[.slice none 0 0, .string ⟨#[]⟩] 8 = true := by kernel_rfl
end Go.Proofs.YoebuwDoor.Nine
