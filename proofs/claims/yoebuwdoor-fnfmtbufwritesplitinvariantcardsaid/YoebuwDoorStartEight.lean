/-
  ONE START THAT FITS FnFmtbufWriteSplitInvariant: two nil slices and 0.
-/
import Derived.Test.YoebuwDoorStart
namespace Go.Proofs.YoebuwDoor.Eight
open Go.ChangeShapes Go.WideShapes Go.ChangeAt Go.WideMaps Go.WideElems Go.RowKit

theorem start_ok (os : Os) : Input.okWideB Ebug.checked.prog ((World.laidAll Ebug.prog os laidL).forCall (fun _ _ => 0) ⟨#[], #[.slice none 0 0, .slice none 0 0, .int .i64 0], []⟩) 8 ⟨#[], #[.slice none 0 0, .slice none 0 0, .int .i64 0], []⟩ = true := by kernel_rfl

theorem start_pre (os : Os) (H : Type) (enc : TypeId × Value → H) : Rows.fnFmtbufWriteSplitInvariantSpec.preB enc Ebug.checked.prog Ebug.f8 [] false ((World.laidAll Ebug.prog os laidL).forCall (fun _ _ => 0) ⟨#[], #[.slice none 0 0, .slice none 0 0, .int .i64 0], []⟩).memory #[.slice none 0 0, .slice none 0 0, .int .i64 0] 8 = true := by kernel_rfl

theorem start_sized (os : Os) (H : Type) (enc : TypeId × Value → H) : Rows.fnFmtbufWriteSplitInvariantSpec.sizedB enc Ebug.checked.prog Ebug.f8 false ((World.laidAll Ebug.prog os laidL).forCall (fun _ _ => 0) ⟨#[], #[.slice none 0 0, .slice none 0 0, .int .i64 0], []⟩).memory #[.slice none 0 0, .slice none 0 0, .int .i64 0] 8 = true := by kernel_rfl
end Go.Proofs.YoebuwDoor.Eight
