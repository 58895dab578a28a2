/-
  CLOSED FACTS ON THE PROGRAM THAT ALL FOUR ROWS AND CARDS ASK, a theorem each: each makes the kernel read the dump's head (some 7 GB); apart, and once, they stay well under the lid.
-/
import Derived.Test.YoebuwDoorLaid
import Derived.JoinedOf
import Derived.SevenTiedAt
namespace Go.Proofs.YoebuwDoor
set_option maxRecDepth 100000

theorem progEnter : Ebug.pinned.checked.prog.mayEnter = true := by kernel_rfl
theorem progLifts : Ebug.pinned.checked.prog.liftsFinal = Rows.fnFmtbufWriteAppendsExactlyRow.lifted := by kernel_rfl
theorem progMake : Ebug.pinned.checked.prog.make = some Rows.fnFmtbufWriteAppendsExactlyRow.make := by kernel_rfl
theorem progMain : Ebug.pinned.checked.prog.mainIs = some (true, "954133a93fadf6e7d9391e5f03545820224087c2a4785690b8af082875cf7d6e".toList) := by kernel_rfl
theorem progLooks : false = Ebug.pinned.checked.prog.looks [] := by kernel_rfl
end Go.Proofs.YoebuwDoor
