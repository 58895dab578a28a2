/-
  WALKS of the four functions 'zzBytes_..' (a bound on the total length).
-/
import Derived.Test.YoebuwDoorWrite
namespace Go.Proofs.YoebuwDoor
open Go.RowKit

set_option maxHeartbeats 400000 in
set_option maxRecDepth 100000 in
theorem bytes27_true (ao bo : Option Addr) (n ca m cb : Nat) (w : World) (h : n + m ≤ 1048576) :
    Calls Ebug.prog 27 #[.slice ao n ca, .slice bo m cb] w fun e w' => e = .returned (.bool true) ∧ w' = w := by
  go_enter Ebug.func27, Ebug.ntmps27
  go_wp2
  go_ret
  exact ⟨rfl, rfl⟩

set_option maxHeartbeats 400000 in
set_option maxRecDepth 100000 in
theorem bytes27_false (ao bo : Option Addr) (n ca m cb : Nat) (w : World) (h : 1048576 < n + m) :
    Calls Ebug.prog 27 #[.slice ao n ca, .slice bo m cb] w fun e w' => e = .returned (.bool false) ∧ w' = w := by
  by_cases h1 : 1048576 < n
  · go_enter Ebug.func27, Ebug.ntmps27
    go_wp2
    go_ret
    exact ⟨rfl, rfl⟩
  · by_cases h2 : 1048576 < m
    · go_enter Ebug.func27, Ebug.ntmps27
      go_wp2
      go_ret
      exact ⟨rfl, rfl⟩
    · go_enter Ebug.func27, Ebug.ntmps27
      go_wp2
      go_ret
      exact ⟨rfl, rfl⟩

set_option maxHeartbeats 400000 in
set_option maxRecDepth 100000 in
theorem bytes29_true (ao bo : Option Addr) (n ca m cb : Nat) (k : Int) (w : World) (h : n + m ≤ 1048576) :
    Calls Ebug.prog 29 #[.slice ao n ca, .slice bo m cb, .int .i64 k] w fun e w' => e = .returned (.bool true) ∧ w' = w := by
  go_enter Ebug.func29, Ebug.ntmps29
  go_wp2
  go_ret
  exact ⟨rfl, rfl⟩

set_option maxHeartbeats 400000 in
set_option maxRecDepth 100000 in
theorem bytes29_false (ao bo : Option Addr) (n ca m cb : Nat) (k : Int) (w : World) (h : 1048576 < n + m) :
    Calls Ebug.prog 29 #[.slice ao n ca, .slice bo m cb, .int .i64 k] w fun e w' => e = .returned (.bool false) ∧ w' = w := by
  by_cases h1 : 1048576 < n
  · go_enter Ebug.func29, Ebug.ntmps29
    go_wp2
    go_ret
    exact ⟨rfl, rfl⟩
  · by_cases h2 : 1048576 < m
    · go_enter Ebug.func29, Ebug.ntmps29
      go_wp2
      go_ret
      exact ⟨rfl, rfl⟩
    · go_enter Ebug.func29, Ebug.ntmps29
      go_wp2
      go_ret
      exact ⟨rfl, rfl⟩

set_option maxHeartbeats 400000 in
set_option maxRecDepth 100000 in
theorem bytes30_true (ao : Option Addr) (n ca : Nat) (s : ByteArray) (w : World) (h : n + s.size ≤ 1048576) :
    Calls Ebug.prog 30 #[.slice ao n ca, .string s] w fun e w' => e = .returned (.bool true) ∧ w' = w := by
  go_enter Ebug.func30, Ebug.ntmps30
  go_wp2
  go_ret
  exact ⟨rfl, rfl⟩

set_option maxHeartbeats 400000 in
set_option maxRecDepth 100000 in
theorem bytes30_false (ao : Option Addr) (n ca : Nat) (s : ByteArray) (w : World) (h : 1048576 < n + s.size) :
    Calls Ebug.prog 30 #[.slice ao n ca, .string s] w fun e w' => e = .returned (.bool false) ∧ w' = w := by
  by_cases h1 : 1048576 < n
  · go_enter Ebug.func30, Ebug.ntmps30
    go_wp2
    go_ret
    exact ⟨rfl, rfl⟩
  · by_cases h2 : 1048576 < s.size
    · go_enter Ebug.func30, Ebug.ntmps30
      go_wp2
      go_ret
      exact ⟨rfl, rfl⟩
    · go_enter Ebug.func30, Ebug.ntmps30
      go_wp2
      go_ret
      exact ⟨rfl, rfl⟩

set_option maxHeartbeats 400000 in
set_option maxRecDepth 100000 in
theorem bytes33_true (ao : Option Addr) (n ca : Nat) (s t : ByteArray) (w : World) (h : n + s.size + t.size ≤ 1048576) :
    Calls Ebug.prog 33 #[.slice ao n ca, .string s, .string t] w fun e w' => e = .returned (.bool true) ∧ w' = w := by
  go_enter Ebug.func33, Ebug.ntmps33
  go_wp2
  go_ret
  exact ⟨rfl, rfl⟩

set_option maxHeartbeats 400000 in
set_option maxRecDepth 100000 in
theorem bytes33_false (ao : Option Addr) (n ca : Nat) (s t : ByteArray) (w : World) (h : 1048576 < n + s.size + t.size) :
    Calls Ebug.prog 33 #[.slice ao n ca, .string s, .string t] w fun e w' => e = .returned (.bool false) ∧ w' = w := by
  by_cases h1 : 1048576 < n
  · go_enter Ebug.func33, Ebug.ntmps33
    go_wp2
    go_ret
    exact ⟨rfl, rfl⟩
  by_cases h2 : 1048576 < s.size
  · go_enter Ebug.func33, Ebug.ntmps33
    go_wp2
    go_ret
    exact ⟨rfl, rfl⟩
  by_cases h3 : 1048576 < n + s.size
  · go_enter Ebug.func33, Ebug.ntmps33
    go_wp2
    go_ret
    exact ⟨rfl, rfl⟩
  by_cases h4 : 1048576 < t.size
  · go_enter Ebug.func33, Ebug.ntmps33
    go_wp2
    go_ret
    exact ⟨rfl, rfl⟩
  · go_enter Ebug.func33, Ebug.ntmps33
    go_wp2
    go_ret
    exact ⟨rfl, rfl⟩

end Go.Proofs.YoebuwDoor
