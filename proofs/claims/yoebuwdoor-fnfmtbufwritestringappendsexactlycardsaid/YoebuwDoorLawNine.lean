/-
  THE WALK OF FnFmtbufWriteStringAppendsExactly (function 9): it returns true; nothing that was there has turned.
-/
import Derived.Test.YoebuwDoorBounds
namespace Go.Proofs.YoebuwDoor
open Go.RowKit

set_option maxHeartbeats 400000 in
set_option maxRecDepth 100000 in
theorem law9_out (ao : Option Addr) (n ca : Nat) (s : ByteArray) (w : World) (h : 524288 < n ∨ 524288 < s.size) :
    Calls Ebug.prog 9 #[.slice ao n ca, .string s] w fun e w' => e = .returned (.bool true) ∧ w' = w := by
  by_cases h1 : 1048576 < n + s.size
  · go_enter Ebug.func9, Ebug.ntmps9
    go_wp2_with fail
    refine (bytes30_false ao n ca s _ h1).mono ?_
    rintro e w' ⟨rfl, rfl⟩
    go_wp2
    go_ret
    exact ⟨rfl, rfl⟩
  by_cases h2 : 524288 < n
  · go_enter Ebug.func9, Ebug.ntmps9
    go_wp2_with fail
    refine (bytes30_true ao n ca s _ (by omega)).mono ?_
    rintro e w' ⟨rfl, rfl⟩
    go_wp2
    go_ret
    exact ⟨rfl, rfl⟩
  · have h3 : 524288 < s.size := by omega
    go_enter Ebug.func9, Ebug.ntmps9
    go_wp2_with fail
    refine (bytes30_true ao n ca s _ (by omega)).mono ?_
    rintro e w' ⟨rfl, rfl⟩
    go_wp2
    go_ret
    exact ⟨rfl, rfl⟩

set_option maxHeartbeats 1000000 in
set_option maxRecDepth 100000 in
theorem law9_in (ao : Option Addr) (n ca : Nat) (xs : List Int) (s : ByteArray) (w : World) (hv : View w w.heap.size ao n xs)
    (hmax : w.cell? ⟨0, 0, none⟩ = some (.int .i64 2147483647)) (hn : n ≤ 524288) (hm : s.size ≤ 524288) :
    Calls Ebug.prog 9 #[.slice ao n ca, .string s] w fun e w' => e = .returned (.bool true) ∧ Below w.heap.size w w' := by
  have h0 : 0 < w.heap.size := World.block_lt_of_cell? _ _ hmax
  have HM := hid hmax
  clear hmax
  go_enter Ebug.func9, Ebug.ntmps9
  go_wp2_with fail
  refine (bytes30_true ao n ca s _ (by omega)).mono ?_
  rintro e w ⟨rfl, rfl⟩
  go_wp2_with fail
  refine (clone_any ao n ca xs _ _ hv (Nat.le_refl _) (by omega)).mono ?_
  rintro e w1 ⟨a1, c1, rfl, o1, b1⟩
  have s1 := b1.size
  go_wp2_with fail
  refine (clone_any a1 n c1 xs _ _ o1.view (Nat.le_refl _) (by omega)).mono ?_
  rintro e w2 ⟨a2, c2, rfl, o2, b2⟩
  have s2 := b2.size
  go_wp2_with fail
  refine (zzWriteString_any a2 n c2 xs s _ _ s2 (max_kept h0 HM.out (b1.trans (b2.mono s1))) o2 (by omega)).mono ?_
  rintro e w3 ⟨a3, c3, rfl, o3, b3⟩
  have s3 := b3.size
  go_wp2_with fail
  refine (catStr_any a1 n c1 xs s _ _ ((o1.view.keep b2 (Nat.le_refl _)).keep b3 (Nat.le_refl _)) (by omega) (by omega) (by omega)).mono ?_
  rintro e w4 ⟨a4, c4, rfl, o4, b4⟩
  have s4 := b4.size
  go_wp2_with fail
  refine (eq_same a3 a4 (n + s.size) c3 c4 (xs ++ bs s) _ _ _ (o3.view.keep b4 (Nat.le_refl _)) o4.view s4 (Nat.le_refl _) (by omega)).mono ?_
  rintro e w5 ⟨rfl, b5⟩
  have hend : Below w.heap.size w w5 := b1.trans ((b2.mono s1).trans ((b3.mono (by omega)).trans ((b4.mono (by omega)).trans (b5.mono (by omega)))))
  clear b1 b2 b3 b4 b5 o1 o2 o3 o4 hv
  go_wp2
  go_ret
  exact ⟨rfl, hend⟩
end Go.Proofs.YoebuwDoor
