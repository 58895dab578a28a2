/-
  THE WALK OF FnFmtbufWriteAppendsExactly (function 7): it returns true; nothing that was there has turned.
-/
import Derived.Test.YoebuwDoorBounds
namespace Go.Proofs.YoebuwDoor
open Go.RowKit

set_option maxHeartbeats 400000 in
set_option maxRecDepth 100000 in
theorem law7_out (ao bo : Option Addr) (n ca m cb : Nat) (w : World) (h : 524288 < n ∨ 524288 < m) :
    Calls Ebug.prog 7 #[.slice ao n ca, .slice bo m cb] w fun e w' => e = .returned (.bool true) ∧ w' = w := by
  by_cases h1 : 1048576 < n + m
  · go_enter Ebug.func7, Ebug.ntmps7
    go_wp2_with fail
    refine (bytes27_false ao bo n ca m cb _ h1).mono ?_
    rintro e w' ⟨rfl, rfl⟩
    go_wp2
    go_ret
    exact ⟨rfl, rfl⟩
  by_cases h2 : 524288 < n
  · go_enter Ebug.func7, Ebug.ntmps7
    go_wp2_with fail
    refine (bytes27_true ao bo n ca m cb _ (by omega)).mono ?_
    rintro e w' ⟨rfl, rfl⟩
    go_wp2
    go_ret
    exact ⟨rfl, rfl⟩
  · have h3 : 524288 < m := by omega
    go_enter Ebug.func7, Ebug.ntmps7
    go_wp2_with fail
    refine (bytes27_true ao bo n ca m cb _ (by omega)).mono ?_
    rintro e w' ⟨rfl, rfl⟩
    go_wp2
    go_ret
    exact ⟨rfl, rfl⟩

set_option maxHeartbeats 1000000 in
set_option maxRecDepth 100000 in
theorem law7_in (ao bo : Option Addr) (n ca m cb : Nat) (xs ys : List Int) (w : World) (hv : View w w.heap.size ao n xs) (hu : View w w.heap.size bo m ys)
    (hmax : w.cell? ⟨0, 0, none⟩ = some (.int .i64 2147483647)) (hn : n ≤ 524288) (hm : m ≤ 524288) :
    Calls Ebug.prog 7 #[.slice ao n ca, .slice bo m cb] w fun e w' => e = .returned (.bool true) ∧ Below w.heap.size w w' := by
  have h0 : 0 < w.heap.size := World.block_lt_of_cell? _ _ hmax
  have HM := hid hmax
  clear hmax
  go_enter Ebug.func7, Ebug.ntmps7
  go_wp2_with fail
  refine (bytes27_true ao bo n ca m cb _ (by omega)).mono ?_
  rintro e w ⟨rfl, rfl⟩
  go_wp2_with fail
  refine (clone_any ao n ca xs _ _ hv (Nat.le_refl _) (by omega)).mono ?_
  rintro e w1 ⟨a1, c1, rfl, o1, b1⟩
  have s1 := b1.size
  go_wp2_with fail
  refine (clone_any bo m cb ys _ _ (hu.keep b1 (Nat.le_refl _)) s1 (by omega)).mono ?_
  rintro e w2 ⟨a2, c2, rfl, o2, b2⟩
  have s2 := b2.size
  go_wp2_with fail
  refine (clone_any a1 n c1 xs _ _ (o1.view.keep b2 (Nat.le_refl _)) s2 (by omega)).mono ?_
  rintro e w3 ⟨a3, c3, rfl, o3, b3⟩
  have s3 := b3.size
  go_wp2_with fail
  refine (zzWrite_any a3 a2 n c3 m c2 xs ys _ _ _ s3 s3 (max_kept h0 HM.out (b1.trans ((b2.mono s1).trans (b3.mono (Nat.le_trans s1 s2))))) o3 (o2.view.keep b3 (Nat.le_refl _)) (by omega)).mono ?_
  rintro e w4 ⟨a4, c4, rfl, o4, b4⟩
  have s4 := b4.size
  go_wp2_with fail
  refine (cat_any a1 a2 n m c1 c2 xs ys _ _ _ (((o1.view.keep b2 (Nat.le_refl _)).keep b3 s2).keep b4 s2) ((o2.view.keep b3 (Nat.le_refl _)).keep b4 (Nat.le_refl _)) (by omega) (by omega) (by omega) (by omega)).mono ?_
  rintro e w5 ⟨a5, c5, rfl, o5, b5⟩
  have s5 := b5.size
  go_wp2_with fail
  refine (eq_same a4 a5 (n + m) c4 c5 (xs ++ ys) _ _ _ (o4.view.keep b5 (Nat.le_refl _)) o5.view s5 (Nat.le_refl _) (by omega)).mono ?_
  rintro e w6 ⟨rfl, b6⟩
  have hend : Below w.heap.size w w6 := b1.trans ((b2.mono s1).trans ((b3.mono (by omega)).trans ((b4.mono (by omega)).trans ((b5.mono (by omega)).trans (b6.mono (by omega))))))
  clear b1 b2 b3 b4 b5 b6 o1 o2 o3 o4 o5 hv hu
  go_wp2
  go_ret
  exact ⟨rfl, hend⟩
end Go.Proofs.YoebuwDoor
