/-
  THE WALK OF FnFmtbufWriteStringScriptAgreesWithWrite (function 10): it returns true; nothing that was there has turned.
-/
import Derived.Test.YoebuwDoorBounds
namespace Go.Proofs.YoebuwDoor
open Go.RowKit

/-! ### The contracts with the length and the bytes named by the caller -/
theorem zzWriteString_to (ao : Option Addr) (n cap : Nat) (xs : List Int) (s : ByteArray) (w : World) (B k : Nat) (zs : List Int) (hBs : B ≤ w.heap.size)
    (hmax : w.cell? ⟨0, 0, none⟩ = some (.int .i64 2147483647)) (hown : OwnsB w B ao n cap xs) (hnm : n + s.size ≤ 2147483647) (hk : n + s.size = k) (hz : xs ++ bs s = zs) :
    Calls Ebug.prog 31 #[.slice ao n cap, .string s] w fun e w' => ∃ ao' cap', e = .returned (.slice ao' k cap') ∧ OwnsB w' B ao' k cap' zs ∧ Below B w w' := by
  subst hk
  subst hz
  exact zzWriteString_any ao n cap xs s w B hBs hmax hown hnm

theorem zzWrite_to (ao bo : Option Addr) (n cap m c : Nat) (xs ys : List Int) (w : World) (B N k : Nat) (zs : List Int) (hBs : B ≤ w.heap.size) (hN : N ≤ w.heap.size)
    (hmax : w.cell? ⟨0, 0, none⟩ = some (.int .i64 2147483647)) (hown : OwnsB w B ao n cap xs) (hv : View w N bo m ys) (hnm : n + m ≤ 2147483647) (hk : n + m = k) (hz : xs ++ ys = zs) :
    Calls Ebug.prog 28 #[.slice ao n cap, .slice bo m c] w fun e w' => ∃ ao' cap', e = .returned (.slice ao' k cap') ∧ OwnsB w' B ao' k cap' zs ∧ Below B w w' := by
  subst hk
  subst hz
  exact zzWrite_any ao bo n cap m c xs ys w B N hBs hN hmax hown hv hnm

theorem catStr_to (a : Option Addr) (n ca : Nat) (xs : List Int) (s : ByteArray) (w : World) (N k : Nat) (zs : List Int) (hv : View w N a n xs) (hN : N ≤ w.heap.size) (hn : n ≤ 1073741824) (hm : s.size ≤ 1073741824) (hk : n + s.size = k) (hz : xs ++ bs s = zs) :
    Calls Ebug.prog 32 #[.slice a n ca, .string s] w fun e w' => ∃ ao' cap', e = .returned (.slice ao' k cap') ∧ OwnsB w' w.heap.size ao' k cap' zs ∧ Below w.heap.size w w' := by
  subst hk
  subst hz
  exact catStr_any a n ca xs s w N hv hN hn hm

theorem bs_append (s t : ByteArray) : bs (s ++ t) = bs s ++ bs t := by
  unfold bs
  rw [ByteArray.data_append, Array.toList_append, List.map_append]

set_option maxHeartbeats 400000 in
set_option maxRecDepth 100000 in
theorem law10_out (ao : Option Addr) (n ca : Nat) (s t : ByteArray) (w : World) (h : 262144 < n ∨ 262144 < s.size ∨ 262144 < t.size) :
    Calls Ebug.prog 10 #[.slice ao n ca, .string s, .string t] w fun e w' => e = .returned (.bool true) ∧ w' = w := by
  by_cases h1 : 1048576 < n + s.size + t.size
  · go_enter Ebug.func10, Ebug.ntmps10
    go_wp2_with fail
    refine (bytes33_false ao n ca s t _ h1).mono ?_
    rintro e w' ⟨rfl, rfl⟩
    go_wp2
    go_ret
    exact ⟨rfl, rfl⟩
  by_cases h2 : 262144 < n
  · go_enter Ebug.func10, Ebug.ntmps10
    go_wp2_with fail
    refine (bytes33_true ao n ca s t _ (by omega)).mono ?_
    rintro e w' ⟨rfl, rfl⟩
    go_wp2
    go_ret
    exact ⟨rfl, rfl⟩
  by_cases h3 : 262144 < s.size
  · go_enter Ebug.func10, Ebug.ntmps10
    go_wp2_with fail
    refine (bytes33_true ao n ca s t _ (by omega)).mono ?_
    rintro e w' ⟨rfl, rfl⟩
    go_wp2
    go_ret
    exact ⟨rfl, rfl⟩
  · have h4 : 262144 < t.size := by omega
    go_enter Ebug.func10, Ebug.ntmps10
    go_wp2_with fail
    refine (bytes33_true ao n ca s t _ (by omega)).mono ?_
    rintro e w' ⟨rfl, rfl⟩
    go_wp2
    go_ret
    exact ⟨rfl, rfl⟩

set_option maxHeartbeats 2000000 in
set_option maxRecDepth 100000 in
theorem law10_in (ao : Option Addr) (n ca : Nat) (xs : List Int) (s t : ByteArray) (w : World) (L : Nat) (zs : List Int) (HL : Hid (n + s.size + t.size = L)) (HZ : Hid (xs ++ bs s ++ bs t = zs)) (hv : View w w.heap.size ao n xs)
    (hmax : w.cell? ⟨0, 0, none⟩ = some (.int .i64 2147483647)) (hn : n ≤ 262144) (hm : s.size ≤ 262144) (ht : t.size ≤ 262144) :
    Calls Ebug.prog 10 #[.slice ao n ca, .string s, .string t] w fun e w' => e = .returned (.bool true) ∧ Below w.heap.size w w' := by
  have h0 : 0 < w.heap.size := World.block_lt_of_cell? _ _ hmax
  have HM := hid hmax
  have hLb : L ≤ 2147483647 := by have := HL.out; omega
  have HK6 : Hid (n + (s ++ t).size = L) := by have := HL.out; show _ = _; rw [ByteArray.size_append]; omega
  have HZ6 : Hid (xs ++ bs (s ++ t) = zs) := by show _ = _; rw [bs_append, ← List.append_assoc]; exact HZ.out
  have HK10 : Hid (n + (s.size + t.size) = L) := by have := HL.out; show _ = _; omega
  have HZ10 : Hid (xs ++ (bs s ++ bs t) = zs) := by show _ = _; rw [← List.append_assoc]; exact HZ.out
  have hst : (s ++ t).size ≤ 524288 := by rw [ByteArray.size_append]; omega
  clear hmax
  go_enter Ebug.func10, Ebug.ntmps10
  go_wp2_with fail
  refine (bytes33_true ao n ca s t _ (by omega)).mono ?_
  rintro e w ⟨rfl, rfl⟩
  go_wp2_with fail
  refine (clone_any ao n ca xs _ _ hv (Nat.le_refl _) (by omega)).mono ?_
  rintro e w1 ⟨a1, c1, rfl, o1, b1⟩
  have s1 := b1.size
  go_wp2_with fail
  refine (clone_any a1 n c1 xs _ _ o1.view (Nat.le_refl _) (by omega)).mono ?_
  rintro e w2 ⟨a2, c2, rfl, o2, b2⟩
  have s2 := b2.size
  have B2 := b1.trans (b2.mono s1)
  go_wp2_with fail
  refine (zzWriteString_any a2 n c2 xs s _ _ s2 (max_kept h0 HM.out B2) o2 (by omega)).mono ?_
  rintro e w3 ⟨a3, c3, rfl, o3, b3⟩
  have s3 := b3.size
  have B3 := B2.trans (b3.mono s1)
  go_wp2_with fail
  refine (zzWriteString_to a3 (n + s.size) c3 (xs ++ bs s) t _ _ L zs (by omega) (max_kept h0 HM.out B3) o3 (by omega) HL.out HZ.out).mono ?_
  rintro e w4 ⟨a4, c4, rfl, o4, b4⟩
  have s4 := b4.size
  have B4 := B3.trans (b4.mono s1)
  have v4 := ((o1.view.keep b2 (Nat.le_refl _)).keep b3 (Nat.le_refl _)).keep b4 (Nat.le_refl _)
  clear o2 o3 b2 b3 b4
  go_wp2_with fail
  refine (clone_any a1 n c1 xs _ _ v4 (by omega) (by omega)).mono ?_
  rintro e w5 ⟨a5, c5, rfl, o5, b5⟩
  have s5 := b5.size
  have B5 := B4.trans (b5.mono (by omega))
  go_wp2_with fail
  refine (zzWriteString_to a5 n c5 xs (s ++ t) _ _ L zs s5 (max_kept h0 HM.out B5) o5 (by omega) HK6.out HZ6.out).mono ?_
  rintro e w6 ⟨a6, c6, rfl, o6, b6⟩
  have s6 := b6.size
  have B6 := B5.trans (b6.mono (by omega))
  have v6 := (v4.keep b5 (by omega)).keep b6 (by omega)
  have vs6 := (o4.view.keep b5 (Nat.le_refl _)).keep b6 (Nat.le_refl _)
  clear o4 o5 b5 b6 v4 hst HK6 HZ6
  go_wp2_with fail
  refine (clone_any a1 n c1 xs _ _ v6 (by omega) (by omega)).mono ?_
  rintro e w7 ⟨a7, c7, rfl, o7, b7⟩
  have s7 := b7.size
  have B7 := B6.trans (b7.mono (by omega))
  go_wp2_with fail
  refine (catStr_to none 0 0 [] s _ 0 s.size (bs s) (View.empty _ _ _) (Nat.zero_le _) (by omega) (by omega) (Nat.zero_add _) (List.nil_append _)).mono ?_
  rintro e w8 ⟨a8, c8, rfl, o8, b8⟩
  have s8 := b8.size
  have B8 := B7.trans (b8.mono (by omega))
  go_wp2_with fail
  refine (catStr_any a8 s.size c8 (bs s) t _ _ o8.view (Nat.le_refl _) (by omega) (by omega)).mono ?_
  rintro e w9 ⟨a9, c9, rfl, o9, b9⟩
  have s9 := b9.size
  have B9 := B8.trans (b9.mono (by omega))
  go_wp2_with fail
  refine (zzWrite_to a7 a9 n c7 (s.size + t.size) c9 xs (bs s ++ bs t) _ _ _ L zs (by omega) (Nat.le_refl _) (max_kept h0 HM.out B9) ((o7.keep b8).keep b9) o9.view (by omega) HK10.out HZ10.out).mono ?_
  rintro e w10 ⟨a10, c10, rfl, o10, b10⟩
  have s10 := b10.size
  have B10 := B9.trans (b10.mono (by omega))
  have vs10 := (((vs6.keep b7 (by omega)).keep b8 (by omega)).keep b9 (by omega)).keep b10 (by omega)
  have vo10 := (((o6.view.keep b7 (Nat.le_refl _)).keep b8 s7).keep b9 (by omega)).keep b10 (Nat.le_refl _)
  clear o6 o7 o8 o9 b7 b8 b9 b10 v6 vs6 HK10 HZ10
  go_wp2_with fail
  refine (eq_same a4 a6 L c4 c6 zs _ _ _ vs10 vo10 (by omega) (by omega) hLb).mono ?_
  rintro e w11 ⟨rfl, b11⟩
  have s11 := b11.size
  have B11 := B10.trans (b11.mono (by omega))
  go_wp2_with fail
  refine (eq_same a6 a10 L c6 c10 zs _ _ _ (vo10.keep b11 (by omega)) (o10.view.keep b11 (Nat.le_refl _)) (by omega) (by omega) hLb).mono ?_
  rintro e w12 ⟨rfl, b12⟩
  have B12 := B11.trans (b12.mono (by omega))
  clear b11 b12 o10 vo10 vs10 hv
  go_wp2
  go_ret
  exact ⟨rfl, B12⟩
end Go.Proofs.YoebuwDoor
