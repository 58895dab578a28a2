/-
  THE WALK OF FnFmtbufWriteSplitInvariant (function 8): it returns true; nothing that was there has turned.
-/
import Derived.Test.YoebuwDoorBounds
import Derived.Deep.RegionWith
namespace Go.Proofs.YoebuwDoor
open Go.RowKit

theorem zzWrite_to8 (ao bo : Option Addr) (n cap m c : Nat) (xs ys : List Int) (w : World) (B N k : Nat) (zs : List Int) (hBs : B ≤ w.heap.size) (hN : N ≤ w.heap.size)
    (hmax : w.cell? ⟨0, 0, none⟩ = some (.int .i64 2147483647)) (hown : OwnsB w B ao n cap xs) (hv : View w N bo m ys) (hnm : n + m ≤ 2147483647) (hk : n + m = k) (hz : xs ++ ys = zs) :
    Calls Ebug.prog 28 #[.slice ao n cap, .slice bo m c] w fun e w' => ∃ ao' cap', e = .returned (.slice ao' k cap') ∧ OwnsB w' B ao' k cap' zs ∧ Below B w w' := by
  subst hk
  subst hz
  exact zzWrite_any ao bo n cap m c xs ys w B N hBs hN hmax hown hv hnm

/-- 'p[:k]'. -/
theorem slice_to (a : Option Addr) (m c k : Nat) (hk : k ≤ c) : ∃ a', (∀ wx : World, (Instr.slice 22 (.slice a m c) none (some (.int .i64 (k : Int))) none).run Ebug.prog wx = .ok (.slice a' k c) wx) ∧
    ∀ {w : World} {N : Nat} {zs : List Int}, View w N a m zs → k ≤ m → View w N a' k (zs.take k) := by
  refine ⟨if c = 0 then a else a.map (·.add (0 * 1)), fun wx => ?_, fun {w N zs} hv hkm => ?_⟩
  · simp [Instr.slice, run_underlying Ebug.underlying22, Instr.sliceBounds, Instr.sliceBound, asIntOf, hk]
  · have h := hv.take k hkm
    refine ⟨h.1, fun i hi => ?_⟩
    obtain ⟨b, off, e, hlt, hc⟩ := h.2 i hi
    refine ⟨b, off, ?_, hlt, hc⟩
    subst e
    split
    · rfl
    · simp [Addr.add_lit]

/-- 'p[k:]'. -/
theorem slice_from (a : Option Addr) (m c k : Nat) (hk : k ≤ m) (hm : m ≤ c) : ∃ a' c', (∀ wx : World, (Instr.slice 22 (.slice a m c) (some (.int .i64 (k : Int))) none none).run Ebug.prog wx = .ok (.slice a' (m - k) c') wx) ∧
    ∀ {w : World} {N : Nat} {zs : List Int}, View w N a m zs → View w N a' (m - k) (zs.drop k) := by
  refine ⟨if c = k then a else a.map (·.add (k * 1)), c - k, fun wx => ?_, fun {w N zs} hv => ?_⟩
  · simp [Instr.slice, run_underlying Ebug.underlying22, Instr.sliceBounds, Instr.sliceBound, asIntOf, hk]
  · refine hv.drop k hk _ fun hlt b off e => ?_
    subst e
    rw [if_neg (by omega)]
    simp [Addr.add_lit]

/-- A slice of the call's own: its length is at most its capacity. -/
theorem OwnsB.fits {w : World} {B : Nat} {ao : Option Addr} {n cap : Nat} {zs : List Int} (h : OwnsB w B ao n cap zs) : n ≤ cap := by
  rcases h.2 with ⟨e, h0⟩ | ⟨g, cap', cur, e, _, _, hle, _⟩
  · omega
  · simp only [Value.slice.injEq] at e
    obtain ⟨-, -, rfl⟩ := e
    exact hle

set_option maxHeartbeats 400000 in
set_option maxRecDepth 100000 in
theorem law8_out (ao bo : Option Addr) (n ca m cb : Nat) (k : Int) (w : World) (h : 524288 < n ∨ 524288 < m ∨ k < 0 ∨ (m : Int) < k) :
    Calls Ebug.prog 8 #[.slice ao n ca, .slice bo m cb, .int .i64 k] w fun e w' => e = .returned (.bool true) ∧ w' = w := by
  by_cases h1 : 1048576 < n + m
  · go_enter Ebug.func8, Ebug.ntmps8
    go_wp2_with fail
    refine (bytes29_false ao bo n ca m cb k _ h1).mono ?_
    rintro e w' ⟨rfl, rfl⟩
    go_wp2
    go_ret
    exact ⟨rfl, rfl⟩
  by_cases h2 : 524288 < n
  · go_enter Ebug.func8, Ebug.ntmps8
    go_wp2_with fail
    refine (bytes29_true ao bo n ca m cb k _ (by omega)).mono ?_
    rintro e w' ⟨rfl, rfl⟩
    go_wp2
    go_ret
    exact ⟨rfl, rfl⟩
  by_cases h3 : 524288 < m
  · go_enter Ebug.func8, Ebug.ntmps8
    go_wp2_with fail
    refine (bytes29_true ao bo n ca m cb k _ (by omega)).mono ?_
    rintro e w' ⟨rfl, rfl⟩
    go_wp2
    go_ret
    exact ⟨rfl, rfl⟩
  by_cases h4 : k < 0
  · go_enter Ebug.func8, Ebug.ntmps8
    go_wp2_with fail
    refine (bytes29_true ao bo n ca m cb k _ (by omega)).mono ?_
    rintro e w' ⟨rfl, rfl⟩
    go_wp2
    go_ret
    exact ⟨rfl, rfl⟩
  · have h5 : (m : Int) < k := by omega
    go_enter Ebug.func8, Ebug.ntmps8
    go_wp2_with fail
    refine (bytes29_true ao bo n ca m cb k _ (by omega)).mono ?_
    rintro e w' ⟨rfl, rfl⟩
    go_wp2
    go_ret
    exact ⟨rfl, rfl⟩

set_option maxHeartbeats 2000000 in
set_option maxRecDepth 100000 in
theorem law8_in (ao bo : Option Addr) (n ca m cb k : Nat) (xs ys : List Int) (w : World) (hv : View w w.heap.size ao n xs) (hu : View w w.heap.size bo m ys)
    (hmax : w.cell? ⟨0, 0, none⟩ = some (.int .i64 2147483647)) (hn : n ≤ 524288) (hm : m ≤ 524288) (hk : k ≤ m) :
    Calls Ebug.prog 8 #[.slice ao n ca, .slice bo m cb, .int .i64 (k : Int)] w fun e w' => e = .returned (.bool true) ∧ Below w.heap.size w w' := by
  have h0 : 0 < w.heap.size := World.block_lt_of_cell? _ _ hmax
  have HM := hid hmax
  clear hmax
  have hk0 : (0 : Int) ≤ (k : Int) := by omega
  have hk1 : (k : Int) ≤ (m : Int) := by omega
  go_enter Ebug.func8, Ebug.ntmps8
  go_wp2_with fail
  refine (bytes29_true ao bo n ca m cb k _ (by omega)).mono ?_
  rintro e w ⟨rfl, rfl⟩
  go_wp2_with fail
  refine (clone_any ao n ca xs _ _ hv (Nat.le_refl _) (by omega)).mono ?_
  rintro e w1 ⟨a1, c1, rfl, o1, b1⟩
  have s1 := b1.size
  go_wp2_with fail
  refine (clone_any bo m cb ys _ _ (hu.keep b1 (Nat.le_refl _)) s1 (by omega)).mono ?_
  rintro e w2 ⟨a2, c2, rfl, o2, b2⟩
  have s2 := b2.size
  have f2 := o2.fits
  obtain ⟨at2, sl1, vt⟩ := slice_to a2 m c2 k (by omega)
  obtain ⟨af2, cf2, sl2, vf⟩ := slice_from a2 m c2 k hk f2
  have B2 := b1.trans (b2.mono s1)
  have v2b := o1.view.keep b2 (Nat.le_refl _)
  have v2p := o2.view
  have HT := hid (vt v2p hk)
  have HF := hid (vf v2p)
  clear vt vf o1 o2 b1 b2 hv hu
  go_wp2_with fail
  refine (clone_any a1 n c1 xs _ _ v2b s2 (by omega)).mono ?_
  rintro e w3 ⟨a3, c3, rfl, o3, b3⟩
  have s3 := b3.size
  have B3 := B2.trans (b3.mono (by omega))
  go_wp2_with fail
  refine (zzWrite_any a3 a2 n c3 m c2 xs ys _ _ _ s3 s3 (max_kept h0 HM.out B3) o3 (v2p.keep b3 (Nat.le_refl _)) (by omega)).mono ?_
  rintro e w4 ⟨a4, c4, rfl, o4, b4⟩
  have s4 := b4.size
  have B4 := B3.trans (b4.mono (by omega))
  have v4b := (v2b.keep b3 s2).keep b4 s2
  have HT4 := hid ((HT.out.keep b3 (Nat.le_refl _)).keep b4 (Nat.le_refl _))
  have HF4 := hid ((HF.out.keep b3 (Nat.le_refl _)).keep b4 (Nat.le_refl _))
  clear o3 b3 b4 v2b v2p HT HF
  go_wp2
  go_region_with (first
    | (go_at_call 12; refine (clone_any a1 n c1 xs _ w1.heap.size ?_ ?_ ?_).mono ?_; exact v4b.keep (Below.refl w4.heap.size w4).drew (by omega); exact Nat.le_trans s2 (Nat.le_trans s3 s4); omega; rintro e w5 ⟨a5, c5, rfl, o5, b5⟩)
    | (go_at_call 28; refine (zzWrite_any a5 at2 n c5 k c2 xs (ys.take k) _ w4.heap.size w2.heap.size ?_ ?_ ?_ ?_ ?_ ?_).mono ?_; exact b5.size; exact Nat.le_trans s3 (Nat.le_trans s4 b5.size); exact max_kept h0 HM.out (B4.trans (((Below.refl w4.heap.size w4).drew.trans b5).mono (by omega))); exact o5; exact HT4.out.keep ((Below.refl w4.heap.size w4).drew.trans b5) (by omega); omega; rintro e w6 ⟨a6, c6, rfl, o6, b6⟩))
  have b56 : Below w4.heap.size w4 w6 := ((Below.refl w4.heap.size w4).drew.trans b5).trans b6
  have s6 := b56.size
  have B6 := B4.trans (b56.mono (by omega))
  have HF6 := hid (HF4.out.keep b56 (by omega))
  have v6w := o4.view.keep b56 (Nat.le_refl _)
  have o6' : OwnsB w6 w4.heap.size a6 (n + k) c6 (xs ++ ys.take k) := o6
  clear o4 o5 o6 b5 b6 b56 v4b HT4 HF4 sl1
  go_wp2_with fail
  refine (zzWrite_to8 a6 af2 (n + k) c6 (m - k) cf2 (xs ++ ys.take k) (ys.drop k) _ w4.heap.size w2.heap.size (n + m) (xs ++ ys) s6 (by omega) (max_kept h0 HM.out B6) o6' HF6.out (by omega) (by omega) (by rw [List.append_assoc, List.take_append_drop])).mono ?_
  rintro e w7 ⟨a7, c7, rfl, o7, b7⟩
  have s7 := b7.size
  have B7 := B6.trans (b7.mono (by omega))
  have v7w := v6w.keep b7 (Nat.le_refl _)
  clear o6' v6w HF6 sl2 b7
  go_wp2_with fail
  refine (eq_same a7 a4 (n + m) c7 c4 (xs ++ ys) _ _ _ o7.view v7w (Nat.le_refl _) (by omega) (by omega)).mono ?_
  rintro e w8 ⟨rfl, b8⟩
  have B8 := B7.trans (b8.mono (by omega))
  clear o7 v7w b8
  go_wp2
  go_ret
  exact ⟨rfl, B8⟩
end Go.Proofs.YoebuwDoor
