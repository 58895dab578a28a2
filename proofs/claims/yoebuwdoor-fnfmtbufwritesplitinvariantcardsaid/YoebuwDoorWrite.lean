/-
  WALKS of (*fmtbuf).Write, (*fmtbuf).WriteString and of their two shims (package tengo).
-/
import Derived.Test.YoebuwDoorParts
namespace Go.Proofs.YoebuwDoor
open Go.RowKit

/-- The row that is owned is not the box: their element types differ. -/
theorem own_not_box {w : World} {B q : Nat} {ao : Option Addr} {n cap : Nat} {xs : List Value} {v : Value} (h : w.ownsRow B 5 1 (.slice ao n cap) n xs) (hb : w.heap[q]? = some (.cells #[v] 43 (0, 0))) : (Value.slice ao n cap).ownBlock ≠ some q := by
  intro e
  rcases h.2 with ⟨h1, -⟩ | ⟨g, cap', cur, h1, -, hg, -⟩
  · rw [h1] at e; cases e
  · rw [h1] at e
    simp only [Value.ownBlock, Option.some.injEq] at e
    subst e
    rw [hg] at hb
    simp at hb

theorem box_stays {w w1 : World} {B q : Nat} {ao : Option Addr} {n cap : Nat} {xs : List Value} {v : Value} (h : w.ownsRow B 5 1 (.slice ao n cap) n xs) (hb : w.heap[q]? = some (.cells #[v] 43 (0, 0))) (hg : w.grownBy w1 (Value.slice ao n cap).ownBlock) : w1.heap[q]? = some (.cells #[v] 43 (0, 0)) :=
  (hg.block q (lt_of_block hb) (fun e => own_not_box h hb e.symm)).trans hb

/-- What the store of the grown slice back into its box leaves. -/
theorem write_end {w w1 : World} {B q : Nat} {ao ao' : Option Addr} {n m cap cap' : Nat} {xs ys : List Int} (hown : OwnsB w B ao n cap xs) (hb : w.heap[q]? = some (.cells #[.slice ao n cap] 43 (0, 0))) (hBq : B ≤ q)
    (hown1 : w1.ownsRow B 5 1 (.slice ao' (n + m) cap') (n + m) (cl xs ++ cl ys)) (hg : w.grownBy w1 (Value.slice ao n cap).ownBlock) :
    OwnsB (w1.setCell ⟨q, 0, none⟩ (.slice ao' (n + m) cap')) B ao' (n + m) cap' (xs ++ ys) ∧ Below B w (w1.setCell ⟨q, 0, none⟩ (.slice ao' (n + m) cap')) ∧
      (w1.setCell ⟨q, 0, none⟩ (.slice ao' (n + m) cap')).heap[q]? = some (.cells #[.slice ao' (n + m) cap'] 43 (0, 0)) := by
  have hb1 := box_stays hown hb hg
  have hlt := lt_of_block hb
  refine ⟨?_, ?_, one_setCell hb1⟩
  · unfold OwnsB
    rw [cl_append]
    exact ownsRow_setCell_other hown1 (own_not_box hown1 hb1) _
  · exact ((Below.refl B w).grown hg (by omega) (fun k hk => (World.ownsRow.lt hown k hk).1)).setCell hBq _

set_option maxHeartbeats 400000 in
set_option maxRecDepth 100000 in
theorem write_any (q : Nat) (ao bo : Option Addr) (n cap m c : Nat) (xs ys : List Int) (w : World) (B N : Nat) (hb : w.heap[q]? = some (.cells #[.slice ao n cap] 43 (0, 0))) (hBq : B ≤ q)
    (hmax : w.cell? ⟨0, 0, none⟩ = some (.int .i64 2147483647)) (hown : OwnsB w B ao n cap xs) (hv : View w N bo m ys) (hnm : n + m ≤ 2147483647) :
    Calls Ebug.prog 38 #[.pointer (some ⟨q, 0, none⟩), .slice bo m c] w fun e w' => e = .returned (.tuple #[]) ∧
      ∃ ao' cap', OwnsB w' B ao' (n + m) cap' (xs ++ ys) ∧ Below B w w' ∧ w'.heap[q]? = some (.cells #[.slice ao' (n + m) cap'] 43 (0, 0)) := by
  obtain ⟨i0, hi, hz0, hz1, hz2⟩ := info_parts info5
  have hc := cell_of_one hb
  have hf := free_of_one hb
  have hlt := lt_of_block hb
  have HB : Hid (w.heap[q]? = some (.cells #[.slice ao n cap] 43 (0, 0))) := hb
  clear hb
  go_enter Ebug.func38, Ebug.ntmps38
  go_wp2
  go_quiet (fail)
  go_wp2_with (at_builtin; refine wpList_append_own_src _ rfl (.tmp 17) (.tmp 18) 43 22 rfl B 5 i0 (.int .u8 0) 1 1 Ebug.underlying43 hi hz0 hz1 hz2 rfl (.slice ao n cap) n (cl xs) rfl ?c1 (.slice bo m c) m (cl ys) rfl ?c2 ?c3 ?c4 ?c5 ?_)
  case c1 => exact hown
  case c2 => exact (hv.keep (below_drewN (Below.refl N w) _) (Nat.le_refl _)).src Ebug.underlying22 c
  case c3 => unfold maxLen; omega
  case c4 => omega
  case c5 => exact Nat.le_trans hBq (Nat.le_of_lt hlt)
  intro ao' cap' w1 hown1 hg
  have hb1 := box_stays (w := w.drewN nq) hown HB.out hg
  have hc1 := cell_of_one hb1
  have hf1 := free_of_one hb1
  have R := write_end (w := w.drewN nq) (q := q) hown HB.out hBq hown1 hg
  have HR : Hid (OwnsB (w1.setCell ⟨q, 0, none⟩ (.slice ao' (n + m) cap')) B ao' (n + m) cap' (xs ++ ys) ∧ Below B (w.drewN nq) (w1.setCell ⟨q, 0, none⟩ (.slice ao' (n + m) cap')) ∧
      (w1.setCell ⟨q, 0, none⟩ (.slice ao' (n + m) cap')).heap[q]? = some (.cells #[.slice ao' (n + m) cap'] 43 (0, 0))) := R
  clear R hb1 hown1 hg hown hv hc hf hmax HB
  go_wp2
  go_end0
  exact ⟨rfl, ao', cap', HR.out.1, (below_drewN (Below.refl B w) nq).trans HR.out.2.1, HR.out.2.2⟩

set_option maxHeartbeats 400000 in
set_option maxRecDepth 100000 in
theorem writeString_any (q : Nat) (ao : Option Addr) (n cap : Nat) (xs : List Int) (s : ByteArray) (w : World) (B : Nat) (hb : w.heap[q]? = some (.cells #[.slice ao n cap] 43 (0, 0))) (hBq : B ≤ q)
    (hmax : w.cell? ⟨0, 0, none⟩ = some (.int .i64 2147483647)) (hown : OwnsB w B ao n cap xs) (hnm : n + s.size ≤ 2147483647) :
    Calls Ebug.prog 39 #[.pointer (some ⟨q, 0, none⟩), .string s] w fun e w' => e = .returned (.tuple #[]) ∧
      ∃ ao' cap', OwnsB w' B ao' (n + s.size) cap' (xs ++ bs s) ∧ Below B w w' ∧ w'.heap[q]? = some (.cells #[.slice ao' (n + s.size) cap'] 43 (0, 0)) := by
  obtain ⟨i0, hi, hz0, hz1, hz2⟩ := info_parts info5
  have hc := cell_of_one hb
  have hf := free_of_one hb
  have hlt := lt_of_block hb
  have HB : Hid (w.heap[q]? = some (.cells #[.slice ao n cap] 43 (0, 0))) := hb
  clear hb
  go_enter Ebug.func39, Ebug.ntmps39
  go_wp2
  go_quiet (fail)
  go_wp2_with (at_builtin; refine wpList_append_own_src _ rfl (.tmp 17) (.tmp 18) 43 9 rfl B 5 i0 (.int .u8 0) 1 1 Ebug.underlying43 hi hz0 hz1 hz2 rfl (.slice ao n cap) n (cl xs) rfl ?c1 (.string s) s.size (cl (bs s)) rfl ?c2 ?c3 ?c4 ?c5 ?_)
  case c1 => exact hown
  case c2 => rw [← byteCells_bs]; exact Src.ofString _ Ebug.underlying9 s
  case c3 => unfold maxLen; omega
  case c4 => omega
  case c5 => exact Nat.le_trans hBq (Nat.le_of_lt hlt)
  intro ao' cap' w1 hown1 hg
  have hb1 := box_stays (w := w.drewN nq) hown HB.out hg
  have hc1 := cell_of_one hb1
  have hf1 := free_of_one hb1
  have R := write_end (w := w.drewN nq) (q := q) hown HB.out hBq hown1 hg
  have HR : Hid (OwnsB (w1.setCell ⟨q, 0, none⟩ (.slice ao' (n + s.size) cap')) B ao' (n + s.size) cap' (xs ++ bs s) ∧ Below B (w.drewN nq) (w1.setCell ⟨q, 0, none⟩ (.slice ao' (n + s.size) cap')) ∧
      (w1.setCell ⟨q, 0, none⟩ (.slice ao' (n + s.size) cap')).heap[q]? = some (.cells #[.slice ao' (n + s.size) cap'] 43 (0, 0))) := R
  clear R hb1 hown1 hg hown hc hf hmax HB
  go_wp2
  go_end0
  exact ⟨rfl, ao', cap', HR.out.1, (below_drewN (Below.refl B w) nq).trans HR.out.2.1, HR.out.2.2⟩

set_option maxHeartbeats 400000 in
set_option maxRecDepth 100000 in
theorem zzWrite_any (ao bo : Option Addr) (n cap m c : Nat) (xs ys : List Int) (w : World) (B N : Nat) (hBs : B ≤ w.heap.size) (hN : N ≤ w.heap.size)
    (hmax : w.cell? ⟨0, 0, none⟩ = some (.int .i64 2147483647)) (hown : OwnsB w B ao n cap xs) (hv : View w N bo m ys) (hnm : n + m ≤ 2147483647) :
    Calls Ebug.prog 28 #[.slice ao n cap, .slice bo m c] w fun e w' => ∃ ao' cap', e = .returned (.slice ao' (n + m) cap') ∧ OwnsB w' B ao' (n + m) cap' (xs ++ ys) ∧ Below B w w' := by
  have h0 : 0 < w.heap.size := World.block_lt_of_cell? _ _ hmax
  have hbl : Below w.heap.size w (w.alloc (.cells #[.slice ao n cap] 43)) := (Below.refl _ _).alloc (Nat.le_refl _) _
  have hb := heap_alloc_new w (.cells #[.slice ao n cap] 43 (0, 0))
  have hm2 := (hbl.cell (p := ⟨0, 0, none⟩) h0).trans hmax
  have C := write_any w.heap.size ao bo n cap m c xs ys (w.alloc (.cells #[.slice ao n cap] 43)) B N hb hBs hm2 (hown.keep hbl) (hv.keep hbl hN) hnm
  have HC := hid C
  have HB : Hid (Below w.heap.size w (w.alloc (.cells #[.slice ao n cap] 43))) := hbl
  clear C hbl hb hm2 hmax hown hv
  go_enter Ebug.func28, Ebug.ntmps28
  go_wp2_with fail
  refine HC.out.mono ?_
  rintro e w1 ⟨rfl, ao', cap', hown1, hbl1, hb1⟩
  have hc1 := cell_of_one hb1
  have HR : Hid (OwnsB w1 B ao' (n + m) cap' (xs ++ ys) ∧ Below B w w1) := ⟨hown1, (HB.out.mono hBs).trans hbl1⟩
  clear hown1 hbl1 hb1 HB HC
  go_wp2
  go_ret
  exact ⟨ao', cap', rfl, HR.out.1, HR.out.2⟩

set_option maxHeartbeats 400000 in
set_option maxRecDepth 100000 in
theorem zzWriteString_any (ao : Option Addr) (n cap : Nat) (xs : List Int) (s : ByteArray) (w : World) (B : Nat) (hBs : B ≤ w.heap.size)
    (hmax : w.cell? ⟨0, 0, none⟩ = some (.int .i64 2147483647)) (hown : OwnsB w B ao n cap xs) (hnm : n + s.size ≤ 2147483647) :
    Calls Ebug.prog 31 #[.slice ao n cap, .string s] w fun e w' => ∃ ao' cap', e = .returned (.slice ao' (n + s.size) cap') ∧ OwnsB w' B ao' (n + s.size) cap' (xs ++ bs s) ∧ Below B w w' := by
  have h0 : 0 < w.heap.size := World.block_lt_of_cell? _ _ hmax
  have hbl : Below w.heap.size w (w.alloc (.cells #[.slice ao n cap] 43)) := (Below.refl _ _).alloc (Nat.le_refl _) _
  have hb := heap_alloc_new w (.cells #[.slice ao n cap] 43 (0, 0))
  have hm2 := (hbl.cell (p := ⟨0, 0, none⟩) h0).trans hmax
  have C := writeString_any w.heap.size ao n cap xs s (w.alloc (.cells #[.slice ao n cap] 43)) B hb hBs hm2 (hown.keep hbl) hnm
  have HC := hid C
  have HB : Hid (Below w.heap.size w (w.alloc (.cells #[.slice ao n cap] 43))) := hbl
  clear C hbl hb hm2 hmax hown
  go_enter Ebug.func31, Ebug.ntmps31
  go_wp2_with fail
  refine HC.out.mono ?_
  rintro e w1 ⟨rfl, ao', cap', hown1, hbl1, hb1⟩
  have hc1 := cell_of_one hb1
  have HR : Hid (OwnsB w1 B ao' (n + s.size) cap' (xs ++ bs s) ∧ Below B w w1) := ⟨hown1, (HB.out.mono hBs).trans hbl1⟩
  clear hown1 hbl1 hb1 HB HC
  go_wp2
  go_ret
  exact ⟨ao', cap', rfl, HR.out.1, HR.out.2⟩

end Go.Proofs.YoebuwDoor
