/-
  WALKS OF THE HELPERS: zzClone, zzEq, zzCat, zzCatStr (package zzlaws_root_b2).
-/
import Derived.Test.YoebuwDoorRows
import Derived.Test.YoebuwDoorMem
import Derived.WalkLawsBesides
import Derived.Deep.QuietTactic
import Derived.BigQuiet
namespace Go.Proofs.YoebuwDoor
open Go.RowKit
theorem info5 : (Ebug.prog.info? 5).map (fun i => (i.zero, i.size, i.bytes)) = some (some (.int .u8 0), 1, 1) := by kernel_rfl

theorem made_cl (n : Nat) : (madeCells #[Value.int .u8 0] n).toList = cl (List.replicate n 0) := by
  rw [toList_madeCells_one]
  simp [cl]

theorem clone_step {wr : World} {B g n cap k : Nat} {ys zs : List Int} (h : OwnsB wr B (some ⟨g, 0, none⟩) n cap ys) (hz : zs.length = n) (hk : k < n) (ht : ys.take k = zs.take k) :
    OwnsB (wr.setCell ⟨g, k, none⟩ (.int .u8 (zs.getD k 0))) B (some ⟨g, 0, none⟩) n cap (ys.set k (zs.getD k 0)) ∧ (ys.set k (zs.getD k 0)).take (k + 1) = zs.take (k + 1) := by
  have hl := h.len
  refine ⟨?_, ?_⟩
  · have h1 := (World.ownsRow.stored h k (.int .u8 (zs.getD k 0))).1
    have e : (cl ys).set k (.int .u8 (zs.getD k 0)) = cl (ys.set k (zs.getD k 0)) := by simp [cl, List.map_set]
    rw [e] at h1
    exact h1
  · rw [List.take_succ_eq_append_getElem (by simp; omega), List.take_succ_eq_append_getElem (by omega), List.take_set_of_le (by omega), ht]
    simp [List.getD_eq_getElem?_getD, show k < zs.length by omega]

set_option maxHeartbeats 400000 in
theorem clone_some (a : Addr) (n cap : Nat) (zs : List Int) (w : World) (N : Nat) (hv : View w N (some a) n zs) (hN : N ≤ w.heap.size) (hn : n ≤ 1073741824) :
    Calls Ebug.prog 12 #[.slice (some a) n cap] w fun e w' => ∃ ao' cap', e = .returned (.slice ao' n cap') ∧ OwnsB w' w.heap.size ao' n cap' zs ∧ Below w.heap.size w w' := by
  obtain ⟨i0, hi, hz0, hz1, hz2⟩ := info_parts info5
  have hnil := fun wx => Lib.run_eql_slice_nil (P := Ebug.prog) wx 22 5 (some a) n cap 0 0 Ebug.underlying22
  go_enter Ebug.func12, Ebug.ntmps12
  go_wp2_with (at_make; refine wpList_make_full _ rfl (.tmp 8) (.tmp 8) 22 rfl w.heap.size 5 i0 (.int .u8 0) 1 Ebug.underlying22 hi hz0 hz1 .i64 .i64 n n n rfl rfl rfl rfl ?c1 ?c2 ?c3 ?_)
  case c1 => rw [hz2]; omega
  case c2 => unfold maxLen; omega
  case c3 => exact Nat.le_refl _
  intro w1 hown1 hg1
  have hnx := (Below.refl w.heap.size w).grown hg1 (Nat.le_refl _) (fun _ h => by cases h)
  rw [made_cl] at hown1
  have hown2 : OwnsB w1 w.heap.size (some ⟨w.heap.size, 0, none⟩) n n (List.replicate n 0) := hown1
  clear hown1 hg1 hnil
  go_wp2
  go_loopw [4] (fun i wr => ∃ (k : Nat) (ys : List Int), k ≤ n ∧ i = .int .i64 k ∧ OwnsB wr w.heap.size (some ⟨w.heap.size, 0, none⟩) n n ys ∧ ys.take k = zs.take k ∧ Below w.heap.size w wr) (fun i _ => n - (intOf i).toNat)
  case atStart => exact ⟨0, _, Nat.zero_le _, rfl, hown2, rfl, hnx⟩
  case round =>
    clear hown2 hnx
    obtain ⟨k, ys, hk, rfl, hown, htk, hnx⟩ := hrel
    by_cases hlt : k < n
    · obtain ⟨b, off, ha, hbN, hc⟩ := hv.2 k hlt
      have R := clone_step hown hv.len hlt htk
      obtain ⟨x, hx⟩ : ∃ x, x = zs.getD k 0 := ⟨_, rfl⟩
      rw [← hx] at R
      have hck : wr.cell? ⟨b, off + k, none⟩ = some (.int .u8 x) := by rw [hx]; exact (hnx.cell (p := ⟨b, off + k, none⟩) (Nat.lt_of_lt_of_le hbN hN)).trans (hc k hlt)
      obtain ⟨rfl⟩ : a = ⟨b, off, none⟩ := by simpa using ha
      have HR : Hid (OwnsB (wr.setCell ⟨w.heap.size, k, none⟩ (.int .u8 x)) w.heap.size (some ⟨w.heap.size, 0, none⟩) n n (ys.set k x) ∧ (ys.set k x).take (k + 1) = zs.take (k + 1)) := R
      have hfz := World.ownsRow.frozenAt hown k
      obtain ⟨y, hcur⟩ : ∃ y, wr.cell? ⟨w.heap.size, k, none⟩ = some (.int .u8 y) := ⟨_, (World.ownsRow.cellAt hown k (by omega)).trans (cl_get ys k (by rw [hown.len]; exact hlt))⟩
      clear R ha hc hx htk
      go_wp2
      go_roundw
      case rel => exact ⟨k + 1, ys.set k x, by omega, by go_num, HR.out.1, HR.out.2, hnx.setCell (Nat.le_refl _) _⟩
      case measure => simp [intOf]; omega
    · have hz := hv.len
      have hy := hown.len
      rw [show k = n by omega, List.take_of_length_le (by omega), List.take_of_length_le (by omega)] at htk
      subst htk
      clear hz hy
      go_wp2
      go_ret
      exact ⟨_, _, rfl, hown, hnx⟩

set_option maxHeartbeats 400000 in
theorem clone_any (ao : Option Addr) (n cap : Nat) (zs : List Int) (w : World) (N : Nat) (hv : View w N ao n zs) (hN : N ≤ w.heap.size) (hn : n ≤ 1073741824) :
    Calls Ebug.prog 12 #[.slice ao n cap] w fun e w' => ∃ ao' cap', e = .returned (.slice ao' n cap') ∧ OwnsB w' w.heap.size ao' n cap' zs ∧ Below w.heap.size w w' := by
  cases ao with
  | some a => exact clone_some a n cap zs w N hv hN hn
  | none =>
    obtain ⟨rfl, rfl⟩ := hv.none_nil
    have hnil := fun wx => Lib.run_eql_slice_nil (P := Ebug.prog) wx 22 5 none 0 cap 0 0 Ebug.underlying22
    go_enter Ebug.func12, Ebug.ntmps12
    go_wp2
    go_ret
    exact ⟨_, _, rfl, World.ownsRow_nil _ _ _ _, Below.refl _ _⟩

set_option maxHeartbeats 400000 in
theorem eq_same (a b : Option Addr) (n ca cb : Nat) (zs : List Int) (w : World) (N M : Nat) (hv : View w N a n zs) (hu : View w M b n zs) (hN : N ≤ w.heap.size) (hM : M ≤ w.heap.size) (hn : n ≤ 2147483647) :
    Calls Ebug.prog 17 #[.slice a n ca, .slice b n cb] w fun e w' => e = .returned (.bool true) ∧ Below w.heap.size w w' := by
  have hne : ((n : Int) != (n : Int)) = false := by simp
  go_enter Ebug.func17, Ebug.ntmps17
  go_wp2
  go_loopw [5] (fun i wr => ∃ k : Nat, k ≤ n ∧ i = .int .i64 k ∧ Below w.heap.size w wr) (fun i _ => n - (intOf i).toNat)
  case atStart => exact ⟨0, Nat.zero_le _, rfl, Below.refl _ _⟩
  case round =>
    obtain ⟨k, hk, rfl, hnx⟩ := hrel
    by_cases hlt : k < n
    · obtain ⟨b1, o1, ha, hb1, hc⟩ := hv.2 k hlt
      obtain ⟨b2, o2, hb, hb2, hd⟩ := hu.2 k hlt
      obtain ⟨x, hx⟩ : ∃ x, x = zs.getD k 0 := ⟨_, rfl⟩
      have hck : wr.cell? ⟨b1, o1 + k, none⟩ = some (.int .u8 x) := by rw [hx]; exact (hnx.cell (p := ⟨b1, o1 + k, none⟩) (Nat.lt_of_lt_of_le hb1 hN)).trans (hc k hlt)
      have hdk : wr.cell? ⟨b2, o2 + k, none⟩ = some (.int .u8 x) := by rw [hx]; exact (hnx.cell (p := ⟨b2, o2 + k, none⟩) (Nat.lt_of_lt_of_le hb2 hM)).trans (hd k hlt)
      have hxx : (x != x) = false := by simp
      have hkn : (k : Int) < (n : Int) := by omega
      clear hc hd hx
      subst ha
      subst hb
      go_wp2
      go_quiet (fail)
      go_wp2
      go_roundw
      case rel => exact ⟨k + 1, by omega, by go_num, below_drewN hnx _⟩
      case measure => simp [intOf]; omega
    · go_wp2
      go_ret
      exact ⟨rfl, hnx⟩

set_option maxHeartbeats 800000 in
theorem cat_any (a b : Option Addr) (n m ca cb : Nat) (xs ys : List Int) (w : World) (N M : Nat) (hv : View w N a n xs) (hu : View w M b m ys) (hN : N ≤ w.heap.size) (hM : M ≤ w.heap.size) (hn : n ≤ 1073741824) (hm : m ≤ 1073741824) :
    Calls Ebug.prog 14 #[.slice a n ca, .slice b m cb] w fun e w' => ∃ ao' cap', e = .returned (.slice ao' (n + m) cap') ∧ OwnsB w' w.heap.size ao' (n + m) cap' (xs ++ ys) ∧ Below w.heap.size w w' := by
  obtain ⟨i0, hi, hz0, hz1, hz2⟩ := info_parts info5
  go_enter Ebug.func14, Ebug.ntmps14
  go_wp2_with (at_make; refine wpList_make_own _ rfl _ (.tmp 12) 22 rfl w.heap.size 5 i0 (.int .u8 0) 1 Ebug.underlying22 hi hz0 hz1 .i64 .i64 _ (n + m) rfl rfl ?c0 ?c1 ?c2 ?c3 ?_)
  case c0 => omega
  case c1 => rw [hz2]; omega
  case c2 => unfold maxLen; omega
  case c3 => exact Nat.le_refl _
  intro w1 hown1 hg1
  have hnx := (Below.refl w.heap.size w).grown hg1 (Nat.le_refl _) (fun _ h => by cases h)
  have hown2 : OwnsB w1 w.heap.size (some ⟨w.heap.size, 0, none⟩) 0 (n + m) [] := hown1
  have hsz : w.heap.size < w1.heap.size := (hown1.lt w.heap.size rfl).2
  clear hown1 hg1
  go_wp2
  go_loopw [5, 6] (fun c i wr => ∃ k : Nat, k ≤ n ∧ i = .int .i64 k ∧ c = .slice (some ⟨w.heap.size, 0, none⟩) k (n + m) ∧ OwnsB wr w.heap.size (some ⟨w.heap.size, 0, none⟩) k (n + m) (xs.take k) ∧ Below w.heap.size w wr) (fun _ i _ => n - (intOf i).toNat)
  case atStart => exact ⟨0, Nat.zero_le _, rfl, rfl, hown2, hnx⟩
  case round =>
    clear hown2 hnx hsz w1
    obtain ⟨k, hk, rfl, rfl, hown, hnx⟩ := hrel
    by_cases hlt : k < n
    · obtain ⟨b1, o1, ha, hb1, hc⟩ := hv.2 k hlt
      obtain ⟨x, hx⟩ : ∃ x, x = xs.getD k 0 := ⟨_, rfl⟩
      have hck : wr.cell? ⟨b1, o1 + k, none⟩ = some (.int .u8 x) := by rw [hx]; exact (hnx.cell (p := ⟨b1, o1 + k, none⟩) (Nat.lt_of_lt_of_le hb1 hN)).trans (hc k hlt)
      have HX : Hid (x = xs.getD k 0) := hx
      clear hc hx
      subst ha
      go_wp2_with (at_builtin; refine wpList_append_fits _ rfl (.tmp 20) (.tmp 25) 22 rfl w.heap.size 5 i0 1 Ebug.underlying22 hi hz1 w.heap.size k (n + m) (cl (xs.take k)) rfl (World.ownsRow.alloc hown _) ⟨wr.heap.size, 0, none⟩ 1 1 [.int .u8 x] rfl rfl (cell_one_new _ _ _) ?c4 ?c5 ?_)
      case c4 => intro u hu; simp at hu; subst hu; rfl
      case c5 => omega
      intro w2 hown3 hg3
      have R : OwnsB w2 w.heap.size (some ⟨w.heap.size, 0, none⟩) (k + 1) (n + m) (xs.take (k + 1)) := by
        have := hv.len
        unfold OwnsB
        rw [cl_take_succ xs k (by omega), ← HX.out]
        exact hown3
      have hnx2 : Below w.heap.size w w2 := (hnx.alloc hnx.size _).grown hg3 (by have := hnx.size; simp; omega) (fun q h => by cases h; exact Nat.le_refl _)
      clear hown3 hg3 hown hnx hck HX
      go_wp2
      go_roundw
      case rel => exact ⟨k + 1, by omega, by go_num, rfl, R, hnx2⟩
      case measure => simp [intOf]; omega
    · have hk2 : k = n := by omega
      have hl := hv.len
      rw [List.take_of_length_le (by omega)] at hown
      subst hk2
      clear hl hlt hk
      go_wp2
      go_loopw [5, 7] (fun c i wr => ∃ j : Nat, j ≤ m ∧ i = .int .i64 j ∧ c = .slice (some ⟨w.heap.size, 0, none⟩) (k + j) (k + m) ∧ OwnsB wr w.heap.size (some ⟨w.heap.size, 0, none⟩) (k + j) (k + m) (xs ++ ys.take j) ∧ Below w.heap.size w wr) (fun _ i _ => m - (intOf i).toNat)
      case atStart => exact ⟨0, Nat.zero_le _, rfl, rfl, by simpa using hown, hnx⟩
      case round =>
        clear hown hnx
        obtain ⟨j, hj, rfl, rfl, hown, hnx⟩ := hrel
        by_cases hlt : j < m
        · obtain ⟨b1, o1, ha, hb1, hc⟩ := hu.2 j hlt
          obtain ⟨x, hx⟩ : ∃ x, x = ys.getD j 0 := ⟨_, rfl⟩
          have hck : wr.cell? ⟨b1, o1 + j, none⟩ = some (.int .u8 x) := by rw [hx]; exact (hnx.cell (p := ⟨b1, o1 + j, none⟩) (Nat.lt_of_lt_of_le hb1 hM)).trans (hc j hlt)
          have HX : Hid (x = ys.getD j 0) := hx
          clear hc hx
          subst ha
          go_wp2_with (at_builtin; refine wpList_append_fits _ rfl (.tmp 33) (.tmp 38) 22 rfl w.heap.size 5 i0 1 Ebug.underlying22 hi hz1 w.heap.size (k + j) (k + m) (cl (xs ++ ys.take j)) rfl (World.ownsRow.alloc hown _) ⟨wr.heap.size, 0, none⟩ 1 1 [.int .u8 x] rfl rfl (cell_one_new _ _ _) ?c6 ?c7 ?_)
          case c6 => intro u hu; simp at hu; subst hu; rfl
          case c7 => omega
          intro w2 hown3 hg3
          have R : OwnsB w2 w.heap.size (some ⟨w.heap.size, 0, none⟩) (k + (j + 1)) (k + m) (xs ++ ys.take (j + 1)) := by
            have := hu.len
            unfold OwnsB
            rw [cl_append, cl_take_succ ys j (by omega), ← HX.out, ← List.append_assoc, ← cl_append]
            exact hown3
          have hnx2 : Below w.heap.size w w2 := (hnx.alloc hnx.size _).grown hg3 (by have := hnx.size; simp; omega) (fun q h => by cases h; exact Nat.le_refl _)
          clear hown3 hg3 hown hnx hck HX
          go_wp2
          go_roundw
          case rel => exact ⟨j + 1, by omega, by go_num, rfl, R, hnx2⟩
          case measure => simp [intOf]; omega
        · have hj2 : j = m := by omega
          have hl := hu.len
          rw [List.take_of_length_le (by omega)] at hown
          subst hj2
          clear hl hlt hj
          go_wp2
          go_ret
          exact ⟨_, _, rfl, hown, hnx⟩
theorem bs_get (s : ByteArray) (j : Nat) (h : j < s.size) : (bs s).getD j 0 = (s[j].toNat : Int) := by
  have hl : j < s.data.toList.length := by rw [Array.length_toList]; exact h
  unfold bs
  rw [List.getD_eq_getElem?_getD, List.getElem?_map, List.getElem?_eq_getElem hl]
  rfl

set_option maxHeartbeats 800000 in
theorem catStr_any (a : Option Addr) (n ca : Nat) (xs : List Int) (s : ByteArray) (w : World) (N : Nat) (hv : View w N a n xs) (hN : N ≤ w.heap.size) (hn : n ≤ 1073741824) (hm : s.size ≤ 1073741824) :
    Calls Ebug.prog 32 #[.slice a n ca, .string s] w fun e w' => ∃ ao' cap', e = .returned (.slice ao' (n + s.size) cap') ∧ OwnsB w' w.heap.size ao' (n + s.size) cap' (xs ++ bs s) ∧ Below w.heap.size w w' := by
  obtain ⟨i0, hi, hz0, hz1, hz2⟩ := info_parts info5
  go_enter Ebug.func32, Ebug.ntmps32
  go_wp2_with (at_make; refine wpList_make_own _ rfl _ (.tmp 12) 22 rfl w.heap.size 5 i0 (.int .u8 0) 1 Ebug.underlying22 hi hz0 hz1 .i64 .i64 _ (n + s.size) rfl rfl ?c0 ?c1 ?c2 ?c3 ?_)
  case c0 => omega
  case c1 => rw [hz2]; omega
  case c2 => unfold maxLen; omega
  case c3 => exact Nat.le_refl _
  intro w1 hown1 hg1
  have hnx := (Below.refl w.heap.size w).grown hg1 (Nat.le_refl _) (fun _ h => by cases h)
  have hown2 : OwnsB w1 w.heap.size (some ⟨w.heap.size, 0, none⟩) 0 (n + s.size) [] := hown1
  have hsz : w.heap.size < w1.heap.size := (hown1.lt w.heap.size rfl).2
  clear hown1 hg1
  go_wp2
  go_loopw [5, 6] (fun c i wr => ∃ k : Nat, k ≤ n ∧ i = .int .i64 k ∧ c = .slice (some ⟨w.heap.size, 0, none⟩) k (n + s.size) ∧ OwnsB wr w.heap.size (some ⟨w.heap.size, 0, none⟩) k (n + s.size) (xs.take k) ∧ Below w.heap.size w wr) (fun _ i _ => n - (intOf i).toNat)
  case atStart => exact ⟨0, Nat.zero_le _, rfl, rfl, hown2, hnx⟩
  case round =>
    clear hown2 hnx hsz w1
    obtain ⟨k, hk, rfl, rfl, hown, hnx⟩ := hrel
    by_cases hlt : k < n
    · obtain ⟨b1, o1, ha, hb1, hc⟩ := hv.2 k hlt
      obtain ⟨x, hx⟩ : ∃ x, x = xs.getD k 0 := ⟨_, rfl⟩
      have hck : wr.cell? ⟨b1, o1 + k, none⟩ = some (.int .u8 x) := by rw [hx]; exact (hnx.cell (p := ⟨b1, o1 + k, none⟩) (Nat.lt_of_lt_of_le hb1 hN)).trans (hc k hlt)
      have HX : Hid (x = xs.getD k 0) := hx
      clear hc hx
      subst ha
      go_wp2_with (at_builtin; refine wpList_append_fits _ rfl (.tmp 20) (.tmp 25) 22 rfl w.heap.size 5 i0 1 Ebug.underlying22 hi hz1 w.heap.size k (n + s.size) (cl (xs.take k)) rfl (World.ownsRow.alloc hown _) ⟨wr.heap.size, 0, none⟩ 1 1 [.int .u8 x] rfl rfl (cell_one_new _ _ _) ?c4 ?c5 ?_)
      case c4 => intro u hu; simp at hu; subst hu; rfl
      case c5 => omega
      intro w2 hown3 hg3
      have R : OwnsB w2 w.heap.size (some ⟨w.heap.size, 0, none⟩) (k + 1) (n + s.size) (xs.take (k + 1)) := by
        have := hv.len
        unfold OwnsB
        rw [cl_take_succ xs k (by omega), ← HX.out]
        exact hown3
      have hnx2 : Below w.heap.size w w2 := (hnx.alloc hnx.size _).grown hg3 (by have := hnx.size; simp; omega) (fun q h => by cases h; exact Nat.le_refl _)
      clear hown3 hg3 hown hnx hck HX
      go_wp2
      go_roundw
      case rel => exact ⟨k + 1, by omega, by go_num, rfl, R, hnx2⟩
      case measure => simp [intOf]; omega
    · have hk2 : k = n := by omega
      have hl := hv.len
      rw [List.take_of_length_le (by omega)] at hown
      subst hk2
      clear hl hlt hk
      go_wp2
      go_loopw [5, 7] (fun c i wr => ∃ j : Nat, j ≤ s.size ∧ i = .int .i64 j ∧ c = .slice (some ⟨w.heap.size, 0, none⟩) (k + j) (k + s.size) ∧ OwnsB wr w.heap.size (some ⟨w.heap.size, 0, none⟩) (k + j) (k + s.size) (xs ++ (bs s).take j) ∧ Below w.heap.size w wr) (fun _ i _ => s.size - (intOf i).toNat)
      case atStart => exact ⟨0, Nat.zero_le _, rfl, rfl, by simpa using hown, hnx⟩
      case round =>
        clear hown hnx
        obtain ⟨j, hj, rfl, rfl, hown, hnx⟩ := hrel
        by_cases hlt : j < s.size
        · go_wp2_with (at_builtin; refine wpList_append_fits _ rfl (.tmp 33) (.tmp 37) 22 rfl w.heap.size 5 i0 1 Ebug.underlying22 hi hz1 w.heap.size (k + j) (k + s.size) (cl (xs ++ (bs s).take j)) rfl (World.ownsRow.alloc hown _) ⟨wr.heap.size, 0, none⟩ 1 1 [.int .u8 (s[j].toNat : Int)] rfl rfl (cell_one_new _ _ _) ?c6 ?c7 ?_)
          case c6 => intro u hu; simp at hu; subst hu; rfl
          case c7 => omega
          intro w2 hown3 hg3
          have R : OwnsB w2 w.heap.size (some ⟨w.heap.size, 0, none⟩) (k + (j + 1)) (k + s.size) (xs ++ (bs s).take (j + 1)) := by
            have := bs_length s
            unfold OwnsB
            rw [cl_append, cl_take_succ (bs s) j (by omega), bs_get s j hlt, ← List.append_assoc, ← cl_append]
            exact hown3
          have hnx2 : Below w.heap.size w w2 := (hnx.alloc hnx.size _).grown hg3 (by have := hnx.size; simp; omega) (fun q h => by cases h; exact Nat.le_refl _)
          clear hown3 hg3 hown hnx
          go_wp2
          go_roundw
          case rel => exact ⟨j + 1, by omega, by go_num, rfl, R, hnx2⟩
          case measure => simp [intOf]; omega
        · have hj2 : j = s.size := by omega
          have hl := bs_length s
          rw [List.take_of_length_le (by omega)] at hown
          subst hj2
          clear hl hlt hj
          go_wp2
          go_ret
          exact ⟨_, _, rfl, hown, hnx⟩
end Go.Proofs.YoebuwDoor
