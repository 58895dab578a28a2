/-
  MEMORY, NO PROGRAM IN SIGHT. 'View': what a slice of bytes reads as; 'OwnsB': a slice of bytes that the call itself made; 'append(dst, src...)' onto such a slice, from whatever source ('Src').
-/
import Derived.WalkKit
import Derived.WalkSpells
import Derived.Deep.AppendSrc
namespace Go.Proofs.YoebuwDoor
open Go.RowKit

theorem hid {p : Prop} (h : p) : Hid p := h

/-- The cells of a row of bytes. -/
def cl (zs : List Int) : List Value := zs.map (Value.int .u8)

theorem cl_length (zs : List Int) : (cl zs).length = zs.length := by simp [cl]
theorem cl_append (xs ys : List Int) : cl (xs ++ ys) = cl xs ++ cl ys := by simp [cl]
theorem cl_get (zs : List Int) (k : Nat) (h : k < zs.length) : (cl zs)[k]? = some (.int .u8 (zs.getD k 0)) := by
  simp [cl, List.getD_eq_getElem?_getD, h]
theorem cl_one (zs : List Int) : ∀ u ∈ cl zs, u.oneCell' = true := by
  intro u hu
  obtain ⟨z, _, rfl⟩ := List.mem_map.1 hu
  rfl
theorem cl_take_succ (zs : List Int) (k : Nat) (h : k < zs.length) : cl (zs.take (k + 1)) = cl (zs.take k) ++ [.int .u8 (zs.getD k 0)] := by
  rw [List.take_succ_eq_append_getElem h, cl_append]
  simp [cl, List.getD_eq_getElem?_getD, h]

/-- WHAT A SLICE OF n BYTES READS AS: the numbers zs; its cells lie below block number N. -/
def View (w : World) (N : Nat) (ao : Option Addr) (n : Nat) (zs : List Int) : Prop :=
  zs.length = n ∧ ∀ k, k < n → ∃ b off, ao = some ⟨b, off, none⟩ ∧ b < N ∧ ∀ j, j < n → w.cell? ⟨b, off + j, none⟩ = some (.int .u8 (zs.getD j 0))

theorem View.len {w : World} {N : Nat} {ao : Option Addr} {n : Nat} {zs : List Int} (h : View w N ao n zs) : zs.length = n := h.1

theorem View.keep {w w' : World} {N M : Nat} {ao : Option Addr} {n : Nat} {zs : List Int} (h : View w N ao n zs) (hb : Below M w w') (hN : N ≤ M) : View w' N ao n zs := by
  refine ⟨h.1, fun k hk => ?_⟩
  obtain ⟨b, off, e, hlt, hc⟩ := h.2 k hk
  exact ⟨b, off, e, hlt, fun j hj => (hb.cell (p := ⟨b, off + j, none⟩) (Nat.lt_of_lt_of_le hlt hN)).trans (hc j hj)⟩

theorem View.mono {w : World} {N M : Nat} {ao : Option Addr} {n : Nat} {zs : List Int} (h : View w N ao n zs) (hN : N ≤ M) : View w M ao n zs := by
  refine ⟨h.1, fun k hk => ?_⟩
  obtain ⟨b, off, e, hlt, hc⟩ := h.2 k hk
  exact ⟨b, off, e, Nat.lt_of_lt_of_le hlt hN, hc⟩

theorem View.none_nil {w : World} {N : Nat} {n : Nat} {zs : List Int} (h : View w N none n zs) : n = 0 ∧ zs = [] := by
  have h0 : n = 0 := by
    rcases Nat.eq_zero_or_pos n with h0 | h0
    · exact h0
    · obtain ⟨b, off, e, _⟩ := h.2 0 h0
      cases e
  exact ⟨h0, List.eq_nil_of_length_eq_zero (h.1.trans h0)⟩

theorem View.empty (w : World) (N : Nat) (ao : Option Addr) : View w N ao 0 [] := ⟨rfl, fun _ h => absurd h (Nat.not_lt_zero _)⟩

/-- A slice of n bytes that the call itself made (its block's number is at least B): it holds zs. -/
def OwnsB (w : World) (B : Nat) (ao : Option Addr) (n cap : Nat) (zs : List Int) : Prop := w.ownsRow B 5 1 (.slice ao n cap) n (cl zs)

theorem OwnsB.len {w : World} {B : Nat} {ao : Option Addr} {n cap : Nat} {zs : List Int} (h : OwnsB w B ao n cap zs) : zs.length = n := by
  have := h.1
  rw [cl_length] at this
  omega

theorem OwnsB.view {w : World} {B : Nat} {ao : Option Addr} {n cap : Nat} {zs : List Int} (h : OwnsB w B ao n cap zs) : View w w.heap.size ao n zs := by
  refine ⟨h.len, fun k hk => ?_⟩
  have hl := h.len
  rcases h.2 with ⟨e, h0⟩ | ⟨g, cap', cur, e, hb, hg, _⟩
  · omega
  · simp only [Value.slice.injEq] at e
    obtain ⟨rfl, -, rfl⟩ := e
    refine ⟨g, 0, rfl, (Array.getElem?_eq_some_iff.1 hg).1, fun j hj => ?_⟩
    rw [Nat.zero_add, World.ownsRow.cellAt h j (by omega), cl_get zs j (by omega)]

theorem OwnsB.keep {w w' : World} {B : Nat} {ao : Option Addr} {n cap : Nat} {zs : List Int} (h : OwnsB w B ao n cap zs) (hb : Below w.heap.size w w') : OwnsB w' B ao n cap zs :=
  World.ownsRow.kept (row := none) h ⟨hb.os, hb.tape, hb.output, hb.size, fun k hk _ => hb.block k hk⟩ (by cases (Value.slice ao n cap).ownBlock <;> simp)

/-- A slice of what a slice reads as: 'p[:k]'. -/
theorem View.take {w : World} {N : Nat} {ao : Option Addr} {n : Nat} {zs : List Int} (h : View w N ao n zs) (k : Nat) (hk : k ≤ n) : View w N ao k (zs.take k) := by
  have hl := h.1
  refine ⟨by rw [List.length_take]; omega, fun i hi => ?_⟩
  obtain ⟨b, off, e, hlt, hc⟩ := h.2 i (by omega)
  refine ⟨b, off, e, hlt, fun j hj => ?_⟩
  rw [hc j (by omega)]
  simp [List.getD_eq_getElem?_getD, hj]

/-- 'p[k:]', its address moved on by k. -/
theorem View.drop {w : World} {N : Nat} {ao : Option Addr} {n : Nat} {zs : List Int} (h : View w N ao n zs) (k : Nat) (hk : k ≤ n) (ao' : Option Addr)
    (hao : k < n → ∀ b off, ao = some ⟨b, off, none⟩ → ao' = some ⟨b, off + k, none⟩) : View w N ao' (n - k) (zs.drop k) := by
  have hl := h.1
  refine ⟨by rw [List.length_drop]; omega, fun i hi => ?_⟩
  obtain ⟨b, off, e, hlt, hc⟩ := h.2 i (by omega)
  refine ⟨b, off + k, hao (by omega) b off e, hlt, fun j hj => ?_⟩
  have := hc (k + j) (by omega)
  rw [Nat.add_assoc, this]
  simp [List.getD_eq_getElem?_getD]

/-- What a View yields as the second argument of an append. -/
theorem View.src {P : Program} {w : World} {N : Nat} {ao : Option Addr} {n : Nat} {zs : List Int} (h : View w N ao n zs) {tx e' : TypeId} (hk : P.underlying tx = some (.slice e')) (c : Nat) : Src P 1 tx (.slice ao n c) n (cl zs) w := by
  have hl := h.1
  cases ao with
  | none =>
    obtain ⟨rfl, rfl⟩ := h.none_nil
    exact Src.ofNil w hk c
  | some a =>
    refine Src.ofSlice w hk a n c (cl zs) (by rw [cl_length]; omega) (fun j u hu => ?_) (cl_one zs)
    have hj : j < zs.length := by
      have := (List.getElem?_eq_some_iff.1 hu).1
      rwa [cl_length] at this
    obtain ⟨b, off, e, _, hc⟩ := h.2 j (by omega)
    simp only [Option.some.injEq] at e
    subst e
    rw [cl_get zs j hj] at hu
    rw [Addr.add_lit, hc j (by omega)]
    exact hu

/-- A string's bytes as numbers. -/
def bs (s : ByteArray) : List Int := s.data.toList.map fun b => (b.toNat : Int)
theorem bs_length (s : ByteArray) : (bs s).length = s.size := by
  unfold bs
  rw [List.length_map, Array.length_toList]
  rfl
theorem byteCells_bs (s : ByteArray) : byteCells s = cl (bs s) := by simp [byteCells, cl, bs, Function.comp_def]

/-- The first package-level variable, still there. -/
theorem max_kept {w w' : World} {v : Value} (h0 : 0 < w.heap.size) (h : w.cell? ⟨0, 0, none⟩ = some v) (hb : Below w.heap.size w w') : w'.cell? ⟨0, 0, none⟩ = some v :=
  (hb.cell (p := ⟨0, 0, none⟩) h0).trans h

/-! ### append onto a slice that the call itself made, from whatever source -/
section
variable {P : Program} (w : World)

theorem run_append_own_src (base : Nat) (t tx ty e : TypeId) (i : TypeInfo) (z : Value) (size bytes : Nat) (ht : P.underlying t = some (.slice e)) (hi : P.info? e = some i) (hz : i.zero = some z)
    (hsize : i.size = size) (hby : i.bytes = bytes) (hzs : z.cells.size = size)
    (v : Value) (n : Nat) (xs : List Value) (hown : w.ownsRow base e size v n xs)
    (x : Value) (m : Nat) (news : List Value) (hs : Src P size tx x m news w)
    (h63 : n + m ≤ maxLen) (hbytes : (n + m) * bytes ≤ 140737488355328) (hbase : base ≤ w.heap.size) :
    ∃ ao cap w', (Builtin.append_ #[t, tx] ty #[v, x]).run P w = .ok (.slice ao (n + m) cap) w' ∧ w'.ownsRow base e size (.slice ao (n + m) cap) (n + m) (xs ++ news) ∧ w.grownBy w' v.ownBlock := by
  subst hsize
  subst hby
  have hsmall : n + m ≤ 9223372036854775807 := by simp only [maxLen] at h63; omega
  have hlen : (xs ++ news).length = (n + m) * i.size := by rw [List.length_append, hown.1, hs.newsLen, Nat.add_mul]
  have grown : ∀ (old : Nat), old < n + m → ∀ (row : Option Nat),
      (w.drew.alloc (.cells ((xs ++ news).toArray ++ Builtin.zeroCells z.cells (grownCap w (n + m) old e - (n + m))) e)).ownsRow base e i.size
        (.slice (some ⟨w.heap.size, 0, none⟩) (n + m) (grownCap w (n + m) old e)) (n + m) (xs ++ news) ∧
      w.grownBy (w.drew.alloc (.cells ((xs ++ news).toArray ++ Builtin.zeroCells z.cells (grownCap w (n + m) old e - (n + m))) e)) row := by
    intro old ho row
    have hge := grownCap_ge w (n + m) old e
    have hcm : grownCap w (n + m) old e ≤ maxLen := grownCap_le_maxLen w (n + m) old e h63
    refine ⟨⟨hlen, .inr ⟨w.heap.size, _, _, rfl, hbase, heap_alloc_new w.drew _, hge, hcm, ?_, ?_⟩⟩, ⟨rfl, rfl, rfl, by simp, fun k hk _ => heap_alloc_old w.drew _ hk⟩⟩
    · simp only [Array.size_append, List.size_toArray, size_zeroCells, hzs, hlen, ← Nat.add_mul]
      congr 1
      omega
    · simp only [Array.toList_append]
      rw [← hlen]
      exact List.take_left
  rcases hown.2 with ⟨rfl, rfl⟩ | ⟨g, cap, cur, rfl, hbg, hg, hnc, hcm, hcs, htake⟩
  · have hx : xs = [] := List.eq_nil_of_length_eq_zero (by simpa using hown.1)
    subst hx
    by_cases hm : m = 0
    · subst hm
      have hn : news = [] := List.eq_nil_of_length_eq_zero (by simpa using hs.newsLen)
      subst hn
      refine ⟨none, 0, w, ?_, World.ownsRow_nil w base e i.size, ⟨rfl, rfl, rfl, Nat.le_refl _, fun _ _ _ => rfl⟩⟩
      rcases hs.kind with ⟨e', hk⟩ | hk <;> simp [Builtin.append_, run_underlying ht, run_underlying hk, sizeOf, typeInfo, hi, hs.len, hs.cells]
    · have hr := run_append_grow_src (P := P) w t tx ty e i z ht hi hz none 0 0 [] (run_firstCells_none w.drew i.size 0 0 0) x m news hs (by omega) (by omega) (growslice_fits (by omega) hbytes)
      have hgr := grown 0 (by omega) (Value.ownBlock (.slice none 0 0))
      exact ⟨_, _, _, hr, hgr.1, hgr.2⟩
  · by_cases hroom : n + m ≤ cap
    · have hfit : n * i.size + news.length ≤ cur.size := by rw [hs.newsLen, hcs, ← Nat.add_mul]; exact Nat.mul_le_mul_right _ hroom
      have hst := run_storeCells_at P g (n * i.size) e news 0 cur w hg (by simpa using hfit) hs.one
      simp only [Nat.add_zero] at hst
      have hr : (Builtin.append_ #[t, tx] ty #[.slice (some ⟨g, 0, none⟩) n cap, x]).run P w =
          .ok (.slice (some ⟨g, 0, none⟩) (n + m) cap) (w.setRow g (cur.toList.take (n * i.size) ++ news ++ cur.toList.drop (n * i.size + news.length)).toArray) := by
        rcases hs.kind with ⟨e', hk⟩ | hk <;> simp [Builtin.append_, run_underlying ht, run_underlying hk, sizeOf, typeInfo, hi, hs.len, hroom, hs.cells, Addr.add_lit, hst]
      refine ⟨_, _, _, hr, ⟨hlen, .inr ⟨g, cap, _, rfl, hbg, setRow_heap w g cur _ e _ hg, hroom, hcm, ?_, ?_⟩⟩, ⟨rfl, rfl, rfl, by simp, fun k _ hk => setRow_other w g k _ (fun e => hk (by simp [Value.ownBlock, e]))⟩⟩
      · simp only [List.size_toArray, List.length_append, List.length_take, List.length_drop, Array.length_toList]
        omega
      · rw [htake, ← hlen]
        exact List.take_left
    · have holds : ∀ j u, xs[j]? = some u → w.cell? ((⟨g, 0, none⟩ : Addr).add j) = some u := hown.cells (g := g) rfl
      have hold := run_firstCells_some (P := P) w.drew i.size n ⟨g, 0, none⟩ n cap xs hown.1 (by simpa using holds)
      have hr := run_append_grow_src (P := P) w t tx ty e i z ht hi hz (some ⟨g, 0, none⟩) n cap xs hold x m news hs (by omega) (by omega) (growslice_fits (by omega) hbytes)
      have hgr := grown cap (by omega) (Value.ownBlock (.slice (some ⟨g, 0, none⟩) n cap))
      exact ⟨_, _, _, hr, hgr.1, hgr.2⟩

theorem wpList_append_own_src {ops : Array Oper} {rest : List Oper} {o : Oper} {a : Act} {Q : Exit → Act → World → Prop} (hgd : o.guard = none) (s x : Operand) (t tx : TypeId)
    (ho : o.op = .call { callee := .builtin .append, args := #[s, x], argTypes := #[t, tx] })
    (base : Nat) (e : TypeId) (i : TypeInfo) (z : Value) (size bytes : Nat) (ht : P.underlying t = some (.slice e)) (hi : P.info? e = some i) (hz : i.zero = some z)
    (hsize : i.size = size) (hby : i.bytes = bytes) (hzs : z.cells.size = size)
    (v : Value) (n : Nat) (xs : List Value) (hv : a.eval s = v) (hown : w.ownsRow base e size v n xs)
    (y : Value) (m : Nat) (news : List Value) (hy : a.eval x = y) (hs : Src P size tx y m news w)
    (h63 : n + m ≤ maxLen) (hbytes : (n + m) * bytes ≤ 140737488355328) (hbase : base ≤ w.heap.size)
    (h : ∀ ao cap w', w'.ownsRow base e size (.slice ao (n + m) cap) (n + m) (xs ++ news) → w.grownBy w' v.ownBlock → wpList P ops Q rest (a.put o.dst (.slice ao (n + m) cap)) w') : wpList P ops Q (o :: rest) a w := by
  refine wpList_plain hgd fun K hK => ?_
  obtain ⟨ao, cap, w', hr, h2, h3⟩ := run_append_own_src (P := P) w base t tx o.type e i z size bytes ht hi hz hsize hby hzs v n xs hown y m news hs h63 hbytes hbase
  unfold Oper.wp
  simp [execOp, ho, resolve, invoke, builtin, hv, hy, hr, Result.andThen]
  exact hK _ _ (h ao cap w' h2 h3)
end

end Go.Proofs.YoebuwDoor
