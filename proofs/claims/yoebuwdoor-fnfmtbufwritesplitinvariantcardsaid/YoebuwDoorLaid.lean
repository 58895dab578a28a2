/-
  WHAT THE ROW's PREMISES GIVE: the cell of MaxStringLen out of 'laid'; a slice of bytes that came in, as a 'View'.
-/
import Derived.Test.YoebuwDoorRows
import Derived.Test.YoebuwDoorMem
import Derived.ProofKit
import Derived.Lay
import Derived.LaidMore
import Derived.OpenShut
import Derived.OpenVars
import Derived.Stop.Joined
namespace Go.Proofs.YoebuwDoor
open Go.ChangeShapes Go.WideShapes Go.ChangeAt Go.WideMaps Go.WideElems Go.RowKit

theorem own : ownKnob Ebug.prog.godebug = none := by kernel_rfl
theorem laidOut : laidOutB Ebug.prog = true := by kernel_rfl
theorem cells5 : Ebug.prog.cellsOf 5 = 1 := by kernel_rfl
theorem cells3 : Ebug.prog.cellsOf 3 = 1 := by kernel_rfl

/-- The list of the four rows (one and the same). -/
def laidL : List (String × DataW Unit) := Rows.fnFmtbufWriteAppendsExactlyRow.laid
/-- The two names that the specifications bear, in their order: MaxStringLen, ErrStringLimit. -/
def names : List String := Rows.fnFmtbufWriteAppendsExactlySpec.vars
def nMax : String := names.getD 0 ""

theorem gMax : Ebug.prog.globalNamed nMax = some 0 := by kernel_rfl
theorem tMax : (Ebug.prog.globals[0]?).map (·.type) = some 3 := by kernel_rfl
theorem rowed : varsRowed Ebug.prog names = true := by kernel_rfl

/-- What the condition gives the walks. -/
theorem of_laid {W : World} (h : laidMetH Ebug.prog laidL W) : W.cell? ⟨0, 0, none⟩ = some (.int .i64 2147483647) := by
  rw [MakeChecks.laidMetH_plain _ _ _ (by kernel_rfl)] at h
  obtain ⟨ps, ⟨g0, t0, cs0, f0, p0, q0, hg0, ht0, hv0, hd0, ⟨g1, t1, cs1, f1, p1, q1, hg1, ht1, hv1, hd1, _, _⟩, _⟩, _, _⟩ := h
  obtain rfl := Option.some.inj (gMax.symm.trans hg1)
  obtain rfl := Option.some.inj (tMax.symm.trans ht1)
  obtain ⟨k, e1, e2, _⟩ := DataW.trod_int Ebug.underlying3 hd1
  have hk : k = 2147483647 := by
    simp only [Rows.laid_github_com_d5_tengo_v2_MaxStringLen, Prod.mk.injEq, DataW.lit.injEq, Lit.int.injEq] at e2
    exact e2.1.2.symm
  have hc := World.var?_cell hg1 hv1 0
  rw [Array.eq_one_of_toList e1, hk] at hc
  simpa using hc

set_option maxRecDepth 100000 in
/-- A slice of bytes that came in. -/
theorem view_of {H : Type} {enc : TypeId × Value → H} {W : World} {r : Reach} {base : Nat} {v : Value} {d : DataW H} {p : List MemPlace} (hval : Value.okWide Ebug.prog W r base 22 v) (h : DataW.Trod enc Ebug.prog W 0 (fun _ => true) true 22 v d p) :
    ∃ ao n cap zs, v = .slice ao n cap ∧ View W W.heap.size ao n zs := by
  obtain ⟨a0, len, cap, rfl⟩ := okWide_slice Ebug.underlying22 hval
  obtain ⟨fuel, hf⟩ := h
  rcases open_ints Ebug.underlying22 Ebug.underlying5 cells5 hf with ⟨hcs, _⟩ | ⟨a, len', cap', zs, hcs, _, hl, hm, hz, hx, hcell, hwz⟩
  · simp [Value.cells] at hcs
    obtain ⟨rfl, rfl, rfl⟩ := hcs
    exact ⟨none, 0, 0, [], rfl, View.empty _ _ _⟩
  · simp [Value.cells] at hcs
    obtain ⟨rfl, rfl, rfl⟩ := hcs
    simp only [if_true] at hz
    refine ⟨some a, len, cap, zs.take len, rfl, by rw [List.length_take]; omega, fun k hk => ?_⟩
    obtain ⟨b, off, spot⟩ := a
    have h0 := hcell 0 (by omega)
    have hspot : spot = none := by simpa [Addr.add] using World.cell?_spot h0
    subst hspot
    refine ⟨b, off, rfl, World.block_lt_of_cell? _ _ (by rw [add_plain] at h0; exact h0), fun j hj => ?_⟩
    have := hcell j (by omega)
    rw [add_plain] at this
    rw [this]
    simp [List.getD_eq_getElem?_getD, hj]
end Go.Proofs.YoebuwDoor
