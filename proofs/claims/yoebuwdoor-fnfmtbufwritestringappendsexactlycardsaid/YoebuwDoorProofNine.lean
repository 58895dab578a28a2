/-
  FnFmtbufWriteStringAppendsExactly: THE ROW, AND THE TIED CARD.
-/
import Derived.Test.YoebuwDoorLawNine
import Derived.Test.YoebuwDoorStartNine
import Derived.Test.YoebuwDoorFacts
import Derived.Test.YoebuwDoorCards
import Derived.Test.YoebuwDoorTie
namespace Go.Proofs.YoebuwDoor.Nine
open Go.ChangeShapes Go.WideShapes Go.ChangeAt Go.WideMaps Go.WideElems Go.RowKit
open Go.ChangeMaps (open_string shut_string)

/-- Both ways through the law. -/
theorem law (ao : Option Addr) (n ca : Nat) (xs : List Int) (s : ByteArray) (w : World) (hv : View w w.heap.size ao n xs)
    (hmax : w.cell? ⟨0, 0, none⟩ = some (.int .i64 2147483647)) :
    Calls Ebug.prog 9 #[.slice ao n ca, .string s] w fun e w' => e = .returned (.bool true) ∧ Below w.heap.size w w' := by
  by_cases h : 524288 < n ∨ 524288 < s.size
  · exact (law9_out ao n ca s w h).mono fun e w' hh => ⟨hh.1, by rw [hh.2]; exact Below.refl _ _⟩
  · exact law9_in ao n ca xs s w hv hmax (by omega) (by omega)

set_option maxHeartbeats 1000000 in
set_option maxRecDepth 100000 in
theorem lifted (os : Os) (started : os.Started) (H : Type) (enc : TypeId × Value → H) :
    ReturnsInHanded {} Ebug.checked os 9 .any (fun w args => (Rows.fnFmtbufWriteStringAppendsExactlySpec.pre enc Ebug.prog Ebug.f9 [] false w args ∧ laidMetH Ebug.prog laidL w) ∧ sizedMet enc Ebug.prog Ebug.f9 (OpenSpec.ofChange Rows.fnFmtbufWriteStringAppendsExactlySpec) false w args)
      (Rows.fnFmtbufWriteStringAppendsExactlySpec.post enc Ebug.prog Ebug.f9 false true false false) := by
  refine returnsInHanded_of_change_and (C := Ebug.checked) (X := fun w _ => laidMetH Ebug.prog laidL w) (fun _ _ _ hh h => h.of_heap hh) own started (by kernel_rfl) Ebug.func9
    (ChangeSpec.witness_shaped (enc := enc) (C := Ebug.checked) (os := os) (X := fun w _ => laidMetH Ebug.prog laidL w) false (World.laidAll Ebug.prog os laidL) #[.slice none 0 0, .string ⟨#[]⟩] 8 (World.laidAll_os _ _ _) (start_shaped os _) (start_ok os) (start_pre os H enc) (start_sized os H enc) (start_met os _)) ?_
  intro W base args ds gs before hval0 hW _ _ hL _
  have hval : ∀ (j : Nat) t v, Ebug.f9.params[j]? = some t → args[j]? = some v → Value.okWide Ebug.prog W .any base t v := hval0
  have hW' := hW
  obtain ⟨p, q, hA0, hV0, rfl, hfz, hnd⟩ := hW
  have hA : DataW.TrodAll enc Ebug.prog W 0 (fun _ => true) true Ebug.f9.params.toList args.toList ds p := hA0
  have hV : DataW.TrodVars enc Ebug.prog W (fun _ => true) names gs q := hV0
  rw [Ebug.params9] at hA hval
  obtain ⟨v0, v1, d0, d1, p0, p1, rfl, rfl, rfl, h0, h1⟩ := trodAll_two hA
  obtain ⟨ao, n, ca, xs, rfl, hv⟩ := view_of (hval 0 22 v0 rfl rfl) h0
  obtain ⟨s, rfl, rfl, rfl, hs⟩ := open_string Ebug.underlying9 (hval 1 9 v1 rfl rfl) h1
  obtain ⟨g1, g2, rfl⟩ : ∃ g1 g2, gs = [g1, g2] := by
    match gs, hV with
    | [g1, g2], _ => exact ⟨g1, g2, rfl⟩
    | [], h => exact h.elim
    | [_], ⟨_, _, _, _, _, _, _, _, _, _, h, _⟩ => exact h.elim
    | _ :: _ :: _ :: _, ⟨_, _, _, _, _, _, _, _, _, _, ⟨_, _, _, _, _, _, _, _, _, _, h, _⟩, _⟩ => exact h.elim
  have hlt0 : ∀ x ∈ p0, x.block < W.heap.size := fun x hx => hW'.lt x (by simp [hx])
  refine (law ao n ca xs s W hv (of_laid hL)).mono fun e W' ⟨he, hb⟩ => ?_
  subst he
  refine ⟨_, rfl, _, _, _, [], p0 ++ [], q, hW', ?_, ?_, ?_, hb.frame _, fun h => by cases h⟩
  · exact trodAll_mk1 (shut_bool Ebug.underlying4 true)
  · exact trodAll_mk2 (Below.trod laidOut (by kernel_rfl) (of_decide_eq_true (by kernel_rfl)) h0 hb hlt0) (shut_string Ebug.underlying9 hs)
  · exact Below.trodVars laidOut hb rowed hV

set_option maxRecDepth 100000 in
theorem facts : joinedFacts Ebug.pinned.checked.prog 9 Ebug.f9 Rows.fnFmtbufWriteStringAppendsExactlySpec Rows.fnFmtbufWriteStringAppendsExactlyRow = true := by
  unfold joinedFacts
  rw [show laidOutB Ebug.pinned.checked.prog = true from laidOut, progEnter, progLifts, progMake]
  kernel_rfl

theorem row_holds : Rows.FnFmtbufWriteStringAppendsExactlySaid :=
  OpenClaim.holds_of_wide 9 Ebug.f9 rfl rfl rfl rfl rfl rfl rfl ⟨rfl, rfl, rfl, rfl, rfl⟩ rfl rfl rfl rfl rfl (by kernel_rfl) Ebug.func9 facts
    (of_decide_eq_true (by kernel_rfl)) (by unfold Func.isWrapper; first | (rw [if_pos (by decide +kernel)]; kernel_rfl) | (rw [if_neg (by decide +kernel)]; exact ⟨rfl, rfl⟩))
    (fun os started H enc _ => lifted os started H enc)
theorem card_holds : Rows.FnFmtbufWriteStringAppendsExactlyCardSaid :=
  Claim7.holds_tied_plain_at .later [] [.called, .data] true (true, "954133a93fadf6e7d9391e5f03545820224087c2a4785690b8af082875cf7d6e") false
    row_holds (fun _ h => by cases h) (by kernel_rfl) (fun _ h => by cases h) fnFmtbufWriteStringAppendsExactly_row_tie rfl ⟨rfl, rfl⟩ progMain rfl
    (fun f fn hf hfn => by
      obtain rfl : f = 9 := Option.some.inj ((show Ebug.prog.funcNamed Rows.fnFmtbufWriteStringAppendsExactlyRow.func = some 9 by kernel_rfl).symm.trans hf) |>.symm
      obtain rfl : fn = Ebug.f9 := (Option.some.inj (Ebug.func9.symm.trans hfn)).symm
      exact ⟨progLooks, fun j t ht => by
        rw [Ebug.params9] at ht
        have hm : t ∈ [22, 9] := by simpa using Array.mem_of_getElem? ht
        have hall : ([22, 9].all fun u => !Ebug.prog.wantsStandIn u) = true := by kernel_rfl
        exact (show Ebug.prog.wantsStandIn t = false by simpa using List.all_eq_true.1 hall t hm)⟩)
    (by kernel_rfl)
end Go.Proofs.YoebuwDoor.Nine

namespace Go.Proofs.YoebuwDoor
/-- THE STATEMENT. -/
theorem fnFmtbufWriteStringAppendsExactly_proved : Rows.FnFmtbufWriteStringAppendsExactlyCardSaid := Nine.card_holds
end Go.Proofs.YoebuwDoor
