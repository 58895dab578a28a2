/-
  FnFmtbufWriteStringScriptAgreesWithWrite: THE ROW, AND THE TIED CARD.
-/
import Derived.Test.YoebuwDoorLawTen
import Derived.Test.YoebuwDoorStartTen
import Derived.Test.YoebuwDoorFacts
import Derived.Test.YoebuwDoorCards
import Derived.Test.YoebuwDoorTie
namespace Go.Proofs.YoebuwDoor.Ten
open Go.ChangeShapes Go.WideShapes Go.ChangeAt Go.WideMaps Go.WideElems Go.RowKit
open Go.ChangeMaps (open_string shut_string)

/-- Both ways through the law. -/
theorem law (ao : Option Addr) (n ca : Nat) (xs : List Int) (s t : ByteArray) (w : World) (hv : View w w.heap.size ao n xs)
    (hmax : w.cell? ⟨0, 0, none⟩ = some (.int .i64 2147483647)) :
    Calls Ebug.prog 10 #[.slice ao n ca, .string s, .string t] w fun e w' => e = .returned (.bool true) ∧ Below w.heap.size w w' := by
  by_cases h : 262144 < n ∨ 262144 < s.size ∨ 262144 < t.size
  · exact (law10_out ao n ca s t w h).mono fun e w' hh => ⟨hh.1, by rw [hh.2]; exact Below.refl _ _⟩
  · exact law10_in ao n ca xs s t w _ _ (hid rfl) (hid rfl) hv hmax (by omega) (by omega) (by omega)

set_option maxHeartbeats 1000000 in
set_option maxRecDepth 100000 in
theorem lifted (os : Os) (started : os.Started) (H : Type) (enc : TypeId × Value → H) :
    ReturnsInHanded {} Ebug.checked os 10 .any (fun w args => (Rows.fnFmtbufWriteStringScriptAgreesWithWriteSpec.pre enc Ebug.prog Ebug.f10 [] false w args ∧ laidMetH Ebug.prog laidL w) ∧ sizedMet enc Ebug.prog Ebug.f10 (OpenSpec.ofChange Rows.fnFmtbufWriteStringScriptAgreesWithWriteSpec) false w args)
      (Rows.fnFmtbufWriteStringScriptAgreesWithWriteSpec.post enc Ebug.prog Ebug.f10 false true false false) := by
  refine returnsInHanded_of_change_and (C := Ebug.checked) (X := fun w _ => laidMetH Ebug.prog laidL w) (fun _ _ _ hh h => h.of_heap hh) own started (by kernel_rfl) Ebug.func10
    (ChangeSpec.witness_shaped (enc := enc) (C := Ebug.checked) (os := os) (X := fun w _ => laidMetH Ebug.prog laidL w) false (World.laidAll Ebug.prog os laidL) #[.slice none 0 0, .string ⟨#[]⟩, .string ⟨#[]⟩] 8 (World.laidAll_os _ _ _) (start_shaped os _) (start_ok os) (start_pre os H enc) (start_sized os H enc) (start_met os _)) ?_
  intro W base args ds gs before hval0 hW _ _ hL _
  have hval : ∀ (j : Nat) t v, Ebug.f10.params[j]? = some t → args[j]? = some v → Value.okWide Ebug.prog W .any base t v := hval0
  have hW' := hW
  obtain ⟨p, q, hA0, hV0, rfl, hfz, hnd⟩ := hW
  have hA : DataW.TrodAll enc Ebug.prog W 0 (fun _ => true) true Ebug.f10.params.toList args.toList ds p := hA0
  have hV : DataW.TrodVars enc Ebug.prog W (fun _ => true) names gs q := hV0
  rw [Ebug.params10] at hA hval
  obtain ⟨v0, v1, v2, d0, d1, d2, p0, p1, p2, rfl, rfl, rfl, h0, h1, h2⟩ := trodAll_three hA
  obtain ⟨ao, n, ca, xs, rfl, hv⟩ := view_of (hval 0 22 v0 rfl rfl) h0
  obtain ⟨s, rfl, rfl, rfl, hs⟩ := open_string Ebug.underlying9 (hval 1 9 v1 rfl rfl) h1
  obtain ⟨t, rfl, rfl, rfl, ht⟩ := open_string Ebug.underlying9 (hval 2 9 v2 rfl rfl) h2
  obtain ⟨g1, g2, rfl⟩ : ∃ g1 g2, gs = [g1, g2] := by
    match gs, hV with
    | [g1, g2], _ => exact ⟨g1, g2, rfl⟩
    | [], h => exact h.elim
    | [_], ⟨_, _, _, _, _, _, _, _, _, _, h, _⟩ => exact h.elim
    | _ :: _ :: _ :: _, ⟨_, _, _, _, _, _, _, _, _, _, ⟨_, _, _, _, _, _, _, _, _, _, h, _⟩, _⟩ => exact h.elim
  have hlt0 : ∀ x ∈ p0, x.block < W.heap.size := fun x hx => hW'.lt x (by simp [hx])
  refine (law ao n ca xs s t W hv (of_laid hL)).mono fun e W' ⟨he, hb⟩ => ?_
  subst he
  refine ⟨_, rfl, _, _, _, [], p0 ++ ([] ++ []), q, hW', ?_, ?_, ?_, hb.frame _, fun h => by cases h⟩
  · exact trodAll_mk1 (shut_bool Ebug.underlying4 true)
  · exact trodAll_mk3 (Below.trod laidOut (by kernel_rfl) (of_decide_eq_true (by kernel_rfl)) h0 hb hlt0) (shut_string Ebug.underlying9 hs) (shut_string Ebug.underlying9 ht)
  · exact Below.trodVars laidOut hb rowed hV

set_option maxRecDepth 100000 in
theorem facts : joinedFacts Ebug.pinned.checked.prog 10 Ebug.f10 Rows.fnFmtbufWriteStringScriptAgreesWithWriteSpec Rows.fnFmtbufWriteStringScriptAgreesWithWriteRow = true := by
  unfold joinedFacts
  rw [show laidOutB Ebug.pinned.checked.prog = true from laidOut, progEnter, progLifts, progMake]
  kernel_rfl

theorem row_holds : Rows.FnFmtbufWriteStringScriptAgreesWithWriteSaid :=
  OpenClaim.holds_of_wide 10 Ebug.f10 rfl rfl rfl rfl rfl rfl rfl ⟨rfl, rfl, rfl, rfl, rfl⟩ rfl rfl rfl rfl rfl (by kernel_rfl) Ebug.func10 facts
    (of_decide_eq_true (by kernel_rfl)) (by unfold Func.isWrapper; first | (rw [if_pos (by decide +kernel)]; kernel_rfl) | (rw [if_neg (by decide +kernel)]; exact ⟨rfl, rfl⟩))
    (fun os started H enc _ => lifted os started H enc)
theorem card_holds : Rows.FnFmtbufWriteStringScriptAgreesWithWriteCardSaid :=
  Claim7.holds_tied_plain_at .later [] [.called, .data] true (true, "954133a93fadf6e7d9391e5f03545820224087c2a4785690b8af082875cf7d6e") false
    row_holds (fun _ h => by cases h) (by kernel_rfl) (fun _ h => by cases h) fnFmtbufWriteStringScriptAgreesWithWrite_row_tie rfl ⟨rfl, rfl⟩ progMain rfl
    (fun f fn hf hfn => by
      obtain rfl : f = 10 := Option.some.inj ((show Ebug.prog.funcNamed Rows.fnFmtbufWriteStringScriptAgreesWithWriteRow.func = some 10 by kernel_rfl).symm.trans hf) |>.symm
      obtain rfl : fn = Ebug.f10 := (Option.some.inj (Ebug.func10.symm.trans hfn)).symm
      exact ⟨progLooks, fun j t ht => by
        rw [Ebug.params10] at ht
        have hm : t ∈ [22, 9, 9] := by simpa using Array.mem_of_getElem? ht
        have hall : ([22, 9, 9].all fun u => !Ebug.prog.wantsStandIn u) = true := by kernel_rfl
        exact (show Ebug.prog.wantsStandIn t = false by simpa using List.all_eq_true.1 hall t hm)⟩)
    (by kernel_rfl)
end Go.Proofs.YoebuwDoor.Ten

namespace Go.Proofs.YoebuwDoor
/-- THE STATEMENT. -/
theorem fnFmtbufWriteStringScriptAgreesWithWrite_proved : Rows.FnFmtbufWriteStringScriptAgreesWithWriteCardSaid := Ten.card_holds
end Go.Proofs.YoebuwDoor
