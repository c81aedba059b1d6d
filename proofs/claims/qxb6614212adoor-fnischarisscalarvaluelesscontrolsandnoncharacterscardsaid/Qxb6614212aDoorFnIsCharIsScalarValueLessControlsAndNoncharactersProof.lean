/-
  'Rows.FnIsCharIsScalarValueLessControlsAndNoncharactersCardSaid', proved: the row (the law returns true for every rune; the three listed variables and the argument read as before), then the tied card by the builder's one call.
-/
import Derived.Test.Qxb6614212aDoorLaw
import Derived.Test.Qxb6614212aDoorOpen
import Derived.Test.Qxb6614212aDoorTie
import Derived.Test.Qxb6614212aDoorCards
import Derived.SevenTiedAt
namespace Go.Proofs.Qxb6614212aDoor
open Go.ChangeShapes Go.WideShapes Go.ChangeAt Go.RowKit

set_option maxRecDepth 100000 in
theorem lifted (os : Os) (started : os.Started) (H : Type) (enc : TypeId × Value → H) :
    ReturnsInHanded {} Tryd.checked os 3 .any (fun w args => (Rows.fnIsCharIsScalarValueLessControlsAndNoncharactersSpec.pre enc Tryd.prog Tryd.f3 [] false w args ∧ laidMetH Tryd.prog Rows.fnIsCharIsScalarValueLessControlsAndNoncharactersRow.laid w) ∧ sizedMet enc Tryd.prog Tryd.f3 (OpenSpec.ofChange Rows.fnIsCharIsScalarValueLessControlsAndNoncharactersSpec) false w args)
      (Rows.fnIsCharIsScalarValueLessControlsAndNoncharactersSpec.post enc Tryd.prog Tryd.f3 false true false false) := by
  refine returnsInHanded_of_change_and (C := Tryd.checked) (X := fun w _ => laidMetH Tryd.prog Rows.fnIsCharIsScalarValueLessControlsAndNoncharactersRow.laid w) (fun _ _ _ hh h => h.of_heap hh) own started (by kernel_rfl) Tryd.func3
    (ChangeSpec.witness_shaped (enc := enc) (C := Tryd.checked) (os := os) (X := fun w _ => laidMetH Tryd.prog Rows.fnIsCharIsScalarValueLessControlsAndNoncharactersRow.laid w) false (World.doorLaid Tryd.prog 42 os) #[.int .i32 0] 8 rfl (World.shaped_of_RefB (by kernel_rfl) (by kernel_rfl)) (by kernel_rfl) (by kernel_rfl) (by kernel_rfl) (door_met os _)) ?_
  intro W base args ds gs before hval0 hW _ _ hL _
  have hval : ∀ (j : Nat) t v, Tryd.f3.params[j]? = some t → args[j]? = some v → Value.okWide Tryd.prog W .any base t v := hval0
  have hW' := hW
  obtain ⟨p, q, hA0, hV0, rfl, hfz, hnd⟩ := hW
  have hA : DataW.TrodAll enc Tryd.prog W 0 (fun _ => true) true Tryd.f3.params.toList args.toList ds p := hA0
  have hV : DataW.TrodVars enc Tryd.prog W (fun _ => true) Rows.fnIsCharIsScalarValueLessControlsAndNoncharactersSpec.vars gs q := hV0
  rw [Tryd.params3] at hA hval
  obtain ⟨v0, d0, rfl, rfl, h0⟩ := trodAll_one hA
  obtain ⟨a0, rfl, rfl, rfl, w0⟩ := open_int Tryd.underlying21 (hval 0 21 v0 rfl rfl) h0
  obtain ⟨g1, g2, g3, rfl⟩ : ∃ g1 g2 g3, gs = [g1, g2, g3] := by
    rcases gs with _ | ⟨g1, _ | ⟨g2, _ | ⟨g3, _ | ⟨g4, gs⟩⟩⟩⟩
    · exact hV.elim
    · obtain ⟨_, _, _, _, _, _, _, _, _, _, hs, _⟩ := hV
      exact hs.elim
    · obtain ⟨_, _, _, _, _, _, _, _, _, _, ⟨_, _, _, _, _, _, _, _, _, _, hs, _⟩, _⟩ := hV
      exact hs.elim
    · exact ⟨g1, g2, g3, rfl⟩
    · obtain ⟨_, _, _, _, _, _, _, _, _, _, ⟨_, _, _, _, _, _, _, _, _, _, ⟨_, _, _, _, _, _, _, _, _, _, hs, _⟩, _⟩, _⟩ := hV
      exact hs.elim
  have hT := of_laid hL
  clear hA0 hval0
  refine (law_any a0 W hT).mono fun e W' ⟨he, bel⟩ => ?_
  subst he
  have hV2 := Below.trodVars laidOut bel (by kernel_rfl) hV
  exact ⟨_, rfl, _, _, _, [], _, q, hW', trodAll_mk1 (shut_bool Tryd.underlying4 _), trodAll_mk1 (shut_int Tryd.underlying21 w0), hV2, bel.frame _, fun h => by cases h⟩

theorem row_holds : Rows.FnIsCharIsScalarValueLessControlsAndNoncharactersSaid :=
  OpenClaim.holds_of_wide 3 Tryd.f3 rfl rfl rfl rfl rfl rfl rfl ⟨rfl, rfl, rfl, rfl, rfl⟩ rfl rfl rfl rfl rfl (by kernel_rfl) Tryd.func3 (by kernel_rfl)
    (of_decide_eq_true (by kernel_rfl)) (by unfold Func.isWrapper; first | (rw [if_pos (by decide +kernel)]; kernel_rfl) | (rw [if_neg (by decide +kernel)]; exact ⟨rfl, rfl⟩))
    (fun os started H enc _ => lifted os started H enc)

/-- THE STATEMENT: the tied card -/
theorem card_proved : Rows.FnIsCharIsScalarValueLessControlsAndNoncharactersCardSaid :=
  Claim7.holds_tied_plain_at .later [] [.widerDeep, .widerDeep, .widerDeep] true (true, "6c54f096cb1ddd5e1483c1f2d42a00e3c2b904628278abc3f952ddf0e9bc513c") false
    row_holds (fun _ h => by cases h) (by kernel_rfl) (fun _ h => by cases h) fnIsCharIsScalarValueLessControlsAndNoncharacters_row_tie rfl ⟨rfl, rfl⟩ (by kernel_rfl) rfl
    (fun f fn hf hfn => by
      obtain rfl : f = 3 := Option.some.inj ((show Tryd.prog.funcNamed Rows.fnIsCharIsScalarValueLessControlsAndNoncharactersRow.func = some 3 by kernel_rfl).symm.trans hf) |>.symm
      obtain rfl : fn = Tryd.f3 := (Option.some.inj (Tryd.func3.symm.trans hfn)).symm
      exact ⟨by kernel_rfl, fun j t ht => by
        rw [Tryd.params3] at ht
        have hm : t ∈ [21] := by simpa using Array.mem_of_getElem? ht
        have hall : ([21].all fun u => !Tryd.prog.wantsStandIn u) = true := by kernel_rfl
        exact (show Tryd.prog.wantsStandIn t = false by simpa using List.all_eq_true.1 hall t hm)⟩)
    (by kernel_rfl)
#print axioms card_proved
end Go.Proofs.Qxb6614212aDoor
