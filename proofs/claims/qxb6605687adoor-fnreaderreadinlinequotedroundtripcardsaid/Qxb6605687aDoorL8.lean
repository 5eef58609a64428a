/- The card of the law on quoted words. -/
import Derived.Test.Qxb6605687aDoorA8
import Derived.Test.Qxb6605687aDoorK8
import Derived.ChangeMaps5
import Derived.Test.Qxb6605687aDoorCards
namespace Go.Proofs.Qxb6605687aDoor
open Go.ChangeShapes Go.WideShapes Go.RowKit Go.Deep
set_option maxRecDepth 100000
set_option maxHeartbeats 800000
set_option linter.unusedVariables false

theorem lifted8 (os : Os) (started : os.Started) (H : Type) (enc : TypeId × Value → H) :
    ReturnsInHanded {} Tryd.checked os 8 .any (fun w args => (Rows.fnReaderReadInlineQuotedRoundTripSpec.pre enc Tryd.prog Tryd.f8 [] false w args ∧ laidMetH Tryd.prog L5 w) ∧ sizedMet enc Tryd.prog Tryd.f8 (OpenSpec.ofChange Rows.fnReaderReadInlineQuotedRoundTripSpec) false w args)
      (Rows.fnReaderReadInlineQuotedRoundTripSpec.post enc Tryd.prog Tryd.f8 false true false false) := by
  refine returnsInHanded_of_change_and (C := Tryd.checked) (X := fun w _ => laidMetH Tryd.prog L5 w) (fun _ _ _ hh h => h.of_heap hh) own started (by kernel_rfl) Tryd.func8
    (ChangeSpec.witness_shaped (enc := enc) (C := Tryd.checked) (os := os) (X := fun w _ => laidMetH Tryd.prog L5 w) false (laidWorld os) #[.slice none 0 0] 8 rfl (wit_shaped os _) (by kernel_rfl) (by kernel_rfl) (by kernel_rfl) (laidWorld_met os _)) ?_
  intro W base args ds gs before hval0 hW _ _ hL _
  have hval : ∀ (j : Nat) t v, Tryd.f8.params[j]? = some t → args[j]? = some v → Value.okWide Tryd.prog W .any base t v := hval0
  have hW' := hW
  obtain ⟨p, q, hA0, hV0, rfl, hfz, hnd⟩ := hW
  have hA : DataW.TrodAll enc Tryd.prog W 0 (fun _ => true) true Tryd.f8.params.toList args.toList ds p := hA0
  have hV : DataW.TrodVars enc Tryd.prog W (fun _ => true) [] gs q := hV0
  rw [Tryd.params8] at hA hval
  obtain ⟨v0, d0, rfl, rfl, h0⟩ := trodAll_one hA
  obtain ⟨pa, cp, S, rfl, hSL, hSn, hnil, hback⟩ := open51 (hval 0 51 v0 rfl rfl) h0
  obtain ⟨rfl, rfl⟩ := trodVars_none hV
  obtain ⟨a1, a3, a4, G⟩ := gl_of_laid hL
  have e1 : Rows.fnReaderReadInlineQuotedRoundTripSpec.fn H ([d0] ++ []) = { results := [.lit (.bool true)], args := [d0] } := by simp [Rows.fnReaderReadInlineQuotedRoundTripSpec]
  refine (law8 pa cp S W hSL hSn hnil G).mono fun e W' ⟨he, hb⟩ => ?_
  subst he
  refine ⟨_, rfl, _, _, _, [], p, [], hW', ?_, ?_, ?_, ?_, fun h => by cases h⟩
  · rw [e1]; exact trodAll_mk1 (shut_bool Tryd.underlying4 true)
  · rw [e1]; exact trodAll_mk1 (hback W' hb)
  · rw [e1]; rfl
  · exact hb.frame _

theorem row8_holds : Rows.FnReaderReadInlineQuotedRoundTripSaid :=
  OpenClaim.holds_of_wide 8 Tryd.f8 rfl rfl rfl rfl rfl rfl rfl ⟨rfl, rfl, rfl, rfl, rfl⟩ rfl rfl rfl rfl rfl (by kernel_rfl) Tryd.func8 (by kernel_rfl)
    (of_decide_eq_true (by kernel_rfl)) (by unfold Func.isWrapper; rw [if_neg (of_decide_eq_false (by kernel_rfl))]; exact ⟨rfl, rfl⟩)
    (fun os started H enc _ => lifted8 os started H enc)

theorem fnReaderReadInlineQuotedRoundTrip_proved : Rows.FnReaderReadInlineQuotedRoundTripCardSaid :=
  Claim7.holds_tied_plain_at .later [] [.sentinel, .sentinel, .sentinel, .sentinel, .sentinel] true (true, "c0f85b9cb035df9a89d606028140660756414f550cae8dfd4adea2319ca90405") true
    row8_holds (fun _ h => by cases h) (by kernel_rfl) (fun _ h => by cases h) fnReaderReadInlineQuotedRoundTrip_row_tie rfl ⟨rfl, rfl⟩ (by kernel_rfl) rfl
    (fun f fn hf hfn => by
      obtain rfl : f = 8 := Option.some.inj ((show Tryd.prog.funcNamed "example.com/hopscore/hopscore/zzlaws_pkg_resp_b1.FnReaderReadInlineQuotedRoundTrip" = some 8 by kernel_rfl).symm.trans hf) |>.symm
      obtain rfl : fn = Tryd.f8 := (Option.some.inj (Tryd.func8.symm.trans hfn)).symm
      exact ⟨by kernel_rfl, fun j t ht => by
        rw [Tryd.params8] at ht
        rcases j with _ | j
        · obtain rfl : t = 51 := by simpa using ht.symm
          exact (show Tryd.prog.wantsStandIn 51 = false by kernel_rfl)
        · simp at ht⟩)
    (by kernel_rfl)
end Go.Proofs.Qxb6605687aDoor
