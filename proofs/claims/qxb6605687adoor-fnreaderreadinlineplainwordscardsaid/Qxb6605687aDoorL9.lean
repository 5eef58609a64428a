/- The card of the law on plain words. -/
import Derived.Test.Qxb6605687aDoorA9
import Derived.Test.Qxb6605687aDoorK8
import Derived.ChangeMaps5
import Derived.Test.Qxb6605687aDoorCards
namespace Go.Proofs.Qxb6605687aDoor
open Go.ChangeShapes Go.WideShapes Go.RowKit Go.Deep
set_option maxRecDepth 100000
set_option maxHeartbeats 800000
set_option linter.unusedVariables false

theorem lifted9 (os : Os) (started : os.Started) (H : Type) (enc : TypeId × Value → H) :
    ReturnsInHanded {} Tryd.checked os 9 .any (fun w args => (Rows.fnReaderReadInlinePlainWordsSpec.pre enc Tryd.prog Tryd.f9 [] false w args ∧ laidMetH Tryd.prog L5 w) ∧ sizedMet enc Tryd.prog Tryd.f9 (OpenSpec.ofChange Rows.fnReaderReadInlinePlainWordsSpec) false w args)
      (Rows.fnReaderReadInlinePlainWordsSpec.post enc Tryd.prog Tryd.f9 false true false false) := by
  refine returnsInHanded_of_change_and (C := Tryd.checked) (X := fun w _ => laidMetH Tryd.prog L5 w) (fun _ _ _ hh h => h.of_heap hh) own started (by kernel_rfl) Tryd.func9
    (ChangeSpec.witness_shaped (enc := enc) (C := Tryd.checked) (os := os) (X := fun w _ => laidMetH Tryd.prog L5 w) false (laidWorld os) #[.slice none 0 0, .bool false, .bool false] 8 rfl (wit_shaped os _) (by kernel_rfl) (by kernel_rfl) (by kernel_rfl) (laidWorld_met os _)) ?_
  intro W base args ds gs before hval0 hW _ _ hL _
  have hval : ∀ (j : Nat) t v, Tryd.f9.params[j]? = some t → args[j]? = some v → Value.okWide Tryd.prog W .any base t v := hval0
  have hW' := hW
  obtain ⟨p, q, hA0, hV0, rfl, hfz, hnd⟩ := hW
  have hA : DataW.TrodAll enc Tryd.prog W 0 (fun _ => true) true Tryd.f9.params.toList args.toList ds p := hA0
  have hV : DataW.TrodVars enc Tryd.prog W (fun _ => true) [] gs q := hV0
  rw [Tryd.params9] at hA hval
  obtain ⟨v0, v1, v2, d0, d1, d2, p0, p1, p2, rfl, rfl, rfl, h0, h1, h2⟩ := trodAll_three hA
  obtain ⟨pa, cp, S, rfl, hSL, hSn, hnil, hback⟩ := open51 (hval 0 51 v0 rfl rfl) h0
  obtain ⟨b1, rfl, rfl, rfl⟩ := open_bool Tryd.underlying4 (hval 1 4 v1 rfl rfl) h1
  obtain ⟨b2, rfl, rfl, rfl⟩ := open_bool Tryd.underlying4 (hval 2 4 v2 rfl rfl) h2
  obtain ⟨rfl, rfl⟩ := trodVars_none hV
  obtain ⟨a1, a3, a4, G⟩ := gl_of_laid hL
  have e1 : Rows.fnReaderReadInlinePlainWordsSpec.fn H ([d0, .lit (.bool b1), .lit (.bool b2)] ++ []) = { results := [.lit (.bool true)], args := [d0, .lit (.bool b1), .lit (.bool b2)] } := by simp [Rows.fnReaderReadInlinePlainWordsSpec]
  refine (law9 pa cp S b1 b2 W hSL hSn hnil G).mono fun e W' ⟨he, hb⟩ => ?_
  subst he
  refine ⟨_, rfl, _, _, _, [], p0 ++ ([] ++ []), [], hW', ?_, ?_, ?_, ?_, fun h => by cases h⟩
  · rw [e1]; exact trodAll_mk1 (shut_bool Tryd.underlying4 true)
  · rw [e1]; exact trodAll_mk3 (hback W' hb) (shut_bool Tryd.underlying4 b1) (shut_bool Tryd.underlying4 b2)
  · rw [e1]; rfl
  · exact hb.frame _

theorem row9_holds : Rows.FnReaderReadInlinePlainWordsSaid :=
  OpenClaim.holds_of_wide 9 Tryd.f9 rfl rfl rfl rfl rfl rfl rfl ⟨rfl, rfl, rfl, rfl, rfl⟩ rfl rfl rfl rfl rfl (by kernel_rfl) Tryd.func9 (by kernel_rfl)
    (of_decide_eq_true (by kernel_rfl)) (by unfold Func.isWrapper; rw [if_neg (of_decide_eq_false (by kernel_rfl))]; exact ⟨rfl, rfl⟩)
    (fun os started H enc _ => lifted9 os started H enc)

theorem fnReaderReadInlinePlainWords_proved : Rows.FnReaderReadInlinePlainWordsCardSaid :=
  Claim7.holds_tied_plain_at .later [] [.sentinel, .sentinel, .sentinel, .sentinel, .sentinel] true (true, "c0f85b9cb035df9a89d606028140660756414f550cae8dfd4adea2319ca90405") true
    row9_holds (fun _ h => by cases h) (by kernel_rfl) (fun _ h => by cases h) fnReaderReadInlinePlainWords_row_tie rfl ⟨rfl, rfl⟩ (by kernel_rfl) rfl
    (fun f fn hf hfn => by
      obtain rfl : f = 9 := Option.some.inj ((show Tryd.prog.funcNamed "example.com/hopscore/hopscore/zzlaws_pkg_resp_b1.FnReaderReadInlinePlainWords" = some 9 by kernel_rfl).symm.trans hf) |>.symm
      obtain rfl : fn = Tryd.f9 := (Option.some.inj (Tryd.func9.symm.trans hfn)).symm
      exact ⟨by kernel_rfl, fun j t ht => by
        rw [Tryd.params9] at ht
        rcases j with _ | _ | _ | j
        · obtain rfl : t = 51 := by simpa using ht.symm
          exact (show Tryd.prog.wantsStandIn 51 = false by kernel_rfl)
        · obtain rfl : t = 4 := by simpa using ht.symm
          exact (show Tryd.prog.wantsStandIn 4 = false by kernel_rfl)
        · obtain rfl : t = 4 := by simpa using ht.symm
          exact (show Tryd.prog.wantsStandIn 4 = false by kernel_rfl)
        · simp at ht⟩)
    (by kernel_rfl)
end Go.Proofs.Qxb6605687aDoor
