/-
  'laws.FnWrapped': for every input the law answers true, and each argument reads as it did: the row, and the card tied to the program's text.
  Conditions: the listed package-level variables hold what the program's text lays (the card ties them); nothing else.
-/
import Derived.Test.YthfncdfcklbigaaDoorCk
import Derived.Test.YthfncdfcklbigaaDoorFnWrappedP0
set_option linter.unusedVariables false
set_option linter.unusedSimpArgs false
namespace Go.Proofs.YthfncdfcklbigaaDoor
open Go.RowKit Go.ChangeShapes Go.WideShapes Go.ChangeAt Flate
set_option maxRecDepth 100000

theorem fnWrapped_lifted (os : Os) (started : os.Started) (H : Type) (enc : TypeId × Value → H) :
    ReturnsInHanded {} Tryd.checked os 7 .any (fun w args => (Rows.fnWrappedSpec.pre enc Tryd.prog Tryd.f7 [] false w args ∧ laidMetH Tryd.prog laidL w) ∧ sizedMet enc Tryd.prog Tryd.f7 (OpenSpec.ofChange Rows.fnWrappedSpec) false w args)
      (Rows.fnWrappedSpec.post enc Tryd.prog Tryd.f7 false true false false) := by
  refine returnsInHanded_of_change_and (C := Tryd.checked) (X := fun w _ => laidMetH Tryd.prog laidL w) (fun _ _ _ hh h => h.of_heap hh) own started (by kernel_rfl) Tryd.func7
    (ChangeSpec.witness_shaped (enc := enc) (C := Tryd.checked) (os := os) (X := fun w _ => laidMetH Tryd.prog laidL w) false (World.doorLaid Tryd.prog 400 os) #[.slice none 0 0] 8 rfl (door_shaped os _) (by kernel_rfl) (by kernel_rfl) (by kernel_rfl) (door_met os _)) ?_
  intro W base args ds gs before hval0 hW _ _ hL _
  have hval : ∀ (j : Nat) t v, Tryd.f7.params[j]? = some t → args[j]? = some v → Value.okWide Tryd.prog W .any base t v := hval0
  have hW' := hW
  obtain ⟨p, q, hA0, hV, rfl, hfz, hnd⟩ := hW
  have hA : DataW.TrodAll enc Tryd.prog W 0 (fun _ => true) true Tryd.f7.params.toList args.toList ds p := hA0
  rw [Tryd.params7] at hA hval
  obtain ⟨v0, d0, rfl, rfl, h0⟩ := trodAll_one hA
  obtain ⟨b0, l0, c0, rfl, hb0, hm0⟩ := open_bt (hval 0 22 v0 rfl rfl) h0
  obtain ⟨ps, hE⟩ := env_of_laid hL
  clear hA0 hval0
  refine (fnWrapped_any W _ ps hE b0 l0 c0 hb0).mono fun e W' ⟨he, hf⟩ => ?_
  subst he
  exact ⟨_, rfl, law_post laidOut Tryd.underlying4 hW' rfl (by kernel_rfl) (by kernel_rfl) rfl hf⟩

theorem fnWrapped_row : Rows.FnWrappedSaid :=
  OpenClaim.holds_of_wide 7 Tryd.f7 rfl rfl rfl rfl rfl rfl rfl ⟨rfl, rfl, rfl, rfl, rfl⟩ rfl rfl rfl rfl rfl (by kernel_rfl) Tryd.func7 (by kernel_rfl)
    (of_decide_eq_true (by kernel_rfl)) (by unfold Func.isWrapper; first | (rw [if_pos (by decide +kernel)]; kernel_rfl) | (rw [if_neg (by decide +kernel)]; exact ⟨rfl, rfl⟩))
    (fun os started H enc _ => fnWrapped_lifted os started H enc)

theorem fnWrapped_holds : Rows.FnWrappedCardSaid :=
  Claim7.holds_tied_plain_at .later [] [.sentinel, .sentinel, .sentinel, .data, .sentinel, .sentinel, .sentinel] true (true, "877d222962520bb22ea08d8722ed2517ac02be4621e3c6c2b7a2cc2d8b614eb2") true
    fnWrapped_row (fun _ h => by cases h) (by kernel_rfl) (fun _ h => by cases h) fnWrapped_row_tie rfl ⟨rfl, rfl⟩ (by kernel_rfl) rfl
    (fun f fn hf hfn => by
      obtain rfl : f = 7 := Option.some.inj ((show Tryd.prog.funcNamed "crowbar/laws.FnWrapped" = some 7 by kernel_rfl).symm.trans hf) |>.symm
      obtain rfl : fn = Tryd.f7 := (Option.some.inj (Tryd.func7.symm.trans hfn)).symm
      exact ⟨by kernel_rfl, fun j t ht => by
        rw [Tryd.params7] at ht
        have hm : t ∈ [22] := by simpa using Array.mem_of_getElem? ht
        have hall : ([22].all fun u => !Tryd.prog.wantsStandIn u) = true := by kernel_rfl
        exact (show Tryd.prog.wantsStandIn t = false by simpa using List.all_eq_true.1 hall t hm)⟩)
    (by kernel_rfl)
#print axioms fnWrapped_holds

end Go.Proofs.YthfncdfcklbigaaDoor
