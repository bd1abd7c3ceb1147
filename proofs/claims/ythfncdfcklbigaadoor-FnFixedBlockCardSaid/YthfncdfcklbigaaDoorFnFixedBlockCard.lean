/-
  'laws.FnFixedBlock': for every input the law answers true, and each argument reads as it did: the row, and the card tied to the program's text.
  Conditions: the listed package-level variables hold what the program's text lays (the card ties them); nothing else.
-/
import Derived.Test.YthfncdfcklbigaaDoorCardKit
import Derived.Test.YthfncdfcklbigaaDoorFnFixedBlockP0
set_option linter.unusedVariables false
set_option linter.unusedSimpArgs false
namespace Go.Proofs.YthfncdfcklbigaaDoor
open Go.RowKit Go.ChangeShapes Go.WideShapes Go.ChangeAt Flate
set_option maxRecDepth 100000

theorem fnFixedBlock_lifted (os : Os) (started : os.Started) (H : Type) (enc : TypeId × Value → H) :
    ReturnsInHanded {} Tryd.checked os 9 .any (fun w args => (Rows.fnFixedBlockSpec.pre enc Tryd.prog Tryd.f9 [] false w args ∧ laidMetH Tryd.prog laidL w) ∧ sizedMet enc Tryd.prog Tryd.f9 (OpenSpec.ofChange Rows.fnFixedBlockSpec) false w args)
      (Rows.fnFixedBlockSpec.post enc Tryd.prog Tryd.f9 false true false false) := by
  refine returnsInHanded_of_change_and (C := Tryd.checked) (X := fun w _ => laidMetH Tryd.prog laidL w) (fun _ _ _ hh h => h.of_heap hh) own started (by kernel_rfl) Tryd.func9
    (ChangeSpec.witness_shaped (enc := enc) (C := Tryd.checked) (os := os) (X := fun w _ => laidMetH Tryd.prog laidL w) false (World.doorLaid Tryd.prog 400 os) #[.slice none 0 0, .slice none 0 0] 8 rfl (door_shaped os _) (by kernel_rfl) (by kernel_rfl) (by kernel_rfl) (door_met os _)) ?_
  intro W base args ds gs before hval0 hW _ _ hL _
  have hval : ∀ (j : Nat) t v, Tryd.f9.params[j]? = some t → args[j]? = some v → Value.okWide Tryd.prog W .any base t v := hval0
  have hW' := hW
  obtain ⟨p, q, hA0, hV, rfl, hfz, hnd⟩ := hW
  have hA : DataW.TrodAll enc Tryd.prog W 0 (fun _ => true) true Tryd.f9.params.toList args.toList ds p := hA0
  rw [Tryd.params9] at hA hval
  obtain ⟨v0, v1, d0, d1, p0, p1, rfl, rfl, rfl, h0, h1⟩ := trodAll_two hA
  obtain ⟨b0, l0, c0, rfl, hb0, hm0⟩ := open_tokens (hval 0 38 v0 rfl rfl) h0
  obtain ⟨b1, l1, c1, rfl, hb1, hm1⟩ := open_bt (hval 1 22 v1 rfl rfl) h1
  obtain ⟨ps, hE⟩ := env_of_laid hL
  clear hA0 hval0
  refine (fnFixedBlock_any W _ ps hE b0 l0 c0 hb0 b1 l1 c1 hb1).mono fun e W' ⟨he, hf⟩ => ?_
  subst he
  exact ⟨_, rfl, law_post laidOut Tryd.underlying4 hW' rfl (by kernel_rfl) (by kernel_rfl) rfl hf⟩

theorem fnFixedBlock_row : Rows.FnFixedBlockSaid :=
  OpenClaim.holds_of_wide 9 Tryd.f9 rfl rfl rfl rfl rfl rfl rfl ⟨rfl, rfl, rfl, rfl, rfl⟩ rfl rfl rfl rfl rfl (by kernel_rfl) Tryd.func9 (by kernel_rfl)
    (of_decide_eq_true (by kernel_rfl)) (by unfold Func.isWrapper; first | (rw [if_pos (by decide +kernel)]; kernel_rfl) | (rw [if_neg (by decide +kernel)]; exact ⟨rfl, rfl⟩))
    (fun os started H enc _ => fnFixedBlock_lifted os started H enc)

theorem fnFixedBlock_holds : Rows.FnFixedBlockCardSaid :=
  Claim7.holds_tied_plain_at .later [] [.sentinel, .sentinel, .sentinel, .data, .sentinel, .sentinel, .sentinel] true (true, "877d222962520bb22ea08d8722ed2517ac02be4621e3c6c2b7a2cc2d8b614eb2") true
    fnFixedBlock_row (fun _ h => by cases h) (by kernel_rfl) (fun _ h => by cases h) fnFixedBlock_row_tie rfl ⟨rfl, rfl⟩ (by kernel_rfl) rfl
    (fun f fn hf hfn => by
      obtain rfl : f = 9 := Option.some.inj ((show Tryd.prog.funcNamed "crowbar/laws.FnFixedBlock" = some 9 by kernel_rfl).symm.trans hf) |>.symm
      obtain rfl : fn = Tryd.f9 := (Option.some.inj (Tryd.func9.symm.trans hfn)).symm
      exact ⟨by kernel_rfl, fun j t ht => by
        rw [Tryd.params9] at ht
        have hm : t ∈ [38, 22] := by simpa using Array.mem_of_getElem? ht
        have hall : ([38, 22].all fun u => !Tryd.prog.wantsStandIn u) = true := by kernel_rfl
        exact (show Tryd.prog.wantsStandIn t = false by simpa using List.all_eq_true.1 hall t hm)⟩)
    (by kernel_rfl)
#print axioms fnFixedBlock_holds

end Go.Proofs.YthfncdfcklbigaaDoor
