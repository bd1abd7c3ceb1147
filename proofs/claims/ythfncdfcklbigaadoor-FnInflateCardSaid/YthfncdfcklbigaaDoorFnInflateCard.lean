/-
  'laws.FnInflate': for every input the law answers true, and each argument reads as it did: the row, and the card tied to the program's text.
  Conditions: the listed package-level variables hold what the program's text lays (the card ties them); nothing else.
-/
import Derived.Test.YthfncdfcklbigaaDoorCk
import Derived.Test.YthfncdfcklbigaaDoorFnInflateP0
set_option linter.unusedVariables false
set_option linter.unusedSimpArgs false
namespace Go.Proofs.YthfncdfcklbigaaDoor
open Go.RowKit Go.ChangeShapes Go.WideShapes Go.ChangeAt Flate
set_option maxRecDepth 100000

theorem fnInflate_lifted (os : Os) (started : os.Started) (H : Type) (enc : TypeId × Value → H) :
    ReturnsInHanded {} Tryd.checked os 10 .any (fun w args => (Rows.fnInflateSpec.pre enc Tryd.prog Tryd.f10 [] false w args ∧ laidMetH Tryd.prog laidL w) ∧ sizedMet enc Tryd.prog Tryd.f10 (OpenSpec.ofChange Rows.fnInflateSpec) false w args)
      (Rows.fnInflateSpec.post enc Tryd.prog Tryd.f10 false true false false) := by
  refine returnsInHanded_of_change_and (C := Tryd.checked) (X := fun w _ => laidMetH Tryd.prog laidL w) (fun _ _ _ hh h => h.of_heap hh) own started (by kernel_rfl) Tryd.func10
    (ChangeSpec.witness_shaped (enc := enc) (C := Tryd.checked) (os := os) (X := fun w _ => laidMetH Tryd.prog laidL w) false (World.doorLaid Tryd.prog 400 os) #[.slice none 0 0, .slice none 0 0, .bool false] 8 rfl (door_shaped os _) (by kernel_rfl) (by kernel_rfl) (by kernel_rfl) (door_met os _)) ?_
  intro W base args ds gs before hval0 hW _ _ hL _
  have hval : ∀ (j : Nat) t v, Tryd.f10.params[j]? = some t → args[j]? = some v → Value.okWide Tryd.prog W .any base t v := hval0
  have hW' := hW
  obtain ⟨p, q, hA0, hV, rfl, hfz, hnd⟩ := hW
  have hA : DataW.TrodAll enc Tryd.prog W 0 (fun _ => true) true Tryd.f10.params.toList args.toList ds p := hA0
  rw [Tryd.params10] at hA hval
  obtain ⟨v0, v1, v2, d0, d1, d2, p0, p1, p2, rfl, rfl, rfl, h0, h1, h2⟩ := trodAll_three hA
  obtain ⟨b0, l0, c0, rfl, hb0, hm0⟩ := open_bt (hval 0 22 v0 rfl rfl) h0
  obtain ⟨b1, l1, c1, rfl, hb1, hm1⟩ := open_bt (hval 1 22 v1 rfl rfl) h1
  obtain ⟨x2, rfl, rfl, rfl⟩ := open_bool Tryd.underlying4 (hval 2 4 v2 rfl rfl) h2
  obtain ⟨ps, hE⟩ := env_of_laid hL
  clear hA0 hval0
  refine (fnInflate_any W _ ps hE b0 l0 c0 hb0 b1 l1 c1 hb1 x2).mono fun e W' ⟨he, hf⟩ => ?_
  subst he
  exact ⟨_, rfl, law_post laidOut Tryd.underlying4 hW' rfl (by kernel_rfl) (by kernel_rfl) rfl hf⟩

theorem fnInflate_row : Rows.FnInflateSaid :=
  OpenClaim.holds_of_wide 10 Tryd.f10 rfl rfl rfl rfl rfl rfl rfl ⟨rfl, rfl, rfl, rfl, rfl⟩ rfl rfl rfl rfl rfl (by kernel_rfl) Tryd.func10 (by kernel_rfl)
    (of_decide_eq_true (by kernel_rfl)) (by unfold Func.isWrapper; first | (rw [if_pos (by decide +kernel)]; kernel_rfl) | (rw [if_neg (by decide +kernel)]; exact ⟨rfl, rfl⟩))
    (fun os started H enc _ => fnInflate_lifted os started H enc)

theorem fnInflate_holds : Rows.FnInflateCardSaid :=
  Claim7.holds_tied_plain_at .later [] [.sentinel, .sentinel, .sentinel, .data, .sentinel, .sentinel, .sentinel] true (true, "877d222962520bb22ea08d8722ed2517ac02be4621e3c6c2b7a2cc2d8b614eb2") true
    fnInflate_row (fun _ h => by cases h) (by kernel_rfl) (fun _ h => by cases h) fnInflate_row_tie rfl ⟨rfl, rfl⟩ (by kernel_rfl) rfl
    (fun f fn hf hfn => by
      obtain rfl : f = 10 := Option.some.inj ((show Tryd.prog.funcNamed "crowbar/laws.FnInflate" = some 10 by kernel_rfl).symm.trans hf) |>.symm
      obtain rfl : fn = Tryd.f10 := (Option.some.inj (Tryd.func10.symm.trans hfn)).symm
      exact ⟨by kernel_rfl, fun j t ht => by
        rw [Tryd.params10] at ht
        have hm : t ∈ [22, 22, 4] := by simpa using Array.mem_of_getElem? ht
        have hall : ([22, 22, 4].all fun u => !Tryd.prog.wantsStandIn u) = true := by kernel_rfl
        exact (show Tryd.prog.wantsStandIn t = false by simpa using List.all_eq_true.1 hall t hm)⟩)
    (by kernel_rfl)
#print axioms fnInflate_holds

end Go.Proofs.YthfncdfcklbigaaDoor
