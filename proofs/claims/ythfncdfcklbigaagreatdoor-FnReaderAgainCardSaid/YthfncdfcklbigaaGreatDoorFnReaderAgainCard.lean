/-
  'laws.FnReaderAgain': for every input the law answers true, and each argument reads as it did: the row, and the card tied to the program's text.
  Conditions: the listed package-level variables hold what the program's text lays (the card ties them); nothing else.
-/
import Derived.Test.YthfncdfcklbigaaGreatDoorCk
import Derived.Test.YthfncdfcklbigaaGreatDoorLRag
set_option linter.unusedVariables false
set_option linter.unusedSimpArgs false
namespace Go.Proofs.YthfncdfcklbigaaGreatDoor
open Go.RowKit Go.ChangeShapes Go.WideShapes Go.ChangeAt Flate
set_option maxRecDepth 100000

theorem fnReaderAgain_lifted (os : Os) (started : os.Started) (H : Type) (enc : TypeId × Value → H) :
    ReturnsInHanded {} Tryz.checked os 4 .any (fun w args => (Rows.fnReaderAgainSpec.pre enc Tryz.prog Tryz.f4 [] false w args ∧ laidMetH Tryz.prog laidL w) ∧ sizedMet enc Tryz.prog Tryz.f4 (OpenSpec.ofChange Rows.fnReaderAgainSpec) false w args)
      (Rows.fnReaderAgainSpec.post enc Tryz.prog Tryz.f4 false true false false) := by
  refine returnsInHanded_of_change_and (C := Tryz.checked) (X := fun w _ => laidMetH Tryz.prog laidL w) (fun _ _ _ hh h => h.of_heap hh) own started (by kernel_rfl) Tryz.func4
    (ChangeSpec.witness_shaped (enc := enc) (C := Tryz.checked) (os := os) (X := fun w _ => laidMetH Tryz.prog laidL w) false (World.doorLaid Tryz.prog 400 os) #[.slice none 0 0, .slice none 0 0, .slice none 0 0, .bool false, .slice none 0 0, .int .i64 0] 8 rfl (door_shaped os _) (by kernel_rfl) (by kernel_rfl) (by kernel_rfl) (door_met os _)) ?_
  intro W base args ds gs before hval0 hW _ _ hL _
  have hval : ∀ (j : Nat) t v, Tryz.f4.params[j]? = some t → args[j]? = some v → Value.okWide Tryz.prog W .any base t v := hval0
  have hW' := hW
  obtain ⟨p, q, hA0, hV, rfl, hfz, hnd⟩ := hW
  have hA : DataW.TrodAll enc Tryz.prog W 0 (fun _ => true) true Tryz.f4.params.toList args.toList ds p := hA0
  rw [Tryz.params4] at hA hval
  obtain ⟨v0, v1, v2, v3, v4, v5, d0, d1, d2, d3, d4, d5, p0, p1, p2, p3, p4, p5, rfl, rfl, rfl, h0, h1, h2, h3, h4, h5⟩ := trodAll_six hA
  obtain ⟨b0, l0, c0, rfl, hb0, hm0⟩ := open_bt (hval 0 22 v0 rfl rfl) h0
  obtain ⟨b1, l1, c1, rfl, hb1, hm1⟩ := open_bt (hval 1 22 v1 rfl rfl) h1
  obtain ⟨b2, l2, c2, rfl, hb2, hm2⟩ := open_bt (hval 2 22 v2 rfl rfl) h2
  obtain ⟨x3, rfl, rfl, rfl⟩ := open_bool Tryz.underlying4 (hval 3 4 v3 rfl rfl) h3
  obtain ⟨b4, l4, c4, rfl, hb4, hm4⟩ := open_ints64 (hval 4 33 v4 rfl rfl) h4
  obtain ⟨x5, rfl, rfl, rfl, hw5⟩ := open_int Tryz.underlying3 (hval 5 3 v5 rfl rfl) h5
  obtain ⟨ps, hE⟩ := env_of_laid hL
  clear hA0 hval0
  refine (fnReaderAgain_any W _ ps hE b0 l0 c0 hb0 b1 l1 c1 hb1 b2 l2 c2 hb2 x3 b4 l4 c4 hb4 x5 hw5).mono fun e W' ⟨he, hf⟩ => ?_
  subst he
  exact ⟨_, rfl, law_post laidOut Tryz.underlying4 hW' rfl (by kernel_rfl) (by kernel_rfl) rfl hf⟩

theorem fnReaderAgain_row : Rows.FnReaderAgainSaid :=
  OpenClaim.holds_of_wide 4 Tryz.f4 rfl rfl rfl rfl rfl rfl rfl ⟨rfl, rfl, rfl, rfl, rfl⟩ rfl rfl rfl rfl rfl (by kernel_rfl) Tryz.func4 (by kernel_rfl)
    (of_decide_eq_true (by kernel_rfl)) (by unfold Func.isWrapper; first | (rw [if_pos (by decide +kernel)]; kernel_rfl) | (rw [if_neg (by decide +kernel)]; exact ⟨rfl, rfl⟩))
    (fun os started H enc _ => fnReaderAgain_lifted os started H enc)

theorem fnReaderAgain_holds : Rows.FnReaderAgainCardSaid :=
  Claim7.holds_tied_plain_at .later [] [.sentinel, .sentinel, .sentinel, .data, .sentinel, .sentinel, .sentinel] true (true, "703b7950a9c3be665f364049809ec364041c91def0de91c7d796d347c98a91c5") true
    fnReaderAgain_row (fun _ h => by cases h) (by kernel_rfl) (fun _ h => by cases h) fnReaderAgain_row_tie rfl ⟨rfl, rfl⟩ (by kernel_rfl) rfl
    (fun f fn hf hfn => by
      obtain rfl : f = 4 := Option.some.inj ((show Tryz.prog.funcNamed "crowbar/laws.FnReaderAgain" = some 4 by kernel_rfl).symm.trans hf) |>.symm
      obtain rfl : fn = Tryz.f4 := (Option.some.inj (Tryz.func4.symm.trans hfn)).symm
      exact ⟨by kernel_rfl, fun j t ht => by
        rw [Tryz.params4] at ht
        have hm : t ∈ [22, 22, 22, 4, 33, 3] := by simpa using Array.mem_of_getElem? ht
        have hall : ([22, 22, 22, 4, 33, 3].all fun u => !Tryz.prog.wantsStandIn u) = true := by kernel_rfl
        exact (show Tryz.prog.wantsStandIn t = false by simpa using List.all_eq_true.1 hall t hm)⟩)
    (by kernel_rfl)
#print axioms fnReaderAgain_holds

end Go.Proofs.YthfncdfcklbigaaGreatDoor
