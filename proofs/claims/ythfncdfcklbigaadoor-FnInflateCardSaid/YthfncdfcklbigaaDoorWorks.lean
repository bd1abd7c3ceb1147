/-
  PLAIN LEAN: a block with the fixed codes and the byte 'a' is read: by what the table of the fixed codes answers.
-/
import Derived.Test.YthfncdfcklbigaaDoorInfl
import Derived.Test.YthfncdfcklbigaaDoorSpec
set_option linter.unusedVariables false
set_option linter.unusedSimpArgs false
namespace Flate
set_option maxRecDepth 100000

theorem initFixed' : initTab fixedLens = some (some fixedTab) := by
  have hl := initTab_law fixedLens_le (by rw [fixedLens_length]; omega)
  have h0 : ¬ (cntAll fixedLens).max = 0 := by decide +kernel
  have hc : (nextAll (cntAll fixedLens)).1 = 2 ^ (cntAll fixedLens).max := by decide +kernel
  obtain ⟨x, nx, hn⟩ : ∃ x nx, nextAll (cntAll fixedLens) = (x, nx) := ⟨_, _, rfl⟩
  rw [hn] at hc
  obtain ⟨_, b, _, hb⟩ := initTab_go rfl h0 hn (by simp [show x = 2 ^ (cntAll fixedLens).max from hc]) hl.1
  unfold fixedTab
  rw [hb]

/-- A table's least length. -/
theorem initTab_minEq {lens : List Nat} {T : Tab} (h : initTab lens = some (some T)) : T.min = if (cntAll lens).max = 0 then emptyTab.min else (cntAll lens).min := by
  by_cases h0 : (cntAll lens).max = 0
  · rw [initTab_empty rfl h0] at h
    rw [if_pos h0, ← Option.some.inj (Option.some.inj h)]
  · rw [if_neg h0]
    obtain ⟨x, nx, hn⟩ : ∃ x nx, nextAll (cntAll lens) = (x, nx) := ⟨_, _, rfl⟩
    by_cases hd : x ≠ 2 ^ (cntAll lens).max ∧ ¬ (x = 1 ∧ (cntAll lens).max = 1)
    · rw [initTab_bad rfl h0 hn (by simp [hd])] at h; simp at h
    · obtain ⟨_, b, _, hb⟩ := initTab_go rfl h0 hn (by symm; simp only [decide_eq_false_iff_not]; exact hd) (by rw [h]; simp)
      rw [h] at hb
      obtain rfl := Option.some.inj (Option.some.inj hb)
      rfl

theorem fixedTab_min : fixedTab.min = 7 := by
  rw [initTab_minEq initFixed', if_neg (by decide +kernel)]
  decide +kernel

theorem fixed_law : TabLaw fixedLens fixedTab ∧ Full fixedLens := initTab_code fixedLens_le initFixed'

instance (lens : List Nat) (s x : Nat) : Decidable (Hits lens s x) := inferInstanceAs (Decidable (_ ∧ _ ∧ _))

theorem infl_works : Infl [0x4b, 4, 0] [] .eof 3 [97] := by
  obtain ⟨hL, hF⟩ := fixed_law
  have hmin := fixedTab_min
  obtain ⟨T, hT⟩ : ∃ T, fixedTab = T := ⟨_, rfl⟩
  rw [hT] at hL hmin
  have hone : (cntAll fixedLens).max = 1 → 1 ≤ T.min := fun _ => by rw [hmin]; omega
  refine .step ?_
  have h1 : sstep [0x4b, 4, 0] (start (lastOf [])) = (.huff true ⟨3, 1⟩ T none, []) := by
    show sstep [0x4b, 4, 0] (start []) = _
    rw [first_step, if_neg (by decide), if_pos (by decide), hT]; rfl
  rw [h1]
  refine .step ?_
  have s1 : SymAt fixedLens [0x4b, 4, 0] 3 97 := ⟨by decide +kernel, by decide +kernel⟩
  obtain ⟨r1, e1, a1, k1, _⟩ := symbol_of hL hF (r := ⟨3, 1⟩) s1 ⟨by decide, by decide⟩ (by rw [hmin]; decide) hone
  have l1 : fixedLens.getD 97 0 = 8 := by decide +kernel
  rw [l1] at a1
  have h3 : sstep [0x4b, 4, 0] (.huff true ⟨3, 1⟩ T none, []) = (.huff true r1 T none, [97]) := by
    show huffStep [0x4b, 4, 0] true ⟨3, 1⟩ T none [] = _
    unfold huffStep; rw [e1]; rfl
  rw [h3]
  refine .step ?_
  have s2 : SymAt fixedLens [0x4b, 4, 0] r1.at_ 256 := by rw [a1]; exact ⟨by decide +kernel, by decide +kernel⟩
  obtain ⟨r2, e2, a2, k2, _⟩ := symbol_of hL hF s2 k1 (by rw [hmin, a1]; decide) hone
  have l2 : fixedLens.getD 256 0 = 7 := by decide +kernel
  rw [l2, a1] at a2
  have hp : r2.pos = 3 := by
    have := k2.1
    have h3 : r2.pos ≤ 3 := k2.2
    simp only at a2
    omega
  have h5 : sstep [0x4b, 4, 0] (.huff true r1 T none, [97]) = (.done .eof 3, [97]) := by
    show huffStep [0x4b, 4, 0] true r1 T none [97] = _
    unfold huffStep; rw [e2]
    show (more true r2, [97]) = _
    unfold more; rw [hp]; rfl
  rw [h5]
  exact .refl _

end Flate
