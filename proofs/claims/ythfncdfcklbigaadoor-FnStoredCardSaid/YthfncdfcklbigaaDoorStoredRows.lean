/-
  PLAIN LEAN: stored blocks one behind another are read as their bytes.
-/
import Derived.Test.YthfncdfcklbigaaDoorInfl
set_option linter.unusedVariables false
set_option linter.unusedSimpArgs false
namespace Flate

/-- Stored blocks, none of them the last one. -/
def encRows (rows : List (List UInt8)) : List UInt8 := rows.flatMap fun r => stHead false r.length ++ r

theorem encRows_len (rows : List (List UInt8)) : (encRows rows).length = 5 * rows.length + rows.flatten.length := by
  induction rows with
  | nil => rfl
  | cons r l ih =>
    have e : encRows (r :: l) = stHead false r.length ++ r ++ encRows l := by simp [encRows]
    rw [e, List.length_append, stHead_len, ih]
    simp only [List.length_cons, List.flatten_cons, List.length_append]
    omega

theorem stored_rows (d : List UInt8) (hd : d.length ≤ 65535) : ∀ (rows : List (List UInt8)) (H : List UInt8), (∀ r ∈ rows, r.length ≤ 65535) →
    Reach (encRows rows ++ (stHead true d.length ++ d)) (start H) (.done .eof (encRows rows ++ (stHead true d.length ++ d)).length, H ++ (rows.flatten ++ d))
  | [], H, _ => by
    refine .step ?_
    have := stored_block true d [] H hd
    rw [List.append_nil] at this
    show Reach _ (sstep (stHead true d.length ++ d) (start H)) _
    rw [this]
    have e : ([] ++ (stHead true d.length ++ d) : List UInt8).length = 5 + d.length := stHead_len _ _ _
    show Reach _ (.done .eof (5 + d.length), H ++ d) (.done .eof ([] ++ (stHead true d.length ++ d) : List UInt8).length, H ++ d)
    rw [e]
    exact .refl _
  | r :: rows, H, h => by
    have hr : r.length ≤ 65535 := h r (by simp)
    have ih := stored_rows d hd rows (H ++ r) (fun x hx => h x (by simp [hx]))
    have e : encRows (r :: rows) ++ (stHead true d.length ++ d) = stHead false r.length ++ r ++ (encRows rows ++ (stHead true d.length ++ d)) := by simp [encRows]
    have hl : (stHead false r.length ++ r).length = 5 + r.length := stHead_len _ _ _
    rw [e]
    refine .step ?_
    rw [stored_block false r _ H hr]
    have := reach_shift (stHead false r.length ++ r) (encRows rows ++ (stHead true d.length ++ d)) ih (start_ok _ _) (Z := []) (.inl rfl)
    rw [hl] at this
    simp only [start, Cfg.sh, Br.sh, Nat.zero_add, List.nil_append] at this
    show Reach _ (.next ⟨8 * (5 + r.length), 5 + r.length⟩, H ++ r) _
    have e2 : (stHead false r.length ++ r ++ (encRows rows ++ (stHead true d.length ++ d))).length = (encRows rows ++ (stHead true d.length ++ d)).length + (5 + r.length) := by
      rw [List.length_append, hl]; omega
    have e3 : H ++ ((r :: rows).flatten ++ d) = H ++ r ++ (rows.flatten ++ d) := by simp
    rw [e2, e3]
    exact this

theorem infl_rows {d : List UInt8} (hd : d.length ≤ 65535) {rows : List (List UInt8)} (h : ∀ r ∈ rows, r.length ≤ 65535) :
    Infl (encRows rows ++ (stHead true d.length ++ d)) [] .eof (encRows rows ++ (stHead true d.length ++ d)).length (rows.flatten ++ d) := stored_rows d hd rows [] h

end Flate
