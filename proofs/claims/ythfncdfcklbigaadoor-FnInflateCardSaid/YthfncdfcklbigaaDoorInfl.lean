/-
  PLAIN LEAN: what reading gives, as one relation; the laws of it that need no reference.
-/
import Derived.Test.YthfncdfcklbigaaDoorStored
import Derived.Test.YthfncdfcklbigaaDoorAhead
set_option linter.unusedVariables false
set_option linter.unusedSimpArgs false
namespace Flate

/-- Behind this dictionary the source is read as X; then reading ends so, at this place. -/
def Infl (src dict : List UInt8) (e : Err) (p : Nat) (X : List UInt8) : Prop := Reach src (start (lastOf dict)) (.done e p, lastOf dict ++ X)

theorem infl_ex (src dict : List UInt8) : ∃ e p X, Infl src dict e p X ∧ p ≤ src.length ∧ X.length ≤ 258 * (8 * src.length + 1) := by
  obtain ⟨e, p, X, h, hp, hX⟩ := Reach.ends _ (Nat.le_refl _) (H := lastOf dict) (start_ok src (lastOf dict))
  exact ⟨e, p, X, h, hp, hX⟩

theorem Infl.unique {src dict : List UInt8} {e e' : Err} {p p' : Nat} {X X' : List UInt8} (h : Infl src dict e p X) (k : Infl src dict e' p' X') : e' = e ∧ p' = p ∧ X' = X := by
  obtain ⟨h1, h2, h3⟩ := Reach.end_unique h k
  exact ⟨h1.symm, h2.symm, (List.append_cancel_left h3).symm⟩

theorem Infl.le {src dict : List UInt8} {e : Err} {p : Nat} {X : List UInt8} (h : Infl src dict e p X) : p ≤ src.length ∧ X.length ≤ 258 * (8 * src.length + 1) := by
  obtain ⟨e', p', X', k, h1, h2⟩ := infl_ex src dict
  obtain ⟨_, rfl, rfl⟩ := h.unique k
  exact ⟨h1, h2⟩

/-- Bytes behind the source. -/
theorem infl_ahead {b m : List UInt8} {e e' : Err} {p p' : Nat} {X X' : List UInt8} (h : Infl b [] e p X) (k : Infl (b ++ m) [] e' p' X') : (e ≠ .cut → e' = e ∧ p' = p ∧ X' = X) ∧ (e = .cut → ∃ Y, X' = X ++ Y) := by
  obtain ⟨h1, h2⟩ := reach_ext h (start_ok b _) k
  exact ⟨fun q => by obtain ⟨a, b, c⟩ := h1 q; exact ⟨a, b, List.append_cancel_left c⟩, h2⟩

theorem infl_stored_last {data : List UInt8} (hd : data.length ≤ 65535) : Infl (stHead true data.length ++ data) [] .eof (5 + data.length) data := stored_last hd

/-- A stored block ahead. -/
theorem infl_dict {dict src : List UInt8} {e : Err} {p : Nat} {X : List UInt8} (hd : dict.length ≤ 65535) (h : Infl src dict e p X) : Infl (stHead false dict.length ++ dict ++ src) [] e (p + (5 + dict.length)) (dict ++ X) := dict_then hd h

theorem infl_reserved {c : UInt8} {l : List UInt8} (h : c.toNat / 2 % 4 = 3) : Infl (c :: l) [] .corrupt 1 [] := reserved h

end Flate
