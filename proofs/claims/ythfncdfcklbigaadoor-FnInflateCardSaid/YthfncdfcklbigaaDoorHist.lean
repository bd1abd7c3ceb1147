/-
  PLAIN LEAN: the window of 32768 bytes and the history that it shows; copies from the history.
-/
import Derived.Test.YthfncdfcklbigaaDoorModel
set_option linter.unusedVariables false
set_option linter.unusedSimpArgs false
namespace Flate

/-- The bytes that a copy of n bytes from d bytes back gives. -/
def lzBytes (H : List UInt8) (d n : Nat) : List UInt8 := (List.range n).map fun j => H.getD (H.length - d + j % d) 0

/-- The history behind such a copy. -/
def lz (H : List UInt8) (d n : Nat) : List UInt8 := H ++ lzBytes H d n

theorem lz_length (H : List UInt8) (d n : Nat) : (lz H d n).length = H.length + n := by simp [lz, lzBytes]
theorem lz_zero (H : List UInt8) (d : Nat) : lz H d 0 = H := by simp [lz, lzBytes]

theorem lz_getD (H : List UInt8) (d n i : Nat) (hi : i < H.length + n) : (lz H d n).getD i 0 = if i < H.length then H.getD i 0 else H.getD (H.length - d + (i - H.length) % d) 0 := by
  unfold lz lzBytes
  simp only [List.getD_eq_getElem?_getD]
  by_cases h : i < H.length
  · rw [if_pos h, List.getElem?_append_left h]
  · rw [if_neg h, List.getElem?_append_right (by omega)]
    simp [List.getElem?_map, List.getElem?_range (show i - H.length < n by omega)]

/-- A copy in two parts. -/
theorem lz_add (H : List UInt8) (d a b : Nat) (hd : 1 ≤ d) (hH : d ≤ H.length) : lz (lz H d a) d b = lz H d (a + b) := by
  apply List.ext_getElem?
  intro i
  have e : ∀ (l : List UInt8) (n : Nat), n < l.length → l[n]? = some (l.getD n 0) := fun l n h => by simp [List.getD_eq_getElem?_getD, List.getElem?_eq_getElem h]
  by_cases hi : i < H.length + (a + b)
  · rw [e _ _ (by rw [lz_length, lz_length]; omega), e _ _ (by rw [lz_length]; omega)]
    congr 1
    rw [lz_getD _ _ _ _ (by rw [lz_length]; omega), lz_getD _ _ _ _ hi, lz_length]
    by_cases h1 : i < H.length + a
    · rw [if_pos h1, lz_getD _ _ _ _ h1]
    · rw [if_neg h1, if_neg (by omega)]
      have hm : (i - (H.length + a)) % d < d := Nat.mod_lt _ (by omega)
      rw [lz_getD _ _ _ _ (by omega)]
      by_cases h2 : H.length + a - d + (i - (H.length + a)) % d < H.length
      · rw [if_pos h2]
        congr 1
        have h3 : a < d := by omega
        generalize hq : i - (H.length + a) = q at *
        have e1 : i - H.length = a + q := by omega
        rw [e1]
        -- a + q % d < d, so (a + q) % d = a + q % d
        have : (a + q) % d = a + q % d := by
          rw [Nat.add_mod, Nat.mod_eq_of_lt h3]
          exact Nat.mod_eq_of_lt (by omega)
        rw [this]; omega
      · rw [if_neg h2]
        congr 2
        generalize hq : i - (H.length + a) = q at *
        have e1 : i - H.length = a + q := by omega
        rw [e1]
        have e2 : H.length + a - d + q % d - H.length + d = a + q % d := by omega
        rw [show (H.length + a - d + q % d - H.length) % d = (H.length + a - d + q % d - H.length + d) % d from (Nat.add_mod_right _ _).symm, e2]
        rw [Nat.add_mod a (q % d), Nat.mod_mod, ← Nat.add_mod]
  · rw [List.getElem?_eq_none (by rw [lz_length, lz_length]; omega), List.getElem?_eq_none (by rw [lz_length]; omega)]

/-- The window shows the end of the history. -/
structure WinB (g : Nat → UInt8) (wr : Nat) (H : List UInt8) : Prop where
  le : wr ≤ 32768
  eq : wr % 32768 = H.length % 32768
  at_ : ∀ i, i < H.length → H.length ≤ i + 32768 → g (i % 32768) = H.getD i 0

theorem WinB.of_empty (g : Nat → UInt8) : WinB g 0 [] := ⟨by omega, rfl, fun i hi => by simp at hi⟩

theorem getD_append_left {l m : List UInt8} {i : Nat} (h : i < l.length) : (l ++ m).getD i 0 = l.getD i 0 := by
  simp only [List.getD_eq_getElem?_getD]; rw [List.getElem?_append_left h]
theorem getD_append_right {l m : List UInt8} {i : Nat} (h : l.length ≤ i) : (l ++ m).getD i 0 = m.getD (i - l.length) 0 := by
  simp only [List.getD_eq_getElem?_getD]; rw [List.getElem?_append_right h]

/-- New bytes laid at the writing place. -/
theorem WinB.lay {g g' : Nat → UInt8} {wr : Nat} {H vs : List UInt8} (h : WinB g wr H) (hn : wr + vs.length ≤ 32768) (hnew : ∀ j, j < vs.length → g' (wr + j) = vs.getD j 0)
    (hold : ∀ i, i < 32768 → i < wr ∨ wr + vs.length ≤ i → g' i = g i) : WinB g' (wr + vs.length) (H ++ vs) := by
  have heq := h.eq
  refine ⟨hn, by rw [List.length_append]; omega, fun i hi hw => ?_⟩
  rw [List.length_append] at hi hw
  by_cases hl : i < H.length
  · rw [getD_append_left hl, ← h.at_ i hl (by omega)]
    exact hold _ (Nat.mod_lt _ (by omega)) (by omega)
  · rw [getD_append_right (by omega), ← hnew _ (by omega)]
    congr 1
    omega

theorem WinB.byte {g : Nat → UInt8} {wr : Nat} {H : List UInt8} (h : WinB g wr H) (hw : wr < 32768) (c : UInt8) : WinB (upd g wr c) (wr + 1) (H ++ [c]) :=
  h.lay (vs := [c]) (by simp; omega) (fun j hj => by simp at hj; subst hj; simp [upd_same]) (fun i _ hi => upd_other _ _ (by simp at hi; omega))

/-- At the window's end the writing place goes back to its beginning. -/
theorem WinB.round {g : Nat → UInt8} {H : List UInt8} (h : WinB g 32768 H) : WinB g 0 H := ⟨by omega, by have := h.eq; omega, h.at_⟩

/-- One step of a copy within the window: n bytes from the place wr + m0 - d on. -/
theorem WinB.copy {g g' : Nat → UInt8} {wr m m0 d n : Nat} {H : List UInt8} (h : WinB g (wr + m) (lz H d m)) (hd : 1 ≤ d) (hH : d ≤ H.length) (h0 : m0 ≤ m) (hdiv : (m - m0) % d = 0) (hsrc : d ≤ wr + m0)
    (hfit : wr + m + n ≤ 32768) (hn : n ≤ m - m0 + d) (hnew : ∀ j, j < n → g' (wr + m + j) = g (wr + m0 - d + j)) (hold : ∀ i, i < 32768 → i < wr + m ∨ wr + m + n ≤ i → g' i = g i) : WinB g' (wr + m + n) (lz H d (m + n)) := by
  have hlen := lz_length H d m
  have heq := h.eq
  rw [hlen] at heq
  rw [← lz_add H d m n hd hH]
  have hl : (lzBytes (lz H d m) d n).length = n := by simp [lzBytes]
  have key := WinB.lay (g' := g') (vs := lzBytes (lz H d m) d n) h (by rw [hl]; omega) (fun j hj => by
    rw [hl] at hj
    rw [hnew j hj]
    have hi : H.length + m0 - d + j < H.length + m := by omega
    have hidx : (H.length + m0 - d + j) % 32768 = wr + m0 - d + j := by omega
    rw [← hidx, h.at_ _ (by rw [hlen]; exact hi) (by rw [hlen]; omega)]
    have e1 : (lzBytes (lz H d m) d n).getD j 0 = (lz H d m).getD ((lz H d m).length - d + j % d) 0 := by
      simp [lzBytes, List.getD_eq_getElem?_getD, List.getElem?_range hj]
    have hjd : j % d < d := Nat.mod_lt _ (by omega)
    rw [e1, hlen, lz_getD _ _ _ _ hi, lz_getD _ _ _ _ (by omega)]
    obtain ⟨q, hq⟩ : ∃ q, m = m0 + d * q := ⟨(m - m0) / d, by have := Nat.div_add_mod (m - m0) d; omega⟩
    -- both are the byte number (m0 + j) % d of the copied piece
    have c1 : ∀ k, H.length - d + k < H.length + m → (if H.length - d + k < H.length then H.getD (H.length - d + k) 0 else H.getD (H.length - d + (H.length - d + k - H.length) % d) 0) = H.getD (H.length - d + k % d) 0 := by
      intro k hk
      by_cases hc : H.length - d + k < H.length
      · rw [if_pos hc, Nat.mod_eq_of_lt (show k < d by omega)]
      · rw [if_neg hc]
        congr 2
        rw [← Nat.add_mod_right (H.length - d + k - H.length) d]
        congr 1; omega
    have s1 : H.length + m0 - d + j = H.length - d + (m0 + j) := by omega
    have s2 : H.length + m - d + j % d = H.length - d + (m + j % d) := by omega
    rw [s1, s2, c1 _ (by omega), c1 _ (by omega)]
    congr 2
    rw [hq, show m0 + d * q + j % d = m0 + j % d + d * q by omega, Nat.add_mul_mod_self_left, Nat.add_mod m0 (j % d), Nat.mod_mod, ← Nat.add_mod])
    (fun i hi ho => by rw [hl] at ho; exact hold i hi ho)
  rw [hl] at key
  exact key

/-- The first step of a copy that begins behind the writing place. -/
theorem WinB.wrap {g g' : Nat → UInt8} {wr d n : Nat} {H : List UInt8} (h : WinB g wr H) (hd : 1 ≤ d) (hH : d ≤ H.length) (h32 : d ≤ 32768) (hwr : wr < d) (hfit : wr + n ≤ 32768) (hn : n ≤ d - wr)
    (hnew : ∀ j, j < n → g' (wr + j) = g (wr + 32768 - d + j)) (hold : ∀ i, i < 32768 → i < wr ∨ wr + n ≤ i → g' i = g i) : WinB g' (wr + n) (lz H d n) := by
  have hl : (lzBytes H d n).length = n := by simp [lzBytes]
  have heq := h.eq
  have key := WinB.lay (g' := g') (vs := lzBytes H d n) h (by rw [hl]; omega) (fun j hj => by
    rw [hl] at hj
    rw [hnew j hj]
    have hidx : (H.length - d + j) % 32768 = wr + 32768 - d + j := by omega
    rw [← hidx, h.at_ _ (by omega) (by omega)]
    have e1 : (lzBytes H d n).getD j 0 = H.getD (H.length - d + j % d) 0 := by
      simp [lzBytes, List.getD_eq_getElem?_getD, List.getElem?_range hj]
    rw [e1, Nat.mod_eq_of_lt (show j < d by omega)])
    (fun i hi ho => by rw [hl] at ho; exact hold i hi ho)
  rw [hl] at key
  exact key

end Flate
