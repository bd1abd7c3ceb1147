/-
  PLAIN LEAN: how the table of a Huffman code is built out of the lengths of its codes.
-/
import Derived.Test.YthfncdfcklbigaaDoorModel
set_option linter.unusedVariables false
set_option linter.unusedSimpArgs false
namespace Flate

/-- n bits in the other order. -/
def revB : Nat → Nat → Nat
  | 0, _ => 0
  | n + 1, x => x % 2 * 2 ^ n + revB n (x / 2)

theorem revB_lt (n x : Nat) : revB n x < 2 ^ n := by
  induction n generalizing x with
  | zero => simp [revB]
  | succ n ih =>
    have := ih (x / 2)
    have h2 : x % 2 < 2 := Nat.mod_lt _ (by omega)
    rw [revB, Nat.pow_succ]
    have : x % 2 * 2 ^ n ≤ 1 * 2 ^ n := Nat.mul_le_mul_right _ (by omega)
    omega

theorem revB_div (n k x : Nat) : revB (n + k) x / 2 ^ k = revB n x := by
  induction n generalizing x with
  | zero => simp only [revB, Nat.zero_add]; exact Nat.div_eq_of_lt (revB_lt k x)
  | succ n ih =>
    rw [show n + 1 + k = (n + k) + 1 by omega, revB, revB, Nat.pow_add, ← Nat.mul_assoc, Nat.mul_comm (x % 2 * 2 ^ n) (2 ^ k), Nat.mul_add_div (Nat.two_pow_pos k), ih]

theorem revB_add (n k x : Nat) : revB (n + k) x = revB n x * 2 ^ k + revB k (x / 2 ^ n) := by
  induction n generalizing x with
  | zero => simp [revB]
  | succ n ih =>
    rw [show n + 1 + k = (n + k) + 1 by omega, revB, revB, ih, Nat.pow_add, Nat.add_mul, Nat.mul_assoc, Nat.div_div_eq_div_mul, Nat.pow_succ, Nat.mul_comm (2 ^ n) 2, Nat.add_assoc]

theorem revB_mod (n x : Nat) : revB n (x % 2 ^ n) = revB n x := by
  induction n generalizing x with
  | zero => rfl
  | succ n ih =>
    rw [revB, revB]
    have h1 : x % 2 ^ (n + 1) % 2 = x % 2 := by
      rw [Nat.pow_succ, Nat.mul_comm, Nat.mod_mul_right_mod]
    have h2 : x % 2 ^ (n + 1) / 2 = x / 2 % 2 ^ n := by
      rw [Nat.pow_succ, Nat.mul_comm, Nat.mod_mul_right_div_self]
    rw [h1, h2, ih]

/-- Turned round twice. -/
theorem revB_revB (n x : Nat) : revB n (revB n x) = x % 2 ^ n := by
  induction n generalizing x with
  | zero => simp [revB, Nat.mod_one]
  | succ n ih =>
    have hl := revB_lt n (x / 2)
    have e1 : (x % 2 * 2 ^ n + revB n (x / 2)) / 2 ^ n = x % 2 := by
      rw [Nat.mul_comm, Nat.mul_add_div (Nat.two_pow_pos n), Nat.div_eq_of_lt hl, Nat.add_zero]
    have e2 : (x % 2 * 2 ^ n + revB n (x / 2)) % 2 ^ n = revB n (x / 2) := by
      rw [Nat.mul_comm, Nat.mul_add_mod, Nat.mod_eq_of_lt hl]
    obtain ⟨y, hy⟩ : ∃ y, y = revB (n + 1) x := ⟨_, rfl⟩
    have hy' : y = x % 2 * 2 ^ n + revB n (x / 2) := hy
    rw [← hy' ] at e1 e2
    rw [← hy, revB_add n 1, ← revB_mod n y, e2, ih, revB, e1]
    simp only [revB, Nat.pow_zero, Nat.mul_one, Nat.add_zero, Nat.mod_mod]
    have e3 : x % 2 ^ (n + 1) = x % 2 + 2 * (x / 2 % 2 ^ n) := by rw [Nat.pow_succ, Nat.mul_comm (2 ^ n) 2, Nat.mod_mul]
    rw [e3]; omega

structure Cnt where
  min : Nat
  max : Nat
  count : List Nat

def cntStep (c : Cnt) (n : Nat) : Cnt :=
  if n = 0 then c else
    { min := if c.min = 0 ∨ n < c.min then n else c.min, max := if c.max < n then n else c.max, count := c.count.set n (c.count.getD n 0 + 1) }

def cnt0 : Cnt := ⟨0, 0, List.replicate 16 0⟩
def cntAll (lens : List Nat) : Cnt := lens.foldl cntStep cnt0

theorem getD_set (l : List Nat) (i j v : Nat) : (l.set i v).getD j 0 = if i = j ∧ i < l.length then v else l.getD j 0 := by
  simp only [List.getD_eq_getElem?_getD, List.getElem?_set]
  by_cases h : i = j
  · subst h
    by_cases h2 : i < l.length
    · simp [h2]
    · simp [h2]
  · simp [h]

/-- What counting keeps. -/
structure CntOK (c : Cnt) (k : Nat) : Prop where
  len : c.count.length = 16
  le : ∀ j, c.count.getD j 0 ≤ k
  min : c.min ≤ 15
  max : c.max ≤ 15

theorem cnt_step_ok {c : Cnt} {k n : Nat} (h : CntOK c k) (hn : n ≤ 15) : CntOK (cntStep c n) (k + 1) := by
  unfold cntStep
  split
  · exact ⟨h.len, fun j => Nat.le_succ_of_le (h.le j), h.min, h.max⟩
  · have hm := h.min
    have hx := h.max
    refine ⟨by simp [h.len], fun j => ?_, ?_, ?_⟩
    · simp only [getD_set]
      have := h.le n
      have := h.le j
      split <;> omega
    · simp only; split <;> omega
    · simp only; split <;> omega

theorem take_succ_fold (lens : List Nat) (k : Nat) (h : k < lens.length) : (lens.take (k + 1)).foldl cntStep cnt0 = cntStep ((lens.take k).foldl cntStep cnt0) (lens.getD k 0) := by
  rw [List.take_succ_eq_append_getElem h, List.foldl_append, List.getD_eq_getElem?_getD, List.getElem?_eq_getElem h]; rfl

theorem cnt_ok (lens : List Nat) (h15 : ∀ n ∈ lens, n ≤ 15) (k : Nat) (hk : k ≤ lens.length) : CntOK ((lens.take k).foldl cntStep cnt0) k := by
  induction k with
  | zero =>
    refine ⟨by simp [cnt0], fun j => ?_, by simp [cnt0], by simp [cnt0]⟩
    simp only [List.take_zero, List.foldl_nil, cnt0]
    rw [List.getD_eq_getElem?_getD, List.getElem?_replicate]; split <;> simp
  | succ k ih =>
    rw [take_succ_fold lens k hk]
    refine cnt_step_ok (ih (by omega)) ?_
    rw [List.getD_eq_getElem?_getD, List.getElem?_eq_getElem (show k < lens.length by omega)]
    exact h15 _ (List.getElem_mem _)

/-- The first codes of each length: k lengths from i on. -/
def nextFrom (count : List Nat) : Nat → Nat → Nat → List Nat → Nat × List Nat
  | 0, _, code, nx => (code, nx)
  | k + 1, i, code, nx => nextFrom count k (i + 1) (2 * code + count.getD i 0) (nx.set i (2 * code))

def nextAll (c : Cnt) : Nat × List Nat := nextFrom c.count (c.max + 1 - c.min) c.min 0 (List.replicate 16 0)

/-- The first k links. -/
def linkTo (link : Nat) (chunks : List Nat) : Nat → List Nat
  | 0 => chunks
  | k + 1 => (linkTo link chunks k).set (revB 9 (link + k)) (k * 16 + 10)

structure Bld where
  next : List Nat
  chunks : List Nat
  links : List (List Nat)

/-- Every step-th place from off on. -/
def stride (l : List Nat) (off step c : Nat) : List Nat := l.mapIdx fun p x => if off ≤ p ∧ (p - off) % step = 0 then c else x

/-- Symbol i, with a code of n bits; none: there is no such link. -/
def symStep (b : Bld) (i n : Nat) : Option Bld :=
  if n = 0 then some b else
    let code := b.next.getD n 0
    let next := b.next.set n (code + 1)
    let rev := revB n code
    if n ≤ 9 then some { b with next, chunks := stride b.chunks rev (2 ^ n) (i * 16 + n) }
    else
      let v := b.chunks.getD (rev % 512) 0 / 16
      if v < b.links.length then some { b with next, links := b.links.set v (stride (b.links.getD v []) (rev / 512) (2 ^ (n - 9)) (i * 16 + n)) } else none

theorem stride_len (l : List Nat) (off step c : Nat) : (stride l off step c).length = l.length := by unfold stride; simp
theorem stride_getD (l : List Nat) (off step c p : Nat) (hp : p < l.length) : (stride l off step c).getD p 0 = if off ≤ p ∧ (p - off) % step = 0 then c else l.getD p 0 := by
  unfold stride
  rw [List.getD_eq_getElem?_getD, List.getElem?_mapIdx, List.getD_eq_getElem?_getD, List.getElem?_eq_getElem hp]
  rfl

def symAll : Bld → Nat → List Nat → Option Bld
  | b, _, [] => some b
  | b, i, n :: l => (symStep b i n).bind fun b' => symAll b' (i + 1) l

theorem symAll_step {b : Bld} {k : Nat} {lens : List Nat} {T : Bld} (hk : k < lens.length) (h : symAll b k (lens.drop k) = some T) :
    ∃ b', symStep b k (lens.getD k 0) = some b' ∧ symAll b' (k + 1) (lens.drop (k + 1)) = some T := by
  rw [List.drop_eq_getElem_cons hk, symAll] at h
  rw [List.getD_eq_getElem?_getD, List.getElem?_eq_getElem hk]
  cases hs : symStep b k lens[k] with
  | none => rw [hs] at h; cases h
  | some b' => rw [hs] at h; exact ⟨b', hs, h⟩

def emptyTab : Tab := ⟨0, List.replicate 512 0, [], 0⟩

/-- Where the symbols begin. -/
def bld0 (max : Nat) (nx : List Nat) : Bld :=
  if 9 < max then { next := nx, chunks := linkTo (nx.getD 10 0 / 2) (List.replicate 512 0) (512 - nx.getD 10 0 / 2), links := List.replicate (512 - nx.getD 10 0 / 2) (List.replicate (2 ^ (max - 9)) 0) }
  else { next := nx, chunks := List.replicate 512 0, links := [] }

def mkTab (c : Cnt) (b : Bld) : Tab := { min := c.min, chunks := b.chunks, links := b.links, mask := if 9 < c.max then 2 ^ (c.max - 9) - 1 else 0 }

/-- The table of the lengths; none: an index is out of range; some none: the lengths are refused. -/
def initTab (lens : List Nat) : Option (Option Tab) :=
  let c := cntAll lens
  if c.max = 0 then some (some emptyTab)
  else
    let cn := nextAll c
    if cn.1 ≠ 2 ^ c.max ∧ ¬ (cn.1 = 1 ∧ c.max = 1) then some none
    else if 9 < c.max ∧ 512 ≤ cn.2.getD 10 0 / 2 then none
    else match symAll (bld0 c.max cn.2) 0 lens with
      | none => none
      | some b => some (some (mkTab c b))

theorem initTab_empty {lens : List Nat} {c : Cnt} (hc : c = cntAll lens) (h0 : c.max = 0) : initTab lens = some (some emptyTab) := by
  subst hc; unfold initTab; simp only [h0, if_true]

theorem initTab_bad {lens : List Nat} {c : Cnt} {x : Nat} {nx : List Nat} (hc : c = cntAll lens) (h0 : ¬ c.max = 0) (hn : nextAll c = (x, nx)) (hd : true = decide (x ≠ 2 ^ c.max ∧ ¬ (x = 1 ∧ c.max = 1))) : initTab lens = some none := by
  subst hc
  have hd := of_decide_eq_true hd.symm
  unfold initTab
  simp only [hn]
  rw [if_neg h0, if_pos hd]

theorem initTab_go {lens : List Nat} {c : Cnt} {x : Nat} {nx : List Nat} (hc : c = cntAll lens) (h0 : ¬ c.max = 0) (hn : nextAll c = (x, nx)) (hd : false = decide (x ≠ 2 ^ c.max ∧ ¬ (x = 1 ∧ c.max = 1))) (hnp : initTab lens ≠ none) :
    (9 < c.max → nx.getD 10 0 / 2 < 512) ∧ ∃ b, symAll (bld0 c.max nx) 0 lens = some b ∧ initTab lens = some (some (mkTab c b)) := by
  subst hc
  have hd := of_decide_eq_false hd.symm
  unfold initTab at hnp ⊢
  simp only [hn] at hnp ⊢
  rw [if_neg h0, if_neg hd] at hnp ⊢
  by_cases h : 9 < (cntAll lens).max ∧ 512 ≤ nx.getD 10 0 / 2
  · rw [if_pos h] at hnp; exact absurd rfl hnp
  · rw [if_neg h] at hnp ⊢
    refine ⟨fun h9 => by omega, ?_⟩
    cases hs : symAll (bld0 (cntAll lens).max nx) 0 lens with
    | none => rw [hs] at hnp; exact absurd rfl hnp
    | some b => exact ⟨b, rfl, rfl⟩

/-- The lengths of the fixed code. -/
def fixedLens : List Nat := List.replicate 144 8 ++ List.replicate 112 9 ++ List.replicate 24 7 ++ List.replicate 8 8

end Flate
