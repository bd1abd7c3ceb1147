/-
  PLAIN LEAN: a table out of lengths of at most 15 bits is built without a fault, and is one that may be looked up. (Kraft's sum.)
-/
import Derived.Test.YthfncdfcklbigaaDoorTab
set_option linter.unusedVariables false
set_option linter.unusedSimpArgs false
namespace Flate

/-! ### Counts -/

theorem cnt_fold (lens : List Nat) : ∀ c : Cnt, c.count.length = 16 →
    (lens.foldl cntStep c).count.length = 16 ∧
    (∀ n, n < 16 → n ≠ 0 → (lens.foldl cntStep c).count.getD n 0 = c.count.getD n 0 + lens.count n) ∧
    c.max ≤ (lens.foldl cntStep c).max ∧ (∀ n ∈ lens, n ≤ (lens.foldl cntStep c).max) ∧ ((lens.foldl cntStep c).max = c.max ∨ (lens.foldl cntStep c).max ∈ lens) ∧
    (c.min ≠ 0 → (lens.foldl cntStep c).min ≠ 0 ∧ (lens.foldl cntStep c).min ≤ c.min) ∧ (∀ n ∈ lens, n ≠ 0 → (lens.foldl cntStep c).min ≠ 0 ∧ (lens.foldl cntStep c).min ≤ n) := by
  induction lens with
  | nil => intro c hc; exact ⟨hc, fun n _ _ => by simp, Nat.le_refl _, fun n h => absurd h (by simp), .inl rfl, fun h => ⟨h, Nat.le_refl _⟩, fun n h => absurd h (by simp)⟩
  | cons x l ih =>
    intro c hc
    have hl : (cntStep c x).count.length = 16 := by unfold cntStep; split <;> simp [hc]
    obtain ⟨i1, i2, i3, i4, i5, i6, i7⟩ := ih (cntStep c x) hl
    have hx : c.max ≤ (cntStep c x).max ∧ (x ≤ (cntStep c x).max) ∧ ((cntStep c x).max = c.max ∨ (cntStep c x).max = x) := by
      unfold cntStep
      split
      · exact ⟨Nat.le_refl _, by omega, .inl rfl⟩
      · simp only
        split
        · exact ⟨by omega, by omega, .inr rfl⟩
        · exact ⟨by omega, by omega, .inl rfl⟩
    have hm : (c.min ≠ 0 → (cntStep c x).min ≠ 0 ∧ (cntStep c x).min ≤ c.min) ∧ (x ≠ 0 → (cntStep c x).min ≠ 0 ∧ (cntStep c x).min ≤ x) := by
      unfold cntStep
      split
      · exact ⟨fun h => ⟨h, Nat.le_refl _⟩, fun h => absurd (by assumption) h⟩
      · simp only
        split
        · exact ⟨fun h => by omega, fun h => by omega⟩
        · exact ⟨fun h => by omega, fun h => by omega⟩
    simp only [List.foldl_cons]
    refine ⟨i1, fun n h1 h2 => ?_, by omega, fun n hn => ?_, ?_, fun h => ?_, fun n hn h => ?_⟩
    · rw [i2 n h1 h2, List.count_cons]
      unfold cntStep
      by_cases h0 : x = 0
      · rw [if_pos h0, if_neg (by simp; omega)]; omega
      · rw [if_neg h0]
        simp only [getD_set]
        by_cases e : x = n
        · subst e
          rw [if_pos ⟨rfl, by omega⟩, if_pos (by simp)]; omega
        · rw [if_neg (fun q => e q.1), if_neg (by simp [e])]; omega
    · rcases List.mem_cons.1 hn with rfl | hn
      · omega
      · exact i4 n hn
    · rcases i5 with e | e
      · rcases hx.2.2 with q | q
        · left; omega
        · right; rw [e, q]; exact List.mem_cons_self
      · right; exact List.mem_cons_of_mem _ e
    · have a := hm.1 h; have b := i6 a.1; exact ⟨b.1, by omega⟩
    · rcases List.mem_cons.1 hn with rfl | hn
      · have a := hm.2 h; have b := i6 a.1; exact ⟨b.1, by omega⟩
      · exact i7 n hn h

/-- What the counts say. -/
structure CntFacts (lens : List Nat) (c : Cnt) : Prop where
  len : c.count.length = 16
  count : ∀ n, n < 16 → n ≠ 0 → c.count.getD n 0 = lens.count n
  le : ∀ n ∈ lens, n ≤ c.max
  mem : c.max = 0 ∨ c.max ∈ lens
  min : ∀ n ∈ lens, n ≠ 0 → c.min ≠ 0 ∧ c.min ≤ n

theorem cnt_facts (lens : List Nat) : CntFacts lens (cntAll lens) := by
  obtain ⟨h1, h2, _, h4, h5, _, h7⟩ := cnt_fold lens cnt0 (by simp [cnt0])
  refine ⟨h1, fun n a b => ?_, h4, h5, h7⟩
  show (lens.foldl cntStep cnt0).count.getD n 0 = _
  rw [h2 n a b]
  have : cnt0.count.getD n 0 = 0 := by
    unfold cnt0
    rw [List.getD_eq_getElem?_getD, List.getElem?_replicate]; split <;> rfl
  omega

/-! ### First codes -/

/-- The codes that are used up to a length. -/
def Ck (count : List Nat) : Nat → Nat
  | 0 => 0
  | i + 1 => 2 * Ck count i + count.getD (i + 1) 0

theorem nextFrom_spec (count : List Nat) (k : Nat) : ∀ (i : Nat) (nx : List Nat), 1 ≤ i → i + k ≤ 16 → nx.length = 16 →
    ∃ nx', nextFrom count k i (Ck count (i - 1)) nx = (Ck count (i + k - 1), nx') ∧ nx'.length = 16 ∧ ∀ j, nx'.getD j 0 = if i ≤ j ∧ j < i + k then 2 * Ck count (j - 1) else nx.getD j 0 := by
  induction k with
  | zero => intro i nx h1 _ hl; exact ⟨nx, rfl, hl, fun j => by rw [if_neg (by omega)]⟩
  | succ k ih =>
    intro i nx h1 hk hl
    obtain ⟨nx', e1, e2, e3⟩ := ih (i + 1) (nx.set i (2 * Ck count (i - 1))) (by omega) (by omega) (by simp [hl])
    have hc : 2 * Ck count (i - 1) + count.getD i 0 = Ck count (i + 1 - 1) := by
      obtain ⟨q, rfl⟩ : ∃ q, i = q + 1 := ⟨i - 1, by omega⟩
      rfl
    refine ⟨nx', ?_, e2, fun j => ?_⟩
    · rw [nextFrom, hc, e1]; congr 2; omega
    · rw [e3 j, getD_set]
      by_cases ha : i + 1 ≤ j ∧ j < i + 1 + k
      · rw [if_pos ha, if_pos (by omega)]
      · rw [if_neg ha]
        by_cases hb : i = j
        · subst hb; rw [if_pos ⟨rfl, by omega⟩, if_pos (by omega)]
        · rw [if_neg (fun q => hb q.1), if_neg (by omega)]

theorem Ck_mono (count : List Nat) (i d : Nat) : Ck count i * 2 ^ d ≤ Ck count (i + d) := by
  induction d with
  | zero => simp
  | succ d ih =>
    rw [Nat.pow_succ, ← Nat.mul_assoc, ← Nat.add_assoc, Ck]
    omega

theorem Ck_zero {count : List Nat} {m : Nat} (h : ∀ j, 1 ≤ j → j < m → count.getD j 0 = 0) : ∀ i, i < m → Ck count i = 0 := by
  intro i
  induction i with
  | zero => intro _; rfl
  | succ i ih => intro hi; rw [Ck, ih (by omega), h (i + 1) (by omega) hi]

/-- What the first codes are, for lengths that are not refused. -/
structure CodeFacts (lens : List Nat) (c : Cnt) (nx : List Nat) : Prop where
  len : nx.length = 16
  nx : ∀ n, 1 ≤ n → n ≤ c.max → nx.getD n 0 = 2 * Ck c.count (n - 1)
  le : ∀ n, n ≤ c.max → Ck c.count n ≤ 2 ^ n
  few : 9 < c.max → Ck c.count 9 < 512

theorem code_facts {lens : List Nat} (h15 : ∀ n ∈ lens, n ≤ 15) {x : Nat} {nx : List Nat} (h0 : (cntAll lens).max ≠ 0) (hn : nextAll (cntAll lens) = (x, nx)) (hok : ¬ (x ≠ 2 ^ (cntAll lens).max ∧ ¬ (x = 1 ∧ (cntAll lens).max = 1))) :
    CodeFacts lens (cntAll lens) nx := by
  have hc := cnt_facts lens
  generalize cntAll lens = c at *
  have hmem : c.max ∈ lens := by rcases hc.mem with e | e; exact absurd e h0; exact e
  have hmax : c.max ≤ 15 := h15 _ hmem
  obtain ⟨hmin0, hminle⟩ := hc.min _ hmem h0
  have hz : ∀ i, i < c.min → Ck c.count i = 0 := Ck_zero fun j h1 h2 => by
    rw [hc.count j (by omega) (by omega)]
    refine List.count_eq_zero.2 fun hj => ?_
    have := (hc.min j hj (by omega)).2; omega
  unfold nextAll at hn
  obtain ⟨nx', e1, e2, e3⟩ := nextFrom_spec c.count (c.max + 1 - c.min) c.min (List.replicate 16 0) (by omega) (by omega) (by simp)
  rw [hz (c.min - 1) (by omega), hn] at e1
  obtain ⟨rfl, rfl⟩ := Prod.mk.injEq .. ▸ e1
  have hxm : c.min + (c.max + 1 - c.min) - 1 = c.max := by omega
  rw [hxm] at hok
  have hcm : 1 ≤ c.count.getD c.max 0 := by
    rw [hc.count _ (by omega) h0]; exact List.count_pos_iff.2 hmem
  have hle : ∀ n, n ≤ c.max → Ck c.count n ≤ 2 ^ n := by
    intro n hnm
    by_cases hA : Ck c.count c.max = 2 ^ c.max
    · have := Ck_mono c.count n (c.max - n)
      rw [show n + (c.max - n) = c.max by omega, hA] at this
      have e : 2 ^ c.max = 2 ^ n * 2 ^ (c.max - n) := by rw [← Nat.pow_add]; congr 1; omega
      rw [e] at this
      exact Nat.le_of_mul_le_mul_right this (Nat.two_pow_pos _)
    · have hB : Ck c.count c.max = 1 ∧ c.max = 1 := by
        by_cases hB : Ck c.count c.max = 1 ∧ c.max = 1
        · exact hB
        · exact absurd ⟨hA, hB⟩ hok
      have : n = 0 ∨ n = 1 := by omega
      rcases this with rfl | rfl
      · simp [Ck]
      · rw [← hB.2, hB.1]; exact Nat.one_le_two_pow
  refine ⟨e2, fun n h1 h2 => ?_, hle, fun h9 => ?_⟩
  · rw [e3 n]
    by_cases hn : c.min ≤ n
    · rw [if_pos (by omega)]
    · rw [if_neg (by omega), hz (n - 1) (by omega)]
      rw [List.getD_eq_getElem?_getD, List.getElem?_replicate]; split <;> rfl
  · have hA : Ck c.count c.max = 2 ^ c.max := by
      by_cases hA : Ck c.count c.max = 2 ^ c.max
      · exact hA
      · exact absurd ⟨hA, fun q => by omega⟩ hok
    obtain ⟨M, hM⟩ : ∃ M, c.max = M + 1 := ⟨c.max - 1, by omega⟩
    rw [hM] at hA hcm
    rw [Ck, Nat.pow_succ] at hA
    have := Ck_mono c.count 9 (M - 9)
    rw [show 9 + (M - 9) = M by omega] at this
    have h2 : Ck c.count M < 2 ^ M := by omega
    have e : 2 ^ M = 2 ^ 9 * 2 ^ (M - 9) := by rw [← Nat.pow_add]; congr 1; omega
    rw [e] at h2
    exact Nat.lt_of_mul_lt_mul_right (Nat.lt_of_le_of_lt this h2)

/-! ### The symbols are laid -/

theorem stride_iff {rev p s : Nat} (hr : rev < s) : (rev ≤ p ∧ (p - rev) % s = 0) ↔ p % s = rev := by
  constructor
  · rintro ⟨h1, h2⟩
    obtain ⟨q, hq⟩ : ∃ q, p - rev = s * q := ⟨(p - rev) / s, by have := Nat.div_add_mod (p - rev) s; omega⟩
    have : p = rev + s * q := by omega
    rw [this, Nat.add_mul_mod_self_left, Nat.mod_eq_of_lt hr]
  · intro h
    have h1 := Nat.div_add_mod p s
    rw [h] at h1
    refine ⟨by omega, ?_⟩
    have : p - rev = s * (p / s) := by omega
    rw [this]; exact Nat.mul_mod_right _ _

theorem revB_mod_lt {n m x : Nat} (h : n ≤ m) : x % 2 ^ m % 2 ^ n = x % 2 ^ n := Nat.mod_mod_of_dvd _ (Nat.pow_dvd_pow 2 h)

/-- A place that a short code turns is one of that code. -/
theorem rev_short {n cd i : Nat} (hn : n ≤ 9) (hcd : cd < 2 ^ n) (h : i % 2 ^ n = revB n cd) : revB 9 i < (cd + 1) * 2 ^ (9 - n) := by
  have h1 : revB (n + (9 - n)) i / 2 ^ (9 - n) = revB n i := revB_div n (9 - n) i
  rw [show n + (9 - n) = 9 by omega] at h1
  have h2 : revB n i = cd := by
    rw [← revB_mod, h, revB_revB, Nat.mod_eq_of_lt hcd]
  rw [h2] at h1
  have := (Nat.div_lt_iff_lt_mul (Nat.two_pow_pos (9 - n))).1 (show revB 9 i / 2 ^ (9 - n) < cd + 1 by omega)
  exact this

/-- An entry that is a symbol's. -/
def SymE (S lo hi x : Nat) : Prop := x = 0 ∨ ∃ s n, s < S ∧ lo ≤ n ∧ n ≤ hi ∧ x = s * 16 + n

structure BInv (lens : List Nat) (c : Cnt) (link LN m : Nat) (k : Nat) (b : Bld) : Prop where
  nlen : b.next.length = 16
  next : ∀ n, 1 ≤ n → n ≤ c.max → b.next.getD n 0 = 2 * Ck c.count (n - 1) + (lens.take k).count n
  clen : b.chunks.length = 512
  llen : b.links.length = LN
  big : ∀ v, v < LN → b.chunks.getD (revB 9 (link + v)) 0 = v * 16 + 10
  small : ∀ i, i < 512 → (LN = 0 ∨ revB 9 i < link) → SymE lens.length 1 9 (b.chunks.getD i 0)
  rows : ∀ l ∈ b.links, l.length = m ∧ ∀ j, j < m → SymE lens.length 10 15 (l.getD j 0)

/-- The numbers that go with the lengths. -/
structure Dims (c : Cnt) (link LN : Nat) : Prop where
  lk : link = Ck c.count 9
  few : LN = 0 ∧ c.max ≤ 9 ∨ 9 < c.max ∧ link + LN = 512 ∧ 0 < LN

theorem binv_step {lens : List Nat} {c : Cnt} {nx : List Nat} {link LN m k : Nat} {b : Bld} (hc : CntFacts lens c) (hf : CodeFacts lens c nx) (h15 : c.max ≤ 15) (hd : Dims c link LN)
    (h : BInv lens c link LN m k b) (hk : k < lens.length) : ∃ b', symStep b k (lens.getD k 0) = some b' ∧ BInv lens c link LN m (k + 1) b' := by
  obtain ⟨n, hn⟩ : ∃ n, n = lens.getD k 0 := ⟨_, rfl⟩
  have hnk : lens[k] = n := by rw [hn, List.getD_eq_getElem?_getD, List.getElem?_eq_getElem hk]; rfl
  have hmem : n ∈ lens := by rw [← hnk]; exact List.getElem_mem hk
  have htk : ∀ j, (lens.take (k + 1)).count j = (lens.take k).count j + if n = j then 1 else 0 := by
    intro j
    rw [List.take_succ_eq_append_getElem hk, List.count_append, hnk, List.count_singleton]
    simp
  rw [← hn]
  by_cases h0 : n = 0
  · subst h0
    refine ⟨b, by unfold symStep; rw [if_pos rfl], h.nlen, fun j h1 h2 => ?_, h.clen, h.llen, h.big, h.small, h.rows⟩
    rw [htk, if_neg (by omega)]; exact h.next j h1 h2
  have hnm : n ≤ c.max := hc.le n hmem
  obtain ⟨cd, hcd⟩ : ∃ cd, cd = b.next.getD n 0 := ⟨_, rfl⟩
  have hcde := h.next n (by omega) hnm
  have hlt : cd + 1 ≤ Ck c.count n := by
    have h1 : (lens.take (k + 1)).count n ≤ lens.count n := by
      conv => rhs; rw [← List.take_append_drop (k + 1) lens, List.count_append]
      omega
    rw [htk, if_pos rfl] at h1
    obtain ⟨q, rfl⟩ : ∃ q, n = q + 1 := ⟨n - 1, by omega⟩
    rw [Ck, hc.count _ (by omega) (by omega)]
    simp only [Nat.add_sub_cancel] at hcde
    omega
  have hcdn : cd < 2 ^ n := by have := hf.le n hnm; omega
  have hnext : ∀ j, 1 ≤ j → j ≤ c.max → (b.next.set n (cd + 1)).getD j 0 = 2 * Ck c.count (j - 1) + (lens.take (k + 1)).count j := by
    intro j h1 h2
    rw [getD_set, htk]
    by_cases e : n = j
    · subst e; rw [if_pos ⟨rfl, by rw [h.nlen]; omega⟩, if_pos rfl]; omega
    · rw [if_neg (fun q => e q.1), if_neg e]; exact h.next j h1 h2
  unfold symStep
  rw [if_neg h0, ← hcd]
  simp only
  by_cases h9 : n ≤ 9
  · rw [if_pos h9]
    have hrl : revB n cd < 2 ^ n := revB_lt n cd
    have hst : ∀ i, i < 512 → (stride b.chunks (revB n cd) (2 ^ n) (k * 16 + n)).getD i 0 = if i % 2 ^ n = revB n cd then k * 16 + n else b.chunks.getD i 0 := by
      intro i hi
      rw [stride_getD _ _ _ _ _ (by rw [h.clen]; exact hi)]
      by_cases e : i % 2 ^ n = revB n cd
      · rw [if_pos e, if_pos ((stride_iff hrl).2 e)]
      · rw [if_neg e, if_neg (fun q => e ((stride_iff hrl).1 q))]
    refine ⟨_, rfl, by simp [h.nlen], hnext, by simp [stride_len, h.clen], h.llen, fun v hv => ?_, fun i hi hl => ?_, h.rows⟩
    · simp only
      rw [hst _ (revB_lt 9 _), if_neg, h.big v hv]
      intro e
      have h1 := rev_short h9 hcdn e
      rcases hd.few with ⟨q, _⟩ | ⟨q1, q2, _⟩
      · omega
      · rw [revB_revB, Nat.mod_eq_of_lt (by omega)] at h1
        have h2 := Ck_mono c.count n (9 - n)
        rw [show n + (9 - n) = 9 by omega, ← hd.lk] at h2
        have h3 : (cd + 1) * 2 ^ (9 - n) ≤ Ck c.count n * 2 ^ (9 - n) := Nat.mul_le_mul_right _ hlt
        omega
    · simp only
      rw [hst i hi]
      split
      · exact .inr ⟨k, n, hk, by omega, h9, rfl⟩
      · exact h.small i hi hl
  · rw [if_neg h9]
    have hnd : n = (n - 9) + 9 := by omega
    have hpre : cd / 2 ^ (n - 9) < 512 ∧ link ≤ cd / 2 ^ (n - 9) := by
      constructor
      · refine (Nat.div_lt_iff_lt_mul (Nat.two_pow_pos _)).2 ?_
        have : 512 * 2 ^ (n - 9) = 2 ^ n := by rw [show 512 = 2 ^ 9 from rfl, ← Nat.pow_add]; congr 1; omega
        omega
      · refine (Nat.le_div_iff_mul_le (Nat.two_pow_pos _)).2 ?_
        have h2 := Ck_mono c.count 9 (n - 1 - 9)
        rw [show 9 + (n - 1 - 9) = n - 1 by omega] at h2
        have e : 2 ^ (n - 9) = 2 * 2 ^ (n - 1 - 9) := by rw [Nat.mul_comm, ← Nat.pow_succ]; congr 1; omega
        rw [e, hd.lk, ← Nat.mul_assoc, Nat.mul_comm (Ck c.count 9) 2, Nat.mul_assoc]
        omega
    have hrev : revB n cd % 512 = revB 9 (cd / 2 ^ (n - 9)) := by
      conv => lhs; rw [hnd, revB_add]
      rw [Nat.mul_comm, show (2 : Nat) ^ 9 = 512 from rfl, Nat.mul_add_mod]
      exact Nat.mod_eq_of_lt (revB_lt 9 _)
    have hLN : link + LN = 512 := by
      rcases hd.few with ⟨_, q⟩ | ⟨_, q2, _⟩
      · omega
      · exact q2
    have hbig := h.big (cd / 2 ^ (n - 9) - link) (by omega)
    rw [show link + (cd / 2 ^ (n - 9) - link) = cd / 2 ^ (n - 9) by omega] at hbig
    rw [hrev, hbig]
    have hv : ((cd / 2 ^ (n - 9) - link) * 16 + 10) / 16 = cd / 2 ^ (n - 9) - link := by omega
    rw [hv, if_pos (by rw [h.llen]; omega)]
    refine ⟨_, rfl, by simp [h.nlen], hnext, h.clen, by simp [h.llen], h.big, h.small, fun l hl => ?_⟩
    simp only at hl
    rcases List.mem_or_eq_of_mem_set hl with hl | rfl
    · exact h.rows l hl
    · have hvl : cd / 2 ^ (n - 9) - link < b.links.length := by rw [h.llen]; omega
      have hmemr : b.links.getD (cd / 2 ^ (n - 9) - link) [] ∈ b.links := by
        rw [List.getD_eq_getElem?_getD, List.getElem?_eq_getElem hvl]; exact List.getElem_mem hvl
      obtain ⟨r1, r2⟩ := h.rows _ hmemr
      refine ⟨by rw [stride_len]; exact r1, fun j hj => ?_⟩
      rw [stride_getD _ _ _ _ _ (by rw [r1]; exact hj)]
      split
      · exact .inr ⟨k, n, hk, by omega, by omega, rfl⟩
      · exact r2 j hj

theorem binv_all {lens : List Nat} {c : Cnt} {nx : List Nat} {link LN m : Nat} (hc : CntFacts lens c) (hf : CodeFacts lens c nx) (h15 : c.max ≤ 15) (hd : Dims c link LN) (d : Nat) :
    ∀ {k : Nat} {b : Bld}, k + d = lens.length → BInv lens c link LN m k b → ∃ b', symAll b k (lens.drop k) = some b' ∧ BInv lens c link LN m lens.length b' := by
  induction d with
  | zero =>
    intro k b hk h
    obtain rfl : k = lens.length := by omega
    exact ⟨b, by rw [List.drop_length]; rfl, h⟩
  | succ d ih =>
    intro k b hk h
    have hlt : k < lens.length := by omega
    obtain ⟨b', h1, h2⟩ := binv_step hc hf h15 hd h hlt
    obtain ⟨b2, h3, h4⟩ := ih (by omega) h2
    refine ⟨b2, ?_, h4⟩
    rw [List.getD_eq_getElem?_getD, List.getElem?_eq_getElem hlt] at h1
    rw [List.drop_eq_getElem_cons hlt, symAll]
    rw [show symStep b k lens[k] = some b' from h1]
    exact h3

theorem linkTo_length (q : Nat) (l : List Nat) (k : Nat) : (linkTo q l k).length = l.length := by
  induction k with
  | zero => rfl
  | succ k ih => rw [linkTo, List.length_set, ih]

theorem linkTo_getD (link : Nat) (k : Nat) : ∀ i, i < 512 → link + k ≤ 512 → (linkTo link (List.replicate 512 0) k).getD i 0 = if link ≤ revB 9 i ∧ revB 9 i < link + k then (revB 9 i - link) * 16 + 10 else 0 := by
  induction k with
  | zero =>
    intro i hi _
    rw [if_neg (by omega), linkTo, List.getD_eq_getElem?_getD, List.getElem?_replicate]; split <;> rfl
  | succ k ih =>
    intro i hi hk
    have hi2 : revB 9 (revB 9 i) = i := by rw [revB_revB, Nat.mod_eq_of_lt hi]
    have hk2 : revB 9 (revB 9 (link + k)) = link + k := by rw [revB_revB, Nat.mod_eq_of_lt (by omega)]
    rw [linkTo, getD_set, linkTo_length, ih i hi (by omega)]
    by_cases e : revB 9 (link + k) = i
    · rw [if_pos ⟨e, by rw [e, List.length_replicate]; exact hi⟩]
      have : revB 9 i = link + k := by rw [← e]; exact hk2
      rw [this, if_pos (by omega)]; omega
    · rw [if_neg (fun q => e q.1)]
      have : revB 9 i ≠ link + k := fun q => e (by rw [← q]; exact hi2)
      by_cases h : link ≤ revB 9 i ∧ revB 9 i < link + k
      · rw [if_pos h, if_pos (by omega)]
      · rw [if_neg h, if_neg (by omega)]

/-- Every entry that is looked up is a symbol's, or empty. -/
def Tab.Sym (T : Tab) (S : Nat) : Prop := ∀ x, T.look x % 16 = 0 ∨ T.look x / 16 < S

/-- A table out of lengths. -/
theorem initTab_law {lens : List Nat} (h15 : ∀ n ∈ lens, n ≤ 15) (hlen : lens.length ≤ 320) : initTab lens ≠ none ∧ ∀ T, initTab lens = some (some T) → T.OK ∧ T.Sym lens.length := by
  have rep0 : ∀ n i : Nat, (List.replicate n 0).getD i 0 = 0 := fun n i => by
    rw [List.getD_eq_getElem?_getD, List.getElem?_replicate]; split <;> rfl
  have hempty : emptyTab.OK ∧ emptyTab.Sym lens.length := by
    refine ⟨⟨List.length_replicate, Nat.zero_le _, fun i => ?_, fun i h => ?_, fun l hl => absurd hl List.not_mem_nil, fun l hl => absurd hl List.not_mem_nil, (by decide : 0 < 2 ^ 32), Nat.zero_le _, fun h => absurd rfl h⟩, fun x => .inl ?_⟩
    · rw [show emptyTab.chunks.getD i 0 = 0 from rep0 512 i]; decide
    · rw [show emptyTab.chunks.getD i 0 = 0 from rep0 512 i] at h; omega
    · unfold Tab.look
      rw [show emptyTab.chunks.getD (x % 512) 0 = 0 from rep0 512 _]; rfl
  obtain ⟨c, hcc⟩ : ∃ c, c = cntAll lens := ⟨_, rfl⟩
  by_cases h0 : c.max = 0
  · rw [initTab_empty hcc h0]
    exact ⟨by simp, fun T hT => by obtain rfl := Option.some.inj (Option.some.inj hT); exact hempty⟩
  obtain ⟨x, nx, hn⟩ : ∃ x nx, nextAll c = (x, nx) := ⟨_, _, rfl⟩
  by_cases hok : x ≠ 2 ^ c.max ∧ ¬ (x = 1 ∧ c.max = 1)
  · rw [initTab_bad hcc h0 hn (by simp [hok])]
    exact ⟨by simp, fun T hT => by simp at hT⟩
  have hc := cnt_facts lens
  have hf := code_facts h15 (hcc ▸ h0) (hcc ▸ hn) (hcc ▸ hok)
  rw [← hcc] at hc hf
  have hmax : c.max ≤ 15 := h15 _ (by rcases hc.mem with e | e; exact absurd e h0; exact e)
  have hl10 : 9 < c.max → nx.getD 10 0 / 2 = Ck c.count 9 := fun h9 => by rw [hf.nx 10 (by omega) (by omega)]; exact Nat.mul_div_cancel_left _ (by omega)
  have hd : Dims c (Ck c.count 9) (if 9 < c.max then 512 - Ck c.count 9 else 0) := by
    refine ⟨rfl, ?_⟩
    by_cases h9 : 9 < c.max
    · rw [if_pos h9]; have := hf.few h9; exact .inr ⟨h9, by omega, by omega⟩
    · rw [if_neg h9]; exact .inl ⟨rfl, by omega⟩
  have hnext0 : ∀ n, 1 ≤ n → n ≤ c.max → nx.getD n 0 = 2 * Ck c.count (n - 1) + (lens.take 0).count n := by
    intro n h1 h2; rw [hf.nx n h1 h2]; simp
  have hstart : BInv lens c (Ck c.count 9) (if 9 < c.max then 512 - Ck c.count 9 else 0) (2 ^ (c.max - 9)) 0 (bld0 c.max nx) := by
    by_cases h9 : 9 < c.max
    · have hfew := hf.few h9
      have hb : bld0 c.max nx = { next := nx, chunks := linkTo (Ck c.count 9) (List.replicate 512 0) (512 - Ck c.count 9), links := List.replicate (512 - Ck c.count 9) (List.replicate (2 ^ (c.max - 9)) 0) } := by
        unfold bld0; rw [if_pos h9, hl10 h9]
      rw [hb, if_pos h9]
      refine ⟨hf.len, hnext0, by rw [linkTo_length, List.length_replicate], List.length_replicate, fun v hv => ?_, fun i hi hl => ?_, fun l hl => ?_⟩
      · simp only
        rw [linkTo_getD _ _ _ (revB_lt 9 _) (by omega), revB_revB, Nat.mod_eq_of_lt (by omega), if_pos (by omega)]; omega
      · simp only
        rw [linkTo_getD _ _ _ hi (by omega), if_neg (by omega)]; exact .inl rfl
      · simp only [List.mem_replicate] at hl
        rw [hl.2]
        exact ⟨by simp, fun j _ => .inl (rep0 _ _)⟩
    · have hb : bld0 c.max nx = { next := nx, chunks := List.replicate 512 0, links := [] } := by unfold bld0; rw [if_neg h9]
      rw [hb, if_neg h9]
      exact ⟨hf.len, hnext0, List.length_replicate, rfl, fun v hv => absurd hv (by omega), fun i _ _ => .inl (rep0 _ _), fun l hl => absurd hl List.not_mem_nil⟩
  obtain ⟨b, hb1, hb2⟩ := binv_all hc hf hmax hd lens.length (k := 0) (by omega) hstart
  rw [List.drop_zero] at hb1
  have hres : initTab lens = some (some (mkTab c b)) := by
    unfold initTab
    rw [← hcc]
    simp only [hn]
    rw [if_neg h0, if_neg hok, if_neg (fun q => by have := hf.few q.1; rw [hl10 q.1] at q; omega), hb1]
  rw [hres]
  refine ⟨by simp, fun T hT => ?_⟩
  obtain rfl := Option.some.inj (Option.some.inj hT)
  have hcm : ∀ i, 512 ≤ i → b.chunks.getD i 0 = 0 := fun i hi => by
    rw [List.getD_eq_getElem?_getD, List.getElem?_eq_none (by rw [hb2.clen]; exact hi)]; rfl
  -- every chunk is a symbol's or a link
  have hall : ∀ i, SymE lens.length 1 9 (b.chunks.getD i 0) ∨ ∃ v, v < b.links.length ∧ v < 512 ∧ b.chunks.getD i 0 = v * 16 + 10 := by
    intro i
    by_cases hi : i < 512
    · by_cases hs : (if 9 < c.max then 512 - Ck c.count 9 else 0) = 0 ∨ revB 9 i < Ck c.count 9
      · exact .inl (hb2.small i hi hs)
      · refine .inr ⟨revB 9 i - Ck c.count 9, ?_, ?_, ?_⟩
        · rw [hb2.llen]
          have := revB_lt 9 i
          rcases hd.few with q | q <;> omega
        · have := revB_lt 9 i; omega
        · have := revB_lt 9 i
          rw [← hb2.big (revB 9 i - Ck c.count 9) (by rcases hd.few with q | q <;> omega)]
          congr 1
          rw [show Ck c.count 9 + (revB 9 i - Ck c.count 9) = revB 9 i by omega, revB_revB, Nat.mod_eq_of_lt hi]
    · exact .inl (.inl (hcm i (by omega)))
  have hmask : (mkTab c b).mask + 1 = 2 ^ (c.max - 9) := by
    unfold mkTab; simp only
    have := Nat.two_pow_pos (c.max - 9)
    split
    · omega
    · rw [show c.max - 9 = 0 by omega]
  have hp6 : 2 ^ (c.max - 9) ≤ 2 ^ 6 := Nat.pow_le_pow_right (by omega) (by omega)
  have hmin : c.min ≤ 15 := by
    have hmem : c.max ∈ lens := by rcases hc.mem with e | e; exact absurd e h0; exact e
    have := (hc.min _ hmem h0).2; omega
  have hrow : ∀ l ∈ b.links, ∀ j, SymE lens.length 10 15 (l.getD j 0) := by
    intro l hl j
    obtain ⟨r1, r2⟩ := hb2.rows l hl
    by_cases hj : j < 2 ^ (c.max - 9)
    · exact r2 j hj
    · left; rw [List.getD_eq_getElem?_getD, List.getElem?_eq_none (by omega)]; rfl
  have hlk : ∀ v, b.links.getD v [] ∈ b.links ∨ b.links.getD v [] = [] := by
    intro v
    rw [List.getD_eq_getElem?_getD]
    by_cases hi : v < b.links.length
    · rw [List.getElem?_eq_getElem hi]; exact .inl (List.getElem_mem hi)
    · rw [List.getElem?_eq_none (by omega)]; exact .inr rfl
  refine ⟨⟨hb2.clen, hmin, fun i => ?_, fun i hi => ?_, fun l hl => ?_, fun l hl j => ?_, ?_, ?_, fun hne => ?_⟩, fun x => ?_⟩
  · show b.chunks.getD i 0 < 2 ^ 32
    rcases hall i with (q | ⟨s, n, h1, h2, h3, q⟩) | ⟨v, h1, h2, q⟩ <;> rw [q] <;> omega
  · show b.chunks.getD i 0 / 16 < b.links.length
    have hi : 9 < b.chunks.getD i 0 % 16 := hi
    rcases hall i with (q | ⟨s, n, h1, h2, h3, q⟩) | ⟨v, h1, h2, q⟩ <;> rw [q] at hi ⊢ <;> omega
  · rw [hmask]; exact (hb2.rows l hl).1
  · show l.getD j 0 < 2 ^ 32
    rcases hrow l hl j with q | ⟨s, n, h1, h2, h3, q⟩ <;> rw [q] <;> omega
  · omega
  · show b.links.length ≤ 512
    rw [hb2.llen]; split <;> omega
  · have h9 : 9 < c.max := by
      rcases Nat.lt_or_ge 9 c.max with h | h
      · exact h
      · have := hb2.llen
        rw [if_neg (by omega)] at this
        exact absurd (List.eq_nil_of_length_eq_zero this) hne
    have hp : 2 ^ 1 ≤ 2 ^ (c.max - 9) := Nat.pow_le_pow_right (by omega) (by omega)
    omega
  · unfold Tab.look
    show (let c0 := b.chunks.getD (x % 512) 0; if 9 < c0 % 16 then (b.links.getD (c0 / 16) []).getD ((x / 512) &&& (mkTab c b).mask) 0 else c0) % 16 = 0 ∨ _
    have key : ∀ y, SymE lens.length 1 9 y ∨ SymE lens.length 10 15 y → y % 16 = 0 ∨ y / 16 < lens.length := by
      intro y hy
      rcases hy with (q | ⟨s, n, h1, h2, h3, q⟩) | (q | ⟨s, n, h1, h2, h3, q⟩) <;> rw [q] <;> omega
    refine key _ ?_
    simp only [mkTab]
    split
    · rcases hlk (b.chunks.getD (x % 512) 0 / 16) with q | q
      · exact .inr (hrow _ q _)
      · right; rw [q]; exact .inl (by simp)
    · rename_i hsm
      rcases hall (x % 512) with q | ⟨v, h1, h2, q⟩
      · exact .inl q
      · rw [q] at hsm; omega

end Flate
