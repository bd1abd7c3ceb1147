/-
  PLAIN LEAN: what the table out of lengths answers: the symbol whose code the bits begin with; what is read of a source by it.
-/
import Derived.Test.YthfncdfcklbigaaDoorCanon
import Derived.Test.YthfncdfcklbigaaDoorFlow
set_option linter.unusedVariables false
set_option linter.unusedSimpArgs false
namespace Flate

theorem hits_mod {lens : List Nat} {s x m : Nat} (h : lens.getD s 0 ≤ m) : Hits lens s (x % 2 ^ m) ↔ Hits lens s x := by
  unfold Hits; rw [Nat.mod_mod_of_dvd _ (Nat.pow_dvd_pow 2 h)]

theorem nextAll_fst {lens : List Nat} (h15 : ∀ n ∈ lens, n ≤ 15) {x : Nat} {nx : List Nat} (h0 : (cntAll lens).max ≠ 0) (hn : nextAll (cntAll lens) = (x, nx)) : x = Ck (cntAll lens).count (cntAll lens).max := by
  have hc := cnt_facts lens
  generalize cntAll lens = c at *
  have hmem : c.max ∈ lens := by rcases hc.mem with e | e; exact absurd e h0; exact e
  have hmax : c.max ≤ 15 := h15 _ hmem
  obtain ⟨hmin0, hminle⟩ := hc.min _ hmem h0
  have hz : ∀ i, i < c.min → Ck c.count i = 0 := Ck_zero fun j h1 h2 => by
    rw [hc.count j (by omega) (by omega)]
    refine List.count_eq_zero.2 fun hj => ?_
    have := (hc.min j hj (by omega)).2; omega
  unfold nextAll at hn
  obtain ⟨nx', e1, e2, e3⟩ := nextFrom_spec c.count (c.max + 1 - c.min) c.min (List.replicate 16 0) (by omega) (by omega) (by simp)
  rw [hz (c.min - 1) (by omega), hn] at e1
  obtain ⟨rfl, rfl⟩ := Prod.mk.injEq .. ▸ e1
  have hxm : c.min + (c.max + 1 - c.min) - 1 = c.max := by omega
  rw [hxm]

/-- What the table of lengths answers. -/
structure TabLaw (lens : List Nat) (T : Tab) : Prop where
  kraft : Kraft lens
  hit : ∀ s x, Hits lens s x → T.look x = s * 16 + lens.getD s 0
  only : ∀ x, T.look x = 0 ∨ ∃ s, Hits lens s x ∧ T.look x = s * 16 + lens.getD s 0

/-- The codes are all there, or there is none, or one of one bit. -/
def Full (lens : List Nat) : Prop :=
  (cntAll lens).max = 0 ∨ Ck (cntAll lens).count (cntAll lens).max = 2 ^ (cntAll lens).max ∨ (cntAll lens).max = 1 ∧ Ck (cntAll lens).count 1 = 1

theorem bld0_inv {lens : List Nat} {c : Cnt} {nx : List Nat} (hf : CodeFacts lens c nx) (hmax : c.max ≤ 15) :
    Dims c (Ck c.count 9) (if 9 < c.max then 512 - Ck c.count 9 else 0) ∧ BInv lens c (Ck c.count 9) (if 9 < c.max then 512 - Ck c.count 9 else 0) (2 ^ (c.max - 9)) 0 (bld0 c.max nx) ∧
    BCode lens (Ck c.count 9) (if 9 < c.max then 512 - Ck c.count 9 else 0) (2 ^ (c.max - 9)) 0 (bld0 c.max nx) := by
  have rep0 : ∀ n i : Nat, (List.replicate n 0).getD i 0 = 0 := fun n i => by
    rw [List.getD_eq_getElem?_getD, List.getElem?_replicate]; split <;> rfl
  have hl10 : 9 < c.max → nx.getD 10 0 / 2 = Ck c.count 9 := fun h9 => by rw [hf.nx 10 (by omega) (by omega)]; exact Nat.mul_div_cancel_left _ (by omega)
  have hnext0 : ∀ n, 1 ≤ n → n ≤ c.max → nx.getD n 0 = 2 * Ck c.count (n - 1) + (lens.take 0).count n := by
    intro n h1 h2; rw [hf.nx n h1 h2]; simp
  by_cases h9 : 9 < c.max
  · have hfew := hf.few h9
    have hb : bld0 c.max nx = { next := nx, chunks := linkTo (Ck c.count 9) (List.replicate 512 0) (512 - Ck c.count 9), links := List.replicate (512 - Ck c.count 9) (List.replicate (2 ^ (c.max - 9)) 0) } := by
      unfold bld0; rw [if_pos h9, hl10 h9]
    rw [hb, if_pos h9]
    refine ⟨⟨rfl, .inr ⟨h9, by omega, by omega⟩⟩, ⟨hf.len, hnext0, by rw [linkTo_length, List.length_replicate], List.length_replicate, fun v hv => ?_, fun i hi hl => ?_, fun l hl => ?_⟩, ⟨fun i hi hl => ?_, fun v hv j hj => ?_⟩⟩
    · simp only
      rw [linkTo_getD _ _ _ (revB_lt 9 _) (by omega), revB_revB, Nat.mod_eq_of_lt (by omega), if_pos (by omega)]; omega
    · simp only
      rw [linkTo_getD _ _ _ hi (by omega), if_neg (by omega)]; exact .inl rfl
    · simp only [List.mem_replicate] at hl
      rw [hl.2]
      exact ⟨by simp, fun j _ => .inl (rep0 _ _)⟩
    · simp only
      rw [linkTo_getD _ _ _ hi (by omega), if_neg (by omega)]; exact Ent.none _ _ _ _
    · have : (List.replicate (512 - Ck c.count 9) (List.replicate (2 ^ (c.max - 9)) 0)).getD v [] = List.replicate (2 ^ (c.max - 9)) 0 := by
        rw [List.getD_eq_getElem?_getD, List.getElem?_replicate, if_pos hv]; rfl
      simp only
      rw [this, rep0]; exact Ent.none _ _ _ _
  · have hb : bld0 c.max nx = { next := nx, chunks := List.replicate 512 0, links := [] } := by unfold bld0; rw [if_neg h9]
    rw [hb, if_neg h9]
    exact ⟨⟨rfl, .inl ⟨rfl, by omega⟩⟩, ⟨hf.len, hnext0, List.length_replicate, rfl, fun v hv => absurd hv (by omega), fun i _ _ => .inl (rep0 _ _), fun l hl => absurd hl List.not_mem_nil⟩,
      ⟨fun i _ _ => by simp only; rw [rep0]; exact Ent.none _ _ _ _, fun v hv => absurd hv (by omega)⟩⟩

theorem zero_lens {lens : List Nat} (h0 : (cntAll lens).max = 0) : ∀ s, lens.getD s 0 = 0 := by
  intro s
  rw [List.getD_eq_getElem?_getD]
  by_cases hs : s < lens.length
  · rw [List.getElem?_eq_getElem hs]
    have := (cnt_facts lens).le _ (List.getElem_mem hs)
    simp only [Option.getD_some]; omega
  · rw [List.getElem?_eq_none (by omega)]; rfl

theorem initTab_code {lens : List Nat} (h15 : ∀ n ∈ lens, n ≤ 15) {T : Tab} (hT : initTab lens = some (some T)) : TabLaw lens T ∧ Full lens := by
  obtain ⟨c, hcc⟩ : ∃ c, c = cntAll lens := ⟨_, rfl⟩
  by_cases h0 : c.max = 0
  · rw [initTab_empty hcc h0] at hT
    obtain rfl := Option.some.inj (Option.some.inj hT)
    have hz := zero_lens (hcc ▸ h0)
    refine ⟨⟨⟨h15, fun n hn => ?_⟩, fun s x hs => absurd (hz s) hs.1, fun x => .inl ?_⟩, .inl (hcc ▸ h0)⟩
    · rw [← hcc, h0] at hn
      obtain rfl : n = 0 := by omega
      simp [Ck]
    · unfold Tab.look emptyTab
      have : (List.replicate 512 0).getD (x % 512) 0 = 0 := by
        rw [List.getD_eq_getElem?_getD, List.getElem?_replicate]; split <;> rfl
      simp only
      rw [this]; rfl
  obtain ⟨x, nx, hn⟩ : ∃ x nx, nextAll c = (x, nx) := ⟨_, _, rfl⟩
  by_cases hok : x ≠ 2 ^ c.max ∧ ¬ (x = 1 ∧ c.max = 1)
  · rw [initTab_bad hcc h0 hn (by simp [hok])] at hT
    simp at hT
  have hc := cnt_facts lens
  have hf := code_facts h15 (hcc ▸ h0) (hcc ▸ hn) (hcc ▸ hok)
  have hx := nextAll_fst h15 (hcc ▸ h0) (hcc ▸ hn)
  rw [← hcc] at hc hf hx
  have hk : Kraft lens := ⟨h15, by rw [← hcc]; exact hf.le⟩
  have hmax : c.max ≤ 15 := h15 _ (by rcases hc.mem with e | e; exact absurd e h0; exact e)
  obtain ⟨hd, hI, hB⟩ := bld0_inv hf hmax
  obtain ⟨_, b, hb1, hb2⟩ := initTab_go hcc h0 hn (by simp only [Bool.false_eq, decide_eq_false_iff_not]; exact hok) (by rw [hT]; simp)
  rw [hT] at hb2
  obtain rfl := Option.some.inj (Option.some.inj hb2)
  obtain ⟨gI, gB⟩ := bcode_all hcc hk hc hf hmax hd lens.length (k := 0) (by omega) hI hB (by rw [List.drop_zero]; exact hb1)
  have hfull : Full lens := by
    unfold Full
    rw [← hcc]
    by_cases q : x = 2 ^ c.max
    · exact .inr (.inl (by rw [← hx]; exact q))
    · have : x = 1 ∧ c.max = 1 := by
        by_cases q2 : x = 1 ∧ c.max = 1
        · exact q2
        · exact absurd ⟨q, q2⟩ hok
      exact .inr (.inr ⟨this.2, by have h1 := hx; rw [this.2] at h1; rw [← h1]; exact this.1⟩)
  -- what the table answers at x, by its first nine bits
  have key : ∀ y, (∃ lo hi, Ent lens lens.length lo hi y ((mkTab c b).look y) ∧ ∀ s, Hits lens s y → lo < lens.getD s 0 ∧ lens.getD s 0 ≤ hi) := by
    intro y
    have hl9 := revB_lt 9 (y % 512)
    have hy9 : revB 9 (y % 512) = revB 9 y := revB_mod 9 y
    have hcodes : ∀ s, Hits lens s y → 1 ≤ lens.getD s 0 ∧ lens.getD s 0 ≤ c.max ∧ 2 * Ck c.count (lens.getD s 0 - 1) ≤ codeOf lens s ∧ codeOf lens s + 1 ≤ Ck c.count (lens.getD s 0) := by
      intro s hs
      have h1 := codeOf_lt h15 hs.2.1 hs.1
      have h2 := (hk.getD hs.2.1).1
      rw [← hcc] at h1 h2
      exact ⟨by have := hs.1; omega, h2, by unfold codeOf; rw [← hcc]; omega, h1⟩
    by_cases hs : (if 9 < c.max then 512 - Ck c.count 9 else 0) = 0 ∨ revB 9 (y % 512) < Ck c.count 9
    · have he := gB.short (y % 512) (Nat.mod_lt _ (by omega)) hs
      have hsm := gI.small (y % 512) (Nat.mod_lt _ (by omega)) hs
      have hlook : (mkTab c b).look y = b.chunks.getD (y % 512) 0 := by
        unfold Tab.look
        show (let c0 := b.chunks.getD (y % 512) 0; if 9 < c0 % 16 then _ else c0) = _
        simp only
        rw [if_neg]
        rcases hsm with q | ⟨s, n, h1, h2, h3, q⟩ <;> rw [q] <;> omega
      refine ⟨0, 9, ?_, fun s q => ?_⟩
      · rw [hlook]
        have hm : ∀ s, lens.getD s 0 ≤ 9 → (Hits lens s (y % 512) ↔ Hits lens s y) := fun s q => hits_mod (m := 9) q
        refine ⟨fun s a1 a2 a3 a4 => he.1 s a1 a2 a3 ((hm s a3).2 a4), ?_⟩
        rcases he.2 with q | ⟨s, a1, a2, a3, a4, a5⟩
        · exact .inl q
        · exact .inr ⟨s, a1, a2, a3, (hm s a3).1 a4, a5⟩
      · obtain ⟨a1, a2, a3, a4⟩ := hcodes s q
        refine ⟨by omega, ?_⟩
        by_cases h9 : lens.getD s 0 ≤ 9
        · exact h9
        · exfalso
          have := long_pre hf.le hd a2 (by omega) a3 a4
          have hh := (long_hit (n := lens.getD s 0) (cd := codeOf lens s) (u := revB 9 y) (j := y / 512) (by omega) (revB_lt 9 y) this.1).1 (by
            rw [revB_revB, show (2 : Nat) ^ 9 = 512 from rfl, show y % 512 + 512 * (y / 512) = y by omega]; exact q.2.2)
          rw [hy9] at hs
          have h91 : 9 < c.max := by omega
          rw [if_pos h91] at hs
          have := hf.few h91
          rcases hs with e | e
          · omega
          · rw [hh.1] at e; omega
    · obtain ⟨s1, s2⟩ := not_or.1 hs
      have h91 : 9 < c.max := by
        by_cases q : 9 < c.max
        · exact q
        · rw [if_neg q] at s1; exact absurd rfl s1
      have hfew := hf.few h91
      rw [if_pos h91] at gI gB s1
      have hbig := gI.big (revB 9 (y % 512) - Ck c.count 9) (by omega)
      rw [show Ck c.count 9 + (revB 9 (y % 512) - Ck c.count 9) = revB 9 (y % 512) by omega, revB_revB, Nat.mod_mod] at hbig
      have hlook : (mkTab c b).look y = (b.links.getD (revB 9 (y % 512) - Ck c.count 9) []).getD (y / 512 % 2 ^ (c.max - 9)) 0 := by
        unfold Tab.look
        show (let c0 := b.chunks.getD (y % 512) 0; if 9 < c0 % 16 then (b.links.getD (c0 / 16) []).getD ((y / 512) &&& (mkTab c b).mask) 0 else c0) = _
        simp only
        rw [show y % 512 = y % 2 ^ 9 from rfl, hbig, if_pos (by omega)]
        have e1 : ((revB 9 (y % 512) - Ck c.count 9) * 16 + 10) / 16 = revB 9 (y % 512) - Ck c.count 9 := by omega
        rw [show y % 2 ^ 9 = y % 512 from rfl, e1]
        have e2 : (mkTab c b).mask = 2 ^ (c.max - 9) - 1 := by unfold mkTab; simp only; rw [if_pos h91]
        rw [e2, Nat.and_two_pow_sub_one_eq_mod]
      have he := gB.long (revB 9 (y % 512) - Ck c.count 9) (by omega) (y / 512 % 2 ^ (c.max - 9)) (Nat.mod_lt _ (Nat.two_pow_pos _))
      rw [show Ck c.count 9 + (revB 9 (y % 512) - Ck c.count 9) = revB 9 (y % 512) by omega, revB_revB, Nat.mod_mod] at he
      have hyy : y % 512 + 512 * (y / 512 % 2 ^ (c.max - 9)) = y % 2 ^ c.max := by
        have : (2 : Nat) ^ c.max = 512 * 2 ^ (c.max - 9) := by rw [show 512 = 2 ^ 9 from rfl, ← Nat.pow_add]; congr 1; omega
        rw [this, Nat.mod_mul]
      rw [hyy] at he
      have hm : ∀ s, Hits lens s (y % 2 ^ c.max) ↔ Hits lens s y := by
        intro s
        refine hits_mod ?_
        rw [List.getD_eq_getElem?_getD]
        by_cases hs : s < lens.length
        · rw [List.getElem?_eq_getElem hs]; exact hc.le _ (List.getElem_mem hs)
        · rw [List.getElem?_eq_none (by omega)]; exact Nat.zero_le _
      refine ⟨9, 15, ?_, fun s q => ?_⟩
      · rw [hlook]
        refine ⟨fun s a1 a2 a3 a4 => he.1 s a1 a2 a3 ((hm s).2 a4), ?_⟩
        rcases he.2 with q | ⟨s, a1, a2, a3, a4, a5⟩
        · exact .inl q
        · exact .inr ⟨s, a1, a2, a3, (hm s).1 a4, a5⟩
      · obtain ⟨a1, a2, a3, a4⟩ := hcodes s q
        refine ⟨?_, by omega⟩
        by_cases h9 : lens.getD s 0 ≤ 9
        · exfalso
          have hcd : codeOf lens s < 2 ^ lens.getD s 0 := hk.code_lt q.2.1 q.1
          have h1 := rev_short h9 hcd q.2.2
          have h2 := Ck_mono c.count (lens.getD s 0) (9 - lens.getD s 0)
          rw [show lens.getD s 0 + (9 - lens.getD s 0) = 9 by omega] at h2
          have h3 : (codeOf lens s + 1) * 2 ^ (9 - lens.getD s 0) ≤ Ck c.count (lens.getD s 0) * 2 ^ (9 - lens.getD s 0) := Nat.mul_le_mul_right _ a4
          rw [hy9] at s2
          omega
        · omega
  refine ⟨⟨hk, fun s y hs => ?_, fun y => ?_⟩, hfull⟩
  · obtain ⟨lo, hi, he, hr⟩ := key y
    exact he.1 s hs.2.1 (hr s hs).1 (hr s hs).2 hs
  · obtain ⟨lo, hi, he, hr⟩ := key y
    rcases he.2 with q | ⟨s, _, _, _, a4, a5⟩
    · exact .inl q
    · exact .inr ⟨s, a4, a5⟩

/-! ### There is a code for all bits -/

theorem revB_zero (n : Nat) : revB n 0 = 0 := by
  induction n with
  | zero => rfl
  | succ n ih => rw [revB, ih]; simp

theorem rank_some {l : List Nat} {n : Nat} : ∀ {r : Nat}, r < l.count n → ∃ s, s < l.length ∧ l.getD s 0 = n ∧ (l.take s).count n = r := by
  induction l with
  | nil => intro r h; simp at h
  | cons a l ih =>
    intro r h
    by_cases e : a = n
    · subst e
      cases r with
      | zero => exact ⟨0, by simp, by simp, by simp⟩
      | succ r =>
        rw [List.count_cons_self] at h
        obtain ⟨s, h1, h2, h3⟩ := ih (r := r) (by omega)
        exact ⟨s + 1, by simp; omega, by simpa using h2, by rw [List.take_succ_cons, List.count_cons_self, h3]⟩
    · rw [List.count_cons_of_ne (by exact e)] at h
      obtain ⟨s, h1, h2, h3⟩ := ih h
      exact ⟨s + 1, by simp; omega, by simpa using h2, by rw [List.take_succ_cons, List.count_cons_of_ne (by exact e), h3]⟩

/-- The bits begin with some code; none shorter, and with other bits from k on none of fewer bits. -/
theorem hit_some {lens : List Nat} (hk : Kraft lens) (hf : Ck (cntAll lens).count (cntAll lens).max = 2 ^ (cntAll lens).max) (x : Nat) :
    ∃ s, Hits lens s x ∧ ∀ n, n ≤ (cntAll lens).max → revB n x < Ck (cntAll lens).count n → lens.getD s 0 ≤ n := by
  have hc := cnt_facts lens
  have h15 := hk.le15
  have key : ∀ d n, n + d = (cntAll lens).max → (∀ i, i < n → Ck (cntAll lens).count i ≤ revB i x) → ∃ n, n ≤ (cntAll lens).max ∧ revB n x < Ck (cntAll lens).count n ∧ ∀ i, i < n → Ck (cntAll lens).count i ≤ revB i x := by
    intro d
    induction d with
    | zero =>
      intro n hn hi
      obtain rfl : n = (cntAll lens).max := by omega
      exact ⟨_, Nat.le_refl _, by rw [hf]; exact revB_lt _ _, hi⟩
    | succ d ih =>
      intro n hn hi
      by_cases h : revB n x < Ck (cntAll lens).count n
      · exact ⟨n, by omega, h, hi⟩
      · exact ih (n + 1) (by omega) (fun i q => by
          by_cases e : i = n
          · subst e; omega
          · exact hi i (by omega))
  obtain ⟨n, h1, h2, h3⟩ := key (cntAll lens).max 0 (by omega) (fun i q => absurd q (by omega))
  have hn0 : n ≠ 0 := by intro e; subst e; simp [Ck] at h2
  obtain ⟨q, rfl⟩ : ∃ q, n = q + 1 := ⟨n - 1, by omega⟩
  have h4 := h3 q (by omega)
  have h5 : revB (q + 1) x / 2 = revB q x := by have := revB_div q 1 x; rwa [Nat.pow_one] at this
  rw [Ck] at h2
  have hmax15 : (cntAll lens).max ≤ 15 := by
    rcases hc.mem with e | e
    · omega
    · exact h15 _ e
  rw [hc.count (q + 1) (by omega) (by omega)] at h2
  obtain ⟨s, hs, e1, e2⟩ := rank_some (l := lens) (n := q + 1) (r := revB (q + 1) x - 2 * Ck (cntAll lens).count q) (by omega)
  refine ⟨s, ⟨by rw [e1]; omega, hs, ?_⟩, fun m hm hlt => ?_⟩
  · have : codeOf lens s = revB (q + 1) x := by unfold codeOf; rw [e1, e2, Nat.add_sub_cancel]; omega
    rw [e1, this, revB_revB]
  · rw [e1]
    rcases Nat.lt_or_ge m (q + 1) with a | a
    · have := h3 m a; omega
    · exact a

theorem revB_low (n k x : Nat) : revB n (x % 2 ^ k) ≤ revB n x := by
  induction n generalizing k x with
  | zero => simp [revB]
  | succ n ih =>
    cases k with
    | zero => rw [Nat.pow_zero, Nat.mod_one]; rw [show revB (n + 1) 0 = 0 from revB_zero (n + 1)]; exact Nat.zero_le _
    | succ k =>
      rw [revB, revB]
      have h1 : x % 2 ^ (k + 1) % 2 = x % 2 := by rw [Nat.pow_succ, Nat.mul_comm, Nat.mod_mul_right_mod]
      have h2 : x % 2 ^ (k + 1) / 2 = x / 2 % 2 ^ k := by rw [Nat.pow_succ, Nat.mul_comm, Nat.mod_mul_right_div_self]
      rw [h1, h2]
      have := ih k (x / 2)
      omega

/-- With its upper bits struck out, the bits begin with a code that is no longer. -/
theorem hit_low {lens : List Nat} (hk : Kraft lens) (hf : Ck (cntAll lens).count (cntAll lens).max = 2 ^ (cntAll lens).max) {s x k : Nat} (hs : Hits lens s x) : ∃ t, Hits lens t (x % 2 ^ k) ∧ lens.getD t 0 ≤ lens.getD s 0 := by
  obtain ⟨t, ht, hm⟩ := hit_some hk hf (x % 2 ^ k)
  refine ⟨t, ht, hm _ (hk.getD hs.2.1).1 ?_⟩
  have h1 := revB_low (lens.getD s 0) k x
  have h2 : revB (lens.getD s 0) x = codeOf lens s := by
    rw [← revB_mod, hs.2.2, revB_revB, Nat.mod_eq_of_lt (hk.code_lt hs.2.1 hs.1)]
  have h3 := codeOf_lt hk.le15 hs.2.1 hs.1
  omega

/-! ### What is read of a source -/

/-- Symbol s stands at bit a of the source. -/
def SymAt (lens : List Nat) (src : List UInt8) (a s : Nat) : Prop := Hits lens s (bv src a 15) ∧ a + lens.getD s 0 ≤ 8 * src.length

theorem hits_bv {lens : List Nat} {src : List UInt8} {a s m : Nat} (h15 : lens.getD s 0 ≤ 15) (hm : lens.getD s 0 ≤ m) : Hits lens s (bv src a m) ↔ Hits lens s (bv src a 15) := by
  have e : ∀ k, lens.getD s 0 ≤ k → bv src a k % 2 ^ lens.getD s 0 = bv src a (lens.getD s 0) := fun k hk => by
    have := bv_mod src a (lens.getD s 0) (k - lens.getD s 0)
    rwa [show lens.getD s 0 + (k - lens.getD s 0) = k by omega] at this
  unfold Hits
  rw [e m hm, e 15 h15]

theorem SymAt.one {lens : List Nat} (h : Kraft lens) {src : List UInt8} {a s t : Nat} (hs : SymAt lens src a s) (ht : SymAt lens src a t) : s = t := hits_one h hs.1 ht.1

theorem sym_at {lens : List Nat} {T : Tab} (hL : TabLaw lens T) {src : List UInt8} (f : Nat) : ∀ {n : Nat} {r r' : Br} {s : Nat}, r.ok src → sym src T f n r = .ok s r' → SymAt lens src r.at_ s ∧ r'.at_ = r.at_ + lens.getD s 0 := by
  induction f with
  | zero => intro n r r' s _ h; simp [sym] at h
  | succ f ih =>
    intro n r r' s hr h
    rw [sym] at h
    cases hf : fill src.length n r with
    | mk t r1 =>
      obtain ⟨a1, a2, a3, a4, a5⟩ := fill_ok hr hf
      rw [hf] at h
      cases t with
      | false => simp at h
      | true =>
        simp only at h
        split at h
        · rename_i hle
          split at h
          · simp at h
          · rename_i h0
            simp only [Rd.ok.injEq] at h
            obtain ⟨rfl, rfl⟩ := h
            rcases hL.only (r1.b src) with q | ⟨t, q1, q2⟩
            · rw [q] at h0; exact absurd rfl h0
            · have ht := hL.kraft.getD q1.2.1
              have e1 : T.look (r1.b src) / 16 = t := by omega
              have e2 : T.look (r1.b src) % 16 = lens.getD t 0 := by omega
              rw [e2] at hle
              rw [e1, e2, ← a2]
              refine ⟨⟨(hits_bv ht.2 hle).1 q1, ?_⟩, rfl⟩
              have h1 := a1.1
              have h2 := a1.2
              unfold Br.nb at hle
              omega
        · have := ih a1 h
          rwa [a2] at this

theorem sym_of {lens : List Nat} {T : Tab} (hL : TabLaw lens T) (hF : Full lens) {src : List UInt8} {s : Nat} (f : Nat) : ∀ {n : Nat} {r : Br}, SymAt lens src r.at_ s → r.ok src → r.at_ + n ≤ 8 * src.length →
    ((cntAll lens).max = 1 → 1 ≤ n) → lens.getD s 0 < f + n → 1 ≤ f → ∃ r', sym src T f n r = .ok s r' ∧ r'.at_ = r.at_ + lens.getD s 0 ∧ r'.ok src ∧ (r'.nb + lens.getD s 0 ≤ r.nb ∨ r'.nb + lens.getD s 0 ≤ n + 7 ∨ r'.nb + lens.getD s 0 ≤ lens.getD s 0 + 7) := by
  induction f with
  | zero => intro n r _ _ _ _ _ h; omega
  | succ f ih =>
    intro n r hs hr hn h1 hfn _
    have hlen := hL.kraft.getD hs.1.2.1
    have hs0 := hs.1.1
    have hfl : ∃ r1, fill src.length n r = (true, r1) := by
      unfold fill
      split
      · exact ⟨_, rfl⟩
      · rw [if_pos (by omega)]; exact ⟨_, rfl⟩
    obtain ⟨r1, hf⟩ := hfl
    obtain ⟨a1, a2, a3, a4, a5⟩ := fill_ok hr hf
    have hn1 := a4 rfl
    have hx : r1.b src = bv src r.at_ r1.nb := by unfold Br.b; rw [a2]
    rw [sym, hf]
    simp only
    by_cases hle : lens.getD s 0 ≤ r1.nb
    · have hlook : T.look (r1.b src) = s * 16 + lens.getD s 0 := hL.hit _ _ (by rw [hx]; exact (hits_bv hlen.2 hle).2 hs.1)
      have e1 : T.look (r1.b src) / 16 = s := by omega
      have e2 : T.look (r1.b src) % 16 = lens.getD s 0 := by omega
      rw [e1, e2, if_pos hle, if_neg hs0]
      obtain ⟨b1, b2⟩ := skip_ok a1 hle
      exact ⟨_, rfl, by simp only; rw [a2], b1, by rw [b2]; omega⟩
    · have hfull : Ck (cntAll lens).count (cntAll lens).max = 2 ^ (cntAll lens).max := by
        rcases hF with q | q | q
        · omega
        · exact q
        · have := h1 q.1; omega
      have hxx : r1.b src = bv src r.at_ 15 % 2 ^ r1.nb := by
        rw [hx]
        have := bv_mod src r.at_ r1.nb (15 - r1.nb)
        rw [show r1.nb + (15 - r1.nb) = 15 by omega] at this
        exact this.symm
      obtain ⟨t, ht, htl⟩ := hit_low (k := r1.nb) hL.kraft hfull hs.1
      rw [← hxx] at ht
      have hlook := hL.hit _ _ ht
      have htk := hL.kraft.getD ht.2.1
      have e2 : T.look (r1.b src) % 16 = lens.getD t 0 := by omega
      rw [e2]
      have hgt : ¬ lens.getD t 0 ≤ r1.nb := by
        intro q
        rw [hx] at ht
        have : t = s := hits_one hL.kraft ((hits_bv htk.2 q).1 ht) hs.1
        rw [this] at q; exact hle q
      rw [if_neg hgt]
      have hs2 := hs.2
      obtain ⟨r', g1, g2, g3, g4⟩ := ih (n := lens.getD t 0) (r := r1) (by rw [a2]; exact hs) a1 (by rw [a2]; omega) (fun _ => by omega) (by omega) (by omega)
      refine ⟨r', g1, by rw [g2, a2], g3, ?_⟩
      omega

theorem symbol_at {lens : List Nat} {T : Tab} (hL : TabLaw lens T) {src : List UInt8} {r r' : Br} {s : Nat} (hr : r.ok src) (h : symbol src T r = .ok s r') : SymAt lens src r.at_ s ∧ r'.at_ = r.at_ + lens.getD s 0 := sym_at hL 20 hr h

theorem symbol_of {lens : List Nat} {T : Tab} (hL : TabLaw lens T) (hF : Full lens) {src : List UInt8} {r : Br} {s : Nat} (hs : SymAt lens src r.at_ s) (hr : r.ok src) (hn : r.at_ + T.min ≤ 8 * src.length) (h1 : (cntAll lens).max = 1 → 1 ≤ T.min) :
    ∃ r', symbol src T r = .ok s r' ∧ r'.at_ = r.at_ + lens.getD s 0 ∧ r'.ok src ∧ (r'.nb + lens.getD s 0 ≤ r.nb ∨ r'.nb + lens.getD s 0 ≤ T.min + 7 ∨ r'.nb + lens.getD s 0 ≤ lens.getD s 0 + 7) :=
  sym_of hL hF 20 hs hr hn h1 (by have := (hL.kraft.getD hs.1.2.1).2; omega) (by omega)

end Flate
