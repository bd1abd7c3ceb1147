/-
  PLAIN LEAN: the table out of lengths answers with the symbol whose code stands there, and with no other one.
-/
import Derived.Test.YthfncdfcklbigaaDoorTabOk
set_option linter.unusedVariables false
set_option linter.unusedSimpArgs false
namespace Flate

/-- The code of a symbol: the first one of its length, and so many more as there are symbols of this length ahead. -/
def codeOf (lens : List Nat) (s : Nat) : Nat := 2 * Ck (cntAll lens).count (lens.getD s 0 - 1) + (lens.take s).count (lens.getD s 0)

/-- The bits x begin with the code of symbol s. -/
def Hits (lens : List Nat) (s x : Nat) : Prop := lens.getD s 0 ≠ 0 ∧ s < lens.length ∧ x % 2 ^ lens.getD s 0 = revB (lens.getD s 0) (codeOf lens s)

theorem count_take_lt {l : List Nat} {s t : Nat} (h : s < t) (hs : s < l.length) : (l.take s).count (l.getD s 0) < (l.take t).count (l.getD s 0) := by
  have e : l.take t = l.take (s + 1) ++ (l.take t).drop (s + 1) := by
    rw [List.drop_take, ← List.take_add]; congr 1; omega
  have hg : l.getD s 0 = l[s] := by rw [List.getD_eq_getElem?_getD, List.getElem?_eq_getElem hs]; rfl
  rw [e, List.count_append, List.take_succ_eq_append_getElem hs, List.count_append, hg, List.count_singleton_self]
  omega

theorem codeOf_lt {lens : List Nat} (h15 : ∀ n ∈ lens, n ≤ 15) {s : Nat} (hs : s < lens.length) (h0 : lens.getD s 0 ≠ 0) : codeOf lens s + 1 ≤ Ck (cntAll lens).count (lens.getD s 0) := by
  have hg : lens.getD s 0 = lens[s] := by rw [List.getD_eq_getElem?_getD, List.getElem?_eq_getElem hs]; rfl
  have hmem : lens.getD s 0 ∈ lens := by rw [hg]; exact List.getElem_mem hs
  have hl := count_take_lt (Nat.lt_of_lt_of_le hs (Nat.le_refl _)) hs
  rw [List.take_length] at hl
  have hc := (cnt_facts lens).count (lens.getD s 0) (by have := h15 _ hmem; omega) h0
  unfold codeOf
  obtain ⟨q, hq⟩ : ∃ q, lens.getD s 0 = q + 1 := ⟨lens.getD s 0 - 1, by omega⟩
  rw [hq] at hl hc ⊢
  rw [Ck, hc, Nat.add_sub_cancel]
  omega

theorem rev_prefix {n m x : Nat} (h : n ≤ m) : revB m x % 2 ^ n = revB n (x / 2 ^ (m - n)) := by
  have : m = (m - n) + n := by omega
  conv => lhs; rw [this, revB_add]
  rw [Nat.mul_comm, Nat.mul_add_mod]
  exact Nat.mod_eq_of_lt (revB_lt n _)

theorem rev_inj {n x y : Nat} (hx : x < 2 ^ n) (hy : y < 2 ^ n) (h : revB n x = revB n y) : x = y := by
  have := congrArg (revB n) h
  rw [revB_revB, revB_revB, Nat.mod_eq_of_lt hx, Nat.mod_eq_of_lt hy] at this
  exact this

/-- What keeps the codes apart. -/
structure Kraft (lens : List Nat) : Prop where
  le15 : ∀ n ∈ lens, n ≤ 15
  le : ∀ n, n ≤ (cntAll lens).max → Ck (cntAll lens).count n ≤ 2 ^ n

theorem Kraft.getD {lens : List Nat} (h : Kraft lens) {s : Nat} (hs : s < lens.length) : lens.getD s 0 ≤ (cntAll lens).max ∧ lens.getD s 0 ≤ 15 := by
  have hg : lens.getD s 0 = lens[s] := by rw [List.getD_eq_getElem?_getD, List.getElem?_eq_getElem hs]; rfl
  have hmem : lens.getD s 0 ∈ lens := by rw [hg]; exact List.getElem_mem hs
  exact ⟨(cnt_facts lens).le _ hmem, h.le15 _ hmem⟩

theorem Kraft.code_lt {lens : List Nat} (h : Kraft lens) {s : Nat} (hs : s < lens.length) (h0 : lens.getD s 0 ≠ 0) : codeOf lens s < 2 ^ lens.getD s 0 := by
  have h1 := codeOf_lt h.le15 hs h0
  have h2 := h.le _ (h.getD hs).1
  omega

theorem hits_le {lens : List Nat} (h : Kraft lens) {s t x : Nat} (hs : Hits lens s x) (ht : Hits lens t x) (hle : lens.getD s 0 ≤ lens.getD t 0) : s = t := by
  obtain ⟨s0, s1, s2⟩ := hs
  obtain ⟨t0, t1, t2⟩ := ht
  have cs := codeOf_lt h.le15 s1 s0
  have ct := codeOf_lt h.le15 t1 t0
  have ls := h.code_lt s1 s0
  have lt_ := h.code_lt t1 t0
  have e1 : x % 2 ^ lens.getD s 0 = revB (lens.getD s 0) (codeOf lens t / 2 ^ (lens.getD t 0 - lens.getD s 0)) := by
    rw [← rev_prefix hle, ← t2, Nat.mod_mod_of_dvd _ (Nat.pow_dvd_pow 2 hle)]
  have hd : codeOf lens t / 2 ^ (lens.getD t 0 - lens.getD s 0) < 2 ^ lens.getD s 0 := by
    refine (Nat.div_lt_iff_lt_mul (Nat.two_pow_pos _)).2 ?_
    rw [← Nat.pow_add]; rwa [show lens.getD s 0 + (lens.getD t 0 - lens.getD s 0) = lens.getD t 0 by omega]
  have e2 := rev_inj ls hd (s2.symm.trans e1)
  by_cases he : lens.getD s 0 = lens.getD t 0
  · rw [he, Nat.sub_self, Nat.pow_zero, Nat.div_one] at e2
    have e3 : (lens.take s).count (lens.getD s 0) = (lens.take t).count (lens.getD t 0) := by
      unfold codeOf at e2; rw [he] at e2; rw [he]; omega
    rcases Nat.lt_trichotomy s t with q | q | q
    · have := count_take_lt q s1; rw [e3, ← he] at this; omega
    · exact q
    · have := count_take_lt q t1; rw [← e3, ← he] at this; omega
  · exfalso
    have h1 : Ck (cntAll lens).count (lens.getD s 0) ≤ codeOf lens t / 2 ^ (lens.getD t 0 - lens.getD s 0) := by
      refine (Nat.le_div_iff_mul_le (Nat.two_pow_pos _)).2 ?_
      have h2 := Ck_mono (cntAll lens).count (lens.getD s 0) (lens.getD t 0 - 1 - lens.getD s 0)
      rw [show lens.getD s 0 + (lens.getD t 0 - 1 - lens.getD s 0) = lens.getD t 0 - 1 by omega] at h2
      have e : 2 ^ (lens.getD t 0 - lens.getD s 0) = 2 * 2 ^ (lens.getD t 0 - 1 - lens.getD s 0) := by rw [Nat.mul_comm, ← Nat.pow_succ]; congr 1; omega
      rw [e, ← Nat.mul_assoc, Nat.mul_comm _ 2, Nat.mul_assoc]
      unfold codeOf
      omega
    omega

/-- No two codes begin the same bits. -/
theorem hits_one {lens : List Nat} (h : Kraft lens) {s t x : Nat} (hs : Hits lens s x) (ht : Hits lens t x) : s = t := by
  by_cases hle : lens.getD s 0 ≤ lens.getD t 0
  · exact hits_le h hs ht hle
  · exact (hits_le h ht hs (by omega)).symm

/-- What an entry says of the bits x: the symbol below k whose code of more than lo and at most hi bits they begin with; 0: there is none. -/
def Ent (lens : List Nat) (k lo hi x e : Nat) : Prop :=
  (∀ s, s < k → lo < lens.getD s 0 → lens.getD s 0 ≤ hi → Hits lens s x → e = s * 16 + lens.getD s 0) ∧
  (e = 0 ∨ ∃ s, s < k ∧ lo < lens.getD s 0 ∧ lens.getD s 0 ≤ hi ∧ Hits lens s x ∧ e = s * 16 + lens.getD s 0)

theorem Ent.hit {lens : List Nat} (h : Kraft lens) {k lo hi x : Nat} (h1 : lo < lens.getD k 0) (h2 : lens.getD k 0 ≤ hi) (hk : Hits lens k x) : Ent lens (k + 1) lo hi x (k * 16 + lens.getD k 0) :=
  ⟨fun s _ _ _ hs => by rw [hits_one h hs hk], .inr ⟨k, by omega, h1, h2, hk, rfl⟩⟩

theorem Ent.miss {lens : List Nat} {k lo hi x e : Nat} (h : Ent lens k lo hi x e) (hn : ¬ (lo < lens.getD k 0 ∧ lens.getD k 0 ≤ hi ∧ Hits lens k x)) : Ent lens (k + 1) lo hi x e := by
  refine ⟨fun s h1 h2 h3 h4 => ?_, ?_⟩
  · by_cases e : s = k
    · subst e; exact absurd ⟨h2, h3, h4⟩ hn
    · exact h.1 s (by omega) h2 h3 h4
  · rcases h.2 with q | ⟨s, q1, q2⟩
    · exact .inl q
    · exact .inr ⟨s, by omega, q2⟩

theorem Ent.none (lens : List Nat) (lo hi x : Nat) : Ent lens 0 lo hi x 0 := ⟨fun s h => absurd h (by omega), .inl rfl⟩

/-- The entries that are laid, by their codes. -/
structure BCode (lens : List Nat) (link LN m k : Nat) (b : Bld) : Prop where
  short : ∀ i, i < 512 → (LN = 0 ∨ revB 9 i < link) → Ent lens k 0 9 i (b.chunks.getD i 0)
  long : ∀ v, v < LN → ∀ j, j < m → Ent lens k 9 15 (revB 9 (link + v) + 512 * j) ((b.links.getD v []).getD j 0)

/-- The first nine bits of a long code are a link's. -/
theorem long_pre {c : Cnt} {link LN n cd : Nat} (hf : ∀ n, n ≤ c.max → Ck c.count n ≤ 2 ^ n) (hd : Dims c link LN) (hnm : n ≤ c.max) (h9 : 9 < n) (hlo : 2 * Ck c.count (n - 1) ≤ cd) (hlt : cd + 1 ≤ Ck c.count n) :
    cd / 2 ^ (n - 9) < 512 ∧ link ≤ cd / 2 ^ (n - 9) := by
  have hcdn : cd < 2 ^ n := by have := hf n hnm; omega
  constructor
  · refine (Nat.div_lt_iff_lt_mul (Nat.two_pow_pos _)).2 ?_
    have : 512 * 2 ^ (n - 9) = 2 ^ n := by rw [show 512 = 2 ^ 9 from rfl, ← Nat.pow_add]; congr 1; omega
    omega
  · refine (Nat.le_div_iff_mul_le (Nat.two_pow_pos _)).2 ?_
    have h2 := Ck_mono c.count 9 (n - 1 - 9)
    rw [show 9 + (n - 1 - 9) = n - 1 by omega] at h2
    have e : 2 ^ (n - 9) = 2 * 2 ^ (n - 1 - 9) := by rw [Nat.mul_comm, ← Nat.pow_succ]; congr 1; omega
    rw [e, hd.lk, ← Nat.mul_assoc, Nat.mul_comm (Ck c.count 9) 2, Nat.mul_assoc]
    omega

/-- Bits and a long code: its first nine bits, and the others. -/
theorem long_hit {n cd u j : Nat} (h9 : 9 < n) (hu : u < 512) (hp : cd / 2 ^ (n - 9) < 512) : (revB 9 u + 512 * j) % 2 ^ n = revB n cd ↔ u = cd / 2 ^ (n - 9) ∧ j % 2 ^ (n - 9) = revB (n - 9) cd := by
  have e1 : revB n cd = revB (n - 9) cd * 512 + revB 9 (cd / 2 ^ (n - 9)) := by
    have := revB_add (n - 9) 9 cd
    rwa [show n - 9 + 9 = n by omega, show (2 : Nat) ^ 9 = 512 from rfl] at this
  have l1 := revB_lt 9 u
  have l2 := revB_lt 9 (cd / 2 ^ (n - 9))
  have e2 : (revB 9 u + 512 * j) % 2 ^ n = revB 9 u + 512 * (j % 2 ^ (n - 9)) := by
    have : (2 : Nat) ^ n = 512 * 2 ^ (n - 9) := by rw [show 512 = 2 ^ 9 from rfl, ← Nat.pow_add]; congr 1; omega
    rw [this, Nat.mod_mul]
    have q1 : (revB 9 u + 512 * j) % 512 = revB 9 u := by omega
    have q2 : (revB 9 u + 512 * j) / 512 = j := by omega
    rw [q1, q2]
  rw [e1, e2]
  constructor
  · intro h
    have a1 : revB 9 u = revB 9 (cd / 2 ^ (n - 9)) := by omega
    exact ⟨rev_inj hu hp a1, by omega⟩
  · rintro ⟨rfl, h⟩
    rw [h]; omega

theorem bcode_step {lens : List Nat} {c : Cnt} {nx : List Nat} {link LN m k : Nat} {b b' : Bld} (hcc : c = cntAll lens) (hk' : Kraft lens) (hc : CntFacts lens c) (hf : CodeFacts lens c nx) (hd : Dims c link LN)
    (h : BInv lens c link LN m k b) (hB : BCode lens link LN m k b) (hk : k < lens.length) (hst : symStep b k (lens.getD k 0) = some b') : BCode lens link LN m (k + 1) b' := by
  obtain ⟨n, hn⟩ : ∃ n, n = lens.getD k 0 := ⟨_, rfl⟩
  have hnk : lens[k] = n := by rw [hn, List.getD_eq_getElem?_getD, List.getElem?_eq_getElem hk]; rfl
  have hmem : n ∈ lens := by rw [← hnk]; exact List.getElem_mem hk
  rw [← hn] at hst
  by_cases h0 : n = 0
  · subst h0
    unfold symStep at hst
    rw [if_pos rfl] at hst
    obtain rfl := Option.some.inj hst
    exact ⟨fun i hi hl => (hB.short i hi hl).miss (fun q => q.2.2.1 hn.symm), fun v hv j hj => (hB.long v hv j hj).miss (fun q => q.2.2.1 hn.symm)⟩
  have hnm : n ≤ c.max := hc.le n hmem
  obtain ⟨cd, hcd⟩ : ∃ cd, cd = b.next.getD n 0 := ⟨_, rfl⟩
  have hcde := h.next n (by omega) hnm
  have hcode : codeOf lens k = cd := by unfold codeOf; rw [← hn, ← hcc, hcd, hcde]
  have hlt : cd + 1 ≤ Ck c.count n := by rw [← hcode, hn, hcc]; exact codeOf_lt hk'.le15 hk (by rw [← hn]; exact h0)
  have hhit : ∀ x, Hits lens k x ↔ x % 2 ^ n = revB n cd := by
    intro x
    unfold Hits
    rw [← hn, hcode]
    exact ⟨fun q => q.2.2, fun q => ⟨h0, hk, q⟩⟩
  unfold symStep at hst
  rw [if_neg h0, ← hcd] at hst
  simp only at hst
  by_cases h9 : n ≤ 9
  · rw [if_pos h9] at hst
    obtain rfl := Option.some.inj hst
    have hrl : revB n cd < 2 ^ n := revB_lt n cd
    refine ⟨fun i hi hl => ?_, fun v hv j hj => (hB.long v hv j hj).miss (fun q => by rw [← hn] at q; omega)⟩
    simp only
    rw [stride_getD _ _ _ _ _ (by rw [h.clen]; exact hi)]
    by_cases e : i % 2 ^ n = revB n cd
    · rw [if_pos ((stride_iff hrl).2 e), hn]
      exact Ent.hit hk' (by rw [← hn]; omega) (by rw [← hn]; exact h9) ((hhit i).2 e)
    · rw [if_neg (fun q => e ((stride_iff hrl).1 q))]
      exact (hB.short i hi hl).miss (fun q => e ((hhit i).1 q.2.2))
  · rw [if_neg h9] at hst
    have hnd : n = (n - 9) + 9 := by omega
    obtain ⟨p1, p2⟩ := long_pre hf.le hd hnm (by omega) (by omega) hlt
    have hrev : revB n cd % 512 = revB 9 (cd / 2 ^ (n - 9)) := by
      conv => lhs; rw [hnd, revB_add]
      rw [Nat.mul_comm, show (2 : Nat) ^ 9 = 512 from rfl, Nat.mul_add_mod]
      exact Nat.mod_eq_of_lt (revB_lt 9 _)
    have hrd : revB n cd / 512 = revB (n - 9) cd := by
      conv => lhs; rw [hnd]
      exact revB_div (n - 9) 9 cd
    have hLN : link + LN = 512 := by
      rcases hd.few with ⟨_, q⟩ | ⟨_, q2, _⟩
      · omega
      · exact q2
    have hbig := h.big (cd / 2 ^ (n - 9) - link) (by omega)
    rw [show link + (cd / 2 ^ (n - 9) - link) = cd / 2 ^ (n - 9) by omega] at hbig
    rw [hrev, hbig] at hst
    have hv : ((cd / 2 ^ (n - 9) - link) * 16 + 10) / 16 = cd / 2 ^ (n - 9) - link := by omega
    rw [hv, if_pos (by rw [h.llen]; omega)] at hst
    obtain rfl := Option.some.inj hst
    refine ⟨fun i hi hl => (hB.short i hi hl).miss (fun q => by rw [← hn] at q; omega), fun v hv' j hj => ?_⟩
    simp only
    have hvl : cd / 2 ^ (n - 9) - link < b.links.length := by rw [h.llen]; omega
    have hmemr : b.links.getD (cd / 2 ^ (n - 9) - link) [] ∈ b.links := by
      rw [List.getD_eq_getElem?_getD, List.getElem?_eq_getElem hvl]; exact List.getElem_mem hvl
    obtain ⟨r1, r2⟩ := h.rows _ hmemr
    have hx := fun q => (long_hit (n := n) (cd := cd) (u := link + v) (j := j) (by omega) (by omega) p1).1 ((hhit _).1 q)
    by_cases ev : cd / 2 ^ (n - 9) - link = v
    · have hset : (b.links.set (cd / 2 ^ (n - 9) - link) (stride (b.links.getD (cd / 2 ^ (n - 9) - link) []) (revB n cd / 512) (2 ^ (n - 9)) (k * 16 + n))).getD v [] =
          stride (b.links.getD v []) (revB n cd / 512) (2 ^ (n - 9)) (k * 16 + n) := by
        rw [← ev, List.getD_eq_getElem?_getD, List.getElem?_set, if_pos rfl, if_pos hvl]; rfl
      rw [hset, stride_getD _ _ _ _ _ (by rw [← ev, r1]; exact hj), hrd]
      by_cases e : j % 2 ^ (n - 9) = revB (n - 9) cd
      · rw [if_pos ((stride_iff (revB_lt _ _)).2 e), hn]
        refine Ent.hit hk' (by rw [← hn]; omega) (by rw [← hn]; exact hk'.le15 n hmem) ((hhit _).2 ((long_hit (by omega) (by omega) p1).2 ⟨by omega, e⟩))
      · rw [if_neg (fun q => e ((stride_iff (revB_lt _ _)).1 q))]
        exact (hB.long v hv' j hj).miss (fun q => e (hx q.2.2).2)
    · have hset : (b.links.set (cd / 2 ^ (n - 9) - link) (stride (b.links.getD (cd / 2 ^ (n - 9) - link) []) (revB n cd / 512) (2 ^ (n - 9)) (k * 16 + n))).getD v [] = b.links.getD v [] := by
        rw [List.getD_eq_getElem?_getD, List.getElem?_set, if_neg ev, ← List.getD_eq_getElem?_getD]
      rw [hset]
      exact (hB.long v hv' j hj).miss (fun q => by have := (hx q.2.2).1; omega)

theorem bcode_all {lens : List Nat} {c : Cnt} {nx : List Nat} {link LN m : Nat} (hcc : c = cntAll lens) (hk' : Kraft lens) (hc : CntFacts lens c) (hf : CodeFacts lens c nx) (h15 : c.max ≤ 15) (hd : Dims c link LN) (d : Nat) :
    ∀ {k : Nat} {b b' : Bld}, k + d = lens.length → BInv lens c link LN m k b → BCode lens link LN m k b → symAll b k (lens.drop k) = some b' → BInv lens c link LN m lens.length b' ∧ BCode lens link LN m lens.length b' := by
  induction d with
  | zero =>
    intro k b b' hk h hB hs
    obtain rfl : k = lens.length := by omega
    rw [List.drop_length] at hs
    obtain rfl := Option.some.inj hs
    exact ⟨h, hB⟩
  | succ d ih =>
    intro k b b' hk h hB hs
    have hlt : k < lens.length := by omega
    obtain ⟨b1, h1, h2⟩ := binv_step hc hf h15 hd h hlt
    have h3 := bcode_step hcc hk' hc hf hd h hB hlt h1
    obtain ⟨b2, h4, h5⟩ := symAll_step hlt hs
    rw [h1] at h4
    obtain rfl := Option.some.inj h4
    exact ih (by omega) h2 h3 h5

end Flate
