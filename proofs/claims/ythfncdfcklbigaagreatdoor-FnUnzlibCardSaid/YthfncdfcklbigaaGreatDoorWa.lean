/-
  Several texts in one: Canon Look Spec Works Head Pack Tok Blk Ksum Tree Beh.
-/
import Derived.Test.YthfncdfcklbigaaGreatDoorPa
set_option linter.unusedVariables false
set_option linter.unusedSimpArgs false
namespace Flate
def codeOf (lens : List Nat) (s : Nat) : Nat := 2 * Ck (cntAll lens).count (lens.getD s 0 - 1) + (lens.take s).count (lens.getD s 0)
def Hits (lens : List Nat) (s x : Nat) : Prop := lens.getD s 0 ≠ 0 ∧ s < lens.length ∧ x % 2 ^ lens.getD s 0 = revB (lens.getD s 0) (codeOf lens s)
theorem count_take_lt {l : List Nat} {s t : Nat} (h : s < t) (hs : s < l.length) : (l.take s).count (l.getD s 0) < (l.take t).count (l.getD s 0) := by
 have e : l.take t = l.take (s + 1) ++ (l.take t).drop (s + 1) := by
  rw [List.drop_take, ← List.take_add]; congr 1; omega
 have hg : l.getD s 0 = l[s] := by rw [List.getD_eq_getElem?_getD, List.getElem?_eq_getElem hs]; rfl
 rw [e, List.count_append, List.take_succ_eq_append_getElem hs, List.count_append, hg, List.count_singleton_self]
 omega
theorem codeOf_lt {lens : List Nat} (h15 : ∀ n ∈ lens, n ≤ 15) {s : Nat} (hs : s < lens.length) (h0 : lens.getD s 0 ≠ 0) : codeOf lens s + 1 ≤ Ck (cntAll lens).count (lens.getD s 0) := by
 have hg : lens.getD s 0 = lens[s] := by rw [List.getD_eq_getElem?_getD, List.getElem?_eq_getElem hs]; rfl
 have hmem : lens.getD s 0 ∈ lens := by rw [hg]; exact List.getElem_mem hs
 have hl := count_take_lt (Nat.lt_of_lt_of_le hs (Nat.le_refl _)) hs
 rw [List.take_length] at hl
 have hc := (cnt_facts lens).count (lens.getD s 0) (by have := h15 _ hmem; omega) h0
 unfold codeOf
 obtain ⟨q, hq⟩ : ∃ q, lens.getD s 0 = q + 1 := ⟨lens.getD s 0 - 1, by omega⟩
 rw [hq] at hl hc ⊢
 rw [Ck, hc, Nat.add_sub_cancel]
 omega
theorem rev_prefix {n m x : Nat} (h : n ≤ m) : revB m x % 2 ^ n = revB n (x / 2 ^ (m - n)) := by
 have : m = (m - n) + n := by omega
 conv => lhs; rw [this, revB_add]
 rw [Nat.mul_comm, Nat.mul_add_mod]
 exact Nat.mod_eq_of_lt (revB_lt n _)
theorem rev_inj {n x y : Nat} (hx : x < 2 ^ n) (hy : y < 2 ^ n) (h : revB n x = revB n y) : x = y := by
 have := congrArg (revB n) h
 rw [revB_revB, revB_revB, Nat.mod_eq_of_lt hx, Nat.mod_eq_of_lt hy] at this
 exact this
structure Kraft (lens : List Nat) : Prop where
 le15 : ∀ n ∈ lens, n ≤ 15
 le : ∀ n, n ≤ (cntAll lens).max → Ck (cntAll lens).count n ≤ 2 ^ n
theorem Kraft.getD {lens : List Nat} (h : Kraft lens) {s : Nat} (hs : s < lens.length) : lens.getD s 0 ≤ (cntAll lens).max ∧ lens.getD s 0 ≤ 15 := by
 have hg : lens.getD s 0 = lens[s] := by rw [List.getD_eq_getElem?_getD, List.getElem?_eq_getElem hs]; rfl
 have hmem : lens.getD s 0 ∈ lens := by rw [hg]; exact List.getElem_mem hs
 exact ⟨(cnt_facts lens).le _ hmem, h.le15 _ hmem⟩
theorem Kraft.code_lt {lens : List Nat} (h : Kraft lens) {s : Nat} (hs : s < lens.length) (h0 : lens.getD s 0 ≠ 0) : codeOf lens s < 2 ^ lens.getD s 0 := by
 have h1 := codeOf_lt h.le15 hs h0
 have h2 := h.le _ (h.getD hs).1
 omega
theorem hits_le {lens : List Nat} (h : Kraft lens) {s t x : Nat} (hs : Hits lens s x) (ht : Hits lens t x) (hle : lens.getD s 0 ≤ lens.getD t 0) : s = t := by
 obtain ⟨s0, s1, s2⟩ := hs
 obtain ⟨t0, t1, t2⟩ := ht
 have cs := codeOf_lt h.le15 s1 s0
 have ct := codeOf_lt h.le15 t1 t0
 have ls := h.code_lt s1 s0
 have lt_ := h.code_lt t1 t0
 have e1 : x % 2 ^ lens.getD s 0 = revB (lens.getD s 0) (codeOf lens t / 2 ^ (lens.getD t 0 - lens.getD s 0)) := by
  rw [← rev_prefix hle, ← t2, Nat.mod_mod_of_dvd _ (Nat.pow_dvd_pow 2 hle)]
 have hd : codeOf lens t / 2 ^ (lens.getD t 0 - lens.getD s 0) < 2 ^ lens.getD s 0 := by
  refine (Nat.div_lt_iff_lt_mul (Nat.two_pow_pos _)).2 ?_; rw [← Nat.pow_add]; rwa [show lens.getD s 0 + (lens.getD t 0 - lens.getD s 0) = lens.getD t 0 by omega]
 have e2 := rev_inj ls hd (s2.symm.trans e1)
 by_cases he : lens.getD s 0 = lens.getD t 0
 · rw [he, Nat.sub_self, Nat.pow_zero, Nat.div_one] at e2; have e3 : (lens.take s).count (lens.getD s 0) = (lens.take t).count (lens.getD t 0) := by
    unfold codeOf at e2; rw [he] at e2; rw [he]; omega
   rcases Nat.lt_trichotomy s t with q | q | q
   · have := count_take_lt q s1; rw [e3, ← he] at this; omega
   · exact q
   · have := count_take_lt q t1; rw [← e3, ← he] at this; omega
 · exfalso
   have h1 : Ck (cntAll lens).count (lens.getD s 0) ≤ codeOf lens t / 2 ^ (lens.getD t 0 - lens.getD s 0) := by
    refine (Nat.le_div_iff_mul_le (Nat.two_pow_pos _)).2 ?_; have h2 := Ck_mono (cntAll lens).count (lens.getD s 0) (lens.getD t 0 - 1 - lens.getD s 0); rw [show lens.getD s 0 + (lens.getD t 0 - 1 - lens.getD s 0) = lens.getD t 0 - 1 by omega] at h2
    have e : 2 ^ (lens.getD t 0 - lens.getD s 0) = 2 * 2 ^ (lens.getD t 0 - 1 - lens.getD s 0) := by rw [Nat.mul_comm, ← Nat.pow_succ]; congr 1; omega
    rw [e, ← Nat.mul_assoc, Nat.mul_comm _ 2, Nat.mul_assoc]; unfold codeOf; omega
   omega
theorem hits_one {lens : List Nat} (h : Kraft lens) {s t x : Nat} (hs : Hits lens s x) (ht : Hits lens t x) : s = t := by
 by_cases hle : lens.getD s 0 ≤ lens.getD t 0
 · exact hits_le h hs ht hle
 · exact (hits_le h ht hs (by omega)).symm
def Ent (lens : List Nat) (k lo hi x e : Nat) : Prop :=
 (∀ s, s < k → lo < lens.getD s 0 → lens.getD s 0 ≤ hi → Hits lens s x → e = s * 16 + lens.getD s 0) ∧
 (e = 0 ∨ ∃ s, s < k ∧ lo < lens.getD s 0 ∧ lens.getD s 0 ≤ hi ∧ Hits lens s x ∧ e = s * 16 + lens.getD s 0)
theorem Ent.hit {lens : List Nat} (h : Kraft lens) {k lo hi x : Nat} (h1 : lo < lens.getD k 0) (h2 : lens.getD k 0 ≤ hi) (hk : Hits lens k x) : Ent lens (k + 1) lo hi x (k * 16 + lens.getD k 0) :=
 ⟨fun s _ _ _ hs => by rw [hits_one h hs hk], .inr ⟨k, by omega, h1, h2, hk, rfl⟩⟩
theorem Ent.miss {lens : List Nat} {k lo hi x e : Nat} (h : Ent lens k lo hi x e) (hn : ¬ (lo < lens.getD k 0 ∧ lens.getD k 0 ≤ hi ∧ Hits lens k x)) : Ent lens (k + 1) lo hi x e := by
 refine ⟨fun s h1 h2 h3 h4 => ?_, ?_⟩
 · by_cases e : s = k
   · subst e; exact absurd ⟨h2, h3, h4⟩ hn
   · exact h.1 s (by omega) h2 h3 h4
 · rcases h.2 with q | ⟨s, q1, q2⟩
   · exact .inl q
   · exact .inr ⟨s, by omega, q2⟩
theorem Ent.none (lens : List Nat) (lo hi x : Nat) : Ent lens 0 lo hi x 0 := ⟨fun s h => absurd h (by omega), .inl rfl⟩
structure BCode (lens : List Nat) (link LN m k : Nat) (b : Bld) : Prop where
 short : ∀ i, i < 512 → (LN = 0 ∨ revB 9 i < link) → Ent lens k 0 9 i (b.chunks.getD i 0)
 long : ∀ v, v < LN → ∀ j, j < m → Ent lens k 9 15 (revB 9 (link + v) + 512 * j) ((b.links.getD v []).getD j 0)
theorem long_pre {c : Cnt} {link LN n cd : Nat} (hf : ∀ n, n ≤ c.max → Ck c.count n ≤ 2 ^ n) (hd : Dims c link LN) (hnm : n ≤ c.max) (h9 : 9 < n) (hlo : 2 * Ck c.count (n - 1) ≤ cd) (hlt : cd + 1 ≤ Ck c.count n) :
 cd / 2 ^ (n - 9) < 512 ∧ link ≤ cd / 2 ^ (n - 9) := by
 have hcdn : cd < 2 ^ n := by have := hf n hnm; omega
 constructor
 · refine (Nat.div_lt_iff_lt_mul (Nat.two_pow_pos _)).2 ?_; have : 512 * 2 ^ (n - 9) = 2 ^ n := by rw [show 512 = 2 ^ 9 from rfl, ← Nat.pow_add]; congr 1; omega
   omega
 · refine (Nat.le_div_iff_mul_le (Nat.two_pow_pos _)).2 ?_; have h2 := Ck_mono c.count 9 (n - 1 - 9); rw [show 9 + (n - 1 - 9) = n - 1 by omega] at h2
   have e : 2 ^ (n - 9) = 2 * 2 ^ (n - 1 - 9) := by rw [Nat.mul_comm, ← Nat.pow_succ]; congr 1; omega
   rw [e, hd.lk, ← Nat.mul_assoc, Nat.mul_comm (Ck c.count 9) 2, Nat.mul_assoc]; omega
theorem long_hit {n cd u j : Nat} (h9 : 9 < n) (hu : u < 512) (hp : cd / 2 ^ (n - 9) < 512) : (revB 9 u + 512 * j) % 2 ^ n = revB n cd ↔ u = cd / 2 ^ (n - 9) ∧ j % 2 ^ (n - 9) = revB (n - 9) cd := by
 have e1 : revB n cd = revB (n - 9) cd * 512 + revB 9 (cd / 2 ^ (n - 9)) := by
  have := revB_add (n - 9) 9 cd
  rwa [show n - 9 + 9 = n by omega, show (2 : Nat) ^ 9 = 512 from rfl] at this
 have l1 := revB_lt 9 u
 have l2 := revB_lt 9 (cd / 2 ^ (n - 9))
 have e2 : (revB 9 u + 512 * j) % 2 ^ n = revB 9 u + 512 * (j % 2 ^ (n - 9)) := by
  have : (2 : Nat) ^ n = 512 * 2 ^ (n - 9) := by rw [show 512 = 2 ^ 9 from rfl, ← Nat.pow_add]; congr 1; omega
  rw [this, Nat.mod_mul]; have q1 : (revB 9 u + 512 * j) % 512 = revB 9 u := by omega
  have q2 : (revB 9 u + 512 * j) / 512 = j := by omega
  rw [q1, q2]
 rw [e1, e2]
 constructor
 · intro h; have a1 : revB 9 u = revB 9 (cd / 2 ^ (n - 9)) := by omega
   exact ⟨rev_inj hu hp a1, by omega⟩
 · rintro ⟨rfl, h⟩; rw [h]; omega
theorem bcode_step {lens : List Nat} {c : Cnt} {nx : List Nat} {link LN m k : Nat} {b b' : Bld} (hcc : c = cntAll lens) (hk' : Kraft lens) (hc : CntFacts lens c) (hf : CodeFacts lens c nx) (hd : Dims c link LN)
 (h : BInv lens c link LN m k b) (hB : BCode lens link LN m k b) (hk : k < lens.length) (hst : symStep b k (lens.getD k 0) = some b') : BCode lens link LN m (k + 1) b' := by
 obtain ⟨n, hn⟩ : ∃ n, n = lens.getD k 0 := ⟨_, rfl⟩
 have hnk : lens[k] = n := by rw [hn, List.getD_eq_getElem?_getD, List.getElem?_eq_getElem hk]; rfl
 have hmem : n ∈ lens := by rw [← hnk]; exact List.getElem_mem hk
 rw [← hn] at hst
 by_cases h0 : n = 0
 · subst h0; unfold symStep at hst; rw [if_pos rfl] at hst; obtain rfl := Option.some.inj hst; exact ⟨fun i hi hl => (hB.short i hi hl).miss (fun q => q.2.2.1 hn.symm), fun v hv j hj => (hB.long v hv j hj).miss (fun q => q.2.2.1 hn.symm)⟩
 have hnm : n ≤ c.max := hc.le n hmem
 obtain ⟨cd, hcd⟩ : ∃ cd, cd = b.next.getD n 0 := ⟨_, rfl⟩
 have hcde := h.next n (by omega) hnm
 have hcode : codeOf lens k = cd := by unfold codeOf; rw [← hn, ← hcc, hcd, hcde]
 have hlt : cd + 1 ≤ Ck c.count n := by rw [← hcode, hn, hcc]; exact codeOf_lt hk'.le15 hk (by rw [← hn]; exact h0)
 have hhit : ∀ x, Hits lens k x ↔ x % 2 ^ n = revB n cd := by
  intro x; unfold Hits; rw [← hn, hcode]; exact ⟨fun q => q.2.2, fun q => ⟨h0, hk, q⟩⟩
 unfold symStep at hst
 rw [if_neg h0, ← hcd] at hst
 simp only at hst
 by_cases h9 : n ≤ 9
 · rw [if_pos h9] at hst; obtain rfl := Option.some.inj hst; have hrl : revB n cd < 2 ^ n := revB_lt n cd; refine ⟨fun i hi hl => ?_, fun v hv j hj => (hB.long v hv j hj).miss (fun q => by rw [← hn] at q; omega)⟩
   simp only; rw [stride_getD _ _ _ _ _ (by rw [h.clen]; exact hi)]
   by_cases e : i % 2 ^ n = revB n cd
   · rw [if_pos ((stride_iff hrl).2 e), hn]; exact Ent.hit hk' (by rw [← hn]; omega) (by rw [← hn]; exact h9) ((hhit i).2 e)
   · rw [if_neg (fun q => e ((stride_iff hrl).1 q))]
     exact (hB.short i hi hl).miss (fun q => e ((hhit i).1 q.2.2))
 · rw [if_neg h9] at hst; have hnd : n = (n - 9) + 9 := by omega
   obtain ⟨p1, p2⟩ := long_pre hf.le hd hnm (by omega) (by omega) hlt
   have hrev : revB n cd % 512 = revB 9 (cd / 2 ^ (n - 9)) := by
    conv => lhs; rw [hnd, revB_add]
    rw [Nat.mul_comm, show (2 : Nat) ^ 9 = 512 from rfl, Nat.mul_add_mod]
    exact Nat.mod_eq_of_lt (revB_lt 9 _)
   have hrd : revB n cd / 512 = revB (n - 9) cd := by
    conv => lhs; rw [hnd]
    exact revB_div (n - 9) 9 cd
   have hLN : link + LN = 512 := by
    rcases hd.few with ⟨_, q⟩ | ⟨_, q2, _⟩
    · omega
    · exact q2
   have hbig := h.big (cd / 2 ^ (n - 9) - link) (by omega)
   rw [show link + (cd / 2 ^ (n - 9) - link) = cd / 2 ^ (n - 9) by omega] at hbig
   rw [hrev, hbig] at hst; have hv : ((cd / 2 ^ (n - 9) - link) * 16 + 10) / 16 = cd / 2 ^ (n - 9) - link := by omega
   rw [hv, if_pos (by rw [h.llen]; omega)] at hst
   obtain rfl := Option.some.inj hst; refine ⟨fun i hi hl => (hB.short i hi hl).miss (fun q => by rw [← hn] at q; omega), fun v hv' j hj => ?_⟩
   simp only; have hvl : cd / 2 ^ (n - 9) - link < b.links.length := by rw [h.llen]; omega
   have hmemr : b.links.getD (cd / 2 ^ (n - 9) - link) [] ∈ b.links := by
    rw [List.getD_eq_getElem?_getD, List.getElem?_eq_getElem hvl]; exact List.getElem_mem hvl
   obtain ⟨r1, r2⟩ := h.rows _ hmemr; have hx := fun q => (long_hit (n := n) (cd := cd) (u := link + v) (j := j) (by omega) (by omega) p1).1 ((hhit _).1 q)
   by_cases ev : cd / 2 ^ (n - 9) - link = v
   · have hset : (b.links.set (cd / 2 ^ (n - 9) - link) (stride (b.links.getD (cd / 2 ^ (n - 9) - link) []) (revB n cd / 512) (2 ^ (n - 9)) (k * 16 + n))).getD v [] =
      stride (b.links.getD v []) (revB n cd / 512) (2 ^ (n - 9)) (k * 16 + n) := by
      rw [← ev, List.getD_eq_getElem?_getD, List.getElem?_set, if_pos rfl, if_pos hvl]; rfl
     rw [hset, stride_getD _ _ _ _ _ (by rw [← ev, r1]; exact hj), hrd]
     by_cases e : j % 2 ^ (n - 9) = revB (n - 9) cd
     · rw [if_pos ((stride_iff (revB_lt _ _)).2 e), hn]; refine Ent.hit hk' (by rw [← hn]; omega) (by rw [← hn]; exact hk'.le15 n hmem) ((hhit _).2 ((long_hit (by omega) (by omega) p1).2 ⟨by omega, e⟩))
     · rw [if_neg (fun q => e ((stride_iff (revB_lt _ _)).1 q))]
       exact (hB.long v hv' j hj).miss (fun q => e (hx q.2.2).2)
   · have hset : (b.links.set (cd / 2 ^ (n - 9) - link) (stride (b.links.getD (cd / 2 ^ (n - 9) - link) []) (revB n cd / 512) (2 ^ (n - 9)) (k * 16 + n))).getD v [] = b.links.getD v [] := by
      rw [List.getD_eq_getElem?_getD, List.getElem?_set, if_neg ev, ← List.getD_eq_getElem?_getD]
     rw [hset]; exact (hB.long v hv' j hj).miss (fun q => by have := (hx q.2.2).1; omega)
theorem bcode_all {lens : List Nat} {c : Cnt} {nx : List Nat} {link LN m : Nat} (hcc : c = cntAll lens) (hk' : Kraft lens) (hc : CntFacts lens c) (hf : CodeFacts lens c nx) (h15 : c.max ≤ 15) (hd : Dims c link LN) (d : Nat) :
 ∀ {k : Nat} {b b' : Bld}, k + d = lens.length → BInv lens c link LN m k b → BCode lens link LN m k b → symAll b k (lens.drop k) = some b' → BInv lens c link LN m lens.length b' ∧ BCode lens link LN m lens.length b' := by
 induction d with
 | zero =>
  intro k b b' hk h hB hs; obtain rfl : k = lens.length := by omega
  rw [List.drop_length] at hs; obtain rfl := Option.some.inj hs; exact ⟨h, hB⟩
 | succ d ih =>
  intro k b b' hk h hB hs; have hlt : k < lens.length := by omega
  obtain ⟨b1, h1, h2⟩ := binv_step hc hf h15 hd h hlt; have h3 := bcode_step hcc hk' hc hf hd h hB hlt h1; obtain ⟨b2, h4, h5⟩ := symAll_step hlt hs; rw [h1] at h4; obtain rfl := Option.some.inj h4; exact ih (by omega) h2 h3 h5
theorem hits_mod {lens : List Nat} {s x m : Nat} (h : lens.getD s 0 ≤ m) : Hits lens s (x % 2 ^ m) ↔ Hits lens s x := by
 unfold Hits; rw [Nat.mod_mod_of_dvd _ (Nat.pow_dvd_pow 2 h)]
theorem nextAll_fst {lens : List Nat} (h15 : ∀ n ∈ lens, n ≤ 15) {x : Nat} {nx : List Nat} (h0 : (cntAll lens).max ≠ 0) (hn : nextAll (cntAll lens) = (x, nx)) : x = Ck (cntAll lens).count (cntAll lens).max := by
 have hc := cnt_facts lens
 generalize cntAll lens = c at *
 have hmem : c.max ∈ lens := by rcases hc.mem with e | e; exact absurd e h0; exact e
 have hmax : c.max ≤ 15 := h15 _ hmem
 obtain ⟨hmin0, hminle⟩ := hc.min _ hmem h0
 have hz : ∀ i, i < c.min → Ck c.count i = 0 := Ck_zero fun j h1 h2 => by
  rw [hc.count j (by omega) (by omega)]
  refine List.count_eq_zero.2 fun hj => ?_
  have := (hc.min j hj (by omega)).2; omega
 unfold nextAll at hn
 obtain ⟨nx', e1, e2, e3⟩ := nextFrom_spec c.count (c.max + 1 - c.min) c.min (List.replicate 16 0) (by omega) (by omega) (by simp)
 rw [hz (c.min - 1) (by omega), hn] at e1
 obtain ⟨rfl, rfl⟩ := Prod.mk.injEq .. ▸ e1
 have hxm : c.min + (c.max + 1 - c.min) - 1 = c.max := by omega
 rw [hxm]
structure TabLaw (lens : List Nat) (T : Tab) : Prop where
 kraft : Kraft lens
 hit : ∀ s x, Hits lens s x → T.look x = s * 16 + lens.getD s 0
 only : ∀ x, T.look x = 0 ∨ ∃ s, Hits lens s x ∧ T.look x = s * 16 + lens.getD s 0
def Full (lens : List Nat) : Prop :=
 (cntAll lens).max = 0 ∨ Ck (cntAll lens).count (cntAll lens).max = 2 ^ (cntAll lens).max ∨ (cntAll lens).max = 1 ∧ Ck (cntAll lens).count 1 = 1
theorem bld0_inv {lens : List Nat} {c : Cnt} {nx : List Nat} (hf : CodeFacts lens c nx) (hmax : c.max ≤ 15) :
 Dims c (Ck c.count 9) (if 9 < c.max then 512 - Ck c.count 9 else 0) ∧ BInv lens c (Ck c.count 9) (if 9 < c.max then 512 - Ck c.count 9 else 0) (2 ^ (c.max - 9)) 0 (bld0 c.max nx) ∧
 BCode lens (Ck c.count 9) (if 9 < c.max then 512 - Ck c.count 9 else 0) (2 ^ (c.max - 9)) 0 (bld0 c.max nx) := by
 have rep0 : ∀ n i : Nat, (List.replicate n 0).getD i 0 = 0 := fun n i => by
  rw [List.getD_eq_getElem?_getD, List.getElem?_replicate]; split <;> rfl
 have hl10 : 9 < c.max → nx.getD 10 0 / 2 = Ck c.count 9 := fun h9 => by rw [hf.nx 10 (by omega) (by omega)]; exact Nat.mul_div_cancel_left _ (by omega)
 have hnext0 : ∀ n, 1 ≤ n → n ≤ c.max → nx.getD n 0 = 2 * Ck c.count (n - 1) + (lens.take 0).count n := by
  intro n h1 h2; rw [hf.nx n h1 h2]; simp
 by_cases h9 : 9 < c.max
 · have hfew := hf.few h9; have hb : bld0 c.max nx = { next := nx, chunks := linkTo (Ck c.count 9) (List.replicate 512 0) (512 - Ck c.count 9), links := List.replicate (512 - Ck c.count 9) (List.replicate (2 ^ (c.max - 9)) 0) } := by
    unfold bld0; rw [if_pos h9, hl10 h9]
   rw [hb, if_pos h9]; refine ⟨⟨rfl, .inr ⟨h9, by omega, by omega⟩⟩, ⟨hf.len, hnext0, by rw [linkTo_length, List.length_replicate], List.length_replicate, fun v hv => ?_, fun i hi hl => ?_, fun l hl => ?_⟩, ⟨fun i hi hl => ?_, fun v hv j hj => ?_⟩⟩
   · simp only; rw [linkTo_getD _ _ _ (revB_lt 9 _) (by omega), revB_revB, Nat.mod_eq_of_lt (by omega), if_pos (by omega)]; omega
   · simp only; rw [linkTo_getD _ _ _ hi (by omega), if_neg (by omega)]; exact .inl rfl
   · simp only [List.mem_replicate] at hl; rw [hl.2]; exact ⟨by simp, fun j _ => .inl (rep0 _ _)⟩
   · simp only; rw [linkTo_getD _ _ _ hi (by omega), if_neg (by omega)]; exact Ent.none _ _ _ _
   · have : (List.replicate (512 - Ck c.count 9) (List.replicate (2 ^ (c.max - 9)) 0)).getD v [] = List.replicate (2 ^ (c.max - 9)) 0 := by
      rw [List.getD_eq_getElem?_getD, List.getElem?_replicate, if_pos hv]; rfl
     simp only; rw [this, rep0]; exact Ent.none _ _ _ _
 · have hb : bld0 c.max nx = { next := nx, chunks := List.replicate 512 0, links := [] } := by unfold bld0; rw [if_neg h9]
   rw [hb, if_neg h9]; exact ⟨⟨rfl, .inl ⟨rfl, by omega⟩⟩, ⟨hf.len, hnext0, List.length_replicate, rfl, fun v hv => absurd hv (by omega), fun i _ _ => .inl (rep0 _ _), fun l hl => absurd hl List.not_mem_nil⟩,
    ⟨fun i _ _ => by simp only; rw [rep0]; exact Ent.none _ _ _ _, fun v hv => absurd hv (by omega)⟩⟩
theorem zero_lens {lens : List Nat} (h0 : (cntAll lens).max = 0) : ∀ s, lens.getD s 0 = 0 := by
 intro s
 rw [List.getD_eq_getElem?_getD]
 by_cases hs : s < lens.length
 · rw [List.getElem?_eq_getElem hs]; have := (cnt_facts lens).le _ (List.getElem_mem hs); simp only [Option.getD_some]; omega
 · rw [List.getElem?_eq_none (by omega)]; rfl
theorem initTab_code {lens : List Nat} (h15 : ∀ n ∈ lens, n ≤ 15) {T : Tab} (hT : initTab lens = some (some T)) : TabLaw lens T ∧ Full lens := by
 obtain ⟨c, hcc⟩ : ∃ c, c = cntAll lens := ⟨_, rfl⟩
 by_cases h0 : c.max = 0
 · rw [initTab_empty hcc h0] at hT; obtain rfl := Option.some.inj (Option.some.inj hT); have hz := zero_lens (hcc ▸ h0); refine ⟨⟨⟨h15, fun n hn => ?_⟩, fun s x hs => absurd (hz s) hs.1, fun x => .inl ?_⟩, .inl (hcc ▸ h0)⟩
   · rw [← hcc, h0] at hn; obtain rfl : n = 0 := by omega
     simp [Ck]
   · unfold Tab.look emptyTab; have : (List.replicate 512 0).getD (x % 512) 0 = 0 := by
      rw [List.getD_eq_getElem?_getD, List.getElem?_replicate]; split <;> rfl
     simp only; rw [this]; rfl
 obtain ⟨x, nx, hn⟩ : ∃ x nx, nextAll c = (x, nx) := ⟨_, _, rfl⟩
 by_cases hok : x ≠ 2 ^ c.max ∧ ¬ (x = 1 ∧ c.max = 1)
 · rw [initTab_bad hcc h0 hn (by simp [hok])] at hT
   simp at hT
 have hc := cnt_facts lens
 have hf := code_facts h15 (hcc ▸ h0) (hcc ▸ hn) (hcc ▸ hok)
 have hx := nextAll_fst h15 (hcc ▸ h0) (hcc ▸ hn)
 rw [← hcc] at hc hf hx
 have hk : Kraft lens := ⟨h15, by rw [← hcc]; exact hf.le⟩
 have hmax : c.max ≤ 15 := h15 _ (by rcases hc.mem with e | e; exact absurd e h0; exact e)
 obtain ⟨hd, hI, hB⟩ := bld0_inv hf hmax
 obtain ⟨_, b, hb1, hb2⟩ := initTab_go hcc h0 hn (by simp only [Bool.false_eq, decide_eq_false_iff_not]; exact hok) (by rw [hT]; simp)
 rw [hT] at hb2
 obtain rfl := Option.some.inj (Option.some.inj hb2)
 obtain ⟨gI, gB⟩ := bcode_all hcc hk hc hf hmax hd lens.length (k := 0) (by omega) hI hB (by rw [List.drop_zero]; exact hb1)
 have hfull : Full lens := by
  unfold Full; rw [← hcc]
  by_cases q : x = 2 ^ c.max
  · exact .inr (.inl (by rw [← hx]; exact q))
  · have : x = 1 ∧ c.max = 1 := by
     by_cases q2 : x = 1 ∧ c.max = 1
     · exact q2
     · exact absurd ⟨q, q2⟩ hok
    exact .inr (.inr ⟨this.2, by have h1 := hx; rw [this.2] at h1; rw [← h1]; exact this.1⟩)
 have key : ∀ y, (∃ lo hi, Ent lens lens.length lo hi y ((mkTab c b).look y) ∧ ∀ s, Hits lens s y → lo < lens.getD s 0 ∧ lens.getD s 0 ≤ hi) := by
  intro y; have hl9 := revB_lt 9 (y % 512); have hy9 : revB 9 (y % 512) = revB 9 y := revB_mod 9 y; have hcodes : ∀ s, Hits lens s y → 1 ≤ lens.getD s 0 ∧ lens.getD s 0 ≤ c.max ∧ 2 * Ck c.count (lens.getD s 0 - 1) ≤ codeOf lens s ∧ codeOf lens s + 1 ≤ Ck c.count (lens.getD s 0) := by
   intro s hs; have h1 := codeOf_lt h15 hs.2.1 hs.1; have h2 := (hk.getD hs.2.1).1; rw [← hcc] at h1 h2; exact ⟨by have := hs.1; omega, h2, by unfold codeOf; rw [← hcc]; omega, h1⟩
  by_cases hs : (if 9 < c.max then 512 - Ck c.count 9 else 0) = 0 ∨ revB 9 (y % 512) < Ck c.count 9
  · have he := gB.short (y % 512) (Nat.mod_lt _ (by omega)) hs
    have hsm := gI.small (y % 512) (Nat.mod_lt _ (by omega)) hs
    have hlook : (mkTab c b).look y = b.chunks.getD (y % 512) 0 := by
     unfold Tab.look
     show (let c0 := b.chunks.getD (y % 512) 0; if 9 < c0 % 16 then _ else c0) = _
     simp only; rw [if_neg]; rcases hsm with q | ⟨s, n, h1, h2, h3, q⟩ <;> rw [q] <;> omega
    refine ⟨0, 9, ?_, fun s q => ?_⟩
    · rw [hlook]; have hm : ∀ s, lens.getD s 0 ≤ 9 → (Hits lens s (y % 512) ↔ Hits lens s y) := fun s q => hits_mod (m := 9) q
      refine ⟨fun s a1 a2 a3 a4 => he.1 s a1 a2 a3 ((hm s a3).2 a4), ?_⟩
      rcases he.2 with q | ⟨s, a1, a2, a3, a4, a5⟩
      · exact .inl q
      · exact .inr ⟨s, a1, a2, a3, (hm s a3).1 a4, a5⟩
    · obtain ⟨a1, a2, a3, a4⟩ := hcodes s q; refine ⟨by omega, ?_⟩
      by_cases h9 : lens.getD s 0 ≤ 9
      · exact h9
      · exfalso
        have := long_pre hf.le hd a2 (by omega) a3 a4
        have hh := (long_hit (n := lens.getD s 0) (cd := codeOf lens s) (u := revB 9 y) (j := y / 512) (by omega) (revB_lt 9 y) this.1).1 (by
         rw [revB_revB, show (2 : Nat) ^ 9 = 512 from rfl, show y % 512 + 512 * (y / 512) = y by omega]; exact q.2.2)
        rw [hy9] at hs; have h91 : 9 < c.max := by omega
        rw [if_pos h91] at hs; have := hf.few h91; rcases hs with e | e
        · omega
        · rw [hh.1] at e; omega
  · obtain ⟨s1, s2⟩ := not_or.1 hs; have h91 : 9 < c.max := by
     by_cases q : 9 < c.max
     · exact q
     · rw [if_neg q] at s1; exact absurd rfl s1
    have hfew := hf.few h91; rw [if_pos h91] at gI gB s1; have hbig := gI.big (revB 9 (y % 512) - Ck c.count 9) (by omega)
    rw [show Ck c.count 9 + (revB 9 (y % 512) - Ck c.count 9) = revB 9 (y % 512) by omega, revB_revB, Nat.mod_mod] at hbig
    have hlook : (mkTab c b).look y = (b.links.getD (revB 9 (y % 512) - Ck c.count 9) []).getD (y / 512 % 2 ^ (c.max - 9)) 0 := by
     unfold Tab.look
     show (let c0 := b.chunks.getD (y % 512) 0; if 9 < c0 % 16 then (b.links.getD (c0 / 16) []).getD ((y / 512) &&& (mkTab c b).mask) 0 else c0) = _
     simp only; rw [show y % 512 = y % 2 ^ 9 from rfl, hbig, if_pos (by omega)]
     have e1 : ((revB 9 (y % 512) - Ck c.count 9) * 16 + 10) / 16 = revB 9 (y % 512) - Ck c.count 9 := by omega
     rw [show y % 2 ^ 9 = y % 512 from rfl, e1]
     have e2 : (mkTab c b).mask = 2 ^ (c.max - 9) - 1 := by unfold mkTab; simp only; rw [if_pos h91]
     rw [e2, Nat.and_two_pow_sub_one_eq_mod]
    have he := gB.long (revB 9 (y % 512) - Ck c.count 9) (by omega) (y / 512 % 2 ^ (c.max - 9)) (Nat.mod_lt _ (Nat.two_pow_pos _))
    rw [show Ck c.count 9 + (revB 9 (y % 512) - Ck c.count 9) = revB 9 (y % 512) by omega, revB_revB, Nat.mod_mod] at he
    have hyy : y % 512 + 512 * (y / 512 % 2 ^ (c.max - 9)) = y % 2 ^ c.max := by
     have : (2 : Nat) ^ c.max = 512 * 2 ^ (c.max - 9) := by rw [show 512 = 2 ^ 9 from rfl, ← Nat.pow_add]; congr 1; omega
     rw [this, Nat.mod_mul]
    rw [hyy] at he; have hm : ∀ s, Hits lens s (y % 2 ^ c.max) ↔ Hits lens s y := by
     intro s; refine hits_mod ?_; rw [List.getD_eq_getElem?_getD]
     by_cases hs : s < lens.length
     · rw [List.getElem?_eq_getElem hs]; exact hc.le _ (List.getElem_mem hs)
     · rw [List.getElem?_eq_none (by omega)]; exact Nat.zero_le _
    refine ⟨9, 15, ?_, fun s q => ?_⟩
    · rw [hlook]; refine ⟨fun s a1 a2 a3 a4 => he.1 s a1 a2 a3 ((hm s).2 a4), ?_⟩
      rcases he.2 with q | ⟨s, a1, a2, a3, a4, a5⟩
      · exact .inl q
      · exact .inr ⟨s, a1, a2, a3, (hm s).1 a4, a5⟩
    · obtain ⟨a1, a2, a3, a4⟩ := hcodes s q; refine ⟨?_, by omega⟩
      by_cases h9 : lens.getD s 0 ≤ 9
      · exfalso
        have hcd : codeOf lens s < 2 ^ lens.getD s 0 := hk.code_lt q.2.1 q.1; have h1 := rev_short h9 hcd q.2.2; have h2 := Ck_mono c.count (lens.getD s 0) (9 - lens.getD s 0); rw [show lens.getD s 0 + (9 - lens.getD s 0) = 9 by omega] at h2
        have h3 : (codeOf lens s + 1) * 2 ^ (9 - lens.getD s 0) ≤ Ck c.count (lens.getD s 0) * 2 ^ (9 - lens.getD s 0) := Nat.mul_le_mul_right _ a4; rw [hy9] at s2; omega
      · omega
 refine ⟨⟨hk, fun s y hs => ?_, fun y => ?_⟩, hfull⟩
 · obtain ⟨lo, hi, he, hr⟩ := key y; exact he.1 s hs.2.1 (hr s hs).1 (hr s hs).2 hs
 · obtain ⟨lo, hi, he, hr⟩ := key y; rcases he.2 with q | ⟨s, _, _, _, a4, a5⟩
   · exact .inl q
   · exact .inr ⟨s, a4, a5⟩
theorem revB_zero (n : Nat) : revB n 0 = 0 := by
 induction n with
 | zero => rfl
 | succ n ih => rw [revB, ih]; simp
theorem rank_some {l : List Nat} {n : Nat} : ∀ {r : Nat}, r < l.count n → ∃ s, s < l.length ∧ l.getD s 0 = n ∧ (l.take s).count n = r := by
 induction l with
 | nil => intro r h; simp at h
 | cons a l ih =>
  intro r h
  by_cases e : a = n
  · subst e
    cases r with
    | zero => exact ⟨0, by simp, by simp, by simp⟩
    | succ r =>
     rw [List.count_cons_self] at h; obtain ⟨s, h1, h2, h3⟩ := ih (r := r) (by omega)
     exact ⟨s + 1, by simp; omega, by simpa using h2, by rw [List.take_succ_cons, List.count_cons_self, h3]⟩
  · rw [List.count_cons_of_ne (by exact e)] at h
    obtain ⟨s, h1, h2, h3⟩ := ih h; exact ⟨s + 1, by simp; omega, by simpa using h2, by rw [List.take_succ_cons, List.count_cons_of_ne (by exact e), h3]⟩
theorem hit_some {lens : List Nat} (hk : Kraft lens) (hf : Ck (cntAll lens).count (cntAll lens).max = 2 ^ (cntAll lens).max) (x : Nat) :
 ∃ s, Hits lens s x ∧ ∀ n, n ≤ (cntAll lens).max → revB n x < Ck (cntAll lens).count n → lens.getD s 0 ≤ n := by
 have hc := cnt_facts lens
 have h15 := hk.le15
 have key : ∀ d n, n + d = (cntAll lens).max → (∀ i, i < n → Ck (cntAll lens).count i ≤ revB i x) → ∃ n, n ≤ (cntAll lens).max ∧ revB n x < Ck (cntAll lens).count n ∧ ∀ i, i < n → Ck (cntAll lens).count i ≤ revB i x := by
  intro d
  induction d with
  | zero =>
   intro n hn hi; obtain rfl : n = (cntAll lens).max := by omega
   exact ⟨_, Nat.le_refl _, by rw [hf]; exact revB_lt _ _, hi⟩
  | succ d ih =>
   intro n hn hi
   by_cases h : revB n x < Ck (cntAll lens).count n
   · exact ⟨n, by omega, h, hi⟩
   · exact ih (n + 1) (by omega) (fun i q => by
      by_cases e : i = n
      · subst e; omega
      · exact hi i (by omega))
 obtain ⟨n, h1, h2, h3⟩ := key (cntAll lens).max 0 (by omega) (fun i q => absurd q (by omega))
 have hn0 : n ≠ 0 := by intro e; subst e; simp [Ck] at h2
 obtain ⟨q, rfl⟩ : ∃ q, n = q + 1 := ⟨n - 1, by omega⟩
 have h4 := h3 q (by omega)
 have h5 : revB (q + 1) x / 2 = revB q x := by have := revB_div q 1 x; rwa [Nat.pow_one] at this
 rw [Ck] at h2
 have hmax15 : (cntAll lens).max ≤ 15 := by
  rcases hc.mem with e | e
  · omega
  · exact h15 _ e
 rw [hc.count (q + 1) (by omega) (by omega)] at h2
 obtain ⟨s, hs, e1, e2⟩ := rank_some (l := lens) (n := q + 1) (r := revB (q + 1) x - 2 * Ck (cntAll lens).count q) (by omega)
 refine ⟨s, ⟨by rw [e1]; omega, hs, ?_⟩, fun m hm hlt => ?_⟩
 · have : codeOf lens s = revB (q + 1) x := by unfold codeOf; rw [e1, e2, Nat.add_sub_cancel]; omega
   rw [e1, this, revB_revB]
 · rw [e1]; rcases Nat.lt_or_ge m (q + 1) with a | a
   · have := h3 m a; omega
   · exact a
theorem revB_low (n k x : Nat) : revB n (x % 2 ^ k) ≤ revB n x := by
 induction n generalizing k x with
 | zero => simp [revB]
 | succ n ih =>
  cases k with
  | zero => rw [Nat.pow_zero, Nat.mod_one]; rw [show revB (n + 1) 0 = 0 from revB_zero (n + 1)]; exact Nat.zero_le _
  | succ k =>
   rw [revB, revB]; have h1 : x % 2 ^ (k + 1) % 2 = x % 2 := by rw [Nat.pow_succ, Nat.mul_comm, Nat.mod_mul_right_mod]
   have h2 : x % 2 ^ (k + 1) / 2 = x / 2 % 2 ^ k := by rw [Nat.pow_succ, Nat.mul_comm, Nat.mod_mul_right_div_self]
   rw [h1, h2]; have := ih k (x / 2); omega
theorem hit_low {lens : List Nat} (hk : Kraft lens) (hf : Ck (cntAll lens).count (cntAll lens).max = 2 ^ (cntAll lens).max) {s x k : Nat} (hs : Hits lens s x) : ∃ t, Hits lens t (x % 2 ^ k) ∧ lens.getD t 0 ≤ lens.getD s 0 := by
 obtain ⟨t, ht, hm⟩ := hit_some hk hf (x % 2 ^ k)
 refine ⟨t, ht, hm _ (hk.getD hs.2.1).1 ?_⟩
 have h1 := revB_low (lens.getD s 0) k x
 have h2 : revB (lens.getD s 0) x = codeOf lens s := by
  rw [← revB_mod, hs.2.2, revB_revB, Nat.mod_eq_of_lt (hk.code_lt hs.2.1 hs.1)]
 have h3 := codeOf_lt hk.le15 hs.2.1 hs.1
 omega
def SymAt (lens : List Nat) (src : List UInt8) (a s : Nat) : Prop := Hits lens s (bv src a 15) ∧ a + lens.getD s 0 ≤ 8 * src.length
theorem hits_bv {lens : List Nat} {src : List UInt8} {a s m : Nat} (h15 : lens.getD s 0 ≤ 15) (hm : lens.getD s 0 ≤ m) : Hits lens s (bv src a m) ↔ Hits lens s (bv src a 15) := by
 have e : ∀ k, lens.getD s 0 ≤ k → bv src a k % 2 ^ lens.getD s 0 = bv src a (lens.getD s 0) := fun k hk => by
  have := bv_mod src a (lens.getD s 0) (k - lens.getD s 0)
  rwa [show lens.getD s 0 + (k - lens.getD s 0) = k by omega] at this
 unfold Hits
 rw [e m hm, e 15 h15]
theorem SymAt.one {lens : List Nat} (h : Kraft lens) {src : List UInt8} {a s t : Nat} (hs : SymAt lens src a s) (ht : SymAt lens src a t) : s = t := hits_one h hs.1 ht.1
theorem sym_at {lens : List Nat} {T : Tab} (hL : TabLaw lens T) {src : List UInt8} (f : Nat) : ∀ {n : Nat} {r r' : Br} {s : Nat}, r.ok src → sym src T f n r = .ok s r' → SymAt lens src r.at_ s ∧ r'.at_ = r.at_ + lens.getD s 0 := by
 induction f with
 | zero => intro n r r' s _ h; simp [sym] at h
 | succ f ih =>
  intro n r r' s hr h; rw [sym] at h
  cases hf : fill src.length n r with
  | mk t r1 =>
   obtain ⟨a1, a2, a3, a4, a5⟩ := fill_ok hr hf; rw [hf] at h
   cases t with
   | false => simp at h
   | true =>
    simp only at h; split at h
    · rename_i hle; split at h
      · simp at h
      · rename_i h0; simp only [Rd.ok.injEq] at h; obtain ⟨rfl, rfl⟩ := h; rcases hL.only (r1.b src) with q | ⟨t, q1, q2⟩
        · rw [q] at h0; exact absurd rfl h0
        · have ht := hL.kraft.getD q1.2.1; have e1 : T.look (r1.b src) / 16 = t := by omega
          have e2 : T.look (r1.b src) % 16 = lens.getD t 0 := by omega
          rw [e2] at hle; rw [e1, e2, ← a2]; refine ⟨⟨(hits_bv ht.2 hle).1 q1, ?_⟩, rfl⟩; have h1 := a1.1; have h2 := a1.2; unfold Br.nb at hle; omega
    · have := ih a1 h
      rwa [a2] at this
theorem sym_of {lens : List Nat} {T : Tab} (hL : TabLaw lens T) (hF : Full lens) {src : List UInt8} {s : Nat} (f : Nat) : ∀ {n : Nat} {r : Br}, SymAt lens src r.at_ s → r.ok src → r.at_ + n ≤ 8 * src.length →
 ((cntAll lens).max = 1 → 1 ≤ n) → lens.getD s 0 < f + n → 1 ≤ f → ∃ r', sym src T f n r = .ok s r' ∧ r'.at_ = r.at_ + lens.getD s 0 ∧ r'.ok src ∧ (r'.nb + lens.getD s 0 ≤ r.nb ∨ r'.nb + lens.getD s 0 ≤ n + 7 ∨ r'.nb + lens.getD s 0 ≤ lens.getD s 0 + 7) := by
 induction f with
 | zero => intro n r _ _ _ _ _ h; omega
 | succ f ih =>
  intro n r hs hr hn h1 hfn _; have hlen := hL.kraft.getD hs.1.2.1; have hs0 := hs.1.1; have hfl : ∃ r1, fill src.length n r = (true, r1) := by
   unfold fill; split
   · exact ⟨_, rfl⟩
   · rw [if_pos (by omega)]; exact ⟨_, rfl⟩
  obtain ⟨r1, hf⟩ := hfl; obtain ⟨a1, a2, a3, a4, a5⟩ := fill_ok hr hf; have hn1 := a4 rfl; have hx : r1.b src = bv src r.at_ r1.nb := by unfold Br.b; rw [a2]
  rw [sym, hf]; simp only
  by_cases hle : lens.getD s 0 ≤ r1.nb
  · have hlook : T.look (r1.b src) = s * 16 + lens.getD s 0 := hL.hit _ _ (by rw [hx]; exact (hits_bv hlen.2 hle).2 hs.1)
    have e1 : T.look (r1.b src) / 16 = s := by omega
    have e2 : T.look (r1.b src) % 16 = lens.getD s 0 := by omega
    rw [e1, e2, if_pos hle, if_neg hs0]; obtain ⟨b1, b2⟩ := skip_ok a1 hle; exact ⟨_, rfl, by simp only; rw [a2], b1, by rw [b2]; omega⟩
  · have hfull : Ck (cntAll lens).count (cntAll lens).max = 2 ^ (cntAll lens).max := by
     rcases hF with q | q | q
     · omega
     · exact q
     · have := h1 q.1; omega
    have hxx : r1.b src = bv src r.at_ 15 % 2 ^ r1.nb := by
     rw [hx]; have := bv_mod src r.at_ r1.nb (15 - r1.nb); rw [show r1.nb + (15 - r1.nb) = 15 by omega] at this
     exact this.symm
    obtain ⟨t, ht, htl⟩ := hit_low (k := r1.nb) hL.kraft hfull hs.1; rw [← hxx] at ht; have hlook := hL.hit _ _ ht; have htk := hL.kraft.getD ht.2.1; have e2 : T.look (r1.b src) % 16 = lens.getD t 0 := by omega
    rw [e2]; have hgt : ¬ lens.getD t 0 ≤ r1.nb := by
     intro q; rw [hx] at ht; have : t = s := hits_one hL.kraft ((hits_bv htk.2 q).1 ht) hs.1; rw [this] at q; exact hle q
    rw [if_neg hgt]; have hs2 := hs.2; obtain ⟨r', g1, g2, g3, g4⟩ := ih (n := lens.getD t 0) (r := r1) (by rw [a2]; exact hs) a1 (by rw [a2]; omega) (fun _ => by omega) (by omega) (by omega)
    refine ⟨r', g1, by rw [g2, a2], g3, ?_⟩
    omega
theorem symbol_at {lens : List Nat} {T : Tab} (hL : TabLaw lens T) {src : List UInt8} {r r' : Br} {s : Nat} (hr : r.ok src) (h : symbol src T r = .ok s r') : SymAt lens src r.at_ s ∧ r'.at_ = r.at_ + lens.getD s 0 := sym_at hL 20 hr h
theorem symbol_of {lens : List Nat} {T : Tab} (hL : TabLaw lens T) (hF : Full lens) {src : List UInt8} {r : Br} {s : Nat} (hs : SymAt lens src r.at_ s) (hr : r.ok src) (hn : r.at_ + T.min ≤ 8 * src.length) (h1 : (cntAll lens).max = 1 → 1 ≤ T.min) :
 ∃ r', symbol src T r = .ok s r' ∧ r'.at_ = r.at_ + lens.getD s 0 ∧ r'.ok src ∧ (r'.nb + lens.getD s 0 ≤ r.nb ∨ r'.nb + lens.getD s 0 ≤ T.min + 7 ∨ r'.nb + lens.getD s 0 ≤ lens.getD s 0 + 7) :=
 sym_of hL hF 20 hs hr hn h1 (by have := (hL.kraft.getD hs.1.2.1).2; omega) (by omega)
end Flate
namespace Flate
open Classical in
noncomputable def symS (lens : List Nat) (src : List UInt8) (a : Nat) : Option Nat := if h : ∃ s, SymAt lens src a s then some h.choose else none
theorem symS_iff {lens : List Nat} (h : Kraft lens) {src : List UInt8} {a s : Nat} : symS lens src a = some s ↔ SymAt lens src a s := by
 unfold symS
 constructor
 · intro e; split at e
   · rename_i q; obtain rfl := Option.some.inj e; exact q.choose_spec
   · simp at e
 · intro e; rw [dif_pos ⟨s, e⟩]; exact congrArg some (SymAt.one h (⟨s, e⟩ : ∃ t, SymAt lens src a t).choose_spec e)
theorem symS_none {lens : List Nat} {src : List UInt8} {a : Nat} : symS lens src a = none ↔ ∀ s, ¬ SymAt lens src a s := by
 unfold symS
 constructor
 · intro e s hs; rw [dif_pos ⟨s, hs⟩] at e; simp at e
 · intro e; rw [dif_neg (fun ⟨s, hs⟩ => e s hs)]
noncomputable def spPair (src : List UInt8) (dl : List Nat) (v a : Nat) : Option (Nat × Nat × Nat) :=
 match lenOf v with
 | none => none
 | some (lb, lx) =>
  if 8 * src.length < a + lx then none
  else match symS dl src (a + lx) with
   | none => none
   | some d =>
    match distOf d with
    | none => none
    | some (db, dx) =>
     if 8 * src.length < a + lx + dl.getD d 0 + dx then none
     else some (lb + bv src a lx, db + bv src (a + lx + dl.getD d 0) dx, a + lx + dl.getD d 0 + dx)
inductive SpR where
 | fail
 | fin (a : Nat)
 | go (a : Nat) (H : List UInt8)
noncomputable def spStep (src : List UInt8) (ll dl : List Nat) (a : Nat) (H : List UInt8) : SpR :=
 match symS ll src a with
 | none => .fail
 | some s =>
  if s < 256 then .go (a + ll.getD s 0) (H ++ [UInt8.ofNat s])
  else if s = 256 then .fin (a + ll.getD s 0)
  else match spPair src dl s (a + ll.getD s 0) with
   | none => .fail
   | some (n, f, a') => if H.length < f then .fail else .go a' (lz H f n)
inductive SpRun (src : List UInt8) (ll dl : List Nat) : Nat → List UInt8 → Option (Nat × List UInt8) → Prop
 | fail {a H} : spStep src ll dl a H = .fail → SpRun src ll dl a H none
 | fin {a H a'} : spStep src ll dl a H = .fin a' → SpRun src ll dl a H (some (a', H))
 | go {a H a' H' R} : spStep src ll dl a H = .go a' H' → SpRun src ll dl a' H' R → SpRun src ll dl a H R
theorem getBits_at {src : List UInt8} {n : Nat} {r : Br} (hr : r.ok src) (hn : r.at_ + n ≤ 8 * src.length) :
 ∃ r', getBits src n r = .ok (bv src r.at_ n) r' ∧ r'.at_ = r.at_ + n ∧ r'.ok src ∧ (r'.nb + n ≤ r.nb ∨ r'.nb ≤ 7) := by
 unfold getBits
 have hfl : ∃ r1, fill src.length n r = (true, r1) := by
  unfold fill; split
  · exact ⟨_, rfl⟩
  · rw [if_pos (by omega)]; exact ⟨_, rfl⟩
 obtain ⟨r1, hf⟩ := hfl
 obtain ⟨a1, a2, a3, a4, a5⟩ := fill_ok hr hf
 obtain ⟨b1, b2⟩ := skip_ok a1 (a4 rfl)
 rw [hf]
 simp only
 refine ⟨_, by rw [a2], by simp only; rw [a2], b1, ?_⟩
 rw [b2]
 have := a4 rfl
 omega
theorem getBits_ok {src : List UInt8} {n x : Nat} {r r' : Br} (hr : r.ok src) (h : getBits src n r = .ok x r') : r.at_ + n ≤ 8 * src.length ∧ x = bv src r.at_ n ∧ r'.at_ = r.at_ + n ∧ r'.ok src := by
 unfold getBits at h
 cases hf : fill src.length n r with
 | mk t r1 =>
  obtain ⟨a1, a2, a3, a4, a5⟩ := fill_ok hr hf; rw [hf] at h
  cases t with
  | false => simp at h
  | true =>
   simp only [Rd.ok.injEq] at h; obtain ⟨rfl, rfl⟩ := h; have h1 := a1.1; have h2 := a1.2; have h3 := a4 rfl; unfold Br.nb at h3; exact ⟨by omega, by rw [a2], by simp only; rw [a2], (skip_ok a1 (a4 rfl)).1⟩
theorem getBits_bad {src : List UInt8} {n : Nat} {r r' : Br} {e : Err} (h : getBits src n r = .bad e r') : e = .cut := by
 unfold getBits at h
 split at h
 · simp only [Rd.bad.injEq] at h; exact h.1.symm
 · simp at h
theorem sym_bad' {src : List UInt8} {T : Tab} (f : Nat) : ∀ {n : Nat} {r r' : Br} {e : Err}, sym src T f n r = .bad e r' → e ≠ .eof := by
 induction f with
 | zero => intro n r r' e h; simp only [sym, Rd.bad.injEq] at h; rw [← h.1]; simp
 | succ f ih =>
  intro n r r' e h; rw [sym] at h
  cases hf : fill src.length n r with
  | mk t q =>
   rw [hf] at h
   cases t with
   | false => simp only [Rd.bad.injEq] at h; rw [← h.1]; simp
   | true =>
    simp only at h; split at h
    · split at h
      · simp only [Rd.bad.injEq] at h; rw [← h.1]; simp
      · exact absurd h (by simp)
    · exact ih h
structure DistLaw (src : List UInt8) (D : Option Tab) (dl : List Nat) : Prop where
 kraft : Kraft dl
 at_ : ∀ {r r' : Br} {d : Nat}, r.ok src → distSym src D r = .ok d r' → SymAt dl src r.at_ d ∧ r'.at_ = r.at_ + dl.getD d 0 ∧ r'.ok src
 of : ∀ {r : Br} {d : Nat}, r.ok src → SymAt dl src r.at_ d → ∃ r', distSym src D r = .ok d r' ∧ r'.at_ = r.at_ + dl.getD d 0 ∧ r'.ok src ∧ (r'.nb ≤ r.nb ∨ r'.nb ≤ 7)
 bad : ∀ {r r' : Br} {e : Err}, distSym src D r = .bad e r' → e ≠ .eof
structure CodesLaw (src : List UInt8) (T : Tab) (D : Option Tab) (ll dl : List Nat) : Prop where
 tab : TabLaw ll T
 full : Full ll
 ok : T.OK
 one : (cntAll ll).max = 1 → 1 ≤ T.min
 min : ll.getD 256 0 ≠ 0 → T.min ≤ ll.getD 256 0
 dist : DistLaw src D dl
theorem sym_ok {src : List UInt8} {T : Tab} (f : Nat) : ∀ {n : Nat} {r r' : Br} {s : Nat}, r.ok src → sym src T f n r = .ok s r' → r'.ok src := by
 induction f with
 | zero => intro n r r' s _ h; simp [sym] at h
 | succ f ih =>
  intro n r r' s hr h; rw [sym] at h
  cases hf : fill src.length n r with
  | mk t r1 =>
   obtain ⟨a1, a2, a3, a4, a5⟩ := fill_ok hr hf; rw [hf] at h
   cases t with
   | false => simp at h
   | true =>
    simp only at h; split at h
    · rename_i hle; split at h
      · simp at h
      · simp only [Rd.ok.injEq] at h; obtain ⟨rfl, rfl⟩ := h; exact (skip_ok a1 hle).1
    · exact ih a1 h
theorem distLaw_tab {src : List UInt8} {T : Tab} {dl : List Nat} (hL : TabLaw dl T) (hF : Full dl) (h1 : (cntAll dl).max = 1 → 1 ≤ T.min) (hm : ∀ s, s < dl.length → dl.getD s 0 ≠ 0 → T.min ≤ dl.getD s 0) : DistLaw src (some T) dl := by
 refine ⟨hL.kraft, fun hr h => ?_, fun {r d} hr h => ?_, fun h => sym_bad' 20 h⟩
 · obtain ⟨g1, g2⟩ := symbol_at hL hr h; exact ⟨g1, g2, sym_ok 20 hr h⟩
 · have hmd := hm d h.1.2.1 h.1.1; have h2 := h.2; obtain ⟨r', g1, g2, g3, g4⟩ := symbol_of hL hF h hr (by omega) h1
   refine ⟨r', g1, g2, g3, ?_⟩; have := h.1.1; omega
def fixedDist : List Nat := List.replicate 32 5
theorem fixedDist_getD (d : Nat) : fixedDist.getD d 0 = if d < 32 then 5 else 0 := by
 unfold fixedDist
 rw [List.getD_eq_getElem?_getD, List.getElem?_replicate]
 split <;> rfl
theorem fixedDist_hits {d x : Nat} : Hits fixedDist d x ↔ d < 32 ∧ x % 32 = revB 5 d := by
 have hc : ∀ d, d < 32 → codeOf fixedDist d = d := by
  intro d hd; unfold codeOf; rw [fixedDist_getD, if_pos hd]; have h1 : Ck (cntAll fixedDist).count (5 - 1) = 0 := by decide +kernel
  have h2 : (fixedDist.take d).count 5 = d := by
   unfold fixedDist; rw [List.take_replicate, List.count_replicate_self]; omega
  rw [h1, h2]; omega
 unfold Hits
 rw [fixedDist_getD]
 constructor
 · rintro ⟨h1, h2, h3⟩
   by_cases hd : d < 32
   · rw [if_pos hd, hc d hd] at h3; exact ⟨hd, h3⟩
   · rw [if_neg hd] at h1; exact absurd rfl h1
 · rintro ⟨h1, h2⟩; rw [if_pos h1, hc d h1]; exact ⟨by omega, by unfold fixedDist; simp; exact h1, h2⟩
theorem fixedDist_kraft : Kraft fixedDist := by
 refine ⟨fun n hn => by unfold fixedDist at hn; have := (List.mem_replicate.1 hn).2; omega, fun n hn => ?_⟩
 have h5 : (cntAll fixedDist).max = 5 := by decide +kernel
 rw [h5] at hn
 have : ∀ n : Fin 6, Ck (cntAll fixedDist).count n.1 ≤ 2 ^ n.1 := by decide +kernel
 exact this ⟨n, by omega⟩
theorem distLaw_fixed {src : List UInt8} : DistLaw src none fixedDist := by
 refine ⟨fixedDist_kraft, fun {r r' d} hr h => ?_, fun {r d} hr h => ?_, fun {r r' e} h => ?_⟩
 · unfold distSym at h; simp only at h
   cases hg : getBits src 5 r with
   | bad e q => rw [hg] at h; simp at h
   | ok x q =>
    rw [hg] at h; simp only [Rd.ok.injEq] at h; obtain ⟨rfl, rfl⟩ := h; obtain ⟨g1, g2, g3, g4⟩ := getBits_ok hr hg; have hx : x < 32 := by rw [g2]; exact bv_lt src r.at_ 5
    have hl := revB_lt 5 x; rw [fixedDist_getD, if_pos hl]; refine ⟨⟨fixedDist_hits.2 ⟨hl, ?_⟩, by rw [fixedDist_getD, if_pos hl]; exact g1⟩, g3, g4⟩
    rw [revB_revB, g2]; have := bv_mod src r.at_ 5 10; rw [show (32 : Nat) = 2 ^ 5 from rfl, this, Nat.mod_eq_of_lt (bv_lt src r.at_ 5)]
 · obtain ⟨h1, h2⟩ := h; obtain ⟨hd, hx⟩ := fixedDist_hits.1 h1; rw [fixedDist_getD, if_pos hd] at h2 ⊢; obtain ⟨r', g1, g2, g3, g4⟩ := getBits_at hr h2; refine ⟨r', ?_, g2, g3, by omega⟩
   unfold distSym; simp only; rw [g1]; simp only; have := bv_mod src r.at_ 5 10; rw [show (32 : Nat) = 2 ^ 5 from rfl, this] at hx
   rw [hx, revB_revB, Nat.mod_eq_of_lt hd]
 · unfold distSym at h; simp only at h
   cases hg : getBits src 5 r with
   | bad e' q => rw [hg] at h; simp only [Rd.bad.injEq] at h; rw [← h.1, getBits_bad hg]; simp
   | ok x q => rw [hg] at h; simp at h
theorem pair_of {src : List UInt8} {D : Option Tab} {dl : List Nat} (hD : DistLaw src D dl) {v n f a' : Nat} {r : Br} (hr : r.ok src) (h : spPair src dl v r.at_ = some (n, f, a')) :
 ∃ r', pair src D v r = .ok (n, f) r' ∧ r'.at_ = a' ∧ r'.ok src ∧ (r'.nb ≤ r.nb ∨ r'.nb ≤ 7) := by
 unfold spPair at h
 unfold pair
 cases hl : lenOf v with
 | none => rw [hl] at h; simp at h
 | some lp =>
  obtain ⟨lb, lx⟩ := lp; rw [hl] at h; simp only at h ⊢; split at h
  · simp at h
  · rename_i h1; obtain ⟨r2, a1, a2, a3, a4⟩ := getBits_at (n := lx) hr (by omega)
    rw [a1]; simp only
    cases h2 : symS dl src (r.at_ + lx) with
    | none => rw [h2] at h; simp at h
    | some d =>
     rw [h2] at h; simp only at h; obtain ⟨r3, b1, b2, b3, b4⟩ := hD.of a3 (by rw [a2]; exact (symS_iff hD.kraft).1 h2)
     rw [b1]; simp only
     cases h3 : distOf d with
     | none => rw [h3] at h; simp at h
     | some dp =>
      obtain ⟨db, dx⟩ := dp; rw [h3] at h; simp only at h ⊢; split at h
      · simp at h
      · rename_i h4; obtain ⟨r4, c1, c2, c3, c4⟩ := getBits_at (n := dx) b3 (by rw [b2, a2]; omega)
        rw [c1]; simp only [Option.some.injEq, Prod.mk.injEq] at h; obtain ⟨e1, e2, e3⟩ := h; refine ⟨r4, ?_, by rw [c2, b2, a2]; exact e3, c3, by omega⟩
        simp only [Rd.ok.injEq, and_true]; rw [← e1, ← e2, b2, a2]
def few (T : Tab) (r : Br) : Prop := r.nb ≤ 7 ∨ r.nb ≤ T.min + 6
theorem huffStep_of {src : List UInt8} {last : Bool} {r : Br} {T : Tab} {D : Option Tab} {ll dl : List Nat} {H : List UInt8} (hC : CodesLaw src T D ll dl) (hr : r.ok src) (hroom : r.at_ + T.min ≤ 8 * src.length) (hfew : few T r) :
 (∀ a' H', spStep src ll dl r.at_ H = .go a' H' → ∃ r', huffStep src last r T D H = (.huff last r' T D, H') ∧ r'.at_ = a' ∧ r'.ok src ∧ few T r') ∧
 (∀ a', spStep src ll dl r.at_ H = .fin a' → ∃ r', huffStep src last r T D H = (more last r', H) ∧ r'.at_ = a' ∧ r'.ok src ∧ r'.nb ≤ 7) := by
 unfold huffStep spStep
 cases h1 : symS ll src r.at_ with
 | none => exact ⟨fun a' H' h => by simp at h, fun a' h => by simp at h⟩
 | some v =>
  have hs := (symS_iff hC.tab.kraft).1 h1; obtain ⟨r1, a1, a2, a3, a4⟩ := symbol_of hC.tab hC.full hs hr hroom hC.one; have h0 := hs.1.1; have hmin := hC.min; unfold few at hfew ⊢; rw [a1]; simp only
  by_cases hv : v < 256
  · rw [if_pos hv, if_pos hv]; refine ⟨fun a' H' h => ?_, fun a' h => by simp at h⟩
    simp only [SpR.go.injEq] at h; exact ⟨r1, by rw [h.2], by rw [a2, h.1], a3, by omega⟩
  · rw [if_neg hv, if_neg hv]
    by_cases hv2 : v = 256
    · rw [if_pos hv2, if_pos hv2]; refine ⟨fun a' H' h => by simp at h, fun a' h => ?_⟩
      simp only [SpR.fin.injEq] at h; subst hv2; have := hmin h0; exact ⟨r1, rfl, by rw [a2, h], a3, by omega⟩
    · rw [if_neg hv2, if_neg hv2]
      cases h2 : spPair src dl v (r.at_ + ll.getD v 0) with
      | none => exact ⟨fun a' H' h => by simp at h, fun a' h => by simp at h⟩
      | some q =>
       obtain ⟨n, f, a2'⟩ := q; rw [← a2] at h2; obtain ⟨r2, g1, g2, g3, g4⟩ := pair_of hC.dist a3 h2; rw [g1]; simp only
       by_cases hf : H.length < f
       · rw [if_pos hf]; exact ⟨fun a' H' h => by simp at h, fun a' h => by simp at h⟩
       · rw [if_neg hf, if_neg hf]; refine ⟨fun a' H' h => ?_, fun a' h => by simp at h⟩
         simp only [SpR.go.injEq] at h; exact ⟨r2, by rw [h.2], by rw [g2, h.1], g3, by omega⟩
theorem SpRun.room {src : List UInt8} {ll dl : List Nat} (hk : Kraft ll) {a : Nat} {H : List UInt8} {R : Option (Nat × List UInt8)} (h : SpRun src ll dl a H R) (hR : R ≠ none) : a + ll.getD 256 0 ≤ 8 * src.length ∧ ll.getD 256 0 ≠ 0 := by
 induction h with
 | fail _ => exact absurd rfl hR
 | @fin a H a' h =>
  unfold spStep at h
  cases h1 : symS ll src a with
  | none => rw [h1] at h; simp at h
  | some v =>
   rw [h1] at h; simp only at h; have hs := (symS_iff hk).1 h1; split at h
   · simp at h
   · split at h
     · rename_i _ e; subst e; exact ⟨hs.2, hs.1.1⟩
     · split at h
       · simp at h
       · split at h <;> simp at h
 | @go a H a' H' R h _ ih =>
  have hle : a ≤ a' := by
   unfold spStep at h; split at h
   · simp at h
   · rename_i v h1; split at h
     · simp only [SpR.go.injEq] at h; omega
     · split at h
       · simp at h
       · split at h
         · simp at h
         · rename_i n f q h2; split at h
           · simp at h
           · simp only [SpR.go.injEq] at h; unfold spPair at h2; split at h2
             · simp at h2
             · split at h2
               · simp at h2
               · split at h2
                 · simp at h2
                 · split at h2
                   · simp at h2
                   · split at h2
                     · simp at h2
                     · simp only [Option.some.injEq, Prod.mk.injEq] at h2; omega
  have := ih hR; exact ⟨by omega, this.2⟩
theorem huff_good {src : List UInt8} {last : Bool} {T : Tab} {D : Option Tab} {ll dl : List Nat} {a : Nat} {H : List UInt8} {R : Option (Nat × List UInt8)} (hC : CodesLaw src T D ll dl) (h : SpRun src ll dl a H R) :
 ∀ {r : Br}, r.at_ = a → r.ok src → few T r → ∀ {a' : Nat} {H' : List UInt8}, R = some (a', H') → ∃ r', Reach src (.huff last r T D, H) (more last r', H') ∧ r'.at_ = a' ∧ r'.ok src ∧ r'.nb ≤ 7 := by
 have hroom := fun (hR : R ≠ none) => h.room hC.tab.kraft hR
 induction h with
 | fail _ => intro r _ _ _ a' H' e; simp at e
 | @fin a H a1 h1 =>
  intro r ha hr hf a' H' e; simp only [Option.some.injEq, Prod.mk.injEq] at e; obtain ⟨q1, q2⟩ := hroom (by simp)
  have := hC.min q2; obtain ⟨_, g⟩ := huffStep_of (last := last) (H := H) hC hr (by omega) hf
  obtain ⟨r', g1, g2, g3, g4⟩ := g a1 (by rw [ha]; exact h1)
  refine ⟨r', .step ?_, by rw [g2, e.1], g3, g4⟩
  rw [← e.2]
  show Reach src (huffStep src last r T D H) _
  rw [g1]; exact .refl _
 | @go a H a1 H1 R h1 h2 ih =>
  intro r ha hr hf a' H' e; obtain ⟨q1, q2⟩ := hroom (by rw [e]; simp)
  have := hC.min q2; obtain ⟨g, _⟩ := huffStep_of (last := last) (H := H) hC hr (by omega) hf
  obtain ⟨r', g1, g2, g3, g4⟩ := g a1 H1 (by rw [ha]; exact h1)
  obtain ⟨r2, k1, k2, k3, k4⟩ := ih (fun hR => h2.room hC.tab.kraft hR) g2 g3 g4 e
  refine ⟨r2, .step ?_, k2, k3, k4⟩
  show Reach src (huffStep src last r T D H) _
  rw [g1]; exact k1
end Flate
namespace Flate
set_option maxRecDepth 100000
theorem initFixed' : initTab fixedLens = some (some fixedTab) := by
 have hl := initTab_law fixedLens_le (by rw [fixedLens_length]; omega)
 have h0 : ¬ (cntAll fixedLens).max = 0 := by decide +kernel
 have hc : (nextAll (cntAll fixedLens)).1 = 2 ^ (cntAll fixedLens).max := by decide +kernel
 obtain ⟨x, nx, hn⟩ : ∃ x nx, nextAll (cntAll fixedLens) = (x, nx) := ⟨_, _, rfl⟩
 rw [hn] at hc
 obtain ⟨_, b, _, hb⟩ := initTab_go rfl h0 hn (by simp [show x = 2 ^ (cntAll fixedLens).max from hc]) hl.1
 unfold fixedTab
 rw [hb]
theorem initTab_minEq {lens : List Nat} {T : Tab} (h : initTab lens = some (some T)) : T.min = if (cntAll lens).max = 0 then emptyTab.min else (cntAll lens).min := by
 by_cases h0 : (cntAll lens).max = 0
 · rw [initTab_empty rfl h0] at h; rw [if_pos h0, ← Option.some.inj (Option.some.inj h)]
 · rw [if_neg h0]; obtain ⟨x, nx, hn⟩ : ∃ x nx, nextAll (cntAll lens) = (x, nx) := ⟨_, _, rfl⟩
   by_cases hd : x ≠ 2 ^ (cntAll lens).max ∧ ¬ (x = 1 ∧ (cntAll lens).max = 1)
   · rw [initTab_bad rfl h0 hn (by simp [hd])] at h; simp at h
   · obtain ⟨_, b, _, hb⟩ := initTab_go rfl h0 hn (by symm; simp only [decide_eq_false_iff_not]; exact hd) (by rw [h]; simp)
     rw [h] at hb; obtain rfl := Option.some.inj (Option.some.inj hb); rfl
theorem fixedTab_min : fixedTab.min = 7 := by
 rw [initTab_minEq initFixed', if_neg (by decide +kernel)]
 decide +kernel
theorem fixed_law : TabLaw fixedLens fixedTab ∧ Full fixedLens := initTab_code fixedLens_le initFixed'
instance (lens : List Nat) (s x : Nat) : Decidable (Hits lens s x) := inferInstanceAs (Decidable (_ ∧ _ ∧ _))
end Flate
namespace Flate
theorem initTab_full {lens : List Nat} (h15 : ∀ n ∈ lens, n ≤ 15) (hlen : lens.length ≤ 320) (hF : Full lens) : ∃ T, initTab lens = some (some T) := by
 obtain ⟨c, hcc⟩ : ∃ c, c = cntAll lens := ⟨_, rfl⟩
 by_cases h0 : c.max = 0
 · exact ⟨_, initTab_empty hcc h0⟩
 obtain ⟨x, nx, hn⟩ : ∃ x nx, nextAll c = (x, nx) := ⟨_, _, rfl⟩
 have hx := nextAll_fst h15 (hcc ▸ h0) (hcc ▸ hn)
 have hok : ¬ (x ≠ 2 ^ c.max ∧ ¬ (x = 1 ∧ c.max = 1)) := by
  rintro ⟨q1, q2⟩; rw [← hcc] at hx; rcases hF with h | h | ⟨h, h'⟩
  · exact h0 (by rw [hcc]; exact h)
  · exact q1 (by rw [hx, hcc]; exact h)
  · rw [← hcc] at h h'; exact q2 ⟨by rw [hx, h]; exact h', h⟩
 obtain ⟨_, b, _, hb2⟩ := initTab_go hcc h0 hn (by simp only [Bool.false_eq, decide_eq_false_iff_not]; exact hok) (initTab_law h15 hlen).1
 exact ⟨_, hb2⟩
theorem initTab_notFull {lens : List Nat} (h15 : ∀ n ∈ lens, n ≤ 15) (hlen : lens.length ≤ 320) (hF : ¬ Full lens) : initTab lens = some none := by
 have h1 := (initTab_law h15 hlen).1
 cases h : initTab lens with
 | none => exact absurd h h1
 | some o =>
  cases o with
  | none => rfl
  | some T => exact absurd (initTab_code h15 h).2 hF
theorem initTab_minL {lens : List Nat} (h15 : ∀ n ∈ lens, n ≤ 15) {T : Tab} (h : initTab lens = some (some T)) : ((cntAll lens).max = 1 → 1 ≤ T.min) ∧ ∀ s, s < lens.length → lens.getD s 0 ≠ 0 → T.min ≤ lens.getD s 0 := by
 have hm := initTab_minEq h
 have hc := cnt_facts lens
 by_cases h0 : (cntAll lens).max = 0
 · rw [if_pos h0] at hm; exact ⟨fun e => by omega, fun s _ hs => absurd (zero_lens h0 s) hs⟩
 · rw [if_neg h0] at hm; have hmem : (cntAll lens).max ∈ lens := hc.mem.resolve_left h0; have := hc.min _ hmem h0; refine ⟨fun _ => by omega, fun s hs hn => ?_⟩
   have hin : lens.getD s 0 ∈ lens := by
    rw [List.getD_eq_getElem?_getD, List.getElem?_eq_getElem hs]; exact List.getElem_mem hs
   have := (hc.min _ hin hn).2; omega
noncomputable def spLen (src : List UInt8) (cl : List Nat) (n : Nat) (acc : List Nat) (a : Nat) : Option (List Nat × Nat) :=
 match symS cl src a with
 | none => none
 | some x =>
  if x < 16 then some (acc ++ [x], a + cl.getD x 0)
  else if x = 16 ∧ acc.length = 0 then none
  else if 8 * src.length < a + cl.getD x 0 + (repOf x acc).2.1 then none
  else if n < acc.length + ((repOf x acc).1 + bv src (a + cl.getD x 0) (repOf x acc).2.1) then none
  else some (acc ++ List.replicate ((repOf x acc).1 + bv src (a + cl.getD x 0) (repOf x acc).2.1) (repOf x acc).2.2, a + cl.getD x 0 + (repOf x acc).2.1)
noncomputable def spLens (src : List UInt8) (cl : List Nat) (n : Nat) : Nat → List Nat → Nat → Option (List Nat × Nat)
 | 0, acc, a => some (acc, a)
 | f + 1, acc, a =>
  if n ≤ acc.length then some (acc, a)
  else match spLen src cl n acc a with
   | none => none
   | some (acc', a') => spLens src cl n f acc' a'
open Classical in
noncomputable def spDyn (src : List UInt8) (a : Nat) : Option ((List Nat × List Nat) × Nat) :=
 if 8 * src.length < a + 14 then none
 else if 29 < bv src a 5 then none
 else if 29 < bv src (a + 5) 5 then none
 else if 8 * src.length < a + 14 + 3 * (bv src (a + 10) 4 + 4) then none
 else if ¬ Full (clens ((List.range (bv src (a + 10) 4 + 4)).map fun i => bv src (a + 14 + 3 * i) 3)) then none
 else match spLens src (clens ((List.range (bv src (a + 10) 4 + 4)).map fun i => bv src (a + 14 + 3 * i) 3)) (bv src a 5 + 257 + (bv src (a + 5) 5 + 1)) 400 [] (a + 14 + 3 * (bv src (a + 10) 4 + 4)) with
  | none => none
  | some (ls, a') => if Full (ls.take (bv src a 5 + 257)) ∧ Full (ls.drop (bv src a 5 + 257)) then some ((ls.take (bv src a 5 + 257), ls.drop (bv src a 5 + 257)), a') else none
def Alike {α β : Type} (src : List UInt8) (R : α → β → Prop) : Rd α → Option (β × Nat) → Prop
 | .ok x r, some (y, a) => R x y ∧ r.at_ = a ∧ r.ok src ∧ r.nb ≤ 7
 | .bad e _, none => e ≠ .eof
 | _, _ => False
theorem lenStep_alike {src : List UInt8} {TC : Tab} {cl acc : List Nat} {n : Nat} (hL : TabLaw cl TC) (hF : Full cl) (hok : TC.OK) (hm : ((cntAll cl).max = 1 → 1 ≤ TC.min) ∧ ∀ s, s < cl.length → cl.getD s 0 ≠ 0 → TC.min ≤ cl.getD s 0) {r : Br} (hr : r.ok src) (hnb : r.nb ≤ 7) :
 Alike src Eq (lenStep src TC n acc r) (spLen src cl n acc r.at_) := by
 unfold lenStep spLen
 cases hs : symS cl src r.at_ with
 | none =>
  have hn := symS_none.1 hs
  cases hy : symbol src TC r with
  | bad e r' => exact sym_bad' 20 hy
  | ok x r1 => exact absurd (symbol_at hL hr hy).1 (hn x)
 | some x =>
  have hx := (symS_iff hL.kraft).1 hs; obtain ⟨r1, g1, g2, g3, g4⟩ := symbol_of hL hF hx hr (by have := hm.2 x hx.1.2.1 hx.1.1; have := hx.2; omega) hm.1
  have hx15 := (hL.kraft.getD hx.1.2.1).2; have hmin := hok.min; have hnb1 : r1.nb ≤ 7 := by have := hm.2 x hx.1.2.1 hx.1.1; omega
  rw [g1]; simp only; rw [← g2]
  by_cases h16 : x < 16
  · rw [if_pos h16, if_pos h16]; exact ⟨rfl, rfl, g3, hnb1⟩
  · rw [if_neg h16, if_neg h16]
    by_cases h0 : x = 16 ∧ acc.length = 0
    · rw [if_pos h0, if_pos h0]; simp [Alike]
    · rw [if_neg h0, if_neg h0]
      by_cases hl : 8 * src.length < r1.at_ + (repOf x acc).2.1
      · rw [if_pos hl]
        cases hg : getBits src (repOf x acc).2.1 r1 with
        | ok y r2 => exact absurd (getBits_ok g3 hg).1 (by omega)
        | bad e r2 => simp only [Alike]; rw [getBits_bad hg]; simp
      · rw [if_neg hl]; obtain ⟨r2, k1, k2, k3, k4⟩ := getBits_at (n := (repOf x acc).2.1) g3 (by omega)
        rw [k1]; simp only; split
        · simp [Alike]
        · exact ⟨rfl, k2, k3, by omega⟩
theorem lenRead_alike {src : List UInt8} {TC : Tab} {cl : List Nat} {n : Nat} (hL : TabLaw cl TC) (hF : Full cl) (hok : TC.OK) (hm : ((cntAll cl).max = 1 → 1 ≤ TC.min) ∧ ∀ s, s < cl.length → cl.getD s 0 ≠ 0 → TC.min ≤ cl.getD s 0) (f : Nat) :
 ∀ {acc : List Nat} {r : Br}, r.ok src → r.nb ≤ 7 → Alike src Eq (lenRead src TC n f acc r) (spLens src cl n f acc r.at_) := by
 induction f with
 | zero => intro acc r hr hnb; exact ⟨rfl, rfl, hr, hnb⟩
 | succ f ih =>
  intro acc r hr hnb; rw [lenRead, spLens]; split
  · exact ⟨rfl, rfl, hr, hnb⟩
  · have h := lenStep_alike (n := n) (acc := acc) hL hF hok hm hr hnb
    cases h1 : lenStep src TC n acc r with
    | bad e r' =>
     rw [h1] at h
     cases h2 : spLen src cl n acc r.at_ with
     | none => rw [h2] at h; exact h
     | some p => rw [h2] at h; exact h.elim
    | ok acc' r' =>
     rw [h1] at h
     cases h2 : spLen src cl n acc r.at_ with
     | none => rw [h2] at h; exact h.elim
     | some p =>
      obtain ⟨acc2, a2⟩ := p; rw [h2] at h; obtain ⟨rfl, rfl, k3, k4⟩ := h; exact ih k3 k4
theorem clRead_alike {src : List UInt8} (k : Nat) : ∀ {acc : List Nat} {r : Br}, r.ok src → r.nb ≤ 7 →
 Alike src Eq (clRead src k acc r) (if 8 * src.length < r.at_ + 3 * k then none else some (acc ++ (List.range k).map fun i => bv src (r.at_ + 3 * i) 3, r.at_ + 3 * k)) := by
 induction k with
 | zero =>
  intro acc r hr hnb; rw [if_neg (by have := hr.1; have := hr.2; unfold Br.nb at hnb; omega)]
  exact ⟨by simp, rfl, hr, hnb⟩
 | succ k ih =>
  intro acc r hr hnb; rw [clRead]
  by_cases hl : 8 * src.length < r.at_ + 3
  · rw [if_pos (by omega)]
    cases hg : getBits src 3 r with
    | ok y r2 => exact absurd (getBits_ok hr hg).1 (by omega)
    | bad e r2 => simp only [Alike]; rw [getBits_bad hg]; simp
  · obtain ⟨r2, k1, k2, k3, k4⟩ := getBits_at (n := 3) hr (by omega)
    rw [k1]; simp only; have := ih (acc := acc ++ [bv src r.at_ 3]) k3 (by omega)
    rw [k2] at this; have e1 : r.at_ + 3 + 3 * k = r.at_ + 3 * (k + 1) := by omega
    rw [e1] at this; have e2 : (acc ++ [bv src r.at_ 3]) ++ (List.range k).map (fun i => bv src (r.at_ + 3 + 3 * i) 3) = acc ++ (List.range (k + 1)).map fun i => bv src (r.at_ + 3 * i) 3 := by
     rw [List.range_succ_eq_map, List.map_cons, List.map_map, List.append_assoc]
     congr 1
     simp only [List.singleton_append, Nat.mul_zero, Nat.add_zero]
     congr 1
     apply List.map_congr_left
     intro i _; simp only [Function.comp]
     congr 1
     omega
    rw [e2] at this; exact this
theorem codesLaw_tabs {src : List UInt8} {ls : List Nat} {k : Nat} {T1 T2 : Tab} (h15 : ∀ v ∈ ls, v ≤ 15) (hl : ls.length ≤ 320) (hk : 257 ≤ k) (h1 : initTab (ls.take k) = some (some T1)) (h2 : initTab (ls.drop k) = some (some T2)) :
 CodesLaw src { T1 with min := if T1.min < ls.getD 256 0 then ls.getD 256 0 else T1.min } (some T2) (ls.take k) (ls.drop k) := by
 have a15 : ∀ v ∈ ls.take k, v ≤ 15 := fun v hv => h15 v (List.mem_of_mem_take hv)
 have b15 : ∀ v ∈ ls.drop k, v ≤ 15 := fun v hv => h15 v (List.mem_of_mem_drop hv)
 obtain ⟨a1, a2⟩ := initTab_code a15 h1
 obtain ⟨b1, b2⟩ := initTab_code b15 h2
 have a3 := (initTab_law (lens := ls.take k) a15 (by rw [List.length_take]; omega)).2 T1 h1
 have b3 := (initTab_law (lens := ls.drop k) b15 (by rw [List.length_drop]; omega)).2 T2 h2
 obtain ⟨a4, a5⟩ := initTab_minL a15 h1
 obtain ⟨b4, b5⟩ := initTab_minL b15 h2
 have e : (ls.take k).getD 256 0 = ls.getD 256 0 := by
  rw [List.getD_eq_getElem?_getD, List.getD_eq_getElem?_getD, List.getElem?_take_of_lt (by omega)]
 have h256 := getD_le (i := 256) h15
 refine ⟨⟨a1.kraft, a1.hit, a1.only⟩, a2, ⟨a3.1.size, ?_, a3.1.chunk, a3.1.link, a3.1.row, a3.1.entry, a3.1.mask, a3.1.few, a3.1.two⟩, fun h => ?_, fun h => ?_, distLaw_tab b1 b2 b4 b5⟩
 · have := a3.1.min; simp only; split <;> omega
 · have := a4 h; simp only; split <;> omega
 · have h3 := a5 256 (by
    rcases Nat.lt_or_ge 256 (ls.take k).length with q | q
    · exact q
    · rw [List.getD_eq_getElem?_getD, List.getElem?_eq_none q] at h; exact absurd rfl h) h
   rw [e] at h3 ⊢; simp only; split <;> omega
theorem readHuff_alike {src : List UInt8} {r : Br} (hr : r.ok src) (hnb : r.nb ≤ 7) : Alike src (fun p q => CodesLaw src p.1 (some p.2) q.1 q.2) (readHuff src r) (spDyn src r.at_) := by
 unfold readHuff spDyn
 cases hf : fill src.length 14 r with
 | mk t r1 =>
  obtain ⟨a1, a2, a3, a4, a5⟩ := fill_ok hr hf
  cases t with
  | false =>
   have hlt : 8 * src.length < r.at_ + 14 := by
    unfold fill at hf; split at hf
    · simp at hf
    · split at hf
      · simp at hf
      · omega
   rw [if_pos hlt]; simp [Alike]
  | true =>
   have h14 := a4 rfl; obtain ⟨b1, b2⟩ := skip_ok a1 h14; have hle : ¬ 8 * src.length < r.at_ + 14 := by
    have h1 := a1.1; have h2 := a1.2; unfold Br.nb at h14; omega
   rw [if_neg hle]; simp only; rw [a2] at b1 b2 ⊢
   by_cases h1 : 29 < bv src r.at_ 5
   · rw [if_pos h1, if_pos h1]; simp [Alike]
   rw [if_neg h1, if_neg h1]
   by_cases h2 : 29 < bv src (r.at_ + 5) 5
   · rw [if_pos h2, if_pos h2]; simp [Alike]
   rw [if_neg h2, if_neg h2]; have hnb2 : ({ r1 with at_ := r.at_ + 14 } : Br).nb ≤ 7 := by rw [b2]; omega
   have g := clRead_alike (bv src (r.at_ + 10) 4 + 4) (acc := []) b1 hnb2; have gg := clRead_good (bv src (r.at_ + 10) 4 + 4) (acc := []) b1 (by omega) (fun v hv => absurd hv List.not_mem_nil)
   simp only [List.nil_append] at g
   cases hc : clRead src (bv src (r.at_ + 10) 4 + 4) [] { r1 with at_ := r.at_ + 14 } with
   | bad e q =>
    rw [hc] at g
    by_cases h3 : 8 * src.length < r.at_ + 14 + 3 * (bv src (r.at_ + 10) 4 + 4)
    · rw [if_pos h3] at g ⊢; exact g
    · rw [if_neg h3] at g; exact g.elim
   | ok vs r2 =>
    rw [hc] at g gg
    by_cases h3 : 8 * src.length < r.at_ + 14 + 3 * (bv src (r.at_ + 10) 4 + 4)
    · rw [if_pos h3] at g; exact g.elim
    rw [if_neg h3] at g ⊢; obtain ⟨g1, g2, g3, g4⟩ := g; obtain ⟨hv1, hv2⟩ := gg.1; rw [← g1]; have c15 : ∀ n ∈ clens vs, n ≤ 15 := fun n hn => by have := clens_le hv2 n hn; omega
    have cl320 : (clens vs).length ≤ 320 := by rw [clens_length]; omega
    by_cases hF : Full (clens vs)
    · rw [if_neg (not_not_intro hF)]; obtain ⟨TC, hT⟩ := initTab_full c15 cl320 hF; simp only; rw [hT]; simp only; obtain ⟨hL, _⟩ := initTab_code c15 hT; have hok := ((initTab_law c15 cl320).2 TC hT).1; have k := lenRead_alike (n := bv src r.at_ 5 + 257 + (bv src (r.at_ + 5) 5 + 1)) hL hF hok (initTab_minL c15 hT) 400 (acc := []) g3 g4; have kk := lenRead_good hok (n := bv src r.at_ 5 + 257 + (bv src (r.at_ + 5) 5 + 1)) 400 (acc := []) g3 (by omega) (fun v hv => absurd hv List.not_mem_nil) (Nat.zero_le _) (by simp only [List.length_nil]; omega)
      rw [g2] at k
      cases hl : lenRead src TC (bv src r.at_ 5 + 257 + (bv src (r.at_ + 5) 5 + 1)) 400 [] r2 with
      | bad e q =>
       rw [hl] at k
       cases hs : spLens src (clens vs) (bv src r.at_ 5 + 257 + (bv src (r.at_ + 5) 5 + 1)) 400 [] (r.at_ + 14 + 3 * (bv src (r.at_ + 10) 4 + 4)) with
       | none => rw [hs] at k; exact k
       | some p => rw [hs] at k; exact k.elim
      | ok ls r3 =>
       rw [hl] at k kk
       cases hs : spLens src (clens vs) (bv src r.at_ 5 + 257 + (bv src (r.at_ + 5) 5 + 1)) 400 [] (r.at_ + 14 + 3 * (bv src (r.at_ + 10) 4 + 4)) with
       | none => rw [hs] at k; exact k.elim
       | some p =>
        obtain ⟨ls', a'⟩ := p; rw [hs] at k; obtain ⟨rfl, k2, k3, k4⟩ := k; obtain ⟨hn, hl15⟩ := kk.1; simp only; unfold twoTabs; have t15 : ∀ v ∈ ls.take (bv src r.at_ 5 + 257), v ≤ 15 := fun v hv => hl15 v (List.mem_of_mem_take hv)
        have d15 : ∀ v ∈ ls.drop (bv src r.at_ 5 + 257), v ≤ 15 := fun v hv => hl15 v (List.mem_of_mem_drop hv)
        have tl : (ls.take (bv src r.at_ 5 + 257)).length ≤ 320 := by rw [List.length_take]; omega
        have dl : (ls.drop (bv src r.at_ 5 + 257)).length ≤ 320 := by rw [List.length_drop]; omega
        by_cases F1 : Full (ls.take (bv src r.at_ 5 + 257))
        · obtain ⟨T1, hT1⟩ := initTab_full t15 tl F1; rw [hT1]; simp only
          by_cases F2 : Full (ls.drop (bv src r.at_ 5 + 257))
          · obtain ⟨T2, hT2⟩ := initTab_full d15 dl F2; have hFF := zAi F1 F2; rw [hT2, if_pos hFF]; exact ⟨codesLaw_tabs hl15 (by omega) (by omega) hT1 hT2, k2, k3, k4⟩
          · have hFF : ¬ (Full (ls.take (bv src r.at_ 5 + 257)) ∧ Full (ls.drop (bv src r.at_ 5 + 257))) := fun q => F2 q.2
            rw [initTab_notFull d15 dl F2, if_neg hFF]; simp [Alike]
        · have hFF : ¬ (Full (ls.take (bv src r.at_ 5 + 257)) ∧ Full (ls.drop (bv src r.at_ 5 + 257))) := fun q => F1 q.1
          rw [initTab_notFull t15 tl F1, if_neg hFF]; simp [Alike]
    · rw [if_pos hF]; simp only; rw [initTab_notFull c15 cl320 hF]; simp [Alike]
def bitsN : List Bool → Nat
 | [] => 0
 | b :: l => b.toNat + 2 * bitsN l
def enc : Nat → Nat → List Bool
 | _, 0 => []
 | v, n + 1 => (v % 2 == 1) :: enc (v / 2) n
def encC (v n : Nat) : List Bool := (enc v n).reverse
theorem bitsN_lt (L : List Bool) : bitsN L < 2 ^ L.length := by
 induction L with
 | nil => simp [bitsN]
 | cons b l ih =>
  have := Bool.toNat_le b; simp only [bitsN, List.length_cons, Nat.pow_succ]; omega
theorem bitsN_append (L M : List Bool) : bitsN (L ++ M) = bitsN L + 2 ^ L.length * bitsN M := by
 induction L with
 | nil => simp [bitsN]
 | cons b l ih =>
  simp only [List.cons_append, bitsN, ih, List.length_cons, Nat.pow_succ]; rw [Nat.mul_add, ← Nat.add_assoc, ← Nat.mul_assoc, Nat.mul_comm (2 ^ l.length) 2]
theorem enc_len (v n : Nat) : (enc v n).length = n := by
 induction n generalizing v with
 | zero => rfl
 | succ n ih => simp [enc, ih]
theorem encC_len (v n : Nat) : (encC v n).length = n := by simp [encC, enc_len]
theorem bool_toNat (x : Nat) : (x % 2 == 1).toNat = x % 2 := by
 rcases Nat.mod_two_eq_zero_or_one x with h | h <;> rw [h] <;> rfl
theorem bitsN_enc (v n : Nat) : bitsN (enc v n) = v % 2 ^ n := by
 induction n generalizing v with
 | zero => simp [enc, bitsN, Nat.mod_one]
 | succ n ih =>
  rw [enc, bitsN, ih, bool_toNat, Nat.pow_succ, Nat.mul_comm (2 ^ n) 2, Nat.mod_mul]
theorem bitsN_encC (v n : Nat) : bitsN (encC v n) = revB n v := by
 induction n generalizing v with
 | zero => rfl
 | succ n ih =>
  have e : encC v (n + 1) = encC (v / 2) n ++ [v % 2 == 1] := by simp [encC, enc]
  rw [e, bitsN_append, ih, encC_len, revB]; simp only [bitsN, bool_toNat]; rw [Nat.mul_zero, Nat.add_zero, Nat.mul_comm, Nat.add_comm]
theorem enc_succ (v n : Nat) : enc v (n + 1) = enc v n ++ [v / 2 ^ n % 2 == 1] := by
 induction n generalizing v with
 | zero => simp [enc]
 | succ n ih =>
  rw [enc, ih (v / 2)]; have : v / 2 / 2 ^ n = v / 2 ^ (n + 1) := by rw [Nat.div_div_eq_div_mul, Nat.pow_succ, Nat.mul_comm]
  rw [this]; rfl
theorem encC_succ (v n : Nat) : encC v (n + 1) = (v / 2 ^ n % 2 == 1) :: encC v n := by
 unfold encC; rw [enc_succ, List.reverse_append]; rfl
def bytesOf : Nat → Nat → List UInt8
 | _, 0 => []
 | x, k + 1 => UInt8.ofNat x :: bytesOf (x / 256) k
theorem bytesOf_len (x k : Nat) : (bytesOf x k).length = k := by
 induction k generalizing x with
 | zero => rfl
 | succ k ih => simp [bytesOf, ih]
theorem num_bytesOf (x k : Nat) : num (bytesOf x k) = x % 256 ^ k := by
 induction k generalizing x with
 | zero => simp [bytesOf, num, Nat.mod_one]
 | succ k ih =>
  rw [bytesOf, num, ih, Nat.pow_succ, Nat.mul_comm (256 ^ k) 256, Nat.mod_mul]; simp
theorem num_inj : ∀ {l m : List UInt8}, l.length = m.length → num l = num m → l = m
 | [], [], _, _ => rfl
 | [], _ :: _, h, _ => by simp at h
 | _ :: _, [], h, _ => by simp at h
 | a :: l, b :: m, h, e => by
  have ha := a.toNat_lt; have hb := b.toNat_lt; simp only [num] at e; have h1 : a.toNat = b.toNat := by omega
  have h2 : num l = num m := by omega
  rw [UInt8.toNat_inj.1 h1, num_inj (by simpa using h) h2]
def pack (L : List Bool) : List UInt8 := bytesOf (bitsN L) ((L.length + 7) / 8)
theorem pack_len (L : List Bool) : (pack L).length = (L.length + 7) / 8 := bytesOf_len _ _
theorem num_pack (L : List Bool) : num (pack L) = bitsN L := by
 unfold pack
 rw [num_bytesOf]
 refine Nat.mod_eq_of_lt (Nat.lt_of_lt_of_le (bitsN_lt L) ?_)
 rw [show (256 : Nat) = 2 ^ 8 from rfl, ← Nat.pow_mul]
 exact Nat.pow_le_pow_right (by omega) (by omega)
theorem num_set (l : List UInt8) (i : Nat) (c : UInt8) (h : i < l.length) : num (l.set i c) + 256 ^ i * l[i].toNat = num l + 256 ^ i * c.toNat := by
 induction l generalizing i with
 | nil => simp at h
 | cons a l ih =>
  cases i with
  | zero => simp only [List.set_cons_zero, num, List.getElem_cons_zero]; omega
  | succ i =>
   have := ih i (by simpa using h)
   simp only [List.set_cons_succ, num, List.getElem_cons_succ, Nat.pow_succ]; rw [Nat.mul_comm (256 ^ i) 256, Nat.mul_assoc, Nat.mul_assoc]; omega
theorem num_byte (l : List UInt8) (i : Nat) (h : i < l.length) : l[i].toNat = num l / 256 ^ i % 256 := by
 have := bv_byte l i h
 rw [← this, bv, Nat.pow_mul]
def roomed (L : List Bool) : List UInt8 := if L.length % 8 = 0 then pack L ++ [0] else pack L
theorem num_snoc0 (l : List UInt8) : num (l ++ [0]) = num l := by
 induction l with
 | nil => rfl
 | cons a l ih => simp only [List.cons_append, num, ih]
theorem roomed_len (L : List Bool) : (roomed L).length = L.length / 8 + 1 := by
 unfold roomed
 split
 · rw [List.length_append, pack_len]; simp only [List.length_cons, List.length_nil]; omega
 · rw [pack_len]; omega
theorem num_roomed (L : List Bool) : num (roomed L) = bitsN L := by
 unfold roomed
 split
 · rw [num_snoc0, num_pack]
 · exact num_pack L
theorem roomed_lt (L : List Bool) : L.length / 8 < (roomed L).length := by rw [roomed_len]; omega
theorem roomed_byte (L : List Bool) : ((roomed L)[L.length / 8]'(roomed_lt L)).toNat < 2 ^ (L.length % 8) := by
 rw [num_byte _ _ (roomed_lt L), num_roomed]
 have h := bitsN_lt L
 refine Nat.lt_of_le_of_lt (Nat.mod_le _ _) ?_
 refine (Nat.div_lt_iff_lt_mul (by exact Nat.pow_pos (by omega))).2 ?_
 rw [show (256 : Nat) = 2 ^ 8 from rfl, ← Nat.pow_mul, ← Nat.pow_add]
 rwa [show L.length % 8 + 8 * (L.length / 8) = L.length by omega]
theorem pack_snoc (L : List Bool) (b : Bool) : pack (L ++ [b]) = (roomed L).set (L.length / 8) (UInt8.ofNat (((roomed L)[L.length / 8]'(roomed_lt L)).toNat + b.toNat * 2 ^ (L.length % 8))) := by
 have hb := Bool.toNat_le b
 have h1 := roomed_byte L
 have hp : 2 ^ (L.length % 8) ≤ 2 ^ 7 := Nat.pow_le_pow_right (by omega) (by omega)
 have hm : b.toNat * 2 ^ (L.length % 8) ≤ 1 * 2 ^ (L.length % 8) := Nat.mul_le_mul_right _ hb
 refine num_inj (by rw [pack_len, List.length_set, roomed_len, List.length_append]; simp only [List.length_cons, List.length_nil]; omega) ?_
 have h2 := num_set (roomed L) (L.length / 8) (UInt8.ofNat (((roomed L)[L.length / 8]'(roomed_lt L)).toNat + b.toNat * 2 ^ (L.length % 8))) (roomed_lt L)
 rw [num_pack, bitsN_append]
 rw [num_roomed] at h2
 have e1 : (UInt8.ofNat (((roomed L)[L.length / 8]'(roomed_lt L)).toNat + b.toNat * 2 ^ (L.length % 8))).toNat = ((roomed L)[L.length / 8]'(roomed_lt L)).toNat + b.toNat * 2 ^ (L.length % 8) := by
  rw [UInt8.toNat_ofNat']; exact Nat.mod_eq_of_lt (by omega)
 rw [e1, Nat.mul_add] at h2
 have e2 : 256 ^ (L.length / 8) * (b.toNat * 2 ^ (L.length % 8)) = 2 ^ L.length * bitsN [b] := by
  simp only [bitsN, Nat.mul_zero, Nat.add_zero]; rw [Nat.mul_comm b.toNat, ← Nat.mul_assoc, show (256 : Nat) = 2 ^ 8 from rfl, ← Nat.pow_mul, ← Nat.pow_add, show 8 * (L.length / 8) + L.length % 8 = L.length by omega]
 rw [e2] at h2
 omega
def padTo (L : List Bool) : List Bool := L ++ List.replicate ((L.length + 7) / 8 * 8 - L.length) false
theorem bitsN_zero (n : Nat) : bitsN (List.replicate n false) = 0 := by
 induction n with
 | zero => rfl
 | succ n ih => simp [List.replicate_succ, bitsN, ih]
theorem padTo_len (L : List Bool) : (padTo L).length = 8 * ((L.length + 7) / 8) := by
 unfold padTo; rw [List.length_append, List.length_replicate]; omega
theorem pack_pad (L : List Bool) : pack (padTo L) = pack L := by
 refine num_inj (by rw [pack_len, pack_len, padTo_len]; omega) ?_
 rw [num_pack, num_pack]
 unfold padTo
 rw [bitsN_append, bitsN_zero]; omega
def bitsOf : List UInt8 → List Bool
 | [] => []
 | c :: l => enc c.toNat 8 ++ bitsOf l
theorem bitsOf_len (l : List UInt8) : (bitsOf l).length = 8 * l.length := by
 induction l with
 | nil => rfl
 | cons c l ih => simp only [bitsOf, List.length_append, enc_len, ih, List.length_cons]; omega
theorem bitsN_bitsOf (l : List UInt8) : bitsN (bitsOf l) = num l := by
 induction l with
 | nil => rfl
 | cons c l ih =>
  have := c.toNat_lt; rw [bitsOf, bitsN_append, bitsN_enc, enc_len, ih, num]; omega
theorem num_app (l m : List UInt8) : num (l ++ m) = num l + 2 ^ (8 * l.length) * num m := by
 induction l with
 | nil => simp [num]
 | cons c l ih =>
  simp only [List.cons_append, num, ih, List.length_cons]; rw [show 8 * (l.length + 1) = 8 * l.length + 8 from by omega, Nat.pow_add, Nat.mul_add, ← Nat.mul_assoc, Nat.mul_comm 256 (2 ^ (8 * l.length)), Nat.add_assoc]
theorem pack_bytes (L : List Bool) (l : List UInt8) (h : L.length % 8 = 0) : pack (L ++ bitsOf l) = pack L ++ l := by
 refine num_inj (by rw [pack_len, List.length_append, List.length_append, pack_len, bitsOf_len]; omega) ?_
 rw [num_pack, num_app, num_pack, bitsN_append, bitsN_bitsOf, pack_len, show 8 * ((L.length + 7) / 8) = L.length by omega]
def BitsAt (src : List UInt8) (a : Nat) (L : List Bool) : Prop := a + L.length ≤ 8 * src.length ∧ bv src a L.length = bitsN L
theorem bitsAt_append {src : List UInt8} {a : Nat} {L M : List Bool} : BitsAt src a (L ++ M) ↔ BitsAt src a L ∧ BitsAt src (a + L.length) M := by
 unfold BitsAt
 rw [List.length_append, bv_add, bitsN_append]
 have h1 := bv_lt src a L.length
 have h2 := bitsN_lt L
 constructor
 · rintro ⟨h, e⟩; have e1 : bv src a L.length = bitsN L := by
    have := congrArg (· % 2 ^ L.length) e; simp only [Nat.add_mul_mod_self_left] at this
    rwa [Nat.mod_eq_of_lt h1, Nat.mod_eq_of_lt h2] at this
   refine ⟨⟨by omega, e1⟩, by omega, ?_⟩
   rw [e1] at e; exact Nat.eq_of_mul_eq_mul_left (Nat.two_pow_pos L.length) (Nat.add_left_cancel e)
 · rintro ⟨⟨h, e⟩, h', e'⟩; exact ⟨by omega, by rw [e, e']⟩
theorem bitsAt_pack (L : List Bool) (m : List UInt8) : BitsAt (pack L ++ m) 0 L := by
 refine ⟨by rw [List.length_append, pack_len]; omega, ?_⟩
 rw [bv, num_app, num_pack, pack_len, Nat.pow_zero, Nat.div_one]
 have h : 2 ^ (8 * ((L.length + 7) / 8)) = 2 ^ L.length * 2 ^ (8 * ((L.length + 7) / 8) - L.length) := by rw [← Nat.pow_add]; congr 1; omega
 rw [h, Nat.mul_assoc, Nat.add_mul_mod_self_left, Nat.mod_eq_of_lt (bitsN_lt L)]
theorem bitsAt_enc {src : List UInt8} {a v n : Nat} (h : BitsAt src a (enc v n)) (hv : v < 2 ^ n) : bv src a n = v ∧ a + n ≤ 8 * src.length := by
 obtain ⟨h1, h2⟩ := h
 rw [enc_len] at h1 h2
 rw [bitsN_enc, Nat.mod_eq_of_lt hv] at h2
 exact ⟨h2, h1⟩
theorem bitsAt_code {src : List UInt8} {a s : Nat} {lens : List Nat} (h : BitsAt src a (encC (codeOf lens s) (lens.getD s 0))) (hs : s < lens.length) (h0 : lens.getD s 0 ≠ 0) (h15 : lens.getD s 0 ≤ 15) : SymAt lens src a s := by
 obtain ⟨h1, h2⟩ := h
 rw [encC_len] at h1 h2
 rw [bitsN_encC] at h2
 refine ⟨⟨h0, hs, ?_⟩, h1⟩
 have := bv_mod src a (lens.getD s 0) (15 - lens.getD s 0)
 rw [show lens.getD s 0 + (15 - lens.getD s 0) = 15 by omega] at this
 rw [this, h2]
end Flate
namespace Flate
set_option maxRecDepth 100000
def goLen (s : Nat) : Nat × Nat :=
 if s - 257 < 8 then (3 + (s - 257), 0) else if s - 257 = 28 then (258, 0) else (3 + (4 + (s - 257) % 4) * 2 ^ ((s - 257) / 4 - 1), (s - 257) / 4 - 1)
def goDist (d : Nat) : Nat × Nat := if d < 4 then (1 + d, 0) else (1 + (2 + d % 2) * 2 ^ (d / 2 - 1), d / 2 - 1)
def down (f : Nat → Nat) (v : Nat) : Nat → Nat
 | 0 => 0
 | s + 1 => if f (s + 1) ≤ v then s + 1 else down f v s
theorem down_spec {f : Nat → Nat} {v : Nat} (h0 : f 0 ≤ v) (n : Nat) : down f v n ≤ n ∧ f (down f v n) ≤ v ∧ (down f v n = n ∨ v < f (down f v n + 1)) := by
 induction n with
 | zero => exact ⟨Nat.le_refl _, h0, .inl rfl⟩
 | succ n ih =>
  rw [down]; split
  · exact ⟨Nat.le_refl _, by assumption, .inl rfl⟩
  · obtain ⟨h1, h2, h3⟩ := ih; refine ⟨by omega, h2, .inr ?_⟩
    rcases h3 with h3 | h3
    · rw [h3]; omega
    · exact h3
def lenSymbol (long : Nat) : Nat × Nat × Nat :=
 if long = 258 then (285, 0, 0) else (down (fun s => (goLen s).1) long 284, long - (goLen (down (fun s => (goLen s).1) long 284)).1, (goLen (down (fun s => (goLen s).1) long 284)).2)
def distSymbol (far : Nat) : Nat × Nat × Nat := (down (fun s => (goDist s).1) far 29, far - (goDist (down (fun s => (goDist s).1) far 29)).1, (goDist (down (fun s => (goDist s).1) far 29)).2)
theorem lenSymbol_ok {n : Nat} (h1 : 3 ≤ n) (h2 : n ≤ 258) : 257 ≤ (lenSymbol n).1 ∧ (lenSymbol n).1 ≤ 285 ∧ (lenSymbol n).2.1 < 2 ^ (lenSymbol n).2.2 ∧ (lenSymbol n).2.2 ≤ 5 ∧
 ∃ b, lenOf (lenSymbol n).1 = some (b, (lenSymbol n).2.2) ∧ b + (lenSymbol n).2.1 = n := by
 have : ∀ k : Fin 256, 257 ≤ (lenSymbol (k.1 + 3)).1 ∧ (lenSymbol (k.1 + 3)).1 ≤ 285 ∧ (lenSymbol (k.1 + 3)).2.1 < 2 ^ (lenSymbol (k.1 + 3)).2.2 ∧ (lenSymbol (k.1 + 3)).2.2 ≤ 5 ∧
  lenOf (lenSymbol (k.1 + 3)).1 = some ((goLen (lenSymbol (k.1 + 3)).1).1, (lenSymbol (k.1 + 3)).2.2) ∧ (goLen (lenSymbol (k.1 + 3)).1).1 + (lenSymbol (k.1 + 3)).2.1 = k.1 + 3 := by decide +kernel
 have h := this ⟨n - 3, by omega⟩
 simp only [show n - 3 + 3 = n by omega] at h
 obtain ⟨a, b, c, d, e, f⟩ := h
 exact ⟨a, b, c, d, _, e, f⟩
theorem goDist_next (d : Nat) (h : d < 30) : (goDist (d + 1)).1 = (goDist d).1 + 2 ^ (goDist d).2 ∧ distOf d = some (goDist d) ∧ (goDist d).2 ≤ 13 := by
 have : ∀ k : Fin 30, (goDist (k.1 + 1)).1 = (goDist k.1).1 + 2 ^ (goDist k.1).2 ∧ distOf k.1 = some (goDist k.1) ∧ (goDist k.1).2 ≤ 13 := by decide +kernel
 exact this ⟨d, h⟩
theorem distSymbol_ok {n : Nat} (h1 : 1 ≤ n) (h2 : n ≤ 32768) : (distSymbol n).1 < 30 ∧ (distSymbol n).2.1 < 2 ^ (distSymbol n).2.2 ∧ (distSymbol n).2.2 ≤ 13 ∧
 ∃ b, distOf (distSymbol n).1 = some (b, (distSymbol n).2.2) ∧ b + (distSymbol n).2.1 = n := by
 obtain ⟨a1, a2, a3⟩ := down_spec (f := fun s => (goDist s).1) (v := n) (by simpa [goDist] using h1) 29
 obtain ⟨s, hs⟩ : ∃ s, s = down (fun s => (goDist s).1) n 29 := ⟨_, rfl⟩
 rw [← hs] at a1 a2 a3
 have hd : distSymbol n = (s, n - (goDist s).1, (goDist s).2) := by unfold distSymbol; rw [← hs]
 obtain ⟨b1, b2, b3⟩ := goDist_next s (by omega)
 have hlt : n < (goDist (s + 1)).1 := by
  rcases a3 with q | q
  · rw [q]; have : (goDist (29 + 1)).1 = 32769 := by decide
    omega
  · exact q
 rw [hd]
 simp only at a2 ⊢
 exact ⟨by omega, by omega, b3, (goDist s).1, b2, by omega⟩
inductive Tk where
 | lit (c : UInt8)
 | cpy (far long : Nat)
def Tk.run (H : List UInt8) : Tk → List UInt8
 | .lit c => H ++ [c]
 | .cpy f n => lz H f n
def Tk.ok (n : Nat) : Tk → Prop
 | .lit _ => True
 | .cpy f m => 1 ≤ f ∧ f ≤ n ∧ f ≤ 32768 ∧ 3 ≤ m ∧ m ≤ 258
def Tk.size : Tk → Nat
 | .lit _ => 1
 | .cpy _ m => m
theorem Tk.run_len (H : List UInt8) (t : Tk) : (t.run H).length = H.length + t.size := by
 cases t with
 | lit c => simp [Tk.run, Tk.size]
 | cpy f m => simp [Tk.run, Tk.size, lz_length]
def Tk.has (ll dl : List Nat) : Tk → Prop
 | .lit c => ll.getD c.toNat 0 ≠ 0
 | .cpy f m => ll.getD (lenSymbol m).1 0 ≠ 0 ∧ dl.getD (distSymbol f).1 0 ≠ 0
def code (lens : List Nat) (s : Nat) : List Bool := encC (codeOf lens s) (lens.getD s 0)
def Tk.bits (ll dl : List Nat) : Tk → List Bool
 | .lit c => code ll c.toNat
 | .cpy f m => code ll (lenSymbol m).1 ++ enc (lenSymbol m).2.1 (lenSymbol m).2.2 ++ code dl (distSymbol f).1 ++ enc (distSymbol f).2.1 (distSymbol f).2.2
def toksOk (n : Nat) : List Tk → Prop
 | [] => True
 | t :: l => t.ok n ∧ toksOk (n + t.size) l
def toksRun (H : List UInt8) (l : List Tk) : List UInt8 := l.foldl Tk.run H
def toksSize (l : List Tk) : Nat := (l.map Tk.size).sum
def bodyBits (ll dl : List Nat) (l : List Tk) : List Bool := l.flatMap (Tk.bits ll dl) ++ code ll 256
theorem lt_of_getD {l : List Nat} {s : Nat} (h : l.getD s 0 ≠ 0) : s < l.length := by
 rcases Nat.lt_or_ge s l.length with q | q
 · exact q
 · rw [List.getD_eq_getElem?_getD, List.getElem?_eq_none q] at h; exact absurd rfl h
theorem code_len (lens : List Nat) (s : Nat) : (code lens s).length = lens.getD s 0 := encC_len _ _
theorem symS_code {lens : List Nat} (hk : Kraft lens) {src : List UInt8} {a s : Nat} (h : BitsAt src a (code lens s)) (h0 : lens.getD s 0 ≠ 0) : symS lens src a = some s :=
 (symS_iff hk).2 (bitsAt_code h (lt_of_getD h0) h0 (hk.getD (lt_of_getD h0)).2)
theorem tok_step {ll dl : List Nat} (hk : Kraft ll) (hd : Kraft dl) {src : List UInt8} {a : Nat} {H : List UInt8} {t : Tk} (h : BitsAt src a (t.bits ll dl)) (ho : t.ok H.length) (hh : t.has ll dl) :
 spStep src ll dl a H = .go (a + (t.bits ll dl).length) (t.run H) := by
 unfold spStep
 cases t with
 | lit c =>
  rw [symS_code hk h hh]; have hc := c.toNat_lt; simp only; rw [if_pos (by omega)]
  simp only [Tk.bits, code_len, Tk.run]
  congr 3
  exact UInt8.ofNat_toNat
 | cpy f m =>
  obtain ⟨f1, f2, f3, f4, f5⟩ := ho; obtain ⟨l1, l2, l3, l4, lb, l5, l6⟩ := lenSymbol_ok f4 f5; obtain ⟨d1, d2, d3, db, d4, d5⟩ := distSymbol_ok f1 f3; have hl : (Tk.bits ll dl (.cpy f m)).length = ll.getD (lenSymbol m).1 0 + (lenSymbol m).2.2 + dl.getD (distSymbol f).1 0 + (distSymbol f).2.2 := by
   simp only [Tk.bits, List.length_append, code_len, enc_len]
  rw [hl]; simp only [Tk.bits] at h; obtain ⟨h, h4⟩ := bitsAt_append.1 h; obtain ⟨h, h3⟩ := bitsAt_append.1 h; obtain ⟨h1, h2⟩ := bitsAt_append.1 h; simp only [List.length_append, code_len, enc_len] at h2 h3 h4; obtain ⟨g2, g2'⟩ := bitsAt_enc h2 l3; obtain ⟨g4, g4'⟩ := bitsAt_enc h4 d2; rw [← Nat.add_assoc] at h3; have e4 : a + (ll.getD (lenSymbol m).1 0 + (lenSymbol m).2.2 + dl.getD (distSymbol f).1 0) = a + ll.getD (lenSymbol m).1 0 + (lenSymbol m).2.2 + dl.getD (distSymbol f).1 0 := by omega
  rw [e4] at g4 g4'; rw [symS_code hk h1 hh.1]; simp only; rw [if_neg (by omega), if_neg (by omega)]
  have hp : spPair src dl (lenSymbol m).1 (a + ll.getD (lenSymbol m).1 0) = some (m, f, a + ll.getD (lenSymbol m).1 0 + (lenSymbol m).2.2 + dl.getD (distSymbol f).1 0 + (distSymbol f).2.2) := by
   unfold spPair; rw [l5]; simp only; rw [if_neg (by omega), symS_code hd h3 hh.2]
   simp only; rw [d4]; simp only; rw [if_neg (by omega), g2, g4, l6, d5]
  rw [hp]; simp only; rw [if_neg (by omega)]
  simp only [Tk.run, SpR.go.injEq, and_true]; omega
theorem toks_run {ll dl : List Nat} (hk : Kraft ll) (hd : Kraft dl) {src : List UInt8} (h256 : ll.getD 256 0 ≠ 0) : ∀ {l : List Tk} {a : Nat} {H : List UInt8}, BitsAt src a (bodyBits ll dl l) → toksOk H.length l → (∀ t ∈ l, t.has ll dl) →
 SpRun src ll dl a H (some (a + (bodyBits ll dl l).length, toksRun H l))
 | [], a, H, h, _, _ => by
  have e : bodyBits ll dl [] = code ll 256 := by simp [bodyBits]
  rw [e] at h ⊢; refine .fin ?_; unfold spStep; rw [symS_code hk h h256]; simp [code_len]
 | t :: l, a, H, h, ho, hh => by
  have e : bodyBits ll dl (t :: l) = t.bits ll dl ++ bodyBits ll dl l := by simp [bodyBits]
  rw [e] at h ⊢; obtain ⟨h1, h2⟩ := bitsAt_append.1 h; have hs := tok_step hk hd h1 ho.1 (hh t (by simp))
  have ih := toks_run hk hd h256 h2 (H := t.run H) (by rw [Tk.run_len]; exact ho.2) (fun t' ht' => hh t' (by simp [ht']))
  rw [List.length_append, ← Nat.add_assoc]; exact .go hs ih
theorem toksRun_len (H : List UInt8) (l : List Tk) : (toksRun H l).length = H.length + toksSize l := by
 induction l generalizing H with
 | nil => simp [toksRun, toksSize]
 | cons t l ih =>
  have := ih (t.run H); unfold toksRun at this ⊢; rw [List.foldl_cons, this, Tk.run_len]; simp [toksSize]; omega
def rowX (s : Nat) : Nat := if s = 16 then 2 else if s = 17 then 3 else if s = 18 then 7 else 0
def rowRun (acc : List Nat) (p : Nat × Nat) : List Nat := if p.1 < 16 then acc ++ [p.1] else acc ++ List.replicate ((repOf p.1 acc).1 + p.2) (repOf p.1 acc).2.2
def rowOk (acc : List Nat) (p : Nat × Nat) : Prop := p.1 ≤ 18 ∧ (p.1 = 16 → acc ≠ []) ∧ p.2 < 2 ^ rowX p.1
def rowsOk : List Nat → List (Nat × Nat) → Prop
 | _, [] => True
 | acc, p :: l => rowOk acc p ∧ rowsOk (rowRun acc p) l
def rowsRun (acc : List Nat) (l : List (Nat × Nat)) : List Nat := l.foldl rowRun acc
def rowBits (cl : List Nat) (p : Nat × Nat) : List Bool := code cl p.1 ++ enc p.2 (rowX p.1)
theorem rowRun_len (acc : List Nat) (p : Nat × Nat) : acc.length < (rowRun acc p).length := by
 unfold rowRun repOf
 split
 · simp
 · rw [List.length_append, List.length_replicate]; split
   · simp only; omega
   · split <;> (simp only; omega)
theorem rowsRun_le (acc : List Nat) (l : List (Nat × Nat)) : acc.length + l.length ≤ (rowsRun acc l).length := by
 induction l generalizing acc with
 | nil => simp [rowsRun]
 | cons p l ih =>
  have h1 := ih (rowRun acc p); have h2 := rowRun_len acc p; have e : rowsRun acc (p :: l) = rowsRun (rowRun acc p) l := rfl; rw [e, List.length_cons]; omega
theorem rows_read {src : List UInt8} {cl : List Nat} {n : Nat} (hk : Kraft cl) : ∀ {l : List (Nat × Nat)} {f : Nat} {acc : List Nat} {a : Nat}, BitsAt src a (l.flatMap (rowBits cl)) → rowsOk acc l → (∀ p ∈ l, cl.getD p.1 0 ≠ 0) →
 (rowsRun acc l).length = n → l.length ≤ f → spLens src cl n f acc a = some (rowsRun acc l, a + (l.flatMap (rowBits cl)).length)
 | [], f, acc, a, h, _, _, hn, _ => by
  have e : rowsRun acc [] = acc := rfl; rw [e] at hn ⊢; simp only [List.flatMap_nil, List.length_nil, Nat.add_zero]
  cases f with
  | zero => rfl
  | succ f => rw [spLens, if_pos (by omega)]
 | p :: l, f, acc, a, h, ho, hh, hn, hf => by
  cases f with
  | zero => simp at hf
  | succ f =>
   have e : rowsRun acc (p :: l) = rowsRun (rowRun acc p) l := rfl; have hle := rowsRun_le (rowRun acc p) l; have hlt := rowRun_len acc p; rw [e] at hn ⊢; have hle' : (rowRun acc p).length ≤ n := by omega
   rw [List.flatMap_cons] at h ⊢; obtain ⟨h1, h2⟩ := bitsAt_append.1 h; have ih := rows_read hk h2 ho.2 (fun q hq => hh q (by simp [hq])) hn (by simpa using hf)
   obtain ⟨o1, o2, o3⟩ := ho.1; rw [spLens, if_neg (by omega)]
   have hs : spLen src cl n acc a = some (rowRun acc p, a + (rowBits cl p).length) := by
    unfold rowBits at h1 ⊢; obtain ⟨g1, g2⟩ := bitsAt_append.1 h1; obtain ⟨k1, k2⟩ := bitsAt_enc g2 o3; rw [code_len] at k1 k2; unfold spLen; rw [symS_code hk g1 (hh p (by simp)), List.length_append, code_len, enc_len]
    simp only; unfold rowRun at hle' ⊢
    by_cases h16 : p.1 < 16
    · rw [if_pos h16, if_pos h16]; have : rowX p.1 = 0 := by unfold rowX; rw [if_neg (by omega), if_neg (by omega), if_neg (by omega)]
      rw [this, Nat.add_zero]
    · rw [if_neg h16] at hle' ⊢; rw [if_neg h16]; have hx : (repOf p.1 acc).2.1 = rowX p.1 := by
       have hp : p.1 = 16 ∨ p.1 = 17 ∨ p.1 = 18 := by omega
       unfold repOf rowX; rcases hp with q | q | q <;> rw [q] <;> rfl
      rw [if_neg (fun q => o2 q.1 (List.eq_nil_of_length_eq_zero q.2)), hx, if_neg (by omega), k1]
      rw [List.length_append, List.length_replicate] at hle'; rw [if_neg (by omega)]
      congr 2
      omega
   rw [hs]; simp only; rw [ih, List.length_append, Nat.add_assoc]
structure Head where
 nl : Nat
 nd : Nat
 nc : Nat
 cl : List Nat
 rows : List (Nat × Nat)
def Head.bits (h : Head) : List Bool :=
 enc (h.nl - 257) 5 ++ enc (h.nd - 1) 5 ++ enc (h.nc - 4) 4 ++ (clOrder.take h.nc).flatMap (fun s => enc (h.cl.getD s 0) 3) ++ h.rows.flatMap (rowBits h.cl)
structure Head.OK (h : Head) (ll dl : List Nat) : Prop where
 nl : 257 ≤ h.nl ∧ h.nl ≤ 286
 nd : 1 ≤ h.nd ∧ h.nd ≤ 30
 nc : 4 ≤ h.nc ∧ h.nc ≤ 19
 cl : h.cl.length = 19
 le7 : ∀ s, h.cl.getD s 0 ≤ 7
 zero : ∀ s ∈ clOrder.drop h.nc, h.cl.getD s 0 = 0
 full : Full h.cl
 ok : rowsOk [] h.rows
 has : ∀ p ∈ h.rows, h.cl.getD p.1 0 ≠ 0
 run : rowsRun [] h.rows = ll ++ dl
 lll : ll.length = h.nl
 dll : dl.length = h.nd
 fl : Full ll
 fd : Full dl
theorem three_bits {src : List UInt8} {cl : List Nat} (h7 : ∀ s, cl.getD s 0 ≤ 7) : ∀ {l : List Nat} {a : Nat}, BitsAt src a (l.flatMap fun s => enc (cl.getD s 0) 3) →
 (List.range l.length).map (fun i => bv src (a + 3 * i) 3) = l.map (fun s => cl.getD s 0) ∧ a + 3 * l.length ≤ 8 * src.length
 | [], a, h => ⟨rfl, h.1⟩
 | s :: l, a, h => by
  rw [List.flatMap_cons] at h; obtain ⟨h1, h2⟩ := bitsAt_append.1 h; rw [enc_len] at h2; obtain ⟨e, hl⟩ := three_bits h7 h2; obtain ⟨k1, _⟩ := bitsAt_enc h1 (by have := h7 s; omega)
  refine ⟨?_, by rw [List.length_cons]; omega⟩
  rw [List.length_cons, List.range_succ_eq_map, List.map_cons, List.map_map, List.map_cons, ← e]
  congr 1
  apply List.map_congr_left
  intro i _; simp only [Function.comp]
  congr 1
  omega
theorem order_idx : ∀ s : Fin 19, clOrder.idxOf s.1 < 19 ∧ clOrder[clOrder.idxOf s.1]? = some s.1 := by decide +kernel
theorem clens_order {cl : List Nat} {nc : Nat} (hl : cl.length = 19) (hz : ∀ s ∈ clOrder.drop nc, cl.getD s 0 = 0) : clens ((clOrder.take nc).map fun s => cl.getD s 0) = cl := by
 apply List.ext_getElem?
 intro s
 unfold clens
 rw [List.getElem?_map]
 by_cases hs : s < 19
 · rw [List.getElem?_range hs, List.getElem?_eq_getElem (by omega)]
   simp only [Option.map_some, Option.some.injEq]; obtain ⟨i1, i2⟩ := order_idx ⟨s, hs⟩; simp only at i1 i2; have e : cl.getD s 0 = cl[s] := by rw [List.getD_eq_getElem?_getD, List.getElem?_eq_getElem (by omega)]; rfl
   rw [← e, List.getD_eq_getElem?_getD, List.getElem?_map]
   by_cases hi : clOrder.idxOf s < nc
   · rw [List.getElem?_take_of_lt hi, i2]; rfl
   · rw [List.getElem?_eq_none (by rw [List.length_take]; omega)]
     have hm : s ∈ clOrder.drop nc := by
      rw [List.mem_iff_getElem?]; refine ⟨clOrder.idxOf s - nc, ?_⟩; rw [List.getElem?_drop, show nc + (clOrder.idxOf s - nc) = clOrder.idxOf s by omega, i2]
     rw [hz s hm]; rfl
 · rw [List.getElem?_eq_none (by rw [List.length_range]; omega), List.getElem?_eq_none (by omega)]; rfl
theorem kraft_of_full {lens : List Nat} (h15 : ∀ n ∈ lens, n ≤ 15) (hl : lens.length ≤ 320) (h : Full lens) : Kraft lens := by
 obtain ⟨T, hT⟩ := initTab_full h15 hl h
 exact (initTab_code h15 hT).1.kraft
theorem getD_le_all {l : List Nat} {m : Nat} (h : ∀ s, l.getD s 0 ≤ m) : ∀ n ∈ l, n ≤ m := by
 intro n hn
 obtain ⟨i, hi, rfl⟩ := List.getElem_of_mem hn
 have := h i
 rw [List.getD_eq_getElem?_getD, List.getElem?_eq_getElem hi] at this
 exact this
theorem head_read {src : List UInt8} {a : Nat} {h : Head} {ll dl : List Nat} (hb : BitsAt src a h.bits) (ho : h.OK ll dl) : spDyn src a = some ((ll, dl), a + h.bits.length) := by
 obtain ⟨nl1, nl2⟩ := ho.nl
 obtain ⟨nd1, nd2⟩ := ho.nd
 obtain ⟨nc1, nc2⟩ := ho.nc
 have hk : Kraft h.cl := kraft_of_full (fun n hn => by have := getD_le_all ho.le7 n hn; omega) (by rw [ho.cl]; omega) ho.full
 have hol : clOrder.length = 19 := by decide
 have h3l : ∀ l : List Nat, (l.flatMap fun s => enc (h.cl.getD s 0) 3).length = 3 * l.length := fun l => by
  induction l with
  | nil => rfl
  | cons s l ih => rw [List.flatMap_cons, List.length_append, ih, enc_len, List.length_cons]; omega
 have hlen : h.bits.length = 14 + 3 * h.nc + (h.rows.flatMap (rowBits h.cl)).length := by
  unfold Head.bits; simp only [List.length_append, enc_len, h3l, List.length_take, hol]; omega
 rw [hlen]
 unfold Head.bits at hb
 obtain ⟨hb, b5⟩ := bitsAt_append.1 hb
 obtain ⟨hb, b4⟩ := bitsAt_append.1 hb
 obtain ⟨hb, b3⟩ := bitsAt_append.1 hb
 obtain ⟨b1, b2⟩ := bitsAt_append.1 hb
 simp only [List.length_append, enc_len, h3l, List.length_take, hol] at b2 b3 b4 b5
 obtain ⟨c1, _⟩ := bitsAt_enc b1 (by omega)
 obtain ⟨c2, _⟩ := bitsAt_enc b2 (by omega)
 obtain ⟨c3, c3'⟩ := bitsAt_enc b3 (by omega)
 obtain ⟨c4, c4'⟩ := three_bits ho.le7 b4
 rw [List.length_take, hol, show min h.nc 19 = h.nc by omega] at c4 c4'
 rw [show min h.nc 19 = h.nc by omega] at b5
 simp only [show a + (5 + 5) = a + 10 by omega, show a + (5 + 5 + 4) = a + 14 by omega, show a + (5 + 5 + 4 + 3 * h.nc) = a + 14 + 3 * h.nc by omega] at c3 c3' c4 c4' b5
 have hrl : (rowsRun [] h.rows).length = h.nl + h.nd := by rw [ho.run, List.length_append, ho.lll, ho.dll]
 have hrows := rowsRun_le [] h.rows
 have hr := rows_read (n := h.nl + h.nd) (f := 400) hk b5 ho.ok ho.has hrl (by rw [hrl] at hrows; simp only [List.length_nil] at hrows; omega)
 unfold spDyn
 rw [if_neg (by omega), c1, if_neg (by omega), c2, if_neg (by omega), c3, show h.nc - 4 + 4 = h.nc by omega, if_neg (by omega), c4, clens_order ho.cl ho.zero, if_neg (not_not_intro ho.full)]
 rw [show h.nl - 257 + 257 = h.nl by omega, show h.nd - 1 + 1 = h.nd by omega, hr, ho.run]
 simp only
 rw [← ho.lll, List.take_left, List.drop_left, if_pos ⟨ho.fl, ho.fd⟩]
 congr 2
 omega
theorem num_take {l : List UInt8} {n : Nat} (h : n ≤ l.length) : num (l.take n) = num l % 256 ^ n := by
 have e := num_app (l.take n) (l.drop n)
 rw [List.take_append_drop, List.length_take, show min n l.length = n by omega] at e
 have hl := num_lt (l.take n)
 rw [List.length_take, show min n l.length = n by omega] at hl
 rw [show (256 : Nat) = 2 ^ 8 from rfl, ← Nat.pow_mul, e, Nat.add_mul_mod_self_left, Nat.mod_eq_of_lt hl]
theorem bitsAt_bytes {src : List UInt8} {p : Nat} {d : List UInt8} (h : BitsAt src (8 * p) (bitsOf d)) : p + d.length ≤ src.length ∧ (src.drop p).take d.length = d := by
 obtain ⟨h1, h2⟩ := h
 rw [bitsOf_len] at h1 h2
 have hl : d.length ≤ (src.drop p).length := by rw [List.length_drop]; omega
 refine ⟨by omega, num_inj (by rw [List.length_take]; omega) ?_⟩
 rw [num_take hl, ← num_div_byte, ← bitsN_bitsOf d, ← h2, bv, Nat.pow_mul, Nat.pow_mul]
inductive Blk : Nat → List UInt8 → Bool → List Bool → List UInt8 → Prop
 | stored {a H last d} : d.length ≤ 65535 → Blk a H last ([last] ++ enc 0 2 ++ List.replicate (8 * ((a + 3 + 7) / 8) - (a + 3)) false ++ enc d.length 16 ++ enc (65535 - d.length) 16 ++ bitsOf d) (H ++ d)
 | fixed {a H last l} : toksOk H.length l → Blk a H last ([last] ++ enc 1 2 ++ bodyBits fixedLens fixedDist l) (toksRun H l)
 | dyn {a H last l h ll dl} : toksOk H.length l → Head.OK h ll dl → (∀ n ∈ ll, n ≤ 15) → (∀ n ∈ dl, n ≤ 15) → ll.getD 256 0 ≠ 0 → (∀ t ∈ l, t.has ll dl) → Blk a H last ([last] ++ enc 2 2 ++ h.bits ++ bodyBits ll dl l) (toksRun H l)
theorem fixedLens_ne0 (s : Nat) (h : s < 288) : fixedLens.getD s 0 ≠ 0 := by
 have : ∀ s : Fin 288, fixedLens.getD s.1 0 ≠ 0 := by decide +kernel
 exact this ⟨s, h⟩
theorem codesLaw_fixed (src : List UInt8) : CodesLaw src fixedTab none fixedLens fixedDist := by
 obtain ⟨hL, hF⟩ := fixed_law
 have hmin := fixedTab_min
 refine ⟨hL, hF, ?_, fun _ => by rw [hmin]; omega, fun _ => ?_, distLaw_fixed⟩
 · exact ((initTab_law fixedLens_le (by rw [fixedLens_length]; omega)).2 fixedTab initFixed').1
 · rw [hmin]; decide +kernel
theorem bit_toNat (b : Bool) : bitsN [b] = b.toNat := by simp [bitsN]
theorem block_head {src : List UInt8} {last : Bool} {k : Nat} {M : List Bool} {r : Br} (hr : r.ok src) (hnb : r.nb ≤ 7) (hk : k < 4) (h : BitsAt src r.at_ ([last] ++ enc k 2 ++ M)) :
 ∃ r1, fill src.length 3 r = (true, r1) ∧ r1.at_ = r.at_ ∧ r1.pos = (r.at_ + 3 + 7) / 8 ∧ 3 ≤ r1.nb ∧ r1.ok src ∧ bv src r.at_ 1 = last.toNat ∧ bv src (r.at_ + 1) 2 = k ∧ BitsAt src (r.at_ + 3) M := by
 obtain ⟨h1, h2⟩ := bitsAt_append.1 h
 obtain ⟨h3, h4⟩ := bitsAt_append.1 h1
 have l1 : ([last] ++ enc k 2).length = 3 := by simp [enc_len]
 rw [l1] at h2
 obtain ⟨g1, g2⟩ := bitsAt_enc h4 hk
 simp only [List.length_cons, List.length_nil, Nat.zero_add] at g1 g2
 have hb := h3.2
 rw [bit_toNat] at hb
 have h2l := h2.1
 have o1 := hr.1
 have o2 := hr.2
 have hfl : ∃ r1, fill src.length 3 r = (true, r1) := by
  unfold fill; split
  · exact ⟨_, rfl⟩
  · rw [if_pos (by omega)]; exact ⟨_, rfl⟩
 obtain ⟨r1, hf⟩ := hfl
 obtain ⟨a1, a2, a3, a4, a5⟩ := fill_ok hr hf
 refine ⟨r1, hf, a2, ?_, a4 rfl, a1, hb, g1, h2⟩
 unfold fill at hf
 unfold Br.nb at hnb
 split at hf
 · rename_i hn; obtain ⟨_, rfl⟩ := Prod.mk.injEq .. ▸ hf; unfold Br.nb at hn; omega
 · split at hf
   · obtain ⟨_, rfl⟩ := Prod.mk.injEq .. ▸ hf; rfl
   · simp at hf
theorem blk_read {src : List UInt8} {a : Nat} {H : List UInt8} {last : Bool} {B : List Bool} {H' : List UInt8} (hb : Blk a H last B H') (h : BitsAt src a B) {r : Br} (hr : r.ok src) (ha : r.at_ = a) (hnb : r.nb ≤ 7) :
 ∃ r', Reach src (.next r, H) (more last r', H') ∧ r'.at_ = a + B.length ∧ r'.ok src ∧ r'.nb ≤ 7 := by
 subst ha
 have hlast : (last.toNat == 1) = last := by cases last <;> rfl
 have h3l : ∀ k, ([last] ++ enc k 2).length = 3 := fun k => by simp [enc_len]
 cases hb with
 | @stored d hd =>
  simp only [List.append_assoc] at h; rw [← List.append_assoc [last]] at h; obtain ⟨r1, f1, f2, f3, f4, f5, f6, f7, f8⟩ := block_head hr hnb (by omega) h
  obtain ⟨_, g1⟩ := bitsAt_append.1 f8; rw [List.length_replicate] at g1; have e8 : r.at_ + 3 + (8 * ((r.at_ + 3 + 7) / 8) - (r.at_ + 3)) = 8 * r1.pos := by rw [f3]; omega
  rw [e8] at g1; obtain ⟨g1, g2⟩ := bitsAt_append.1 g1; obtain ⟨g2, g3⟩ := bitsAt_append.1 g2; rw [enc_len] at g2 g3; rw [enc_len] at g3; obtain ⟨c1, _⟩ := bitsAt_enc g1 (by omega)
  obtain ⟨c2, c2'⟩ := bitsAt_enc g2 (by omega)
  have e9 : 8 * r1.pos + 16 + 16 = 8 * (r1.pos + 4) := by omega
  rw [e9] at g3; obtain ⟨d1, d2⟩ := bitsAt_bytes g3; refine ⟨⟨8 * (r1.pos + 4 + d.length), r1.pos + 4 + d.length⟩, .step ?_, ?_, ⟨Nat.le_refl _, d1⟩, by unfold Br.nb; simp only; omega⟩
  · have : sstep src (.next r, H) = (more last ⟨8 * (r1.pos + 4 + d.length), r1.pos + 4 + d.length⟩, H ++ d) := by
     show nextStep src r H = _
     unfold nextStep; rw [f1]; simp only; rw [f2, f6, f7, if_pos rfl, hlast]; unfold storedStep; rw [if_neg (by omega), c1, c2, if_neg (by omega)]
     unfold stRest; rw [if_pos d1, d2]
    rw [this]; exact .refl _
  · simp only [List.length_append, h3l, List.length_replicate, enc_len, bitsOf_len, List.length_cons, List.length_nil]; omega
 | @fixed l hl =>
  obtain ⟨r1, f1, f2, f3, f4, f5, f6, f7, f8⟩ := block_head hr hnb (by omega) h
  obtain ⟨b1, b2⟩ := skip_ok f5 f4; have hf1 := fill_ok hr f1; have hC := codesLaw_fixed src; have hrun := toks_run hC.tab.kraft hC.dist.kraft (fixedLens_ne0 256 (by omega)) f8 hl (fun t ht => by
   cases t with
   | lit c => have := c.toNat_lt; exact fixedLens_ne0 _ (by omega)
   | cpy f m =>
    have hok : ∀ {l : List Tk} {n : Nat}, toksOk n l → Tk.cpy f m ∈ l → 1 ≤ f ∧ f ≤ 32768 ∧ 3 ≤ m ∧ m ≤ 258 := by
     intro l
     induction l with
     | nil => intro n _ h; simp at h
     | cons t l ih =>
      intro n h1 h2; rcases List.mem_cons.1 h2 with q | q
      · subst q; exact ⟨h1.1.1, h1.1.2.2.1, h1.1.2.2.2⟩
      · exact ih h1.2 q
    obtain ⟨k1, k2, k3, k4⟩ := hok hl ht; have q1 := lenSymbol_ok k3 k4; have q2 := distSymbol_ok k1 k2; refine ⟨fixedLens_ne0 _ (by omega), ?_⟩
    rw [fixedDist_getD, if_pos (by omega)]; omega)
  obtain ⟨r', k1, k2, k3, k4⟩ := huff_good (last := last) (r := { r1 with at_ := r1.at_ + 3 }) hC hrun (by simp only; rw [f2]) b1 (.inl (by rw [b2]; omega)) rfl
  refine ⟨r', .step ?_, ?_, k3, k4⟩
  · have : sstep src (.next r, H) = (.huff last { r1 with at_ := r1.at_ + 3 } fixedTab none, H) := by
     show nextStep src r H = _
     unfold nextStep; rw [f1]; simp only; rw [f2, f6, f7, if_neg (by omega), if_pos rfl, hlast]
    rw [this]; exact k1
  · rw [k2, List.length_append, h3l]; omega
 | @dyn l hd ll dl hl ho h15 h15' h256 hh =>
  rw [List.append_assoc ([last] ++ enc 2 2)] at h; obtain ⟨r1, f1, f2, f3, f4, f5, f6, f7, f8⟩ := block_head hr hnb (by omega) h
  obtain ⟨g1, g2⟩ := bitsAt_append.1 f8; obtain ⟨b1, b2⟩ := skip_ok f5 f4; have hf1 := fill_ok hr f1; have hnb1 : ({ r1 with at_ := r1.at_ + 3 } : Br).nb ≤ 7 := by rw [b2]; omega
  have hal := readHuff_alike b1 hnb1; simp only at hal; rw [f2, head_read g1 ho] at hal; rw [f2] at b1 hnb1
  cases hq : readHuff src { r1 with at_ := r.at_ + 3 } with
  | bad e q => rw [hq] at hal; exact hal.elim
  | ok p r3 =>
   obtain ⟨T, D⟩ := p; rw [hq] at hal; obtain ⟨hC, q1, q2, q3⟩ := hal; simp only at hC; have hrun := toks_run hC.tab.kraft hC.dist.kraft h256 g2 hl hh; obtain ⟨r', k1, k2, k3, k4⟩ := huff_good (last := last) (r := r3) hC hrun q1 q2 (.inl q3) rfl; refine ⟨r', .step ?_, ?_, k3, k4⟩
   · have : sstep src (.next r, H) = (.huff last r3 T (some D), H) := by
      show nextStep src r H = _
      unfold nextStep; rw [f1]; simp only; rw [f2, f6, f7, if_neg (by omega), if_neg (by omega), if_pos rfl, hlast, hq]
     rw [this]; exact k1
   · rw [k2, List.length_append, List.length_append, h3l]; omega
inductive Blks (H0 : List UInt8) : List Bool → List UInt8 → Prop
 | nil : Blks H0 [] H0
 | snoc {L H B H'} : Blks H0 L H → Blk L.length H false B H' → Blks H0 (L ++ B) H'
def Data (H0 : List UInt8) (L : List Bool) (H' : List UInt8) : Prop := ∃ L1 H B, L = L1 ++ B ∧ Blks H0 L1 H ∧ Blk L1.length H true B H'
theorem blks_read {src H0 : List UInt8} {L : List Bool} {H : List UInt8} (h : Blks H0 L H) (hb : BitsAt src 0 L) : ∃ r, Reach src (start H0) (.next r, H) ∧ r.at_ = L.length ∧ r.ok src ∧ r.nb ≤ 7 := by
 induction h with
 | nil => exact ⟨⟨0, 0⟩, .refl _, rfl, ⟨Nat.le_refl _, Nat.zero_le _⟩, by decide⟩
 | @snoc L H B H' _ hk ih =>
  obtain ⟨h1, h2⟩ := bitsAt_append.1 hb; obtain ⟨r, a1, a2, a3, a4⟩ := ih h1; rw [Nat.zero_add] at h2; obtain ⟨r', b1, b2, b3, b4⟩ := blk_read hk h2 a3 a2 a4; exact ⟨r', a1.trans b1, by rw [b2, List.length_append], b3, b4⟩
theorem data_infl {dict : List UInt8} {L : List Bool} {X : List UInt8} (h : Data (lastOf dict) L (lastOf dict ++ X)) (m : List UInt8) : Infl (pack L ++ m) dict .eof (pack L).length X := by
 obtain ⟨L1, H, B, rfl, h1, h2⟩ := h
 have hb := bitsAt_pack (L1 ++ B) m
 obtain ⟨b1, b2⟩ := bitsAt_append.1 hb
 rw [Nat.zero_add] at b2
 obtain ⟨r, a1, a2, a3, a4⟩ := blks_read h1 b1
 obtain ⟨r', c1, c2, c3, c4⟩ := blk_read h2 b2 a3 a2 a4
 have hp : r'.pos = (pack (L1 ++ B)).length := by
  rw [pack_len, List.length_append, ← c2]; have := c3.1; unfold Br.nb at c4; omega
 have := a1.trans c1
 unfold more at this
 rw [if_pos rfl, hp] at this
 exact this
end Flate
namespace Flate
def kw (n : Nat) : Nat := if n = 0 then 0 else 2 ^ (15 - n)
def ksum (l : List Nat) : Nat := (l.map kw).sum
def Cf (f : Nat → Nat) : Nat → Nat
 | 0 => 0
 | i + 1 => 2 * Cf f i + f (i + 1)
theorem Cf_add (f g : Nat → Nat) (i : Nat) : Cf (fun n => f n + g n) i = Cf f i + Cf g i := by
 induction i with
 | zero => rfl
 | succ i ih => simp only [Cf, ih]; omega
theorem Cf_one (m i : Nat) : Cf (fun n => if m = n then 1 else 0) i = if m = 0 then 0 else if m ≤ i then 2 ^ (i - m) else 0 := by
 induction i with
 | zero =>
  rw [Cf]; split
  · rfl
  · rw [if_neg (by omega)]
 | succ i ih =>
  rw [Cf, ih]
  by_cases h0 : m = 0
  · rw [if_pos h0, if_pos h0, if_neg (by omega)]
  · rw [if_neg h0, if_neg h0]
    by_cases h1 : m = i + 1
    · rw [if_neg (by omega), if_pos h1, if_pos (by omega), h1, Nat.sub_self]
    · rw [if_neg h1]
      by_cases h2 : m ≤ i
      · rw [if_pos h2, if_pos (by omega), show i + 1 - m = (i - m) + 1 by omega, Nat.pow_succ]; omega
      · rw [if_neg h2, if_neg (by omega)]
theorem Ck_Cf (lens : List Nat) : ∀ i, i ≤ 15 → Ck (cntAll lens).count i = Cf (fun n => lens.count n) i := by
 intro i
 induction i with
 | zero => intro _; rfl
 | succ i ih => intro h; rw [Ck, Cf, ih (by omega), (cnt_facts lens).count (i + 1) (by omega) (by omega)]
theorem Cf_ksum (lens : List Nat) (h15 : ∀ n ∈ lens, n ≤ 15) : Cf (fun n => lens.count n) 15 = ksum lens := by
 induction lens with
 | nil =>
  have : ∀ i, Cf (fun n => ([] : List Nat).count n) i = 0 := fun i => by
   induction i with
   | zero => rfl
   | succ i ih => rw [Cf, ih]; simp
  rw [this]; rfl
 | cons x l ih =>
  have e : (fun n => (x :: l).count n) = fun n => l.count n + if x = n then 1 else 0 := by
   funext n
   rw [List.count_cons]; simp only [beq_iff_eq]
  have hx := h15 x (by simp)
  rw [e, Cf_add, ih (fun n hn => h15 n (by simp [hn])), Cf_one]
  unfold ksum kw; rw [List.map_cons, List.sum_cons, if_pos hx]; omega
theorem ksum_Ck {lens : List Nat} (h15 : ∀ n ∈ lens, n ≤ 15) : ksum lens = Ck (cntAll lens).count 15 := by
 rw [Ck_Cf lens 15 (Nat.le_refl _), Cf_ksum lens h15]
theorem Ck_top {lens : List Nat} (h15 : ∀ n ∈ lens, n ≤ 15) : Ck (cntAll lens).count 15 = Ck (cntAll lens).count (cntAll lens).max * 2 ^ (15 - (cntAll lens).max) := by
 have hc := cnt_facts lens
 have hm : (cntAll lens).max ≤ 15 := by
  rcases hc.mem with h | h
  · omega
  · exact h15 _ h
 have key : ∀ d, (cntAll lens).max + d ≤ 15 → Ck (cntAll lens).count ((cntAll lens).max + d) = Ck (cntAll lens).count (cntAll lens).max * 2 ^ d := by
  intro d
  induction d with
  | zero => intro _; simp
  | succ d ih =>
   intro h; rw [← Nat.add_assoc, Ck, ih (by omega), hc.count _ (by omega) (by omega), Nat.pow_succ]
   have : lens.count ((cntAll lens).max + d + 1) = 0 := List.count_eq_zero.2 (fun hn => by have := hc.le _ hn; omega)
   rw [this, Nat.add_zero, Nat.mul_comm 2, Nat.mul_assoc]
 have := key (15 - (cntAll lens).max) (by omega)
 rwa [show (cntAll lens).max + (15 - (cntAll lens).max) = 15 by omega] at this
theorem many_split (l : List Nat) : l.count 1 + l.countP (fun n => n != 0 && n != 1) = l.countP (fun n => n != 0) := by
 induction l with
 | nil => rfl
 | cons x l ih =>
  rw [List.count_cons, List.countP_cons, List.countP_cons]
  by_cases h0 : x = 0
  · subst h0; simp; omega
  · by_cases h1 : x = 1
    · subst h1; simp; omega
    · simp [h0, h1]; omega
theorem full_iff {lens : List Nat} (h15 : ∀ n ∈ lens, n ≤ 15) : Full lens ↔ ksum lens = 32768 ∨ lens.countP (fun n => n != 0) = 0 ∨ lens.countP (fun n => n != 0) = 1 ∧ lens.count 1 = 1 := by
 have hc := cnt_facts lens
 have hm : (cntAll lens).max ≤ 15 := by
  rcases hc.mem with h | h
  · omega
  · exact h15 _ h
 have hk := ksum_Ck h15
 rw [Ck_top h15] at hk
 have hp : (32768 : Nat) = 2 ^ (cntAll lens).max * 2 ^ (15 - (cntAll lens).max) := by rw [← Nat.pow_add, show (cntAll lens).max + (15 - (cntAll lens).max) = 15 by omega]
 have h1 : Ck (cntAll lens).count 1 = lens.count 1 := by rw [Ck, Ck, hc.count 1 (by omega) (by omega)]; omega
 unfold Full
 constructor
 · rintro (h | h | ⟨h, h'⟩)
   · refine .inr (.inl (List.countP_eq_zero.2 fun n hn => ?_))
     have := hc.le n hn; have : n = 0 := by omega
     simp [this]
   · refine .inl ?_; rw [hk, h, ← hp]
   · refine .inr (.inr ?_); have h2 := many_split lens; have h3 : lens.countP (fun n => n != 0 && n != 1) = 0 := List.countP_eq_zero.2 fun n hn => by
      have := hc.le n hn; have : n = 0 ∨ n = 1 := by omega
      rcases this with q | q <;> simp [q]
     omega
 · rintro (h | h | ⟨h, h'⟩)
   · refine .inr (.inl ?_); rw [h, hp] at hk; exact (Nat.eq_of_mul_eq_mul_right (Nat.two_pow_pos _) hk).symm
   · refine .inl ?_; rcases hc.mem with q | q
     · exact q
     · have := List.countP_eq_zero.1 h _ q
       simpa using this
   · refine .inr (.inr ?_); have h2 := many_split lens; have h3 := List.countP_eq_zero.1 (show lens.countP (fun n => n != 0 && n != 1) = 0 by omega)
     have hmem : 1 ∈ lens := List.count_pos_iff.1 (by omega)
     have hge := hc.le 1 hmem; refine ⟨?_, by rw [h1, h']⟩
     rcases hc.mem with q | q
     · omega
     · have := h3 _ q; simp at this; omega
theorem nodup_inj {l : List Nat} (h : l.Nodup) {i j : Nat} {hi : i < l.length} {hj : j < l.length} (e : l[i] = l[j]) : i = j :=
 (List.getElem?_inj hi h).1 (by rw [List.getElem?_eq_getElem hi, List.getElem?_eq_getElem hj, e])
structure TreeOK (used : List Bool) (most : Nat) (out : List Nat) : Prop where
 len : out.length = used.length
 iff_ : ∀ s, out.getD s 0 ≠ 0 ↔ used.getD s false = true
 le : ∀ s, out.getD s 0 ≤ most
 full : Full out
structure Tr (used : List Bool) (out l : List Nat) (long : Nat) : Prop where
 len : out.length = used.length
 nodup : l.Nodup
 mem : ∀ s ∈ l, out.getD s 0 = 0 ∧ used.getD s false = true
 rest : ∀ s, s ∉ l → (out.getD s 0 ≠ 0 ↔ used.getD s false = true)
 le : ∀ s, out.getD s 0 ≤ long
 l15 : long ≤ 15
 sum : ksum out + 2 ^ (15 - long) = 32768
theorem ksum_set {l : List Nat} {s n : Nat} (hs : s < l.length) (h0 : l.getD s 0 = 0) : ksum (l.set s n) = ksum l + kw n := by
 induction l generalizing s with
 | nil => simp at hs
 | cons x l ih =>
  cases s with
  | zero =>
   have hx : x = 0 := by simpa using h0
   subst hx; simp [ksum, kw]; omega
  | succ s =>
   have := ih (s := s) (by simpa using hs) (by simpa using h0)
   unfold ksum at this ⊢; simp only [List.set_cons_succ, List.map_cons, List.sum_cons, this]; omega
theorem used_lt {used : List Bool} {s : Nat} (h : used.getD s false = true) : s < used.length := by
 rcases Nat.lt_or_ge s used.length with q | q
 · exact q
 · rw [List.getD_eq_getElem?_getD, List.getElem?_eq_none q] at h; simp at h
theorem set_getD {l : List Nat} {s t n : Nat} (hs : s < l.length) : (l.set s n).getD t 0 = if s = t then n else l.getD t 0 := by
 rw [getD_set]
 by_cases h : s = t
 · rw [if_pos ⟨h, hs⟩, if_pos h]
 · rw [if_neg (fun q => h q.1), if_neg h]
theorem eraseIdx_nodup {l : List Nat} (h : l.Nodup) (k : Nat) : (l.eraseIdx k).Nodup := h.sublist (List.eraseIdx_sublist l k)
theorem mem_eraseIdx {l : List Nat} (h : l.Nodup) {k : Nat} (hk : k < l.length) {s : Nat} : s ∈ l.eraseIdx k ↔ s ∈ l ∧ s ≠ l[k] := by
 rw [List.mem_eraseIdx_iff_getElem]
 constructor
 · rintro ⟨i, hi, h1, rfl⟩; exact ⟨List.getElem_mem hi, fun e => h1 (nodup_inj h e)⟩
 · rintro ⟨h1, h2⟩; obtain ⟨i, hi, rfl⟩ := List.getElem_of_mem h1; exact ⟨i, hi, fun e => h2 (by subst e; rfl), rfl⟩
theorem Tr.step {used : List Bool} {out l : List Nat} {long k : Nat} (h : Tr used out l long) (hk : k < l.length) (h15 : long < 15) : Tr used (out.set l[k] (long + 1)) (l.eraseIdx k) (long + 1) := by
 obtain ⟨m1, m2⟩ := h.mem _ (List.getElem_mem hk)
 have hlt : l[k] < out.length := by rw [h.len]; exact used_lt m2
 refine ⟨by rw [List.length_set, h.len], eraseIdx_nodup h.nodup k, fun s hs => ?_, fun s hs => ?_, fun s => ?_, h15, ?_⟩
 · obtain ⟨a, b⟩ := (mem_eraseIdx h.nodup hk).1 hs; rw [set_getD hlt, if_neg (Ne.symm b)]; exact h.mem s a
 · rw [set_getD hlt]
   by_cases e : l[k] = s
   · subst e; rw [if_pos rfl]; exact ⟨fun _ => m2, fun _ => by omega⟩
   · rw [if_neg e]; exact h.rest s (fun q => hs ((mem_eraseIdx h.nodup hk).2 ⟨q, Ne.symm e⟩))
 · rw [set_getD hlt]; have := h.le s; split <;> omega
 · rw [ksum_set hlt m1]; have := h.sum; have e : 2 ^ (15 - long) = 2 * 2 ^ (15 - (long + 1)) := by rw [show 15 - long = (15 - (long + 1)) + 1 by omega, Nat.pow_succ]; omega
   unfold kw; rw [if_neg (by omega)]
   omega
def outF (out l : List Nat) (v : Nat → Nat) (j : Nat) : List Nat := (List.range j).foldl (fun o i => o.set (l.getD i 0) (v i)) out
theorem outF_succ (out l : List Nat) (v : Nat → Nat) (j : Nat) : outF out l v (j + 1) = (outF out l v j).set (l.getD j 0) (v j) := by
 unfold outF; rw [List.range_succ, List.foldl_append]; rfl
theorem outF_len (out l : List Nat) (v : Nat → Nat) (j : Nat) : (outF out l v j).length = out.length := by
 induction j with
 | zero => rfl
 | succ j ih => rw [outF_succ, List.length_set, ih]
theorem outF_spec {used : List Bool} {out l : List Nat} {long : Nat} (h : Tr used out l long) (v : Nat → Nat) : ∀ j, j ≤ l.length →
 (∀ i, i < j → (outF out l v j).getD (l.getD i 0) 0 = v i) ∧ (∀ s, s ∉ l.take j → (outF out l v j).getD s 0 = out.getD s 0) ∧ ksum (outF out l v j) = ksum out + ((List.range j).map fun i => kw (v i)).sum := by
 intro j
 induction j with
 | zero => intro _; exact ⟨fun i hi => absurd hi (by omega), fun s _ => rfl, by simp [outF]⟩
 | succ j ih =>
  intro hj; obtain ⟨i1, i2, i3⟩ := ih (by omega)
  have ej : l.getD j 0 = l[j] := by rw [List.getD_eq_getElem?_getD, List.getElem?_eq_getElem (by omega)]; rfl
  obtain ⟨m1, m2⟩ := h.mem l[j] (List.getElem_mem (by omega))
  have hlt : l[j] < (outF out l v j).length := by rw [outF_len, h.len]; exact used_lt m2
  have hnot : l[j] ∉ l.take j := fun q => by
   obtain ⟨i, hi, e⟩ := List.getElem_of_mem q; rw [List.length_take] at hi; rw [List.getElem_take] at e; have := nodup_inj h.nodup e; omega
  rw [outF_succ, ej]; refine ⟨fun i hi => ?_, fun s hs => ?_, ?_⟩
  · rw [set_getD hlt]
    by_cases e : i = j
    · subst e; rw [ej, if_pos rfl]
    · have ei : l.getD i 0 = l[i]'(by omega) := by rw [List.getD_eq_getElem?_getD, List.getElem?_eq_getElem (by omega)]; rfl
      rw [if_neg (fun q => by
       rw [ei] at q; exact e (nodup_inj h.nodup q).symm), i1 i (by omega)]
  · rw [List.take_succ_eq_append_getElem (by omega), List.mem_append, List.mem_singleton] at hs
    rw [set_getD hlt, if_neg (fun q => hs (.inr q.symm)), i2 s (fun q => hs (.inl q))]
  · rw [ksum_set hlt (by rw [i2 _ hnot]; exact m1), i3, List.range_succ, List.map_append, List.sum_append]
    simp only [List.map_cons, List.map_nil, List.sum_cons, List.sum_nil]; omega
theorem sum_short (A B m : Nat) : ∀ n, ((List.range n).map fun i => if i < m then A else B).sum = min n m * A + (n - m) * B := by
 intro n
 induction n with
 | zero => simp
 | succ n ih =>
  rw [List.range_succ, List.map_append, List.sum_append, ih]; simp only [List.map_cons, List.map_nil, List.sum_cons, List.sum_nil, Nat.add_zero]
  by_cases h : n < m
  · rw [if_pos h, show min (n + 1) m = min n m + 1 by omega, show n + 1 - m = n - m by omega, Nat.succ_mul]; omega
  · rw [if_neg h, show min (n + 1) m = min n m by omega, show n + 1 - m = (n - m) + 1 by omega, Nat.succ_mul]; omega
def deepV (long deep short i : Nat) : Nat := if i < short then long + deep - 1 else long + deep
theorem tree_done {used : List Bool} {out l : List Nat} {long deep most : Nat} (h : Tr used out l long) (hl : l ≠ []) (hd1 : l.length ≤ 2 ^ deep) (hd2 : 2 ^ deep < 2 * l.length) (hpos : 0 < long + deep) (hm : long + deep ≤ most) (h15 : most ≤ 15) :
 TreeOK used most (outF out l (deepV long deep (2 ^ deep - l.length)) l.length) := by
 have hn : 0 < l.length := List.length_pos_iff.2 hl
 obtain ⟨s1, s2, s3⟩ := outF_spec h (deepV long deep (2 ^ deep - l.length)) l.length (Nat.le_refl _)
 have hv : ∀ i, deepV long deep (2 ^ deep - l.length) i ≤ most ∧ (i < l.length → deepV long deep (2 ^ deep - l.length) i ≠ 0) := by
  intro i; unfold deepV
  constructor
  · split <;> omega
  · intro _; split
    · rename_i hi; rcases Nat.eq_zero_or_pos deep with e | e
      · subst e; simp at hi; omega
      · have : long + deep ≠ 1 ∨ (long = 0 ∧ deep = 1) := by omega
        rcases this with q | ⟨q1, q2⟩
        · omega
        · subst q1 q2; simp at hi hd2; omega
    · omega
 have hcase : ∀ s, (∃ i, i < l.length ∧ l.getD i 0 = s) ∨ s ∉ l := fun s => by
  by_cases q : s ∈ l
  · obtain ⟨i, hi, e⟩ := List.getElem_of_mem q; exact .inl ⟨i, hi, by rw [List.getD_eq_getElem?_getD, List.getElem?_eq_getElem hi]; exact e⟩
  · exact .inr q
 rw [List.take_length] at s2
 have hle : ∀ s, (outF out l (deepV long deep (2 ^ deep - l.length)) l.length).getD s 0 ≤ most := fun s => by
  rcases hcase s with ⟨i, hi, rfl⟩ | q
  · rw [s1 i hi]; exact (hv i).1
  · rw [s2 s q]; have := h.le s; omega
 refine ⟨by rw [outF_len, h.len], fun s => ?_, hle, ?_⟩
 · rcases hcase s with ⟨i, hi, rfl⟩ | q
   · rw [s1 i hi]; have e : l.getD i 0 = l[i] := by rw [List.getD_eq_getElem?_getD, List.getElem?_eq_getElem hi]; rfl
     exact ⟨fun _ => by rw [e]; exact (h.mem _ (List.getElem_mem hi)).2, fun _ => (hv i).2 hi⟩
   · rw [s2 s q]; exact h.rest s q
 · have h15' := getD_le_all (fun s => Nat.le_trans (hle s) h15)
   refine (full_iff h15').2 (.inl ?_); rw [s3]; have e1 : ((List.range l.length).map fun i => kw (deepV long deep (2 ^ deep - l.length) i)) = (List.range l.length).map fun i => if i < 2 ^ deep - l.length then 2 ^ (15 - (long + deep - 1)) else 2 ^ (15 - (long + deep)) := by
    apply List.map_congr_left
    intro i hi; have h0 := (hv i).2 (List.mem_range.1 hi); unfold kw; rw [if_neg h0]; unfold deepV; split <;> rfl
   rw [e1, sum_short]; have hs := h.sum; have e2 : 2 ^ (15 - (long + deep - 1)) = 2 * 2 ^ (15 - (long + deep)) := by rw [show 15 - (long + deep - 1) = (15 - (long + deep)) + 1 by omega, Nat.pow_succ]; omega
   have e3 : 2 ^ (15 - long) = 2 ^ deep * 2 ^ (15 - (long + deep)) := by rw [← Nat.pow_add]; congr 1; omega
   have e4 : min l.length (2 ^ deep - l.length) = 2 ^ deep - l.length := by omega
   have e5 : l.length - (2 ^ deep - l.length) = 2 * l.length - 2 ^ deep := by omega
   rw [e2, e4, e5]; rw [e3] at hs; have e6 : (2 ^ deep - l.length) * (2 * 2 ^ (15 - (long + deep))) + (2 * l.length - 2 ^ deep) * 2 ^ (15 - (long + deep)) = 2 ^ deep * 2 ^ (15 - (long + deep)) := by
    rw [← Nat.mul_assoc, ← Nat.add_mul]
    congr 1
    omega
   omega
theorem tree_one {used : List Bool} {out : List Nat} {s most : Nat} (h : Tr used out [s] 0) (hm : 1 ≤ most) (h15 : most ≤ 15) : TreeOK used most (out.set s 1) := by
 obtain ⟨m1, m2⟩ := h.mem s (by simp)
 have hlt : s < out.length := by rw [h.len]; exact used_lt m2
 have hz : ∀ t, out.getD t 0 = 0 := fun t => by have := h.le t; omega
 have hle : ∀ t, (out.set s 1).getD t 0 ≤ most := fun t => by rw [set_getD hlt, hz]; split <;> omega
 refine ⟨by rw [List.length_set, h.len], fun t => ?_, hle, ?_⟩
 · rw [set_getD hlt]
   by_cases e : s = t
   · subst e; rw [if_pos rfl]; exact ⟨fun _ => m2, fun _ => by omega⟩
   · rw [if_neg e]; exact h.rest t (by simp [Ne.symm e])
 · refine (full_iff (getD_le_all (fun t => Nat.le_trans (hle t) h15))).2 (.inr (.inr ?_))
   have hall : ∀ n ∈ out, n = 0 := fun n hn => by
    obtain ⟨i, hi, rfl⟩ := List.getElem_of_mem hn; have := hz i
    rwa [List.getD_eq_getElem?_getD, List.getElem?_eq_getElem hi] at this
   have key : ∀ (l : List Nat) (s : Nat), (∀ n ∈ l, n = 0) → s < l.length → (l.set s 1).countP (fun n => n != 0) = 1 ∧ (l.set s 1).count 1 = 1 := by
    intro l
    induction l with
    | nil => intro s _ h; simp at h
    | cons x l ih =>
     intro s hz hs; have hx : x = 0 := hz x (by simp)
     subst hx
     cases s with
     | zero =>
      have c1 : l.countP (fun n => n != 0) = 0 := List.countP_eq_zero.2 fun n hn => by simp [hz n (by simp [hn])]
      have c2 : l.count 1 = 0 := List.count_eq_zero.2 fun hn => by have := hz 1 (by simp [hn]); omega
      simp [c1, c2]
     | succ s =>
      obtain ⟨a, b⟩ := ih s (fun n hn => hz n (by simp [hn])) (by simpa using hs)
      simp [a, b]
   exact key out s hall hlt
theorem tree_none {used : List Bool} {out : List Nat} {most : Nat} (h : Tr used out [] 0) (h15 : most ≤ 15) : TreeOK used most out := by
 have hz : ∀ t, out.getD t 0 = 0 := fun t => by have := h.le t; omega
 refine ⟨h.len, fun s => h.rest s (by simp), fun s => by rw [hz]; omega, (full_iff (fun n hn => ?_)).2 (.inr (.inl (List.countP_eq_zero.2 fun n hn => ?_)))⟩
 all_goals
  obtain ⟨i, hi, rfl⟩ := List.getElem_of_mem hn; have := hz i; rw [List.getD_eq_getElem?_getD, List.getElem?_eq_getElem hi] at this; simp at this; simp [this]
def usedL (used : List Bool) : List Nat := (List.range used.length).filter fun s => used.getD s false
theorem tr_start (used : List Bool) : Tr used (List.replicate used.length 0) (usedL used) 0 := by
 have hz : ∀ s, (List.replicate used.length 0).getD s 0 = 0 := fun s => by rw [List.getD_eq_getElem?_getD, List.getElem?_replicate]; split <;> rfl
 refine ⟨by simp, List.nodup_range.sublist List.filter_sublist, fun s hs => ⟨hz s, ?_⟩, fun s hs => ?_, fun s => by rw [hz]; omega, by omega, ?_⟩
 · exact (List.mem_filter.1 hs).2
 · rw [hz]; refine ⟨fun q => absurd rfl q, fun q => absurd (List.mem_filter.2 ⟨List.mem_range.2 (used_lt q), q⟩) hs⟩
 · have : ∀ n, ksum (List.replicate n 0) = 0 := fun n => by
    induction n with
    | zero => rfl
    | succ n ih => simp only [ksum, List.replicate_succ, List.map_cons, List.sum_cons] at ih ⊢; rw [ih]; rfl
   rw [this]
theorem lz_behind (G : List UInt8) {H : List UInt8} {d n : Nat} (hd : 1 ≤ d) (hH : d ≤ H.length) : lz (G ++ H) d n = G ++ lz H d n := by
 unfold lz lzBytes
 rw [List.append_assoc]
 congr 2
 apply List.map_congr_left
 intro j _
 have hm : j % d < d := Nat.mod_lt _ (by omega)
 rw [List.length_append, show G.length + H.length - d + j % d = G.length + (H.length - d + j % d) by omega, getD_append_right (by omega)]
 congr 1
 omega
theorem toks_behind (G : List UInt8) : ∀ {l : List Tk} {H : List UInt8}, toksOk H.length l → toksOk (G ++ H).length l ∧ toksRun (G ++ H) l = G ++ toksRun H l
 | [], H, _ => ⟨trivial, rfl⟩
 | t :: l, H, h => by
  have hlen := Tk.run_len H t; have h2 : toksOk (t.run H).length l := by rw [hlen]; exact h.2
  have hrun : t.run (G ++ H) = G ++ t.run H := by
   cases t with
   | lit c => show (G ++ H) ++ [c] = G ++ (H ++ [c]); rw [List.append_assoc]
   | cpy f m => exact lz_behind G h.1.1 h.1.2.1
  obtain ⟨i1, i2⟩ := toks_behind G h2; refine ⟨⟨?_, ?_⟩, ?_⟩
  · cases t with
    | lit c => exact h.1
    | cpy f m =>
     obtain ⟨a1, a2, a3, a4, a5⟩ := h.1; exact ⟨a1, by rw [List.length_append]; omega, a3, a4, a5⟩
  · rw [List.length_append, hlen] at i1; rw [List.length_append, Nat.add_assoc]; exact i1
  · show toksRun (t.run (G ++ H)) l = G ++ toksRun (t.run H) l
    rw [hrun]; exact i2
theorem blk_behind (G : List UInt8) {a : Nat} {H H' : List UInt8} {last : Bool} {B : List Bool} (h : Blk a H last B H') : Blk a (G ++ H) last B (G ++ H') := by
 cases h with
 | stored hd => rw [← List.append_assoc]; exact .stored hd
 | fixed ho => rw [← (toks_behind G ho).2]; exact .fixed (toks_behind G ho).1
 | dyn ho h1 h2 h3 h4 h5 => rw [← (toks_behind G ho).2]; exact .dyn (toks_behind G ho).1 h1 h2 h3 h4 h5
theorem blks_behind (G : List UInt8) {H0 H : List UInt8} {L : List Bool} (h : Blks H0 L H) : Blks (G ++ H0) L (G ++ H) := by
 induction h with
 | nil => exact .nil
 | snoc _ hb ih => exact .snoc ih (blk_behind G hb)
theorem data_behind (G : List UInt8) {H0 H : List UInt8} {L : List Bool} (h : Data H0 L H) : Data (G ++ H0) L (G ++ H) := by
 obtain ⟨L1, H1, B, h1, h2, h3⟩ := h
 exact ⟨L1, G ++ H1, B, h1, blks_behind G h2, blk_behind G h3⟩
end Flate
