/-
  PLAIN LEAN: a block with codes, read as RFC 1951 says; the reader of blocks answers alike.
-/
import Derived.Test.YthfncdfcklbigaaDoorLook
set_option linter.unusedVariables false
set_option linter.unusedSimpArgs false
namespace Flate

open Classical in
/-- The symbol at bit a. -/
noncomputable def symS (lens : List Nat) (src : List UInt8) (a : Nat) : Option Nat := if h : ∃ s, SymAt lens src a s then some h.choose else none

theorem symS_iff {lens : List Nat} (h : Kraft lens) {src : List UInt8} {a s : Nat} : symS lens src a = some s ↔ SymAt lens src a s := by
  unfold symS
  constructor
  · intro e
    split at e
    · rename_i q
      obtain rfl := Option.some.inj e
      exact q.choose_spec
    · simp at e
  · intro e
    rw [dif_pos ⟨s, e⟩]
    exact congrArg some (SymAt.one h (⟨s, e⟩ : ∃ t, SymAt lens src a t).choose_spec e)

theorem symS_none {lens : List Nat} {src : List UInt8} {a : Nat} : symS lens src a = none ↔ ∀ s, ¬ SymAt lens src a s := by
  unfold symS
  constructor
  · intro e s hs
    rw [dif_pos ⟨s, hs⟩] at e; simp at e
  · intro e
    rw [dif_neg (fun ⟨s, hs⟩ => e s hs)]

/-- A length and a distance: how long, how far, and the place behind them. -/
noncomputable def spPair (src : List UInt8) (dl : List Nat) (v a : Nat) : Option (Nat × Nat × Nat) :=
  match lenOf v with
  | none => none
  | some (lb, lx) =>
    if 8 * src.length < a + lx then none
    else match symS dl src (a + lx) with
      | none => none
      | some d =>
        match distOf d with
        | none => none
        | some (db, dx) =>
          if 8 * src.length < a + lx + dl.getD d 0 + dx then none
          else some (lb + bv src a lx, db + bv src (a + lx + dl.getD d 0) dx, a + lx + dl.getD d 0 + dx)

inductive SpR where
  | fail
  | fin (a : Nat)
  | go (a : Nat) (H : List UInt8)

noncomputable def spStep (src : List UInt8) (ll dl : List Nat) (a : Nat) (H : List UInt8) : SpR :=
  match symS ll src a with
  | none => .fail
  | some s =>
    if s < 256 then .go (a + ll.getD s 0) (H ++ [UInt8.ofNat s])
    else if s = 256 then .fin (a + ll.getD s 0)
    else match spPair src dl s (a + ll.getD s 0) with
      | none => .fail
      | some (n, f, a') => if H.length < f then .fail else .go a' (lz H f n)

/-- A block with codes from bit a on, behind H: where it ends and what stands there then; none: it is no block. -/
inductive SpRun (src : List UInt8) (ll dl : List Nat) : Nat → List UInt8 → Option (Nat × List UInt8) → Prop
  | fail {a H} : spStep src ll dl a H = .fail → SpRun src ll dl a H none
  | fin {a H a'} : spStep src ll dl a H = .fin a' → SpRun src ll dl a H (some (a', H))
  | go {a H a' H' R} : spStep src ll dl a H = .go a' H' → SpRun src ll dl a' H' R → SpRun src ll dl a H R

/-! ### Bits -/

theorem getBits_at {src : List UInt8} {n : Nat} {r : Br} (hr : r.ok src) (hn : r.at_ + n ≤ 8 * src.length) :
    ∃ r', getBits src n r = .ok (bv src r.at_ n) r' ∧ r'.at_ = r.at_ + n ∧ r'.ok src ∧ (r'.nb + n ≤ r.nb ∨ r'.nb ≤ 7) := by
  unfold getBits
  have hfl : ∃ r1, fill src.length n r = (true, r1) := by
    unfold fill
    split
    · exact ⟨_, rfl⟩
    · rw [if_pos (by omega)]; exact ⟨_, rfl⟩
  obtain ⟨r1, hf⟩ := hfl
  obtain ⟨a1, a2, a3, a4, a5⟩ := fill_ok hr hf
  obtain ⟨b1, b2⟩ := skip_ok a1 (a4 rfl)
  rw [hf]
  simp only
  refine ⟨_, by rw [a2], by simp only; rw [a2], b1, ?_⟩
  rw [b2]
  have := a4 rfl
  omega

theorem getBits_ok {src : List UInt8} {n x : Nat} {r r' : Br} (hr : r.ok src) (h : getBits src n r = .ok x r') : r.at_ + n ≤ 8 * src.length ∧ x = bv src r.at_ n ∧ r'.at_ = r.at_ + n ∧ r'.ok src := by
  unfold getBits at h
  cases hf : fill src.length n r with
  | mk t r1 =>
    obtain ⟨a1, a2, a3, a4, a5⟩ := fill_ok hr hf
    rw [hf] at h
    cases t with
    | false => simp at h
    | true =>
      simp only [Rd.ok.injEq] at h
      obtain ⟨rfl, rfl⟩ := h
      have h1 := a1.1
      have h2 := a1.2
      have h3 := a4 rfl
      unfold Br.nb at h3
      exact ⟨by omega, by rw [a2], by simp only; rw [a2], (skip_ok a1 (a4 rfl)).1⟩

theorem getBits_bad {src : List UInt8} {n : Nat} {r r' : Br} {e : Err} (h : getBits src n r = .bad e r') : e = .cut := by
  unfold getBits at h
  split at h
  · simp only [Rd.bad.injEq] at h; exact h.1.symm
  · simp at h

theorem sym_bad' {src : List UInt8} {T : Tab} (f : Nat) : ∀ {n : Nat} {r r' : Br} {e : Err}, sym src T f n r = .bad e r' → e ≠ .eof := by
  induction f with
  | zero => intro n r r' e h; simp only [sym, Rd.bad.injEq] at h; rw [← h.1]; simp
  | succ f ih =>
    intro n r r' e h
    rw [sym] at h
    cases hf : fill src.length n r with
    | mk t q =>
      rw [hf] at h
      cases t with
      | false => simp only [Rd.bad.injEq] at h; rw [← h.1]; simp
      | true =>
        simp only at h
        split at h
        · split at h
          · simp only [Rd.bad.injEq] at h; rw [← h.1]; simp
          · exact absurd h (by simp)
        · exact ih h

/-! ### The codes of a block -/

/-- The distances' code, as the reader has it. -/
structure DistLaw (src : List UInt8) (D : Option Tab) (dl : List Nat) : Prop where
  kraft : Kraft dl
  at_ : ∀ {r r' : Br} {d : Nat}, r.ok src → distSym src D r = .ok d r' → SymAt dl src r.at_ d ∧ r'.at_ = r.at_ + dl.getD d 0 ∧ r'.ok src
  of : ∀ {r : Br} {d : Nat}, r.ok src → SymAt dl src r.at_ d → ∃ r', distSym src D r = .ok d r' ∧ r'.at_ = r.at_ + dl.getD d 0 ∧ r'.ok src ∧ (r'.nb ≤ r.nb ∨ r'.nb ≤ 7)
  bad : ∀ {r r' : Br} {e : Err}, distSym src D r = .bad e r' → e ≠ .eof

/-- The codes of a block, as the reader has them. -/
structure CodesLaw (src : List UInt8) (T : Tab) (D : Option Tab) (ll dl : List Nat) : Prop where
  tab : TabLaw ll T
  full : Full ll
  ok : T.OK
  one : (cntAll ll).max = 1 → 1 ≤ T.min
  min : ll.getD 256 0 ≠ 0 → T.min ≤ ll.getD 256 0
  dist : DistLaw src D dl

theorem sym_ok {src : List UInt8} {T : Tab} (f : Nat) : ∀ {n : Nat} {r r' : Br} {s : Nat}, r.ok src → sym src T f n r = .ok s r' → r'.ok src := by
  induction f with
  | zero => intro n r r' s _ h; simp [sym] at h
  | succ f ih =>
    intro n r r' s hr h
    rw [sym] at h
    cases hf : fill src.length n r with
    | mk t r1 =>
      obtain ⟨a1, a2, a3, a4, a5⟩ := fill_ok hr hf
      rw [hf] at h
      cases t with
      | false => simp at h
      | true =>
        simp only at h
        split at h
        · rename_i hle
          split at h
          · simp at h
          · simp only [Rd.ok.injEq] at h
            obtain ⟨rfl, rfl⟩ := h
            exact (skip_ok a1 hle).1
        · exact ih a1 h

theorem distLaw_tab {src : List UInt8} {T : Tab} {dl : List Nat} (hL : TabLaw dl T) (hF : Full dl) (h1 : (cntAll dl).max = 1 → 1 ≤ T.min) (hm : ∀ s, s < dl.length → dl.getD s 0 ≠ 0 → T.min ≤ dl.getD s 0) : DistLaw src (some T) dl := by
  refine ⟨hL.kraft, fun hr h => ?_, fun {r d} hr h => ?_, fun h => sym_bad' 20 h⟩
  · obtain ⟨g1, g2⟩ := symbol_at hL hr h
    exact ⟨g1, g2, sym_ok 20 hr h⟩
  · have hmd := hm d h.1.2.1 h.1.1
    have h2 := h.2
    obtain ⟨r', g1, g2, g3, g4⟩ := symbol_of hL hF h hr (by omega) h1
    refine ⟨r', g1, g2, g3, ?_⟩
    have := h.1.1
    omega

/-- The fixed codes of the distances. -/
def fixedDist : List Nat := List.replicate 32 5

theorem fixedDist_getD (d : Nat) : fixedDist.getD d 0 = if d < 32 then 5 else 0 := by
  unfold fixedDist
  rw [List.getD_eq_getElem?_getD, List.getElem?_replicate]
  split <;> rfl

theorem fixedDist_hits {d x : Nat} : Hits fixedDist d x ↔ d < 32 ∧ x % 32 = revB 5 d := by
  have hc : ∀ d, d < 32 → codeOf fixedDist d = d := by
    intro d hd
    unfold codeOf
    rw [fixedDist_getD, if_pos hd]
    have h1 : Ck (cntAll fixedDist).count (5 - 1) = 0 := by decide +kernel
    have h2 : (fixedDist.take d).count 5 = d := by
      unfold fixedDist
      rw [List.take_replicate, List.count_replicate_self]; omega
    rw [h1, h2]; omega
  unfold Hits
  rw [fixedDist_getD]
  constructor
  · rintro ⟨h1, h2, h3⟩
    by_cases hd : d < 32
    · rw [if_pos hd, hc d hd] at h3; exact ⟨hd, h3⟩
    · rw [if_neg hd] at h1; exact absurd rfl h1
  · rintro ⟨h1, h2⟩
    rw [if_pos h1, hc d h1]
    exact ⟨by omega, by unfold fixedDist; simp; exact h1, h2⟩

theorem fixedDist_kraft : Kraft fixedDist := by
  refine ⟨fun n hn => by unfold fixedDist at hn; have := (List.mem_replicate.1 hn).2; omega, fun n hn => ?_⟩
  have h5 : (cntAll fixedDist).max = 5 := by decide +kernel
  rw [h5] at hn
  have : ∀ n : Fin 6, Ck (cntAll fixedDist).count n.1 ≤ 2 ^ n.1 := by decide +kernel
  exact this ⟨n, by omega⟩

theorem distLaw_fixed {src : List UInt8} : DistLaw src none fixedDist := by
  refine ⟨fixedDist_kraft, fun {r r' d} hr h => ?_, fun {r d} hr h => ?_, fun {r r' e} h => ?_⟩
  · unfold distSym at h
    simp only at h
    cases hg : getBits src 5 r with
    | bad e q => rw [hg] at h; simp at h
    | ok x q =>
      rw [hg] at h
      simp only [Rd.ok.injEq] at h
      obtain ⟨rfl, rfl⟩ := h
      obtain ⟨g1, g2, g3, g4⟩ := getBits_ok hr hg
      have hx : x < 32 := by rw [g2]; exact bv_lt src r.at_ 5
      have hl := revB_lt 5 x
      rw [fixedDist_getD, if_pos hl]
      refine ⟨⟨fixedDist_hits.2 ⟨hl, ?_⟩, by rw [fixedDist_getD, if_pos hl]; exact g1⟩, g3, g4⟩
      rw [revB_revB, g2]
      have := bv_mod src r.at_ 5 10
      rw [show (32 : Nat) = 2 ^ 5 from rfl, this, Nat.mod_eq_of_lt (bv_lt src r.at_ 5)]
  · obtain ⟨h1, h2⟩ := h
    obtain ⟨hd, hx⟩ := fixedDist_hits.1 h1
    rw [fixedDist_getD, if_pos hd] at h2 ⊢
    obtain ⟨r', g1, g2, g3, g4⟩ := getBits_at hr h2
    refine ⟨r', ?_, g2, g3, by omega⟩
    unfold distSym
    simp only
    rw [g1]
    simp only
    have := bv_mod src r.at_ 5 10
    rw [show (32 : Nat) = 2 ^ 5 from rfl, this] at hx
    rw [hx, revB_revB, Nat.mod_eq_of_lt hd]
  · unfold distSym at h
    simp only at h
    cases hg : getBits src 5 r with
    | bad e' q => rw [hg] at h; simp only [Rd.bad.injEq] at h; rw [← h.1, getBits_bad hg]; simp
    | ok x q => rw [hg] at h; simp at h

/-! ### A step -/

theorem pair_spec {src : List UInt8} {D : Option Tab} {dl : List Nat} (hD : DistLaw src D dl) {v : Nat} {r : Br} (hr : r.ok src) :
    (∃ e r', pair src D v r = .bad e r' ∧ e ≠ .eof) ∨ ∃ n f r', pair src D v r = .ok (n, f) r' ∧ spPair src dl v r.at_ = some (n, f, r'.at_) ∧ r'.ok src := by
  unfold pair spPair
  cases hl : lenOf v with
  | none => exact .inl ⟨_, _, rfl, by simp⟩
  | some lp =>
    obtain ⟨lb, lx⟩ := lp
    simp only
    cases h1 : getBits src lx r with
    | bad e q => exact .inl ⟨_, _, rfl, by rw [getBits_bad h1]; simp⟩
    | ok x r2 =>
      obtain ⟨a1, a2, a3, a4⟩ := getBits_ok hr h1
      simp only
      rw [if_neg (by omega)]
      cases h2 : distSym src D r2 with
      | bad e q => exact .inl ⟨_, _, rfl, hD.bad h2⟩
      | ok d r3 =>
        obtain ⟨b1, b2, b3⟩ := hD.at_ a4 h2
        simp only
        rw [← a3, (symS_iff hD.kraft).2 b1]
        simp only
        cases h3 : distOf d with
        | none => exact .inl ⟨_, _, rfl, by simp⟩
        | some dp =>
          obtain ⟨db, dx⟩ := dp
          simp only
          cases h4 : getBits src dx r3 with
          | bad e q => exact .inl ⟨_, _, rfl, by rw [getBits_bad h4]; simp⟩
          | ok y r4 =>
            obtain ⟨c1, c2, c3, c4⟩ := getBits_ok b3 h4
            rw [b2] at c1 c2 c3
            rw [if_neg (by omega)]
            exact .inr ⟨_, _, r4, rfl, by rw [c3, ← c2, a2], c4⟩

theorem pair_of {src : List UInt8} {D : Option Tab} {dl : List Nat} (hD : DistLaw src D dl) {v n f a' : Nat} {r : Br} (hr : r.ok src) (h : spPair src dl v r.at_ = some (n, f, a')) :
    ∃ r', pair src D v r = .ok (n, f) r' ∧ r'.at_ = a' ∧ r'.ok src ∧ (r'.nb ≤ r.nb ∨ r'.nb ≤ 7) := by
  unfold spPair at h
  unfold pair
  cases hl : lenOf v with
  | none => rw [hl] at h; simp at h
  | some lp =>
    obtain ⟨lb, lx⟩ := lp
    rw [hl] at h
    simp only at h ⊢
    split at h
    · simp at h
    · rename_i h1
      obtain ⟨r2, a1, a2, a3, a4⟩ := getBits_at (n := lx) hr (by omega)
      rw [a1]
      simp only
      cases h2 : symS dl src (r.at_ + lx) with
      | none => rw [h2] at h; simp at h
      | some d =>
        rw [h2] at h
        simp only at h
        obtain ⟨r3, b1, b2, b3, b4⟩ := hD.of a3 (by rw [a2]; exact (symS_iff hD.kraft).1 h2)
        rw [b1]
        simp only
        cases h3 : distOf d with
        | none => rw [h3] at h; simp at h
        | some dp =>
          obtain ⟨db, dx⟩ := dp
          rw [h3] at h
          simp only at h ⊢
          split at h
          · simp at h
          · rename_i h4
            obtain ⟨r4, c1, c2, c3, c4⟩ := getBits_at (n := dx) b3 (by rw [b2, a2]; omega)
            rw [c1]
            simp only [Option.some.injEq, Prod.mk.injEq] at h
            obtain ⟨e1, e2, e3⟩ := h
            refine ⟨r4, ?_, by rw [c2, b2, a2]; exact e3, c3, by omega⟩
            simp only [Rd.ok.injEq, and_true]
            rw [← e1, ← e2, b2, a2]

/-- What a step of the reader answers is what RFC 1951 says, or a fault. -/
theorem huffStep_spec {src : List UInt8} {last : Bool} {r : Br} {T : Tab} {D : Option Tab} {ll dl : List Nat} {H : List UInt8} (hC : CodesLaw src T D ll dl) (hr : r.ok src) :
    (∃ e p, huffStep src last r T D H = (.done e p, H) ∧ e ≠ .eof) ∨ (∃ r' H', huffStep src last r T D H = (.huff last r' T D, H') ∧ spStep src ll dl r.at_ H = .go r'.at_ H' ∧ r'.ok src) ∨
    ∃ r', huffStep src last r T D H = (more last r', H) ∧ spStep src ll dl r.at_ H = .fin r'.at_ ∧ r'.ok src := by
  unfold huffStep spStep
  cases h1 : symbol src T r with
  | bad e q => exact .inl ⟨_, _, rfl, sym_bad' 20 h1⟩
  | ok v r1 =>
    obtain ⟨a1, a2⟩ := symbol_at hC.tab hr h1
    have a3 := sym_ok 20 hr h1
    rw [(symS_iff hC.tab.kraft).2 a1]
    simp only
    by_cases hv : v < 256
    · rw [if_pos hv, if_pos hv]
      exact .inr (.inl ⟨_, _, rfl, by rw [a2], a3⟩)
    · rw [if_neg hv, if_neg hv]
      by_cases hv2 : v = 256
      · rw [if_pos hv2, if_pos hv2]
        exact .inr (.inr ⟨_, rfl, by rw [a2], a3⟩)
      · rw [if_neg hv2, if_neg hv2]
        rcases pair_spec hC.dist (v := v) a3 with ⟨e, r', g1, g2⟩ | ⟨n, f, r', g1, g2, g3⟩
        · rw [g1]; exact .inl ⟨_, _, rfl, g2⟩
        · rw [g1, ← a2, g2]
          simp only
          by_cases hf : H.length < f
          · rw [if_pos hf]; exact .inl ⟨_, _, rfl, by simp⟩
          · rw [if_neg hf, if_neg hf]; exact .inr (.inl ⟨_, _, rfl, rfl, g3⟩)

/-- The buffer holds little at a symbol. -/
def few (T : Tab) (r : Br) : Prop := r.nb ≤ 7 ∨ r.nb ≤ T.min + 6

theorem huffStep_of {src : List UInt8} {last : Bool} {r : Br} {T : Tab} {D : Option Tab} {ll dl : List Nat} {H : List UInt8} (hC : CodesLaw src T D ll dl) (hr : r.ok src) (hroom : r.at_ + T.min ≤ 8 * src.length) (hfew : few T r) :
    (∀ a' H', spStep src ll dl r.at_ H = .go a' H' → ∃ r', huffStep src last r T D H = (.huff last r' T D, H') ∧ r'.at_ = a' ∧ r'.ok src ∧ few T r') ∧
    (∀ a', spStep src ll dl r.at_ H = .fin a' → ∃ r', huffStep src last r T D H = (more last r', H) ∧ r'.at_ = a' ∧ r'.ok src ∧ r'.nb ≤ 7) := by
  unfold huffStep spStep
  cases h1 : symS ll src r.at_ with
  | none => exact ⟨fun a' H' h => by simp at h, fun a' h => by simp at h⟩
  | some v =>
    have hs := (symS_iff hC.tab.kraft).1 h1
    obtain ⟨r1, a1, a2, a3, a4⟩ := symbol_of hC.tab hC.full hs hr hroom hC.one
    have h0 := hs.1.1
    have hmin := hC.min
    unfold few at hfew ⊢
    rw [a1]
    simp only
    by_cases hv : v < 256
    · rw [if_pos hv, if_pos hv]
      refine ⟨fun a' H' h => ?_, fun a' h => by simp at h⟩
      simp only [SpR.go.injEq] at h
      exact ⟨r1, by rw [h.2], by rw [a2, h.1], a3, by omega⟩
    · rw [if_neg hv, if_neg hv]
      by_cases hv2 : v = 256
      · rw [if_pos hv2, if_pos hv2]
        refine ⟨fun a' H' h => by simp at h, fun a' h => ?_⟩
        simp only [SpR.fin.injEq] at h
        subst hv2
        have := hmin h0
        exact ⟨r1, rfl, by rw [a2, h], a3, by omega⟩
      · rw [if_neg hv2, if_neg hv2]
        cases h2 : spPair src dl v (r.at_ + ll.getD v 0) with
        | none => exact ⟨fun a' H' h => by simp at h, fun a' h => by simp at h⟩
        | some q =>
          obtain ⟨n, f, a2'⟩ := q
          rw [← a2] at h2
          obtain ⟨r2, g1, g2, g3, g4⟩ := pair_of hC.dist a3 h2
          rw [g1]
          simp only
          by_cases hf : H.length < f
          · rw [if_pos hf]; exact ⟨fun a' H' h => by simp at h, fun a' h => by simp at h⟩
          · rw [if_neg hf, if_neg hf]
            refine ⟨fun a' H' h => ?_, fun a' h => by simp at h⟩
            simp only [SpR.go.injEq] at h
            exact ⟨r2, by rw [h.2], by rw [g2, h.1], g3, by omega⟩

/-! ### A block -/

/-- A block has room for its end. -/
theorem SpRun.room {src : List UInt8} {ll dl : List Nat} (hk : Kraft ll) {a : Nat} {H : List UInt8} {R : Option (Nat × List UInt8)} (h : SpRun src ll dl a H R) (hR : R ≠ none) : a + ll.getD 256 0 ≤ 8 * src.length ∧ ll.getD 256 0 ≠ 0 := by
  induction h with
  | fail _ => exact absurd rfl hR
  | @fin a H a' h =>
    unfold spStep at h
    cases h1 : symS ll src a with
    | none => rw [h1] at h; simp at h
    | some v =>
      rw [h1] at h
      simp only at h
      have hs := (symS_iff hk).1 h1
      split at h
      · simp at h
      · split at h
        · rename_i _ e
          subst e
          exact ⟨hs.2, hs.1.1⟩
        · split at h
          · simp at h
          · split at h <;> simp at h
  | @go a H a' H' R h _ ih =>
    have hle : a ≤ a' := by
      unfold spStep at h
      split at h
      · simp at h
      · rename_i v h1
        split at h
        · simp only [SpR.go.injEq] at h; omega
        · split at h
          · simp at h
          · split at h
            · simp at h
            · rename_i n f q h2
              split at h
              · simp at h
              · simp only [SpR.go.injEq] at h
                unfold spPair at h2
                split at h2
                · simp at h2
                · split at h2
                  · simp at h2
                  · split at h2
                    · simp at h2
                    · split at h2
                      · simp at h2
                      · split at h2
                        · simp at h2
                        · simp only [Option.some.injEq, Prod.mk.injEq] at h2; omega
    have := ih hR
    exact ⟨by omega, this.2⟩

theorem huff_good {src : List UInt8} {last : Bool} {T : Tab} {D : Option Tab} {ll dl : List Nat} {a : Nat} {H : List UInt8} {R : Option (Nat × List UInt8)} (hC : CodesLaw src T D ll dl) (h : SpRun src ll dl a H R) :
    ∀ {r : Br}, r.at_ = a → r.ok src → few T r → ∀ {a' : Nat} {H' : List UInt8}, R = some (a', H') → ∃ r', Reach src (.huff last r T D, H) (more last r', H') ∧ r'.at_ = a' ∧ r'.ok src ∧ r'.nb ≤ 7 := by
  have hroom := fun (hR : R ≠ none) => h.room hC.tab.kraft hR
  induction h with
  | fail _ => intro r _ _ _ a' H' e; simp at e
  | @fin a H a1 h1 =>
    intro r ha hr hf a' H' e
    simp only [Option.some.injEq, Prod.mk.injEq] at e
    obtain ⟨q1, q2⟩ := hroom (by simp)
    have := hC.min q2
    obtain ⟨_, g⟩ := huffStep_of (last := last) (H := H) hC hr (by omega) hf
    obtain ⟨r', g1, g2, g3, g4⟩ := g a1 (by rw [ha]; exact h1)
    refine ⟨r', .step ?_, by rw [g2, e.1], g3, g4⟩
    rw [← e.2]
    show Reach src (huffStep src last r T D H) _
    rw [g1]; exact .refl _
  | @go a H a1 H1 R h1 h2 ih =>
    intro r ha hr hf a' H' e
    obtain ⟨q1, q2⟩ := hroom (by rw [e]; simp)
    have := hC.min q2
    obtain ⟨g, _⟩ := huffStep_of (last := last) (H := H) hC hr (by omega) hf
    obtain ⟨r', g1, g2, g3, g4⟩ := g a1 H1 (by rw [ha]; exact h1)
    obtain ⟨r2, k1, k2, k3, k4⟩ := ih (fun hR => h2.room hC.tab.kraft hR) g2 g3 g4 e
    refine ⟨r2, .step ?_, k2, k3, k4⟩
    show Reach src (huffStep src last r T D H) _
    rw [g1]; exact k1

theorem huff_bad {src : List UInt8} {last : Bool} {T : Tab} {D : Option Tab} {ll dl : List Nat} {a : Nat} {H : List UInt8} {R : Option (Nat × List UInt8)} (hC : CodesLaw src T D ll dl) (h : SpRun src ll dl a H R) :
    ∀ {r : Br}, r.at_ = a → r.ok src → R = none → ∃ e p Hx, Reach src (.huff last r T D, H) (.done e p, Hx) ∧ e ≠ .eof := by
  induction h with
  | @fail a H h1 =>
    intro r ha hr _
    rcases huffStep_spec (last := last) (H := H) hC hr with ⟨e, p, g1, g2⟩ | ⟨r', H', g1, g2, g3⟩ | ⟨r', g1, g2, g3⟩
    · refine ⟨e, p, H, .step ?_, g2⟩
      show Reach src (huffStep src last r T D H) _
      rw [g1]; exact .refl _
    · rw [ha, h1] at g2; simp at g2
    · rw [ha, h1] at g2; simp at g2
  | fin _ => intro r _ _ e; simp at e
  | @go a H a1 H1 R h1 _ ih =>
    intro r ha hr e
    rcases huffStep_spec (last := last) (H := H) hC hr with ⟨er, p, g1, g2⟩ | ⟨r', H', g1, g2, g3⟩ | ⟨r', g1, g2, g3⟩
    · refine ⟨er, p, H, .step ?_, g2⟩
      show Reach src (huffStep src last r T D H) _
      rw [g1]; exact .refl _
    · rw [ha, h1] at g2
      simp only [SpR.go.injEq] at g2
      obtain ⟨e2, p2, Hx, k1, k2⟩ := ih g2.1.symm g3 e
      refine ⟨e2, p2, Hx, .step ?_, k2⟩
      show Reach src (huffStep src last r T D H) _
      rw [g1, ← g2.2]; exact k1
    · rw [ha, h1] at g2; simp at g2

end Flate
