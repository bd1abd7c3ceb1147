/-
  Several texts in one: Xu Srp Rfp Rfq Rfb Rfo Rfm Rfy Rfs Rfk Rfx Rfd Rfi.
-/
import Derived.Test.YthfncdfcklbigaaGreatDoorWa
import Derived.Test.YthfncdfcklbigaaGreatDoorZc
import Derived.Test.YthfncdfcklbigaaGreatDoorWb
import Derived.Test.YthfncdfcklbigaaGreatDoorZa
import Derived.Test.YthfncdfcklbigaaGreatDoorPd
import Derived.IntWalk
import Derived.Maps.OwnSet
import Derived.WideKeyArr
import Derived.Carry
import Derived.Test.YthfncdfcklbigaaGreatDoorPb
import Derived.Deep.DeepCutAuto
import Derived.Deep.RegionWith
import Derived.Deep.CutBlock
set_option linter.unusedVariables false
set_option linter.unusedSimpArgs false
namespace Flate
theorem pair_spec {src : List UInt8} {D : Option Tab} {dl : List Nat} (hD : DistLaw src D dl) {v : Nat} {r : Br} (hr : r.ok src) :
 (∃ e r', pair src D v r = .bad e r' ∧ e ≠ .eof) ∨ ∃ n f r', pair src D v r = .ok (n, f) r' ∧ spPair src dl v r.at_ = some (n, f, r'.at_) ∧ r'.ok src := by
 unfold pair spPair
 cases hl : lenOf v with
 | none => exact .inl ⟨_, _, rfl, by simp⟩
 | some lp =>
  obtain ⟨lb, lx⟩ := lp; simp only
  cases h1 : getBits src lx r with
  | bad e q => exact .inl ⟨_, _, rfl, by rw [getBits_bad h1]; simp⟩
  | ok x r2 =>
   obtain ⟨a1, a2, a3, a4⟩ := getBits_ok hr h1; simp only; rw [if_neg (by omega)]
   cases h2 : distSym src D r2 with
   | bad e q => exact .inl ⟨_, _, rfl, hD.bad h2⟩
   | ok d r3 =>
    obtain ⟨b1, b2, b3⟩ := hD.at_ a4 h2; simp only; rw [← a3, (symS_iff hD.kraft).2 b1]; simp only
    cases h3 : distOf d with
    | none => exact .inl ⟨_, _, rfl, by simp⟩
    | some dp =>
     obtain ⟨db, dx⟩ := dp; simp only
     cases h4 : getBits src dx r3 with
     | bad e q => exact .inl ⟨_, _, rfl, by rw [getBits_bad h4]; simp⟩
     | ok y r4 =>
      obtain ⟨c1, c2, c3, c4⟩ := getBits_ok b3 h4; rw [b2] at c1 c2 c3; rw [if_neg (by omega)]
      exact .inr ⟨_, _, r4, rfl, by rw [c3, ← c2, a2], c4⟩
theorem huffStep_spec {src : List UInt8} {last : Bool} {r : Br} {T : Tab} {D : Option Tab} {ll dl : List Nat} {H : List UInt8} (hC : CodesLaw src T D ll dl) (hr : r.ok src) :
 (∃ e p, huffStep src last r T D H = (.done e p, H) ∧ e ≠ .eof) ∨ (∃ r' H', huffStep src last r T D H = (.huff last r' T D, H') ∧ spStep src ll dl r.at_ H = .go r'.at_ H' ∧ r'.ok src) ∨
 ∃ r', huffStep src last r T D H = (more last r', H) ∧ spStep src ll dl r.at_ H = .fin r'.at_ ∧ r'.ok src := by
 unfold huffStep spStep
 cases h1 : symbol src T r with
 | bad e q => exact .inl ⟨_, _, rfl, sym_bad' 20 h1⟩
 | ok v r1 =>
  obtain ⟨a1, a2⟩ := symbol_at hC.tab hr h1; have a3 := sym_ok 20 hr h1; rw [(symS_iff hC.tab.kraft).2 a1]; simp only
  by_cases hv : v < 256
  · rw [if_pos hv, if_pos hv]; exact .inr (.inl ⟨_, _, rfl, by rw [a2], a3⟩)
  · rw [if_neg hv, if_neg hv]
    by_cases hv2 : v = 256
    · rw [if_pos hv2, if_pos hv2]; exact .inr (.inr ⟨_, rfl, by rw [a2], a3⟩)
    · rw [if_neg hv2, if_neg hv2]; rcases pair_spec hC.dist (v := v) a3 with ⟨e, r', g1, g2⟩ | ⟨n, f, r', g1, g2, g3⟩
      · rw [g1]; exact .inl ⟨_, _, rfl, g2⟩
      · rw [g1, ← a2, g2]; simp only
        by_cases hf : H.length < f
        · rw [if_pos hf]; exact .inl ⟨_, _, rfl, by simp⟩
        · rw [if_neg hf, if_neg hf]; exact .inr (.inl ⟨_, _, rfl, rfl, g3⟩)
theorem huff_bad {src : List UInt8} {last : Bool} {T : Tab} {D : Option Tab} {ll dl : List Nat} {a : Nat} {H : List UInt8} {R : Option (Nat × List UInt8)} (hC : CodesLaw src T D ll dl) (h : SpRun src ll dl a H R) :
 ∀ {r : Br}, r.at_ = a → r.ok src → R = none → ∃ e p Hx, Reach src (.huff last r T D, H) (.done e p, Hx) ∧ e ≠ .eof := by
 induction h with
 | @fail a H h1 =>
  intro r ha hr _; rcases huffStep_spec (last := last) (H := H) hC hr with ⟨e, p, g1, g2⟩ | ⟨r', H', g1, g2, g3⟩ | ⟨r', g1, g2, g3⟩
  · refine ⟨e, p, H, .step ?_, g2⟩
    show Reach src (huffStep src last r T D H) _
    rw [g1]; exact .refl _
  · rw [ha, h1] at g2; simp at g2
  · rw [ha, h1] at g2; simp at g2
 | fin _ => intro r _ _ e; simp at e
 | @go a H a1 H1 R h1 _ ih =>
  intro r ha hr e; rcases huffStep_spec (last := last) (H := H) hC hr with ⟨er, p, g1, g2⟩ | ⟨r', H', g1, g2, g3⟩ | ⟨r', g1, g2, g3⟩
  · refine ⟨er, p, H, .step ?_, g2⟩
    show Reach src (huffStep src last r T D H) _
    rw [g1]; exact .refl _
  · rw [ha, h1] at g2; simp only [SpR.go.injEq] at g2; obtain ⟨e2, p2, Hx, k1, k2⟩ := ih g2.1.symm g3 e; refine ⟨e2, p2, Hx, .step ?_, k2⟩
    show Reach src (huffStep src last r T D H) _
    rw [g1, ← g2.2]; exact k1
  · rw [ha, h1] at g2; simp at g2
end Flate
namespace Go.Proofs.YthfncdfcklbigaaGreatDoor
open Go.RowKit Go.IntWalk Flate
set_option maxRecDepth 100000
theorem unpack_any (w : World) (C : Nat) (p : Ps) (he : Env w C p) (base : Option Addr) (src : List UInt8) (cap : Nat) (hs : Bt w base src cap) (hsl : src.length ≤ 17179869184) (dbase : Option Addr) (dict : List UInt8) (dcap : Nat) (hd : Bt w dbase dict dcap) (hdl : dict.length ≤ 4294967296) (has : Bool)
 (sb : Option Addr) (sn sc : Nat) (hsz : Sizes w w.heap.size (fun _ => False) (.slice sb sn sc)) :
 Calls Tryz.prog 14 #[.slice base src.length cap, .slice dbase dict.length dcap, .bool has, .slice sb sn sc] w (UnzPost w src (if has then dict else [])) :=
 unpack_long w C p he base src cap hs (by omega) dbase dict dcap hd hdl has (fun q D er P X _ h => by have := h.le.2; rw [List.length_drop] at this; omega) sb sn sc hsz
end Go.Proofs.YthfncdfcklbigaaGreatDoor
namespace Flate
theorem bv_bit (src : List UInt8) (a : Nat) (h : a / 8 < src.length) : bv src a 1 = (src[a / 8]).toNat / 2 ^ (a % 8) % 2 := by
 have h1 := bv_byte src (a / 8) h
 have h2 := bv_div src (8 * (a / 8)) (a % 8) (8 - a % 8)
 rw [show a % 8 + (8 - a % 8) = 8 by omega, h1, show 8 * (a / 8) + a % 8 = a by omega] at h2
 have h3 := bv_mod src a 1 (8 - a % 8 - 1)
 rw [show 1 + (8 - a % 8 - 1) = 8 - a % 8 by omega, ← h2, Nat.pow_one] at h3
 exact h3.symm
structure BitsR (src : List UInt8) (many a : Nat) (f : Bool) (x a' : Nat) (f' : Bool) : Prop where
 lt : x < 2 ^ many
 ge : a ≤ a'
 le : a' ≤ 8 * src.length
 good : f = false → a + many ≤ 8 * src.length → f' = false ∧ x = bv src a many ∧ a' = a + many
 bad : f = true ∨ 8 * src.length < a + many → f' = true
theorem BitsR.none {src : List UInt8} {a : Nat} {f : Bool} (h : a ≤ 8 * src.length) : BitsR src 0 a f 0 a f :=
 ⟨by simp, Nat.le_refl _, h, fun h0 _ => ⟨h0, (bv_zero src a).symm, rfl⟩, fun h0 => by
  rcases h0 with h0 | h0
  · exact h0
  · omega⟩
theorem BitsR.one_bad {src : List UInt8} {a : Nat} {f : Bool} (ha : a ≤ 8 * src.length) (h : f = true ∨ 8 * src.length ≤ a) : BitsR src 1 a f 0 a true :=
 ⟨by simp, Nat.le_refl _, ha, fun h0 h1 => by
  rcases h with h | h
  · rw [h0] at h; simp at h
  · omega, fun _ => rfl⟩
theorem BitsR.one_good {src : List UInt8} {a : Nat} (ha : a < 8 * src.length) : BitsR src 1 a false (bv src a 1) (a + 1) false :=
 ⟨bv_lt src a 1, by omega, by omega, fun _ _ => ⟨rfl, rfl, rfl⟩, fun h => by
  rcases h with h | h
  · simp at h
  · omega⟩
theorem BitsR.step {src : List UInt8} {k x y a a1 a2 : Nat} {f f1 f2 : Bool} (h : BitsR src k a f x a1 f1) (g : BitsR src 1 a1 f1 y a2 f2) : BitsR src (k + 1) a f (x + 2 ^ k * y) a2 f2 := by
 have hx := h.lt
 have hy := g.lt
 have hge := h.ge
 have gge := g.ge
 refine ⟨?_, by omega, g.le, fun h0 h1 => ?_, fun h0 => ?_⟩
 · rw [Nat.pow_succ]; have hy2 : y = 0 ∨ y = 1 := by omega
   rcases hy2 with e | e <;> subst e <;> omega
 · obtain ⟨p1, p2, p3⟩ := h.good h0 (by omega)
   obtain ⟨q1, q2, q3⟩ := g.good p1 (by omega)
   exact ⟨q1, by rw [p2, q2, p3, bv_add], by omega⟩
 · refine g.bad ?_; rcases h0 with h0 | h0
   · exact .inl (h.bad (.inl h0))
   · by_cases hf : f = true
     · exact .inl (h.bad (.inl hf))
     · by_cases hk : 8 * src.length < a + k
       · exact .inl (h.bad (.inr hk))
       · obtain ⟨_, _, p3⟩ := h.good (by simpa using hf) (by omega)
         exact .inr (by omega)
theorem BitsR.stays {src : List UInt8} {k x a a1 : Nat} {f1 : Bool} (h : BitsR src k a true x a1 f1) : f1 = true := h.bad (.inl rfl)
theorem BitsR.cases {src : List UInt8} {k x a a1 : Nat} {f1 : Bool} (h : BitsR src k a false x a1 f1) : f1 = false ∧ a + k ≤ 8 * src.length ∧ x = bv src a k ∧ a1 = a + k ∨ f1 = true ∧ 8 * src.length < a + k := by
 by_cases hk : 8 * src.length < a + k
 · exact .inr ⟨h.bad (.inr hk), hk⟩
 · obtain ⟨p1, p2, p3⟩ := h.good rfl (by omega)
   exact .inl ⟨p1, by omega, p2, p3⟩
theorem rev_next (src : List UInt8) (a k : Nat) : revB (k + 1) (bv src a (k + 1)) = 2 * revB k (bv src a k) + bv src (a + k) 1 := by
 have h1 := bv_lt src (a + k) 1
 rw [revB_add, ← revB_mod k (bv src a (k + 1)), bv_mod, bv_div]
 simp only [revB, Nat.pow_zero, Nat.mul_one, Nat.add_zero, Nat.pow_one]
 omega
def cdF (lens : List Nat) : Nat → Nat → Nat → Option Nat
 | 0, _, _ => none
 | j + 1, l, k => if lens.getD j 0 ≠ 0 ∧ lens.getD j 0 = l ∧ codeOf lens j = k then some j else cdF lens j l k
theorem cdF_some {lens : List Nat} {j l k s : Nat} (h : cdF lens j l k = some s) : s < j ∧ lens.getD s 0 ≠ 0 ∧ lens.getD s 0 = l ∧ codeOf lens s = k := by
 induction j with
 | zero => simp [cdF] at h
 | succ j ih =>
  rw [cdF] at h; split at h
  · rename_i q; obtain rfl := Option.some.inj h; exact ⟨by omega, q⟩
  · have := ih h; exact ⟨by omega, this.2⟩
theorem cdF_none {lens : List Nat} {j l k s : Nat} (h : cdF lens j l k = none) (hs : s < j) (h0 : lens.getD s 0 ≠ 0) (hl : lens.getD s 0 = l) : codeOf lens s ≠ k := by
 induction j with
 | zero => omega
 | succ j ih =>
  rw [cdF] at h; split at h
  · simp at h
  · rename_i q
    by_cases e : s = j
    · subst e; exact fun hc => q ⟨h0, hl, hc⟩
    · exact ih h (by omega)
structure SyR (lens : List Nat) (src : List UInt8) (a : Nat) (f : Bool) (k n a' : Nat) (f' : Bool) : Prop where
 lt : n < 2 ^ k
 ge : a ≤ a'
 le : a' ≤ 8 * src.length
 good : f' = false → f = false ∧ a' = a + k ∧ n = revB k (bv src a k) ∧ ∀ s, lens.getD s 0 ≤ k → ¬ SymAt lens src a s
 bad : f' = true → f = true ∨ ∀ s, ¬ SymAt lens src a s
theorem SyR.start {lens : List Nat} {src : List UInt8} {a : Nat} (f : Bool) (h : a ≤ 8 * src.length) : SyR lens src a f 0 0 a f :=
 ⟨by simp, Nat.le_refl _, h, fun h0 => ⟨h0, rfl, rfl, fun s hs q => q.1.1 (by omega)⟩, fun h0 => .inl h0⟩
structure SyB (lens : List Nat) (src : List UInt8) (a : Nat) (f : Bool) (k n a' : Nat) (f' : Bool) : Prop where
 lt : n < 2 ^ (k + 1)
 ge : a ≤ a'
 le : a' ≤ 8 * src.length
 good : f' = false → f = false ∧ a' = a + (k + 1) ∧ n = revB (k + 1) (bv src a (k + 1)) ∧ ∀ s, lens.getD s 0 ≤ k → ¬ SymAt lens src a s
 bad : f' = true → f = true ∨ ∀ s, ¬ SymAt lens src a s
theorem SyR.bit {lens : List Nat} {src : List UInt8} {a k n a' a2 y : Nat} {f f' f2 : Bool} (h : SyR lens src a f k n a' f') (g : BitsR src 1 a' f' y a2 f2) : SyB lens src a f k (2 * n + y) a2 f2 := by
 have hn := h.lt
 have hy := g.lt
 have hge := h.ge
 have gge := g.ge
 refine ⟨by rw [Nat.pow_succ]; omega, by omega, g.le, fun h2 => ?_, fun h2 => ?_⟩
 · subst h2; have hf' : f' = false := by
    cases f' with
    | false => rfl
    | true => exact (g.stays).symm ▸ rfl
   subst hf'; rcases g.cases with ⟨_, q2, q3, q4⟩ | ⟨q, _⟩
   · obtain ⟨p1, p2, p3, p4⟩ := h.good rfl; exact ⟨p1, by omega, by rw [rev_next, ← p3, q3, p2], p4⟩
   · simp at q
 · subst h2
   cases f' with
   | true => exact h.bad rfl
   | false =>
    rcases g.cases with ⟨q, _⟩ | ⟨_, q⟩
    · simp at q
    · obtain ⟨p1, p2, p3, p4⟩ := h.good rfl; refine .inr fun s hs => ?_
      have h2 := hs.2; exact p4 s (by omega) hs
theorem SyB.found {lens : List Nat} {src : List UInt8} {a k n a' s : Nat} {f : Bool} (h : SyB lens src a f k n a' false) (hk : k < 15) (hs : cdF lens lens.length (k + 1) n = some s) : f = false ∧ SymAt lens src a s ∧ a' = a + lens.getD s 0 := by
 obtain ⟨p1, p2, p3, p4⟩ := h.good rfl
 obtain ⟨q1, q2, q3, q4⟩ := cdF_some hs
 have hle := h.le
 refine ⟨p1, ⟨⟨q2, q1, ?_⟩, by omega⟩, by omega⟩
 rw [q3, q4, p3, revB_revB]
 have := bv_mod src a (k + 1) (15 - (k + 1))
 rw [show k + 1 + (15 - (k + 1)) = 15 by omega] at this
 rw [this, Nat.mod_eq_of_lt (bv_lt _ _ _)]
theorem SyB.next {lens : List Nat} {src : List UInt8} {a k n a' : Nat} {f f' : Bool} (hL : Kraft lens) (h : SyB lens src a f k n a' f') (hk : k < 15) (hs : f' = false → cdF lens lens.length (k + 1) n = none) : SyR lens src a f (k + 1) n a' f' := by
 refine ⟨h.lt, h.ge, h.le, fun h0 => ?_, h.bad⟩
 obtain ⟨p1, p2, p3, p4⟩ := h.good h0
 refine ⟨p1, p2, p3, fun s hl hs' => ?_⟩
 by_cases e : lens.getD s 0 ≤ k
 · exact p4 s e hs'
 · have e1 : lens.getD s 0 = k + 1 := by omega
   obtain ⟨⟨q1, q2, q3⟩, _⟩ := hs'; have hc := hL.code_lt q2 q1; refine cdF_none (hs h0) q2 q1 e1 ?_; have hm := bv_mod src a (k + 1) (15 - (k + 1)); rw [show k + 1 + (15 - (k + 1)) = 15 by omega] at hm
   rw [e1, hm] at q3; rw [e1] at hc; rw [p3, q3, revB_revB, Nat.mod_eq_of_lt hc]
def SymR (lens : List Nat) (src : List UInt8) (a : Nat) (f : Bool) (s a' : Nat) (f' : Bool) : Prop :=
 a ≤ a' ∧ a' ≤ 8 * src.length ∧ (f' = true ∧ s = 0 ∧ (f = true ∨ symS lens src a = none) ∨ f' = false ∧ f = false ∧ symS lens src a = some s ∧ s < lens.length ∧ lens.getD s 0 ≠ 0 ∧ a' = a + lens.getD s 0)
theorem SyB.symR {lens : List Nat} {src : List UInt8} {a k n a' s : Nat} {f : Bool} (hL : Kraft lens) (h : SyB lens src a f k n a' false) (hk : k < 15) (hs : cdF lens lens.length (k + 1) n = some s) : SymR lens src a f s a' false := by
 obtain ⟨h1, h2, h3⟩ := h.found hk hs
 exact ⟨h.ge, h.le, .inr ⟨rfl, h1, (symS_iff hL).2 h2, h2.1.2.1, h2.1.1, h3⟩⟩
theorem SyR.symR {lens : List Nat} {src : List UInt8} {a n a' : Nat} {f f' : Bool} (hL : Kraft lens) (h : SyR lens src a f 15 n a' f') : SymR lens src a f 0 a' true := by
 refine ⟨h.ge, h.le, .inl ⟨rfl, rfl, ?_⟩⟩
 cases f' with
 | true => exact (h.bad rfl).imp id fun q => symS_none.2 q
 | false => exact .inr (symS_none.2 fun s hs => (h.good rfl).2.2.2 s (hL.getD hs.1.2.1).2 hs)
theorem SymR.stays {lens : List Nat} {src : List UInt8} {a s a' : Nat} {f' : Bool} (h : SymR lens src a true s a' f') : f' = true := by
 rcases h.2.2 with ⟨q, _⟩ | ⟨_, q, _⟩
 · exact q
 · simp at q
theorem full_kraft {lens : List Nat} (h15 : ∀ n ∈ lens, n ≤ 15) (hlen : lens.length ≤ 320) (h : Full lens) : Kraft lens := by
 obtain ⟨T, hT⟩ := initTab_full h15 hlen h
 exact (initTab_code h15 hT).1.kraft
inductive SpBlk (src : List UInt8) : Nat → List UInt8 → Option (Bool × Nat × List UInt8) → Prop
 | cut {a H} : 8 * src.length < a + 3 → SpBlk src a H none
 | stCut {a H} : a + 3 ≤ 8 * src.length → bv src (a + 1) 2 = 0 → src.length < (a + 3 + 7) / 8 + 4 → SpBlk src a H none
 | stBad {a H} : a + 3 ≤ 8 * src.length → bv src (a + 1) 2 = 0 → (a + 3 + 7) / 8 + 4 ≤ src.length → bv src (8 * ((a + 3 + 7) / 8)) 16 + bv src (8 * ((a + 3 + 7) / 8) + 16) 16 ≠ 65535 → SpBlk src a H none
 | stShort {a H} : a + 3 ≤ 8 * src.length → bv src (a + 1) 2 = 0 → (a + 3 + 7) / 8 + 4 ≤ src.length → bv src (8 * ((a + 3 + 7) / 8)) 16 + bv src (8 * ((a + 3 + 7) / 8) + 16) 16 = 65535 → src.length < (a + 3 + 7) / 8 + 4 + bv src (8 * ((a + 3 + 7) / 8)) 16 → SpBlk src a H none
 | stored {a H} : a + 3 ≤ 8 * src.length → bv src (a + 1) 2 = 0 → bv src (8 * ((a + 3 + 7) / 8)) 16 + bv src (8 * ((a + 3 + 7) / 8) + 16) 16 = 65535 → (a + 3 + 7) / 8 + 4 + bv src (8 * ((a + 3 + 7) / 8)) 16 ≤ src.length →
  SpBlk src a H (some (bv src a 1 == 1, 8 * ((a + 3 + 7) / 8 + 4 + bv src (8 * ((a + 3 + 7) / 8)) 16), H ++ (src.drop ((a + 3 + 7) / 8 + 4)).take (bv src (8 * ((a + 3 + 7) / 8)) 16)))
 | fixed {a H R} : a + 3 ≤ 8 * src.length → bv src (a + 1) 2 = 1 → SpRun src fixedLens fixedDist (a + 3) H R → SpBlk src a H (R.map fun q => (bv src a 1 == 1, q))
 | dynBad {a H} : a + 3 ≤ 8 * src.length → bv src (a + 1) 2 = 2 → spDyn src (a + 3) = none → SpBlk src a H none
 | dyn {a H ll dl a' R} : a + 3 ≤ 8 * src.length → bv src (a + 1) 2 = 2 → spDyn src (a + 3) = some ((ll, dl), a') → SpRun src ll dl a' H R → SpBlk src a H (R.map fun q => (bv src a 1 == 1, q))
 | kind {a H} : a + 3 ≤ 8 * src.length → bv src (a + 1) 2 = 3 → SpBlk src a H none
inductive SpIn (src : List UInt8) : Nat → List UInt8 → Option (Nat × List UInt8) → Prop
 | fail {a H} : SpBlk src a H none → SpIn src a H none
 | last {a H a' H'} : SpBlk src a H (some (true, a', H')) → SpIn src a H (some (a', H'))
 | go {a H a' H' R} : SpBlk src a H (some (false, a', H')) → SpIn src a' H' R → SpIn src a H R
def BlkLike (src : List UInt8) (r : Br) (H : List UInt8) : Option (Bool × Nat × List UInt8) → Prop
 | some (last, a', H') => ∃ r', Reach src (.next r, H) (more last r', H') ∧ r'.at_ = a' ∧ r'.ok src ∧ r'.nb ≤ 7
 | none => ∃ e p Hx, Reach src (.next r, H) (.done e p, Hx) ∧ e ≠ .eof
theorem head_three {src : List UInt8} {r : Br} (hr : r.ok src) (hnb : r.nb ≤ 7) (h : r.at_ + 3 ≤ 8 * src.length) : ∃ r1, fill src.length 3 r = (true, r1) ∧ r1.at_ = r.at_ ∧ r1.pos = (r.at_ + 3 + 7) / 8 ∧ 3 ≤ r1.nb ∧ r1.ok src := by
 have o1 := hr.1
 have o2 := hr.2
 have hfl : ∃ r1, fill src.length 3 r = (true, r1) := by
  unfold fill; split
  · exact ⟨_, rfl⟩
  · rw [if_pos (by omega)]; exact ⟨_, rfl⟩
 obtain ⟨r1, hf⟩ := hfl
 obtain ⟨a1, a2, a3, a4, a5⟩ := fill_ok hr hf
 refine ⟨r1, hf, a2, ?_, a4 rfl, a1⟩
 unfold fill at hf
 unfold Br.nb at hnb
 split at hf
 · rename_i hn; obtain ⟨_, rfl⟩ := Prod.mk.injEq .. ▸ hf; unfold Br.nb at hn; omega
 · split at hf
   · obtain ⟨_, rfl⟩ := Prod.mk.injEq .. ▸ hf; rfl
   · simp at hf
theorem fill_not {src : List UInt8} {n : Nat} {r : Br} (hr : r.ok src) (h : 8 * src.length < r.at_ + n) : ∃ q, fill src.length n r = (false, q) := by
 have o1 := hr.1
 have o2 := hr.2
 unfold fill Br.nb
 rw [if_neg (by omega), if_neg (by omega)]
 exact ⟨_, rfl⟩
theorem huff_like {src : List UInt8} {r r3 : Br} {H : List UInt8} {last : Bool} {T : Tab} {D : Option Tab} {ll dl : List Nat} {R : Option (Nat × List UInt8)} (hs : sstep src (.next r, H) = (.huff last r3 T D, H)) (hC : CodesLaw src T D ll dl) (hr : r3.ok src) (hnb : few T r3) (h : SpRun src ll dl r3.at_ H R) :
 BlkLike src r H (R.map fun q => (last, q)) := by
 cases R with
 | none =>
  obtain ⟨e, p, Hx, h1, h2⟩ := huff_bad (last := last) hC h rfl hr rfl; exact ⟨e, p, Hx, .step (by rw [hs]; exact h1), h2⟩
 | some q =>
  obtain ⟨a', H'⟩ := q; obtain ⟨r', h1, h2, h3, h4⟩ := huff_good (last := last) hC h rfl hr hnb rfl; exact ⟨r', .step (by rw [hs]; exact h1), h2, h3, h4⟩
theorem blk_like {src : List UInt8} {a : Nat} {H : List UInt8} {R : Option (Bool × Nat × List UInt8)} (h : SpBlk src a H R) {r : Br} (ha : r.at_ = a) (hr : r.ok src) (hnb : r.nb ≤ 7) : BlkLike src r H R := by
 subst ha
 have bad : ∀ {e p}, sstep src (.next r, H) = (.done e p, H) → e ≠ .eof → BlkLike src r H none := fun hs he => ⟨_, _, _, .step (by rw [hs]; exact .refl _), he⟩
 have key : ∀ {r1 : Br}, fill src.length 3 r = (true, r1) → r1.at_ = r.at_ → sstep src (.next r, H) =
  if bv src (r.at_ + 1) 2 = 0 then storedStep src (bv src r.at_ 1 == 1) r1.pos H
  else if bv src (r.at_ + 1) 2 = 1 then (.huff (bv src r.at_ 1 == 1) { r1 with at_ := r1.at_ + 3 } fixedTab none, H)
  else if bv src (r.at_ + 1) 2 = 2 then
   match readHuff src { r1 with at_ := r1.at_ + 3 } with
   | .bad e r' => (.done e r'.pos, H)
   | .ok (T, D) r3 => (.huff (bv src r.at_ 1 == 1) r3 T (some D), H)
  else (.done .corrupt r1.pos, H) := by
  intro r1 hf hat
  show nextStep src r H = _
  unfold nextStep; rw [hf]; simp only; rw [hat]; rfl
 cases h with
 | cut hc =>
  obtain ⟨q, hq⟩ := fill_not hr hc; refine bad (e := .cut) (p := q.pos) ?_ (by simp)
  show nextStep src r H = _
  unfold nextStep; rw [hq]
 | stCut h3 h0 hl =>
  obtain ⟨r1, f1, f2, f3, f4, f5⟩ := head_three hr hnb h3; refine bad (e := .cut) (p := src.length) ?_ (by simp)
  rw [key f1 f2, if_pos h0, f3]; unfold storedStep; rw [if_pos hl]
 | stBad h3 h0 hl hs =>
  obtain ⟨r1, f1, f2, f3, f4, f5⟩ := head_three hr hnb h3; refine bad (e := .corrupt) (p := (r.at_ + 3 + 7) / 8 + 4) ?_ (by simp)
  rw [key f1 f2, if_pos h0, f3]; unfold storedStep; rw [if_neg (by omega), if_pos hs]
 | stShort h3 h0 hl hs hn =>
  obtain ⟨r1, f1, f2, f3, f4, f5⟩ := head_three hr hnb h3; refine ⟨.cut, src.length, H ++ src.drop ((r.at_ + 3 + 7) / 8 + 4), .step ?_, by simp⟩
  rw [key f1 f2, if_pos h0, f3]; unfold storedStep; rw [if_neg (by omega), if_neg (by omega)]
  unfold stRest; rw [if_neg (by omega)]
  exact .refl _
 | stored h3 h0 hs hn =>
  obtain ⟨r1, f1, f2, f3, f4, f5⟩ := head_three hr hnb h3; refine ⟨⟨8 * ((r.at_ + 3 + 7) / 8 + 4 + bv src (8 * ((r.at_ + 3 + 7) / 8)) 16), (r.at_ + 3 + 7) / 8 + 4 + bv src (8 * ((r.at_ + 3 + 7) / 8)) 16⟩, .step ?_, rfl, ⟨Nat.le_refl _, hn⟩, by unfold Br.nb; simp only; omega⟩
  rw [key f1 f2, if_pos h0, f3]; unfold storedStep; rw [if_neg (by omega), if_neg (by omega)]
  unfold stRest; rw [if_pos hn]; exact .refl _
 | fixed h3 h1 hR =>
  obtain ⟨r1, f1, f2, f3, f4, f5⟩ := head_three hr hnb h3; obtain ⟨b1, b2⟩ := skip_ok f5 f4; refine huff_like (r3 := { r1 with at_ := r1.at_ + 3 }) ?_ (codesLaw_fixed src) b1 (.inl (by rw [b2]; unfold Br.nb; omega)) (by simp only; rw [f2]; exact hR)
  rw [key f1 f2, if_neg (by omega), if_pos h1]
 | dynBad h3 h2 hd =>
  obtain ⟨r1, f1, f2, f3, f4, f5⟩ := head_three hr hnb h3; obtain ⟨b1, b2⟩ := skip_ok f5 f4; have hal := readHuff_alike b1 (by rw [b2]; unfold Br.nb; omega)
  rw [show ({ r1 with at_ := r1.at_ + 3 } : Br).at_ = r.at_ + 3 by simp only; rw [f2], hd] at hal
  cases hq : readHuff src { r1 with at_ := r1.at_ + 3 } with
  | ok p r3 => rw [hq] at hal; exact hal.elim
  | bad e r3 =>
   rw [hq] at hal; refine bad (e := e) (p := r3.pos) ?_ hal; rw [key f1 f2, if_neg (by omega), if_neg (by omega), if_pos h2, hq]
 | @dyn ll dl a' R h3 h2 hd hR =>
  obtain ⟨r1, f1, f2, f3, f4, f5⟩ := head_three hr hnb h3; obtain ⟨b1, b2⟩ := skip_ok f5 f4; have hal := readHuff_alike b1 (by rw [b2]; unfold Br.nb; omega)
  rw [show ({ r1 with at_ := r1.at_ + 3 } : Br).at_ = r.at_ + 3 by simp only; rw [f2], hd] at hal
  cases hq : readHuff src { r1 with at_ := r1.at_ + 3 } with
  | bad e r3 => rw [hq] at hal; exact hal.elim
  | ok p r3 =>
   obtain ⟨T, D⟩ := p; rw [hq] at hal; obtain ⟨hC, q1, q2, q3⟩ := hal; simp only at hC; refine huff_like (r3 := r3) (T := T) (D := some D) ?_ hC q2 (.inl q3) (by rw [q1]; exact hR)
   rw [key f1 f2, if_neg (by omega), if_neg (by omega), if_pos h2, hq]
 | kind h3 hk =>
  obtain ⟨r1, f1, f2, f3, f4, f5⟩ := head_three hr hnb h3; refine bad (e := .corrupt) (p := r1.pos) ?_ (by simp)
  rw [key f1 f2, if_neg (by omega), if_neg (by omega), if_neg (by omega)]
theorem spIn_like {src : List UInt8} {a : Nat} {H : List UInt8} {R : Option (Nat × List UInt8)} (h : SpIn src a H R) : ∀ {r : Br}, r.at_ = a → r.ok src → r.nb ≤ 7 →
 match R with
 | some (a', H') => Reach src (.next r, H) (.done .eof ((a' + 7) / 8), H')
 | none => ∃ e p Hx, Reach src (.next r, H) (.done e p, Hx) ∧ e ≠ .eof := by
 induction h with
 | fail hb => intro r ha hr hnb; exact blk_like hb ha hr hnb
 | last hb =>
  intro r ha hr hnb; obtain ⟨r', h1, h2, h3, h4⟩ := blk_like hb ha hr hnb; simp only; have e : more true r' = .done .eof r'.pos := rfl; rw [e] at h1; have o1 := h3.1; unfold Br.nb at h4; rw [show r'.pos = (r'.at_ + 7) / 8 by omega, h2] at h1
  exact h1
 | @go a H a' H' R hb _ ih =>
  intro r ha hr hnb; obtain ⟨r', h1, h2, h3, h4⟩ := blk_like hb ha hr hnb; have e : more false r' = .next r' := rfl; rw [e] at h1; have := ih h2 h3 h4
  cases R with
  | none =>
   obtain ⟨er, p, Hx, k1, k2⟩ := this; exact ⟨er, p, Hx, h1.trans k1, k2⟩
  | some q => exact h1.trans this
theorem spIn_some {src D : List UInt8} {a : Nat} {H : List UInt8} (h : SpIn src 0 (lastOf D) (some (a, H))) : ∃ X, H = lastOf D ++ X ∧ Infl src D .eof ((a + 7) / 8) X := by
 have k := spIn_like h (r := ⟨0, 0⟩) rfl ⟨Nat.le_refl _, Nat.zero_le _⟩ (by decide)
 simp only at k
 obtain ⟨_, X, hX⟩ := Reach.ok k (start_ok src (lastOf D))
 simp only at hX
 exact ⟨X, hX, by rw [hX] at k; exact k⟩
theorem spIn_none {src D : List UInt8} (h : SpIn src 0 (lastOf D) none) : ∃ e p X, Infl src D e p X ∧ e ≠ .eof := by
 obtain ⟨e, p, Hx, k, he⟩ := spIn_like h (r := ⟨0, 0⟩) rfl ⟨Nat.le_refl _, Nat.zero_le _⟩ (by decide)
 obtain ⟨_, X, hX⟩ := Reach.ok k (start_ok src (lastOf D))
 simp only at hX
 exact ⟨e, p, X, by rw [hX] at k; exact k, he⟩
theorem lenOf_goLen {s : Nat} (h1 : 257 ≤ s) (h2 : s ≤ 285) : lenOf s = some (goLen s) ∧ (goLen s).1 + 2 ^ (goLen s).2 ≤ 259 ∧ 3 ≤ (goLen s).1 ∧ (goLen s).2 ≤ 5 := by
 have : ∀ k : Fin 29, lenOf (k.1 + 257) = some (goLen (k.1 + 257)) ∧ (goLen (k.1 + 257)).1 + 2 ^ (goLen (k.1 + 257)).2 ≤ 259 ∧ 3 ≤ (goLen (k.1 + 257)).1 ∧ (goLen (k.1 + 257)).2 ≤ 5 := by decide +kernel
 have h := this ⟨s - 257, by omega⟩
 simp only [show s - 257 + 257 = s by omega] at h
 exact h
theorem lenOf_none {s : Nat} (h : 285 < s) : lenOf s = none := by
 unfold lenOf
 rw [if_neg (by omega), if_neg (by omega), if_neg (by omega), if_neg (by omega), if_neg (by omega), if_neg (by omega), if_neg (by omega)]
theorem distOf_goDist {d : Nat} (h : d ≤ 29) : distOf d = some (goDist d) ∧ (goDist d).1 + 2 ^ (goDist d).2 ≤ 32769 ∧ 1 ≤ (goDist d).1 ∧ (goDist d).2 ≤ 13 := by
 have : ∀ k : Fin 30, distOf k.1 = some (goDist k.1) ∧ (goDist k.1).1 + 2 ^ (goDist k.1).2 ≤ 32769 ∧ 1 ≤ (goDist k.1).1 ∧ (goDist k.1).2 ≤ 13 := by decide +kernel
 exact this ⟨d, by omega⟩
theorem distOf_none {d : Nat} (h : 29 < d) : distOf d = none := by
 unfold distOf
 rw [if_neg (by omega), if_neg (by omega)]
section
variable {src : List UInt8} {ll dl : List Nat} {a : Nat} {H : List UInt8}
theorem step_none (h : symS ll src a = none) : spStep src ll dl a H = .fail := by unfold spStep; rw [h]
theorem step_lit {s : Nat} (h : symS ll src a = some s) (hs : s < 256) : spStep src ll dl a H = .go (a + ll.getD s 0) (H ++ [UInt8.ofNat s]) := by
 unfold spStep; rw [h]; simp only; rw [if_pos hs]
theorem step_end (h : symS ll src a = some 256) : spStep src ll dl a H = .fin (a + ll.getD 256 0) := by
 unfold spStep; rw [h]; rfl
theorem step_pair {s : Nat} (h : symS ll src a = some s) (hs : 256 < s) : spStep src ll dl a H = match spPair src dl s (a + ll.getD s 0) with
 | none => .fail
 | some (n, f, a') => if H.length < f then .fail else .go a' (lz H f n) := by
 unfold spStep; rw [h]; simp only; rw [if_neg (by omega), if_neg (by omega)]; rfl
theorem step_big {s : Nat} (h : symS ll src a = some s) (hs : 285 < s) : spStep src ll dl a H = .fail := by
 rw [step_pair h (by omega)]
 unfold spPair
 rw [lenOf_none hs]
theorem pair_sym {v lb lx x a3 d a4 : Nat} {f3 f4 : Bool} (hl : lenOf v = some (lb, lx)) (h3 : BitsR src lx a false x a3 f3) (h4 : SymR dl src a3 f3 d a4 f4) :
 f4 = true ∧ d = 0 ∧ spPair src dl v a = none ∨
 f4 = false ∧ a3 = a + lx ∧ a4 = a + lx + dl.getD d 0 ∧ x = bv src a lx ∧ (∀ db dx, distOf d = some (db, dx) → spPair src dl v a = if 8 * src.length < a4 + dx then none else some (lb + x, db + bv src a4 dx, a4 + dx)) ∧ (distOf d = none → spPair src dl v a = none) := by
 unfold spPair
 rw [hl]
 simp only
 rcases h3.cases with ⟨e3, l3, rfl, rfl⟩ | ⟨e3, l3⟩
 · subst e3; rw [if_neg (by omega)]
   rcases h4.2.2 with ⟨e4, hd, hn⟩ | ⟨e4, _, hs, _, _, ha4⟩
   · refine .inl ⟨e4, hd, ?_⟩; rcases hn with hn | hn
     · simp at hn
     · rw [hn]
   · refine .inr ⟨e4, rfl, ha4, rfl, fun db dx hdx => ?_, fun hdn => ?_⟩
     · rw [hs]; simp only; rw [hdx, ha4]
     · rw [hs]; simp only; rw [hdn]
 · subst e3; rw [if_pos l3]; rcases h4.2.2 with ⟨e4, hd, _⟩ | ⟨_, e, _⟩
   · exact .inl ⟨e4, hd, rfl⟩
   · simp at e
theorem pair_all {v lb lx x a3 d a4 db dx y a5 : Nat} {f3 f4 f5 : Bool} (hl : lenOf v = some (lb, lx)) (h3 : BitsR src lx a false x a3 f3) (h4 : SymR dl src a3 f3 d a4 f4) (hd : distOf d = some (db, dx)) (h5 : BitsR src dx a4 f4 y a5 f5) :
 f5 = true ∧ spPair src dl v a = none ∨ f5 = false ∧ spPair src dl v a = some (lb + x, db + y, a5) := by
 rcases pair_sym hl h3 h4 with ⟨e4, _, hn⟩ | ⟨e4, _, _, _, hs, _⟩
 · subst e4; exact .inl ⟨h5.stays, hn⟩
 · subst e4; rw [hs db dx hd]; rcases h5.cases with ⟨e5, l5, rfl, rfl⟩ | ⟨e5, l5⟩
   · exact .inr ⟨e5, by rw [if_neg (by omega)]⟩
   · exact .inl ⟨e5, by rw [if_pos l5]⟩
end
end Flate
namespace Go.Proofs.YthfncdfcklbigaaGreatDoor
open Go.RowKit Go.IntWalk Flate
set_option maxRecDepth 100000
structure Rr (w : World) (B : Nat) (sb : Option Addr) (src : List UInt8) (sc a : Nat) (f : Bool) : Prop where
 c0 : w.cell? ⟨B, 0, none⟩ = some (.slice sb src.length sc)
 c1 : w.cell? ⟨B, 1, none⟩ = some (.int .i64 (a : Int))
 c2 : w.cell? ⟨B, 2, none⟩ = some (.bool f)
 fr : ∀ o, w.frozen? ⟨B, o, none⟩ = false
 row : Bytes w sb src
 ne : ∀ x, sb = some x → x.block ≠ B
 far : ∀ x, sb = some x → x.block < w.heap.size
 nilc : sb = none → sc = 0
 len : src.length ≤ 1099511627776
 cap : src.length ≤ sc
 at_ : a ≤ 8 * src.length
theorem Rr.keep {S : Nat → Nat → Prop} {w w' : World} {B : Nat} {sb : Option Addr} {src : List UInt8} {sc a : Nat} {f : Bool} (h : Rr w B sb src sc a f) (hf : Frm S w w') (hB : ∀ o, ¬ S B o) (hs : ∀ x, sb = some x → ∀ j, ¬ S x.block j) : Rr w' B sb src sc a f :=
 ⟨hf.keep h.c0 (hB _), hf.keep h.c1 (hB _), hf.keep h.c2 (hB _), fun o => (hf.froz B o (cell_lt h.c1)).trans (h.fr o), h.row.keep hf (fun x hx j _ => hs x hx _), h.ne, fun x hx => Nat.lt_of_lt_of_le (h.far x hx) hf.size, h.nilc, h.len, h.cap, h.at_⟩
theorem Rr.blt {w : World} {B : Nat} {sb : Option Addr} {src : List UInt8} {sc a : Nat} {f : Bool} (h : Rr w B sb src sc a f) : B < w.heap.size := cell_lt h.c1
theorem Rr.bt {w : World} {B : Nat} {sb : Option Addr} {src : List UInt8} {sc a : Nat} {f : Bool} (h : Rr w B sb src sc a f) : Bt w sb src sc := ⟨h.row, h.cap, h.far, h.nilc⟩
theorem Rr.set_at {w : World} {B : Nat} {sb : Option Addr} {src : List UInt8} {sc a : Nat} {f : Bool} (h : Rr w B sb src sc a f) (a' : Nat) (ha : a' ≤ 8 * src.length) :
 Rr (w.setCell ⟨B, 1, none⟩ (.int .i64 (a' : Int))) B sb src sc a' f ∧ Frm (fun b o => b = B ∧ o = 1) w (w.setCell ⟨B, 1, none⟩ (.int .i64 (a' : Int))) := by
 have hf : Frm (fun b o => b = B ∧ o = 1) w (w.setCell ⟨B, 1, none⟩ (.int .i64 (a' : Int))) := (Frm.refl _ _).setCell (.inl ⟨rfl, rfl⟩) _
 exact ⟨⟨(cell_set_off (by decide)).trans h.c0, set_get h.c1, (cell_set_off (by decide)).trans h.c2, fun o => by rw [World.frozen?_setCell]; exact h.fr o, h.row.keep hf (fun x hx j _ e => h.ne x hx e.1), h.ne, fun x hx => Nat.lt_of_lt_of_le (h.far x hx) hf.size, h.nilc, h.len, h.cap, ha⟩, hf⟩
theorem Rr.set_fail {w : World} {B : Nat} {sb : Option Addr} {src : List UInt8} {sc a : Nat} {f : Bool} (h : Rr w B sb src sc a f) (f' : Bool) :
 Rr (w.setCell ⟨B, 2, none⟩ (.bool f')) B sb src sc a f' ∧ Frm (fun b o => b = B ∧ o = 2) w (w.setCell ⟨B, 2, none⟩ (.bool f')) := by
 have hf : Frm (fun b o => b = B ∧ o = 2) w (w.setCell ⟨B, 2, none⟩ (.bool f')) := (Frm.refl _ _).setCell (.inl ⟨rfl, rfl⟩) _
 exact ⟨⟨(cell_set_off (by decide)).trans h.c0, (cell_set_off (by decide)).trans h.c1, set_get h.c2, fun o => by rw [World.frozen?_setCell]; exact h.fr o, h.row.keep hf (fun x hx j _ e => h.ne x hx e.1), h.ne, fun x hx => Nat.lt_of_lt_of_le (h.far x hx) hf.size, h.nilc, h.len, h.cap, h.at_⟩, hf⟩
theorem Rr.drewN {w : World} {B : Nat} {sb : Option Addr} {src : List UInt8} {sc a : Nat} {f : Bool} (h : Rr w B sb src sc a f) (n : Nat) : Rr (w.drewN n) B sb src sc a f := h.keep (S := fun _ _ => False) ((Frm.refl _ _).drewN n) (fun _ e => e) (fun _ _ _ e => e)
def RbPost (w : World) (B : Nat) (sb : Option Addr) (src : List UInt8) (sc many a : Nat) (f : Bool) (e : Ending) (w' : World) : Prop :=
 ∃ x a' f', e = .returned (.int .i64 ((x : Nat) : Int)) ∧ Rr w' B sb src sc a' f' ∧ BitsR src many a f x a' f' ∧ Frm (fun b _ => b = B) w w'
theorem rbit_any (w : World) (B : Nat) (sb : Option Addr) (src : List UInt8) (sc a : Nat) (f : Bool) (h : Rr w B sb src sc a f) :
 Calls Tryz.prog 33 #[.pointer (some ⟨B, 0, none⟩)] w (RbPost w B sb src sc 1 a f) := by
 have HH := zHi h
 have c0 := h.c0
 have c1 := h.c1
 have c2 := h.c2
 have f1 := h.fr 1
 have f2 := h.fr 2
 obtain ⟨n, hn⟩ : ∃ n, n = src.length := ⟨_, rfl⟩
 have hl := h.len
 have ha := h.at_
 rw [← hn] at c0 hl ha
 have b1 : (n : Int) ≤ 1099511627776 := by omega
 have b2 : (a : Int) ≤ 8796093022208 := by omega
 have HN := zHi (zAi hn (zAi hl ha))
 clear h hn hl ha
 have bad : ∀ k : Nat, (f = true ∨ 8 * src.length ≤ a) → RbPost w B sb src sc 1 a f (.returned (.int .i64 0)) ((w.drewN k).setCell ⟨B, 2, none⟩ (.bool true)) := fun k hb => by
  obtain ⟨g1, g2⟩ := (HH.out.drewN k).set_fail true; exact ⟨0, a, true, rfl, g1, BitsR.one_bad HH.out.at_ hb, ((Frm.refl _ _).drewN k).trans (g2.mono fun b o e => e.1)⟩
 have HBAD := zHi bad
 clear bad
 cases f with
 | true =>
  go_enter Tryz.func33, Tryz.ntmps33
  go_upto_region 1 with (fail)
  (go_quiet (fail))
  go_wp2_with fail
  go_ret
  exact HBAD.out _ (by simp)
 | false =>
  by_cases hlt : a < 8 * n
  · have t1 : decide (8 * (n : Int) ≤ (a : Int)) = false := by simp; omega
    obtain ⟨q, hq⟩ : ∃ q, q = a / 8 := ⟨_, rfl⟩; obtain ⟨r, hr⟩ : ∃ r, r = a % 8 := ⟨_, rfl⟩; have hqn : q < src.length := by have := HN.out; omega
    obtain ⟨ab, ao, rfl⟩ : ∃ ab ao, sb = some ⟨ab, ao, none⟩ := HH.out.row.at (by have := HN.out; omega)
    have hcell := HH.out.row.2 q hqn; have hne : ab ≠ B := HH.out.ne _ rfl; obtain ⟨x, hx⟩ : ∃ x, x = src[q]'hqn := ⟨_, rfl⟩; rw [← hx] at hcell; obtain ⟨c, hc⟩ : ∃ c, c = x.toNat := ⟨_, rfl⟩; have hxlt : x.toNat < 256 := x.toBitVec.isLt; simp only [byteV] at hcell; rw [← hc] at hcell hxlt; obtain ⟨P, hP⟩ : ∃ P : Nat, P = 2 ^ r := ⟨_, rfl⟩; obtain ⟨y, hy⟩ : ∃ y, y = c / P := ⟨_, rfl⟩; have hyl : y ≤ 255 := by rw [hy]; exact Nat.le_trans (Nat.div_le_self _ _) (by omega)
    have e1 : (a : Int) / 8 = (q : Int) := by omega
    have e2 : (a : Int) % 8 = (r : Int) := by omega
    have e3 : (2 : Int) ^ r = (P : Int) := by rw [hP]; simp
    have e4 : (c : Int) / (P : Int) = (y : Int) := by rw [hy]; simp
    have e5 : bits .and .i64 (y : Int) 1 = ((y % 2 : Nat) : Int) := by
     rw [show (1 : Int) = ((1 : Nat) : Int) from rfl, i64_and_nat y 1 (by omega) (by omega), Nat.and_one_is_mod]
    obtain ⟨z, hz⟩ : ∃ z, z = y % 2 := ⟨_, rfl⟩; rw [← hz] at e5; have e6 : IntKind.i64.wrap (q : Int) = (q : Int) := i64_in _ (by omega)
    have e7 : (a : Int).tmod 8 = (r : Int) := by rw [Int.tmod_eq_emod_of_nonneg (by omega)]; exact e2
    have e8 : (a : Int).tdiv 8 = (q : Int) := by rw [Int.tdiv_eq_ediv_of_nonneg (by omega)]; exact e1
    have b3 : (c : Int) ≤ 255 := by omega
    have b4 : (y : Int) ≤ 255 := by omega
    have b5 : (r : Int) ≤ 7 := by omega
    have b6 : (q : Int) < (n : Int) := by have := HN.out; omega
    have b7 : (z : Int) ≤ 1 := by omega
    have hbv : z = bv src a 1 := by
     have := bv_bit src a (by rw [← hq]; exact hqn)
     simp only [← hq] at this; rw [this, hz, hy, hc, hx, hP, hr]
    have HX := zHi (zAi hbv (zAi hlt hne)); clear hq hr hqn hx hc hxlt hP hy hyl hz hbv hlt hne
    go_enter Tryz.func33, Tryz.ntmps33
    go_upto_region 1 with (fail)
    (go_quiet (fail))
    go_upto_region 4 with (fail)
    (go_quiet (fail))
    go_wp2_with fail
    go_ret
    obtain ⟨hbv, hlt, hne⟩ := HX.out; have hle : a + 1 ≤ 8 * src.length := by have := HN.out; omega
    exact ⟨z, a + 1, false, rfl, ((HH.out.drewN _).set_at (a + 1) hle).1, by rw [hbv]; exact BitsR.one_good (by have := HN.out; omega), ((Frm.refl _ _).drewN _).trans (((HH.out.drewN _).set_at (a + 1) hle).2.mono (S' := fun b _ => b = B) fun b o e => e.1)⟩
  · have t1 : decide (8 * (n : Int) ≤ (a : Int)) = true := by simp; omega
    have HX := zHi hlt; clear hlt
    go_enter Tryz.func33, Tryz.ntmps33
    go_upto_region 1 with (fail)
    (go_quiet (fail))
    go_wp2_with fail
    go_ret
    exact HBAD.out _ (.inr (by have := HX.out; have := HN.out; omega))
def RbInv (w : World) (B : Nat) (sb : Option Addr) (src : List UInt8) (sc many a : Nat) (f : Bool) (g : Nat) (nv i : Value) (wr : World) : Prop :=
 ∃ (k x a' : Nat) (f' : Bool), k ≤ many ∧ g = many - k ∧ i = .int .i64 (k : Int) ∧ nv = .int .i64 (x : Int) ∧ Rr wr B sb src sc a' f' ∧ BitsR src k a f x a' f' ∧ Frm (fun b _ => b = B) w wr
theorem or_shift (x k y : Nat) (hx : x < 2 ^ k) (hk : k ≤ 30) (hy : y ≤ 1) : bits .or .i64 (x : Int) ((y * 2 ^ k : Nat) : Int) = ((x + 2 ^ k * y : Nat) : Int) := by
 have h2 : (2 : Nat) ^ k ≤ 2 ^ 30 := Nat.pow_le_pow_right (by omega) hk
 have hm : y * 2 ^ k ≤ 1 * 2 ^ k := Nat.mul_le_mul_right _ hy
 rw [i64_or_nat x (y * 2 ^ k) (by omega) (by omega)]
 congr 1
 rw [Nat.or_comm, Nat.mul_comm, ← Nat.two_pow_add_eq_or_of_lt hx, Nat.add_comm]
set_option maxHeartbeats 1000000 in
theorem rbits_any (w : World) (B : Nat) (sb : Option Addr) (src : List UInt8) (sc a : Nat) (f : Bool) (h : Rr w B sb src sc a f) (many : Nat) (hm : many ≤ 16) :
 Calls Tryz.prog 34 #[.pointer (some ⟨B, 0, none⟩), .int .i64 (many : Int)] w (RbPost w B sb src sc many a f) := by
 have HH := zHi h
 have c1 : (many : Int) ≤ 16 := by omega
 have HM := zHi hm
 clear h hm
 go_enter Tryz.func34, Tryz.ntmps34
 go_wp2_with fail
 go_loopg [5, 8] (many - 0) (fun g nv i wr => RbInv w B sb src sc many a f g nv i wr)
 case atStart => exact ⟨0, 0, a, f, Nat.zero_le _, rfl, rfl, rfl, HH.out, BitsR.none HH.out.at_, Frm.refl _ _⟩
 case round =>
  obtain ⟨k, x, a', f', hk, hg, rfl, rfl, hr, hb, hf⟩ := hrel
  by_cases hlt : k < many
  · have hbit := rbit_any wr B sb src sc a' f' hr; have HB := zHi hbit; obtain ⟨P, hP⟩ : ∃ P : Nat, P = 2 ^ k := ⟨_, rfl⟩; have hPl : P ≤ 2 ^ 16 := by rw [hP]; exact Nat.pow_le_pow_right (by omega) (by have := HM.out; omega)
    have e1 : (2 : Int) ^ k = (P : Int) := by rw [hP]; simp
    have hx := hb.lt; rw [← hP] at hx; have c2 : (P : Int) ≤ 65536 := by omega
    have c3 : (x : Int) ≤ 65536 := by omega
    have c4 : (k : Int) ≤ 16 := by have := HM.out; omega
    have HR := zHi (zAi hk (zAi hg (zAi hr (zAi hb (zAi hf (zAi hP (zAi hPl hlt))))))); clear hbit hk hg hr hb hf hP hPl hx; go_wp2_with fail
    refine HB.out.mono ?_; rintro e w2 ⟨y, a2, f2, rfl, hr2, hb2, hf2⟩; obtain ⟨hk, hg, hr, hb, hf, hP, hPl, hlt'⟩ := HR.out; have hy := hb2.lt; have hs := hb.step hb2; have e3 := or_shift x k y hb.lt (by have := HM.out; omega) (by omega)
    have hy01 : y = 0 ∨ y = 1 := by omega
    have HX := zHi (zAi hr2 (zAi hs (hf.trans hf2))); have HW := zHi hg; clear hr2 hb2 hf2 hk hg hr hb hf hPl hlt' hy hs; rcases hy01 with rfl | rfl
    · have ez : ((0 : Nat) : Int) = 0 := rfl; rw [Nat.zero_mul, Nat.mul_zero, Nat.add_zero, ez] at e3; rw [ez]; clear ez hP; go_wp2_with fail
      go_roundg (many - (k + 1))
      case measure => have := HR.out; omega
      case rel => exact ⟨k + 1, x + 2 ^ k * 0, a2, f2, by have := HR.out; omega, rfl, by go_num, by rw [Nat.mul_zero, Nat.add_zero], HX.out.1, HX.out.2.1, HX.out.2.2⟩
    · have ez : ((1 : Nat) : Int) = 1 := rfl; rw [Nat.one_mul, Nat.mul_one, ← hP] at e3; have e4 : x + 2 ^ k * 1 = x + P := by rw [hP, Nat.mul_one]
      rw [ez]; clear ez hP; go_wp2_with fail
      go_roundg (many - (k + 1))
      case measure => have := HR.out; omega
      case rel => exact ⟨k + 1, x + 2 ^ k * 1, a2, f2, by have := HR.out; omega, rfl, by go_num, by rw [e4]; go_num, HX.out.1, HX.out.2.1, HX.out.2.2⟩
  · obtain rfl : k = many := by omega
    have hd : decide (k < k) = false := by simp
    have HR := zHi (zAi hr (zAi hb hf)); clear hlt hr hb hf hg; go_wp2_with fail
    go_ret
    exact ⟨x, a', f', rfl, HR.out.1, HR.out.2.1, HR.out.2.2⟩
theorem ralign_any (w : World) (B : Nat) (sb : Option Addr) (src : List UInt8) (sc a : Nat) (f : Bool) (h : Rr w B sb src sc a f) :
 Calls Tryz.prog 39 #[.pointer (some ⟨B, 0, none⟩)] w fun e w' => e = .returned (.tuple #[]) ∧ Rr w' B sb src sc (8 * ((a + 7) / 8)) f ∧ Frm (fun b _ => b = B) w w' := by
 have hle : 8 * ((a + 7) / 8) ≤ 8 * src.length := by have := h.at_; omega
 obtain ⟨g1, g2⟩ := h.set_at (8 * ((a + 7) / 8)) hle
 have c1 := h.c1
 have f1 := h.fr 1
 have hl := h.len
 have ha := h.at_
 have b2 : (a : Int) ≤ 8796093022208 := by omega
 obtain ⟨m, hm⟩ : ∃ m, m = (a + 7) / 8 := ⟨_, rfl⟩
 rw [← hm] at g1 g2 ⊢
 have e1 : ((a : Int) + 7) / 8 = (m : Int) := by omega
 have b3 : (m : Int) ≤ 1099511627777 := by omega
 have e2 : (m : Int) * 8 = ((8 * m : Nat) : Int) := by omega
 have HX := zHi (zAi g1 g2)
 clear g1 g2 h hl ha hm hle
 go_enter Tryz.func39, Tryz.ntmps39
 go_wp2_with fail
 exact bodyPost_end (results_none rfl _ _ _) rfl ⟨rfl, HX.out.1, HX.out.2.mono fun b o e => e.1⟩
structure NtO (w : World) (base : Option Addr) (l : List Nat) : Prop where
 cells : ∀ j (h : j < l.length), ∃ g o, base = some ⟨g, o, none⟩ ∧ w.cell? ⟨g, o + j, none⟩ = some (natV l[j])
theorem Nt.o {w : World} {base : Option Addr} {l : List Nat} (h : Nt w base l) : NtO w base l :=
 ⟨fun j hj => by obtain ⟨g, h1, h2⟩ := h.cells j hj; exact ⟨g, 0, h1, by rw [Nat.zero_add]; exact h2⟩⟩
theorem NtO.keep {w w' : World} {base : Option Addr} {l : List Nat} (h : NtO w base l) {S : Nat → Nat → Prop} (hf : Frm S w w') (hS : ∀ g o, base = some ⟨g, o, none⟩ → ∀ j, ¬ S g j) : NtO w' base l :=
 ⟨fun j hj => by obtain ⟨g, o, h1, h2⟩ := h.cells j hj; exact ⟨g, o, h1, hf.keep h2 (hS g o h1 _)⟩⟩
set_option maxHeartbeats 1000000 in
theorem codesO_any (w : World) (b : Option Addr) (lens : List Nat) (cap : Nat) (h : NtO w b lens) (h15 : ∀ n ∈ lens, n ≤ 15) (hl : lens.length ≤ 320) :
 Calls Tryz.prog 64 #[.slice b lens.length cap] w (CodesPost w lens) := by
 have HH := zHi h
 have H15 := zHi h15
 obtain ⟨m, hm⟩ : ∃ m, m = lens.length := ⟨_, rfl⟩
 rw [← hm] at hl ⊢
 have c1 : (m : Int) ≤ 320 := by omega
 have HM := zHi (zAi hm hl)
 have hmk := run_make_row' (P := Tryz.prog) 33 3 (.int .i64 0) 8 Tryz.underlying33 infoInts rfl .i64 .i64 m (by omega) (by omega)
 have hown := ownN_made w m (by simp only [maxLen]; omega)
 have HO := zHi hown
 clear h h15 hm hl hown
 go_enter Tryz.func64, Tryz.ntmps64
 go_wp2_with fail
 obtain ⟨W1, hW1⟩ : ∃ W1, W1 = w.alloc (.cells (madeCells #[.int .i64 0] m) 3) := ⟨_, rfl⟩
 rw [← hW1]
 have hown1 : OwnN W1 w.heap.size (.slice (some ⟨w.heap.size, 0, none⟩) m m) (cdL lens 0 0) := by rw [hW1, cdL_zero, ← HM.out.1]; exact HO.out
 have hf1 : Frm (fun _ _ => False) w W1 := by rw [hW1]; exact (Frm.refl _ _).alloc _
 obtain ⟨N0, hN0⟩ : ∃ N0, N0 = w.heap.size := ⟨_, rfl⟩
 rw [← hN0] at hown1 ⊢
 have HX := zHi (zAi hown1 (zAi hf1 hN0))
 clear hown1 hf1 hN0 hW1 hmk HO
 go_loopg [4, 5] 15 (fun g nx lg wr => CoInv w N0 (.slice (some ⟨N0, 0, none⟩) m m) lens g nx lg wr)
 case atStart => exact ⟨0, 0, 1, by omega, rfl, rfl, rfl, rfl, rfl, HX.out.1, HX.out.2.1⟩
 case round =>
  obtain ⟨k, n, l, hk, hg, hlk, rfl, rfl, hn, hown, hf⟩ := hrel; have hbd := Ck_bound lens k hk; have hpw := pow_le_Int (P := 2 ^ k) rfl hk
  by_cases hlt : k < 15
  · have t1 : decide ((l : Int) ≤ 15) = true := by simp; omega
    have hnle : n ≤ 320 * 32768 := by
     have := Nat.mul_le_mul (show lens.length ≤ 320 by have := HM.out; omega) hpw
     omega
    have c2 : (n : Int) ≤ 10485760 := by omega
    have HR := zHi (zAi hk (zAi hg (zAi hlk (zAi hn (zAi hown (zAi hf hlt)))))); have c3 : (l : Int) ≤ 15 := by omega
    clear hk hg hlk hn hown hf hbd hpw hlt hnle; go_wp2_with fail
    obtain ⟨wo, rfl⟩ : ∃ wo : World, wo = wr := ⟨_, rfl⟩; go_loopg [4, 19] m (fun g nx i wr => CiInv w N0 (.slice (some ⟨N0, 0, none⟩) m m) lens k g nx i wr)
    case atStart =>
     obtain ⟨hk, hg, hlk, hn, hown, hf, hlt⟩ := HR.out; refine ⟨0, 2 * n, Nat.zero_le _, ?_, rfl, ?_, ?_, hown, hf⟩
     · exact HM.out.1
     · go_num
     · rw [hn]; simp
    case round =>
     obtain ⟨j, n2, hj, hg2, rfl, rfl, hn2, hown2, hf2⟩ := hrel; have hcl : (lens.take j).count (k + 1) ≤ 320 := Nat.le_trans List.count_le_length (by rw [List.length_take]; have := HM.out; omega)
     have c4 : (n2 : Int) ≤ 20971840 := by have := HR.out.2.2.2.1; omega
     by_cases hlt : j < m
     · have hjl : j < lens.length := by rw [← HM.out.1]; exact hlt
       obtain ⟨g', o', hb, hc⟩ := HH.out.cells j hjl; subst hb; have hx : lens.getD j 0 = lens[j] := by rw [List.getD_eq_getElem?_getD, List.getElem?_eq_getElem hjl]; rfl
       rw [← hx] at hc; have hx15 : lens.getD j 0 ≤ 15 := by rw [hx]; exact H15.out _ (List.getElem_mem _)
       have hc1 : wr.cell? ⟨g', o' + j, none⟩ = some (natV (lens.getD j 0)) := hf2.keep hc (fun e => e)
       obtain ⟨x, hxx⟩ : ∃ x, x = lens.getD j 0 := ⟨_, rfl⟩; rw [← hxx] at hc1 hx15; have hc2 : wr.cell? ⟨g', o' + j, none⟩ = some (.int .i64 (x : Int)) := hc1; have c5 : (x : Int) ≤ 15 := by omega
       clear hc1 hc hx hx15
       by_cases e : x = l
       · subst e; obtain ⟨gg, cp, hv, _, _, _, hcell, hfz⟩ := Row.at hown2 (show j < (cdL lens k j).length by rw [cdL_len]; exact hjl)
         have hgg : N0 = gg := Option.some.inj (congrArg Value.ownBlock hv); subst hgg; replace hcell : ∃ ov, wr.cell? ⟨N0, j, none⟩ = some ov := ⟨_, hcell⟩; obtain ⟨ov, hcell⟩ := hcell; have HI := zHi (zAi hj (zAi hg2 (zAi hn2 (zAi hown2 (zAi hf2 (zAi hlt (zAi hjl hxx))))))); clear hj hg2 hn2 hown2 hf2 hjl hxx hv hcl; go_wp2_with fail
         go_roundg (m - (j + 1))
         case measure => have := HI.out.2.1; have := HI.out.2.2.2.2.2.1; have := HM.out.1; omega
         case rel =>
          obtain ⟨hj, hg2, hn2, hown2, hf2, hlt, hjl, hxx⟩ := HI.out; obtain ⟨hk, hg, hlk, hn, hown, hf, hlt'⟩ := HR.out; have hcode : n2 = codeOf lens j := by
           unfold codeOf; rw [← hxx, hn2, hlk]; rfl
          obtain ⟨ho, hfo⟩ := hown2.set (g := N0) rfl (show j < (cdL lens k j).length by rw [cdL_len]; exact hjl) n2
          refine ⟨j + 1, n2 + 1, hjl, by rw [← HM.out.1], by go_num, by go_num, ?_, ?_, hf2.trans' hfo (fun x o hx q => by have := HX.out.2.2; omega)⟩
          · rw [count_take_succ _ _ _ hjl, if_pos (by rw [← hxx, hlk]), hn2]; omega
          · rw [cdL_set _ _ _ hjl (by rw [← hxx, hlk]), ← hcode]
            exact ho
       · have hne : ((x : Int) == (l : Int)) = false := by simp; omega
         have hne2 : (x == l) = false := by simp; exact e
         have HI := zHi (zAi hj (zAi hg2 (zAi hn2 (zAi hown2 (zAi hf2 (zAi hlt (zAi hjl (zAi hxx e)))))))); clear hj hg2 hn2 hown2 hf2 hjl hxx hcl e; go_wp2_with fail
         go_roundg (m - (j + 1))
         case measure => have := HI.out.2.1; have := HI.out.2.2.2.2.2.1; have := HM.out.1; omega
         case rel =>
          obtain ⟨hj, hg2, hn2, hown2, hf2, hlt, hjl, hxx, e⟩ := HI.out; obtain ⟨hk, hg, hlk, hn, hown, hf, hlt'⟩ := HR.out; refine ⟨j + 1, n2, hjl, by rw [← HM.out.1], by go_num, rfl, ?_, ?_, hf2⟩
          · rw [count_take_succ _ _ _ hjl, if_neg (by rw [← hxx, ← hlk]; exact e), hn2]; rfl
          · rw [cdL_skip _ _ _ (by rw [← hxx, ← hlk]; exact e)]; exact hown2
     · obtain rfl : j = m := by have := HM.out.1; omega
       have HI := zHi (zAi hg2 (zAi hn2 (zAi hown2 hf2))); have hd : decide (j < j) = false := by simp
       clear hlt hg2 hn2 hown2 hf2 hj hcl; go_wp2_with fail
       go_roundg (15 - (k + 1))
       case measure => have := HR.out.2.1; have := HR.out.2.2.2.2.2.2; omega
       case rel =>
        obtain ⟨hg2, hn2, hown2, hf2⟩ := HI.out; obtain ⟨hk, hg, hlk, hn, hown, hf, hlt'⟩ := HR.out; have hjm := HM.out.1; refine ⟨k + 1, n2, l + 1, by omega, rfl, by omega, by go_num, rfl, ?_, ?_, hf2⟩
        · rw [hn2, hjm, List.take_length, Ck, (cnt_facts lens).count (k + 1) (by omega) (by omega)]
        · rw [← cdL_next, ← hjm]; exact hown2
  · obtain rfl : k = 15 := by omega
    have t1 : decide ((l : Int) ≤ 15) = false := by simp; omega
    have HI := zHi (zAi hown hf); clear hk hg hlk hn hown hf hlt hbd hpw; go_wp2_with fail
    go_ret
    obtain ⟨hown, hf⟩ := HI.out; have hN := HX.out.2.2; subst hN; have hget : ∀ s, (cdL lens 15 0).getD s 0 = if s < lens.length ∧ lens.getD s 0 ≠ 0 then codeOf lens s else 0 := fun s => by
     by_cases hs : s < lens.length
     · rw [List.getD_eq_getElem?_getD, cdL_get _ _ _ _ hs]; have e : lens.getD s 0 = lens[s] := by rw [List.getD_eq_getElem?_getD, List.getElem?_eq_getElem hs]; rfl
       have := H15.out _ (List.getElem_mem hs)
       by_cases h0 : lens.getD s 0 = 0
       · rw [if_neg (by omega), if_neg (by omega)]; rfl
       · rw [if_pos (by omega), if_pos (by omega)]; rfl
     · rw [List.getD_eq_getElem?_getD, List.getElem?_eq_none (by rw [cdL_len]; omega), if_neg (by omega)]; rfl
    refine ⟨_, cdL lens 15 0, rfl, hown, cdL_len _ _ _, fun s hs => ?_, fun s => ?_, hf⟩
    · rw [hget, if_pos ⟨lt_of_getD hs, hs⟩]
    · rw [hget]; split
      · rename_i hs; obtain ⟨hs1, hs2⟩ := hs; have h1 := codeOf_lt H15.out hs1 hs2; have e : lens.getD s 0 = lens[s] := by rw [List.getD_eq_getElem?_getD, List.getElem?_eq_getElem hs1]; rfl
        have h2 := H15.out _ (List.getElem_mem hs1); have h3 := Ck_bound lens (lens.getD s 0) (by omega)
        have h4 := Nat.mul_le_mul (show lens.length ≤ 320 by have := HM.out; omega) (pow_le_Int (P := 2 ^ lens.getD s 0) (x := lens.getD s 0) (m := 15) rfl (by omega))
        omega
      · omega
theorem arr2 : Go.WideMaps.ArrKey Tryz.prog 140 3 2 := ⟨Tryz.underlying140, by kernel_rfl, by kernel_rfl, by kernel_rfl⟩
theorem law2 : Go.Maps.Keyed Tryz.prog 140 := Go.Maps.Keyed.of_law arr2.law
theorem zeroInt (w : World) : (zeroValue 3).run Tryz.prog w = .ok (.int .i64 0) w := by kernel_rfl
abbrev keyV (a b : Int) : Value := .agg #[.int .i64 a, .int .i64 b]
theorem keyOf2 {a b : Int} (ha : (Lit.int .i64 a).wf = true) (hb : (Lit.int .i64 b).wf = true) : ∃ kl, keyOf Tryz.prog 140 (keyV a b) = some kl := by
 have hkt : Tryz.prog.keyType 140 = true := by kernel_rfl
 obtain ⟨m, hm⟩ : ∃ m, Tryz.prog.types.size = m + 1 := by
  have h0 : decide (0 < Tryz.prog.types.size) = true := by kernel_rfl
  have := of_decide_eq_true h0; exact ⟨Tryz.prog.types.size - 1, by omega⟩
 unfold keyOf
 simp only [Tryz.underlying140]
 rw [if_pos (by simp [hkt, Value.formed, Tryz.underlying140, arr2.size]), hm]
 unfold Program.keyLits
 simp only [Tryz.underlying140, Value.cells]
 rw [if_pos (by rw [arr2.size]; rfl)]
 simp [List.range_succ, arr2.one, Program.keyLits, Tryz.underlying3, ha, hb]
theorem nat_wf {a : Nat} (h : a ≤ 4611686018427387904) : (Lit.int .i64 (a : Int)).wf = true := by
 simp [Lit.wf, IntKind.min, IntKind.max, IntKind.signed, IntKind.bits]; omega
noncomputable def keyL (a b : Nat) : Lit := (keyOf Tryz.prog 140 (keyV a b)).getD (.bool false)
theorem keyOf_nat {a b : Nat} (ha : a ≤ 4611686018427387904) (hb : b ≤ 4611686018427387904) : keyOf Tryz.prog 140 (keyV a b) = some (keyL a b) := by
 obtain ⟨kl, h⟩ := keyOf2 (nat_wf ha) (nat_wf hb)
 unfold keyL
 rw [h]; rfl
theorem keyL_inj {a b c d : Nat} (ha : a ≤ 4611686018427387904) (hb : b ≤ 4611686018427387904) (hc : c ≤ 4611686018427387904) (hd : d ≤ 4611686018427387904) (h : keyL a b = keyL c d) : a = c ∧ b = d := by
 have := law2.inj (keyOf_nat ha hb) (h ▸ keyOf_nat hc hd)
 simp only [keyV, Value.agg.injEq] at this
 have e := congrArg Array.toList this
 simp only [List.cons.injEq, Value.int.injEq, true_and, and_true] at e
 omega
theorem keyL_key {a b : Nat} (ha : a ≤ 4611686018427387904) (hb : b ≤ 4611686018427387904) : WideAt.IsKeyLit (keyL a b) := law2.key (keyOf_nat ha hb)
def CdHas (D : DataW Unit) (lens : List Nat) (j : Nat) : Prop :=
 ∀ l k, l ≤ 15 → k ≤ 1073741824 → match cdF lens j l k with
  | none => Maps.has D (keyL l k) = false
  | some s => Maps.has D (keyL l k) = true ∧ ∀ z, D.atKey (keyL l k) z = .lit (.int .i64 (s : Int))
def CMap (w : World) (M : Nat) (lens : List Nat) (j : Nat) : Prop :=
 ∃ D, w.ownsMap Tryz.prog 140 (plainElem (H := Unit) Tryz.prog 3) M j D ∧ CdHas D lens j
theorem CMap.keep {S : Nat → Nat → Prop} {w w' : World} {M : Nat} {lens : List Nat} {j : Nat} (h : CMap w M lens j) (hf : Frm S w w') (hS : ∀ o, ¬ S M o) : CMap w' M lens j := by
 obtain ⟨D, ho, hc⟩ := h
 have hlt := ho.lt
 obtain ⟨es, clock, hb, r⟩ := ho
 exact ⟨D, ⟨es, clock, (hf.obj M hlt hS).trans hb, r⟩, hc⟩
theorem CMap.lt {w : World} {M : Nat} {lens : List Nat} {j : Nat} (h : CMap w M lens j) : M < w.heap.size := by
 obtain ⟨D, ho, _⟩ := h
 exact ho.lt
theorem cdHas_nil (lens : List Nat) : CdHas (.map []) lens 0 := fun l k _ _ => rfl
theorem frm_grown {w wr w1 : World} {M : Nat} (h : Frm (fun _ _ => False) w wr) (hg : wr.grownBy w1 (some M)) (hM : w.heap.size ≤ M) : Frm (fun _ _ => False) w w1 := by
 have hb : ∀ b, b < w.heap.size → w1.heap[b]? = w.heap[b]? := fun b hb => (hg.block b (Nat.lt_of_lt_of_le hb h.size) (fun e => by have := Option.some.inj e; omega)).trans (h.obj b hb (fun _ e => e))
 exact ⟨hg.os.trans h.os, hg.tape.trans h.tape, hg.output.trans h.output, Nat.le_trans h.size hg.size, fun b o hlt _ => World.cell?_of_block (hb b hlt), fun b o hlt => World.frozen?_of_block (hb b hlt), fun b o hlt => by rw [World.cell?_of_block (a := ⟨b, o, none⟩) (hb b hlt)], fun b hlt _ => hb b hlt⟩
theorem grown_frm {w w1 : World} {M : Nat} (hg : w.grownBy w1 (some M)) {b o : Nat} {v : Value} (h : w.cell? ⟨b, o, none⟩ = some v) (hb : b ≠ M) : w1.cell? ⟨b, o, none⟩ = some v :=
 (World.cell?_of_block (a := ⟨b, o, none⟩) (hg.block b (cell_lt h) (fun e => hb (Option.some.inj e)))).trans h
theorem cdHas_skip {D : DataW Unit} {lens : List Nat} {j : Nat} (h : CdHas D lens j) (h0 : lens.getD j 0 = 0) : CdHas D lens (j + 1) := by
 intro l k hl hk
 rw [cdF, if_neg (fun q => q.1 h0)]
 exact h l k hl hk
theorem cdHas_put {D : DataW Unit} {lens : List Nat} {j : Nat} (h : CdHas D lens j) (hD : Maps.IsMap D) (h0 : lens.getD j 0 ≠ 0) (h15 : lens.getD j 0 ≤ 15) (hc : codeOf lens j ≤ 1073741824) :
 CdHas (D.put (keyL (lens.getD j 0) (codeOf lens j)) (.lit (.int .i64 (j : Int)))) lens (j + 1) := by
 intro l k hl hk
 rw [cdF]
 by_cases e : lens.getD j 0 = l ∧ codeOf lens j = k
 · rw [if_pos ⟨h0, e⟩]; obtain ⟨rfl, rfl⟩ := e; have hkey := keyL_key (a := lens.getD j 0) (b := codeOf lens j) (by omega) (by omega)
   exact ⟨Maps.has_put_same hD hkey _, fun z => Maps.atKey_put_same hD hkey _ z⟩
 · rw [if_neg (fun q => e q.2)]
   have hne : keyL l k ≠ keyL (lens.getD j 0) (codeOf lens j) := fun q => by
    have := keyL_inj (by omega) (by omega) (by omega) (by omega) q
    exact e ⟨this.1.symm, this.2.symm⟩
   have := h l k hl hk
   cases hcd : cdF lens j l k with
   | none =>
    rw [hcd] at this; simp only at this ⊢; rw [Maps.has_put_other hne]; exact this
   | some s =>
    rw [hcd] at this; simp only at this ⊢; exact ⟨by rw [Maps.has_put_other hne]; exact this.1, fun z => by rw [Maps.atKey_put_other hne]; exact this.2 z⟩
theorem ksum_le (lens : List Nat) : ksum lens ≤ 32768 * lens.length := by
 induction lens with
 | nil => simp [ksum]
 | cons x l ih =>
  have e : ksum (x :: l) = kw x + ksum l := by simp [ksum]
  have : kw x ≤ 32768 := by
   unfold kw; split
   · omega
   · calc 2 ^ (15 - x) ≤ 2 ^ 15 := Nat.pow_le_pow_right (by omega) (by omega)
      _ = 32768 := rfl
  rw [e, List.length_cons]; omega
theorem ksum_take {lens : List Nat} {k x : Nat} (h : lens[k]? = some x) : ksum (lens.take (k + 1)) = ksum (lens.take k) + kw x ∧ (lens.take (k + 1)).countP (fun n => n != 0) = (lens.take k).countP (fun n => n != 0) + (if x = 0 then 0 else 1) ∧ (lens.take (k + 1)).count 1 = (lens.take k).count 1 + (if x = 1 then 1 else 0) := by
 have e : lens.take (k + 1) = lens.take k ++ [x] := by rw [List.take_add_one, h]; rfl
 rw [e]
 refine ⟨by simp [ksum], ?_, ?_⟩
 · rw [List.countP_append]
   by_cases hx : x = 0 <;> simp [hx]
 · rw [List.count_append]
   by_cases hx : x = 1 <;> simp [hx]
def NcInv (w : World) (lens : List Nat) (g : Nat) (all many ones i : Value) (wr : World) : Prop :=
 ∃ k : Nat, k ≤ lens.length ∧ g = lens.length - k ∧ i = .int .i64 (k : Int) ∧ all = .int .i64 ((ksum (lens.take k) : Nat) : Int) ∧ many = .int .i64 (((lens.take k).countP (fun n => n != 0) : Nat) : Int) ∧ ones = .int .i64 (((lens.take k).count 1 : Nat) : Int) ∧ w = wr
def NmInv (w0 : World) (M : Nat) (lens : List Nat) (g : Nat) (i : Value) (w5 wr : World) : Prop :=
 ∃ j : Nat, j ≤ lens.length ∧ g = lens.length - j ∧ i = .int .i64 (j : Int) ∧ CMap wr M lens j ∧ Frm (fun _ _ => False) w0 wr ∧ w5.grownBy wr (some M)
def NcPost (w : World) (lens : List Nat) (e : Ending) (w' : World) : Prop :=
 ∃ M full, e = .returned (.tuple #[.map (some M), .bool full]) ∧ (full = true ↔ Full lens) ∧ CMap w' M lens lens.length ∧ w.heap.size ≤ M ∧ Frm (fun _ _ => False) w w'
theorem map_ne {w : World} {M j b o : Nat} {lens : List Nat} {v : Value} (h : CMap w M lens j) (hc : w.cell? ⟨b, o, none⟩ = some v) : b ≠ M := by
 obtain ⟨D, ⟨es, clock, hb, _⟩, _⟩ := h
 intro e
 subst e
 simp [World.cell?, hb] at hc
theorem grown_trans {a b c : World} {M : Nat} (h : a.grownBy b (some M)) (k : b.grownBy c (some M)) : a.grownBy c (some M) :=
 ⟨k.os.trans h.os, k.tape.trans h.tape, k.output.trans h.output, Nat.le_trans h.size k.size, fun x hx hn => (k.block x (Nat.lt_of_lt_of_le hx h.size) hn).trans (h.block x hx hn)⟩
theorem grown_refl (a : World) (M : Nat) : a.grownBy a (some M) := ⟨rfl, rfl, rfl, Nat.le_refl _, fun _ _ _ => rfl⟩
theorem kw_pos {x : Nat} (h : x ≠ 0) : kw x = 2 ^ (15 - x) := if_neg h
set_option maxHeartbeats 2000000 in
theorem newCode_any (w : World) (b : Option Addr) (lens : List Nat) (cap : Nat) (h : NtO w b lens) (h15 : ∀ n ∈ lens, n ≤ 15) (hl : lens.length ≤ 320) :
 Calls Tryz.prog 49 #[.slice b lens.length cap] w (NcPost w lens) := by
 have hf1 : Frm (fun _ _ => False) w (w.alloc (.map #[] 0)) := (Frm.refl _ _).alloc _
 have hm1 : CMap (w.alloc (.map #[] 0)) w.heap.size lens 0 := ⟨_, World.ownsMap_made _ _ _ _, cdHas_nil lens⟩
 have hN1 : NtO (w.alloc (.map #[] 0)) b lens := h.keep hf1 (fun _ _ _ _ e => e)
 have hco := codesO_any (w.alloc (.map #[] 0)) b lens cap hN1 h15 hl
 obtain ⟨m, hm⟩ : ∃ m, m = lens.length := ⟨_, rfl⟩
 obtain ⟨M, hM⟩ : ∃ M, M = w.heap.size := ⟨_, rfl⟩
 rw [← hm] at hl hco ⊢
 have hx15 : ∀ k (hk : k < lens.length), lens[k] ≤ 15 := fun k hk => h15 _ (List.getElem_mem hk)
 have hfull := full_iff h15
 have HX15 := zHi hx15
 have c1 : (m : Int) ≤ 320 := by omega
 have hmm := @run_makeMap Tryz.prog
 have HH := zHi (zAi hf1 (zAi hm1 (zAi hN1 (zAi hm (zAi hl hM)))))
 have HCO := zHi hco
 have HFU := zHi hfull
 clear h h15 hl hm hf1 hm1 hN1 hco hx15 hfull
 go_enter Tryz.func49, Tryz.ntmps49
 go_wp2_with fail
 obtain ⟨w1, hw1⟩ : ∃ w1, w1 = w.alloc (.map #[] 0) := ⟨_, rfl⟩
 have HMM := zHi hM
 rw [← hw1, ← hM] at HH
 rw [← hw1] at HCO ⊢
 rw [← hM]
 clear hmm hM hw1
 go_loopg [5, 6, 7, 15] (m - 0) (fun g all many ones i wr => NcInv w1 lens g all many ones i wr)
 case atStart => exact ⟨0, Nat.zero_le _, by rw [HH.out.2.2.2.1], rfl, rfl, rfl, rfl, rfl⟩
 case round =>
  obtain ⟨k, hk, hg, rfl, rfl, rfl, rfl, rfl⟩ := hrel; have hks := ksum_le (lens.take k); have hcp := List.countP_le_length (p := fun n => n != 0) (l := lens.take k)
  have hct := List.count_le_length (a := 1) (l := lens.take k); rw [List.length_take] at hks hcp hct; obtain ⟨s, hs⟩ : ∃ s, s = ksum (lens.take k) := ⟨_, rfl⟩; obtain ⟨mn, hmn⟩ : ∃ mn, mn = (lens.take k).countP (fun n => n != 0) := ⟨_, rfl⟩
  obtain ⟨on, hon⟩ : ∃ on, on = (lens.take k).count 1 := ⟨_, rfl⟩; rw [← hs] at hks; rw [← hmn] at hcp; rw [← hon] at hct; rw [← hs, ← hmn, ← hon]; obtain ⟨hf1, hm1, hN1, hm, hl, hM⟩ := HH.out; have d1 : (s : Int) ≤ 10485760 := by omega
  have d2 : (mn : Int) ≤ 320 := by omega
  have d3 : (on : Int) ≤ 320 := by omega
  by_cases hlt : k < m
  · have hkl : k < lens.length := by omega
    obtain ⟨g', o', rfl, hcell⟩ := hN1.cells k hkl; obtain ⟨x, hx⟩ : ∃ x, x = lens[k] := ⟨_, rfl⟩; have hxle := HX15.out k hkl; have hks' : lens[k]? = some x := by rw [hx]; exact List.getElem?_eq_getElem hkl
    obtain ⟨z1, z2, z3⟩ := ksum_take hks'; rw [← hx] at hcell hxle; rw [← hs] at z1; rw [← hmn] at z2; rw [← hon] at z3; simp only [natV] at hcell; have HR := zHi (zAi hk (zAi hg (zAi z1 (zAi z2 (zAi z3 hm))))); clear hf1 hm1 hN1 hm hl hM hk hg hks hcp hct hs hmn hon hkl hx hks' z1 z2 z3
    by_cases h0 : x = 0
    · subst h0; clear hxle; go_wp2_with fail
      go_roundg (m - (k + 1))
      case measure => have := HR.out.2.1; have := HR.out.2.2.2.2.2; omega
      case rel =>
       obtain ⟨hk, hg, z1, z2, z3, hm⟩ := HR.out; exact ⟨k + 1, by omega, by omega, by go_num, by rw [z1]; rfl, by rw [z2]; rfl, by rw [z3]; rfl, rfl⟩
    · obtain ⟨P, hP⟩ : ∃ P : Nat, P = 2 ^ (15 - x) := ⟨_, rfl⟩; obtain ⟨u, hu⟩ : ∃ u, u = 15 - x := ⟨_, rfl⟩; have hPl : P ≤ 2 ^ 15 := by rw [hP]; exact Nat.pow_le_pow_right (by omega) (by omega)
      have e1 : (15 : Int) - (x : Int) = (u : Int) := by omega
      have e2 : (2 : Int) ^ u = (P : Int) := by rw [hP, hu]; simp
      have d4 : (P : Int) ≤ 32768 := by omega
      have d5 : (u : Int) ≤ 15 := by omega
      have hkw : kw x = P := by rw [kw_pos h0, hP]
      have t1 : decide ((0 : Int) < (x : Int)) = true := by simp; omega
      have t1' : 0 < x := by omega
      by_cases hx1 : x = 1
      · subst hx1; have HK := zHi hkw; clear h0 hP hu hPl hkw hxle t1'; go_wp2_with fail
        go_roundg (m - (k + 1))
        case measure => have := HR.out.2.1; have := HR.out.2.2.2.2.2; omega
        case rel =>
         obtain ⟨hk, hg, z1, z2, z3, hm⟩ := HR.out; exact ⟨k + 1, by omega, by omega, by go_num, by rw [z1, show kw 1 = 16384 from rfl]; go_num, by rw [z2]; go_num, by rw [z3]; go_num, rfl⟩
      · have t2 : ((x : Int) == 1) = false := by simp; omega
        have HK := zHi (zAi hkw (zAi h0 hx1)); clear h0 hP hu hPl hkw hxle hx1; go_wp2_with fail
        go_roundg (m - (k + 1))
        case measure => have := HR.out.2.1; have := HR.out.2.2.2.2.2; omega
        case rel =>
         obtain ⟨hk, hg, z1, z2, z3, hm⟩ := HR.out; obtain ⟨q1, q2, q3⟩ := HK.out; rw [if_neg q2] at z2; rw [if_neg q3] at z3; exact ⟨k + 1, by omega, by omega, by go_num, by rw [z1, q1]; go_num, by rw [z2]; go_num, by rw [z3]; go_num, rfl⟩
  · obtain rfl : k = m := by omega
    have hd : decide (k < k) = false := by simp
    rw [hm, List.take_length] at hs hmn hon; have HR := zHi (zAi hs (zAi hmn hon)); clear hf1 hm1 hN1 hm hl hM hk hg hks hcp hct hs hmn hon hlt; go_wp2_with fail
    refine HCO.out.mono ?_; rintro e w5 ⟨v, out, rfl, hown, hol, hcod, hcle, hf5⟩; obtain ⟨bo, co, rfl, _, hno⟩ := OwnN.nt hown; obtain ⟨hf1, hm1, hN1, hm, hl, hM⟩ := HH.out; rw [hol, ← hm]; have hN5 := hN1.keep hf5 (fun _ _ _ _ e => e)
    have hm5 := hm1.keep hf5 (fun _ e => e)
    have hf05 := hf1.trans hf5; have H5 := zHi (zAi hno (zAi hN5 (zAi hm5 (zAi hf05 (zAi hol (zAi hcod hcle)))))); clear hf1 hm1 hN1 hm hl hM hown hol hcod hcle hf5 hno hN5 hm5 hf05; go_wp2_with fail
    go_loopg [36] (k - 0) (fun g i wr => NmInv w M lens g i w5 wr)
    case atStart => exact ⟨0, Nat.zero_le _, by rw [HH.out.2.2.2.1], rfl, H5.out.2.2.1, H5.out.2.2.2.1, grown_refl _ _⟩
    case round =>
     obtain ⟨j, hj, hg, rfl, hmap, hfr, hgr⟩ := hrel
     by_cases hlt : j < k
     · obtain ⟨hno, hN5, hm5, hf05, hol, hcod, hcle⟩ := H5.out; have hkl : j < lens.length := by have := HH.out.2.2.2.1; omega
       obtain ⟨g1, o1, rfl, hc1⟩ := hN5.cells j hkl; obtain ⟨g2, rfl, hc2⟩ := hno.cells j (by omega)
       have k1 := grown_frm hgr hc1 (map_ne hm5 hc1); have k2 := grown_frm hgr hc2 (map_ne hm5 hc2); obtain ⟨x, hx⟩ : ∃ x, x = lens[j] := ⟨_, rfl⟩; obtain ⟨y, hy⟩ : ∃ y, y = out[j]'(by omega) := ⟨_, rfl⟩
       have hxle := HX15.out j hkl; rw [← hx] at k1 hxle; rw [← hy] at k2; have hxd : lens.getD j 0 = x := by rw [List.getD_eq_getElem?_getD, List.getElem?_eq_getElem hkl, hx]; rfl
       have hyd : out.getD j 0 = y := by rw [List.getD_eq_getElem?_getD, List.getElem?_eq_getElem (by omega), hy]; rfl
       have hyle := hcle j; rw [hyd] at hyle; simp only [natV] at k1 k2
       by_cases h0 : x = 0
       · subst h0; have HR := zHi (zAi hj (zAi hg (zAi (show CMap wr M lens (j + 1) from (by
          obtain ⟨D, ho, hc⟩ := hmap; exact ⟨D, ho.mono (Nat.le_succ _), cdHas_skip hc hxd⟩)) (zAi hfr hgr))))
         clear hno hN5 hm5 hf05 hol hcod hcle hkl hc1 hc2 hx hy hxle hxd hyd hyle hmap hfr hgr hj hg; go_wp2_with fail
         go_roundg (k - (j + 1))
         case measure => have := HR.out.2.1; have := HH.out.2.2.2.1; omega
         case rel =>
          obtain ⟨hj, hg, hm, hfr, hgr⟩ := HR.out; exact ⟨j + 1, by have := HH.out.2.2.2.1; omega, by have := HH.out.2.2.2.1; omega, by go_num, hm, hfr, hgr⟩
       · have t1 : decide ((0 : Int) < (x : Int)) = true := by simp; omega
         have t1' : 0 < x := by omega
         obtain ⟨D, hown, hcd⟩ := hmap; have hcj := hcod j (by rw [hxd]; exact h0)
         have hput := cdHas_put hcd hown.isMap (by rw [hxd]; exact h0) (by rw [hxd]; exact hxle) (by rw [← hcj, hyd]; exact hyle)
         rw [hxd, ← hcj, hyd] at hput; have hkey := keyOf_nat (a := x) (b := y) (by omega) (by omega)
         have hjw : (Lit.int .i64 (j : Int)).wf = true := nat_wf (by have := HH.out.2.2.2.2.1; omega)
         have hjm : j < maxLen := by have := HH.out.2.2.2.2.1; unfold maxLen; omega
         have HR := zHi (zAi hj (zAi hg (zAi hput (zAi hfr hgr)))); clear hno hN5 hm5 hf05 hol hcod hcle hkl hc1 hc2 hx hy hxle hxd hyd hyle hfr hgr hcd hcj hput h0 hj hg; go_wp2_with (at_mapUpdate; refine wpList_mapUpdate_own _ rfl _ _ _ 106 rfl 140 3 law2 Tryz.underlying106 _ M j D rfl hown hjm _ _ _ rfl rfl hkey _ [] (plainElem_int Tryz.underlying3 hjw) ?_; intro w7 hown7 hgrow7)
         go_roundg (k - (j + 1))
         case measure => have := HR.out.2.1; have := HH.out.2.2.2.1; omega
         case rel =>
          obtain ⟨hj, hg, hput, hfr, hgr⟩ := HR.out; exact ⟨j + 1, by have := HH.out.2.2.2.1; omega, by have := HH.out.2.2.2.1; omega, by go_num, ⟨_, hown7, hput⟩, frm_grown hfr hgrow7 (by have := HMM.out; omega), grown_trans hgr hgrow7⟩
     · obtain rfl : j = k := by have := HH.out.2.2.2.1; omega
       have hd2 : decide (j < j) = false := by simp
       have hmap' : CMap wr M lens lens.length := by
        have := HH.out.2.2.2.1; rw [← this]; exact hmap
       obtain ⟨hs, hmn, hon⟩ := HR.out; have hfu := HFU.out; rw [← hs, ← hmn, ← hon] at hfu; have HR2 := zHi (zAi hmap' (zAi hfr hfu)); clear hmap hmap' hfr hgr hfu hlt hj hg hs hmn hon
       by_cases q1 : s = 32768
       · subst q1; go_wp2_with fail
         go_ret2
         exact ⟨M, true, rfl, by rw [HR2.out.2.2]; simp, HR2.out.1, by have := HMM.out; omega, HR2.out.2.1⟩
       · have t1 : ((s : Int) == 32768) = false := by simp; omega
         by_cases q2 : mn = 0
         · subst q2; go_wp2_with fail
           go_ret2
           exact ⟨M, true, rfl, by rw [HR2.out.2.2]; simp, HR2.out.1, by have := HMM.out; omega, HR2.out.2.1⟩
         · have t2 : ((mn : Int) == 0) = false := by simp; omega
           by_cases q3 : mn = 1
           · subst q3
             by_cases q4 : on = 1
             · subst q4; go_wp2_with fail
               go_ret2
               exact ⟨M, true, rfl, by rw [HR2.out.2.2]; simp, HR2.out.1, by have := HMM.out; omega, HR2.out.2.1⟩
             · have t4 : ((on : Int) == 1) = false := by simp; omega
               have HQ := zHi (zAi q1 q4); clear q1 q2 q4; go_wp2_with fail
               go_ret2
               exact ⟨M, false, rfl, by rw [HR2.out.2.2]; have := HQ.out; simp [this], HR2.out.1, by have := HMM.out; omega, HR2.out.2.1⟩
           · have t3 : ((mn : Int) == 1) = false := by simp; omega
             have HQ := zHi (zAi q1 (zAi q2 q3)); clear q1 q2 q3; go_wp2_with fail
             go_ret2
             exact ⟨M, false, rfl, by rw [HR2.out.2.2]; have := HQ.out; simp [this], HR2.out.1, by have := HMM.out; omega, HR2.out.2.1⟩
def RsPost (w : World) (B : Nat) (sb : Option Addr) (src : List UInt8) (sc : Nat) (lens : List Nat) (a : Nat) (f : Bool) (e : Ending) (w' : World) : Prop :=
 ∃ s a' f', e = .returned (.int .i64 ((s : Nat) : Int)) ∧ Rr w' B sb src sc a' f' ∧ SymR lens src a f s a' f' ∧ Frm (fun b _ => b = B) w w'
def RsInv (w : World) (B : Nat) (sb : Option Addr) (src : List UInt8) (sc : Nat) (lens : List Nat) (a : Nat) (f : Bool) (g : Nat) (nv lg : Value) (wr : World) : Prop :=
 ∃ (k l n a' : Nat) (f' : Bool), k ≤ 15 ∧ l = k + 1 ∧ g = 15 - k ∧ nv = .int .i64 (n : Int) ∧ lg = .int .i64 (l : Int) ∧ Rr wr B sb src sc a' f' ∧ SyR lens src a f k n a' f' ∧ Frm (fun b _ => b = B) w wr
set_option maxHeartbeats 2000000 in
theorem rsymbol_any (w : World) (B : Nat) (sb : Option Addr) (src : List UInt8) (sc a : Nat) (f : Bool) (h : Rr w B sb src sc a f) (M : Nat) (lens : List Nat) (hM : CMap w M lens lens.length) (hMB : M ≠ B) (hL : Kraft lens) (hln : lens.length ≤ 320) :
 Calls Tryz.prog 50 #[.pointer (some ⟨B, 0, none⟩), .map (some M)] w (RsPost w B sb src sc lens a f) := by
 have HH := zHi (zAi h (zAi hM (zAi hMB (zAi hL hln))))
 clear h hM hMB hL hln
 go_enter Tryz.func50, Tryz.ntmps50
 go_wp2_with fail
 go_loopg [5, 6] 15 (fun g nv lg wr => RsInv w B sb src sc lens a f g nv lg wr)
 case atStart => exact ⟨0, 1, 0, a, f, by omega, rfl, rfl, rfl, rfl, HH.out.1, SyR.start f HH.out.1.at_, Frm.refl _ _⟩
 case round =>
  obtain ⟨k, l, n, a', f', hk, hl, hg, rfl, rfl, hr, hy, hf⟩ := hrel; have c1 : (l : Int) ≤ 16 := by omega
  have c2 : (1 : Int) ≤ (l : Int) := by omega
  by_cases hlt : k < 15
  · have t1 : decide ((l : Int) ≤ 15) = true := by simp; omega
    have hlt' : (l : Int) ≤ 15 := by omega
    have hn := hy.lt; have hP : (2 : Nat) ^ k ≤ 2 ^ 15 := Nat.pow_le_pow_right (by omega) (by omega)
    have c3 : (n : Int) ≤ 32768 := by omega
    have HB := zHi (rbit_any wr B sb src sc a' f' hr); have HR := zHi (zAi hk (zAi hl (zAi hg (zAi hr (zAi hy (zAi hf (zAi hP hlt))))))); clear hk hl hg hr hy hf hP hn hlt; go_wp2_with fail
    refine HB.out.mono ?_; rintro e w2 ⟨y, a2, f2, rfl, hr2, hb2, hf2⟩; obtain ⟨hk, hl, hg, hr, hy, hf, hP, hlt⟩ := HR.out; have hyb := hy.bit hb2; have hy1 := hb2.lt; have c4 : (y : Int) ≤ 1 := by omega
    obtain ⟨z, hz⟩ : ∃ z, z = 2 * n + y := ⟨_, rfl⟩; have e1 : 2 * (n : Int) + (y : Int) = (z : Int) := by omega
    rw [← hz] at hyb; have hzl := hyb.lt; have hP2 : (2 : Nat) ^ (k + 1) ≤ 2 ^ 15 := Nat.pow_le_pow_right (by omega) (by omega)
    have c5 : (z : Int) ≤ 32768 := by omega
    have hf02 := hf.trans hf2; obtain ⟨D, hown, hcd⟩ := HH.out.2.1.keep hf02 (fun _ e => HH.out.2.2.1 e)
    have hkey := keyOf_nat (a := l) (b := z) (by omega) (by omega)
    have hcase := hcd l z (by omega) (by omega)
    have p2 := hr2.c2; have HX := zHi (zAi hr2 (zAi hyb hf02)); have HV := zHi (zAi hg (zAi hl hk)); have HL := zHi (zAi hlt hz)
    cases hcv : cdF lens lens.length l z with
    | none =>
     rw [hcv] at hcase; simp only at hcase; have hnx := hyb.next HH.out.2.2.2.1 hlt (fun _ => by rw [← hl]; exact hcv)
     have HNX := zHi hnx; clear hk hl hg hr hy hf hP hlt hyb hy1 hz hzl hP2 hf02 hcd hr2 hb2 hf2 hcv hnx; go_wp2_with (at_lookup; refine wpList_lookup_own_ok_int _ rfl _ _ 106 rfl 140 3 .i64 law2 Tryz.underlying106 Tryz.underlying3 (zeroInt _) M _ D rfl hown _ _ rfl hkey ?_; intro c hat hwc)
     go_roundg (15 - (k + 1))
     case measure => have := HV.out.1; have := HL.out.1; omega
     case rel => exact ⟨k + 1, l + 1, z, a2, f2, by have := HL.out.1; omega, by have := HV.out.2.1; omega, rfl, rfl, by go_num, HX.out.1, HNX.out, HX.out.2.2⟩
    | some s =>
     rw [hcv] at hcase; simp only at hcase; obtain ⟨hhas, hats⟩ := hcase
     cases f2 with
     | true =>
      have hnx := hyb.next HH.out.2.2.2.1 hlt (fun q => by simp at q)
      have HNX := zHi hnx; have HAT := zHi hats; clear hk hl hg hr hy hf hP hlt hyb hy1 hz hzl hP2 hf02 hcd hr2 hb2 hf2 hcv hnx hats; go_wp2_with (at_lookup; refine wpList_lookup_own_ok_int _ rfl _ _ 106 rfl 140 3 .i64 law2 Tryz.underlying106 Tryz.underlying3 (zeroInt _) M _ D rfl hown _ _ rfl hkey ?_; intro c hat hwc)
      go_roundg (15 - (k + 1))
      case measure => have := HV.out.1; have := HL.out.1; omega
      case rel => exact ⟨k + 1, l + 1, z, a2, true, by have := HL.out.1; omega, by have := HV.out.2.1; omega, rfl, rfl, by go_num, HX.out.1, HNX.out, HX.out.2.2⟩
     | false =>
      have hsy := hyb.symR HH.out.2.2.2.1 hlt (by rw [← hl]; exact hcv)
      have HSY := zHi hsy; have HAT := zHi hats; clear hk hl hg hr hy hf hP hlt hyb hy1 hz hzl hP2 hf02 hcd hr2 hb2 hf2 hcv hsy hats; go_wp2_with (at_lookup; refine wpList_lookup_own_ok_int _ rfl _ _ 106 rfl 140 3 .i64 law2 Tryz.underlying106 Tryz.underlying3 (zeroInt _) M _ D rfl hown _ _ rfl hkey ?_; intro c hat hwc)
      go_ret
      rw [HAT.out] at hat; simp only [DataW.lit.injEq, Lit.int.injEq, true_and] at hat; exact ⟨s, a2, false, by subst hat; rfl, HX.out.1, HSY.out, HX.out.2.2⟩
  · obtain rfl : k = 15 := by omega
    obtain rfl : l = 16 := by omega
    have g1 := (hr.set_fail true).1; have g2 := (hr.set_fail true).2; have hs := hy.symR HH.out.2.2.2.1; have p2 := hr.c2; have q2 := hr.fr 2; have HX := zHi (zAi g1 (zAi hs (hf.trans (g2.mono fun b o e => e.1))))
    clear hk hl hg hr hy hf g1 g2 hs hlt c1 c2; go_wp2_with fail
    go_ret
    exact ⟨0, a', true, rfl, HX.out.1, HX.out.2.1, HX.out.2.2⟩
def SOw (v : Value) (B b _ : Nat) : Prop := b = B ∨ v.ownBlock = some b
def Grw (a : World) (v v' : Value) : Prop := v'.ownBlock = v.ownBlock ∨ ∃ g, v'.ownBlock = some g ∧ a.heap.size ≤ g
theorem Grw.refl (a : World) (v : Value) : Grw a v v := .inl rfl
theorem Grw.trans {a b : World} {v v' v'' : Value} (h : Grw a v v') (k : Grw b v' v'') (hs : a.heap.size ≤ b.heap.size) : Grw a v v'' := by
 rcases k with k | ⟨g, k1, k2⟩
 · rcases h with h | ⟨g, h1, h2⟩
   · exact .inl (k.trans h)
   · exact .inr ⟨g, k.trans h1, h2⟩
 · exact .inr ⟨g, k1, Nat.le_trans hs k2⟩
theorem frm_SOw_trans {a b c : World} {v v' : Value} {B : Nat} (h : Frm (SOw v B) a b) (hv : Grw a v v') (k : Frm (SOw v' B) b c) : Frm (SOw v B) a c :=
 h.trans' k fun x o hx q => by
  rcases q with q | q
  · exact .inl q
  · rcases hv with e | ⟨g, e1, e2⟩
    · exact .inr (e ▸ q)
    · rw [e1] at q; have := Option.some.inj q; omega
theorem frm_SOw_B {w w' : World} {v : Value} {B : Nat} (h : Frm (fun b _ => b = B) w w') : Frm (SOw v B) w w' := h.mono fun _ _ e => .inl e
theorem Rr.keepO {w w' : World} {B : Nat} {sb : Option Addr} {src : List UInt8} {sc a : Nat} {f : Bool} {v : Value} {N0 : Nat} (h : Rr w B sb src sc a f) (hf : Frm (fun b _ => v.ownBlock = some b) w w') (hv : ∀ g, v.ownBlock = some g → N0 ≤ g) (hB : B < N0) (hs : ∀ x, sb = some x → x.block < N0) : Rr w' B sb src sc a f :=
 h.keep hf (fun o e => by have := hv _ e; omega) (fun x hx j e => by have := hv _ e; have := hs x hx; omega)
theorem run_midR {w : World} {b : Option Addr} {l : List UInt8} {cap : Nat} (h : Bt w b l cap) (m1 m2 : Nat) (h12 : m1 ≤ m2) (h2 : m2 ≤ l.length) :
 ∃ b', (∀ w' : World, (Instr.sliceAt 22 (.slice b l.length cap) (some (.int .i64 (m1 : Int))) (some (.int .i64 (m2 : Int))) none).run Tryz.prog w' = .ok (.slice b' (m2 - m1) (cap - m1)) w') ∧ Bt w b' ((l.drop m1).take (m2 - m1)) (cap - m1) := by
 have hsz : ∀ w : World, (sizeOf (Tryz.prog.elem 22)).run Tryz.prog w = .ok 1 w := fun w => by kernel_rfl
 have hu : Tryz.prog.underlying 22 = some (.slice (Tryz.prog.elem 22)) := by kernel_rfl
 have hcap := h.hcap
 refine ⟨if cap = m1 then b else b.map (·.add m1), fun w' => ?_, ?_⟩
 · rw [run_sliceAt_slice w' _ _ _ _ _ hu, run_slice_lh w' _ _ _ _ hu _ _ _ _ (by omega) (by omega) (by omega), hsz]
   simp only [Result.andThen, sliced, Int.toNat_natCast, Nat.mul_one]
 · have hlen : ((l.drop m1).take (m2 - m1)).length = m2 - m1 := by rw [List.length_take, List.length_drop]; omega
   cases b with
   | none =>
    have hl : l = [] := h.bytes; have hc := h.nilc rfl; subst hl; have : (if cap = m1 then none else (none : Option Addr).map (·.add m1)) = none := by split <;> rfl
    rw [this]; exact ⟨by simp; rfl, by rw [hlen]; omega, fun a ha => by simp at ha, fun _ => by omega⟩
   | some a =>
    have hb := h.bytes
    by_cases hc : cap = m1
    · rw [if_pos hc]; have he : (l.drop m1).take (m2 - m1) = [] := List.eq_nil_of_length_eq_zero (by rw [hlen]; omega)
      rw [he]; exact ⟨⟨hb.1, fun j hj => by simp at hj⟩, by simp, fun x hx => by obtain rfl := Option.some.inj hx; exact h.lt _ rfl, fun q => by simp at q⟩
    · rw [if_neg hc]; refine ⟨⟨?_, fun j hj => ?_⟩, by rw [hlen]; omega, fun x hx => ?_, fun q => by simp at q⟩
      · obtain ⟨ab, ao, sp⟩ := a; have := hb.1; simp only at this; subst this
        show (Addr.add ⟨ab, ao, none⟩ m1).spot = none
        rw [Addr.add_lit]
      · rw [hlen] at hj; have := hb.2 (m1 + j) (by omega)
        obtain ⟨ab, ao, sp⟩ := a; have hsp := hb.1; simp only at hsp; subst hsp; simp only [Addr.add_lit] at this ⊢; rw [Nat.add_assoc, this]
        congr 2
        simp [List.getElem_take, List.getElem_drop]
      · obtain rfl := Option.some.inj hx; have := h.lt a rfl; obtain ⟨ab, ao, sp⟩ := a; have hsp := hb.1; simp only at hsp; subst hsp
        show (Addr.add ⟨ab, ao, none⟩ m1).block < w.heap.size
        rw [Addr.add_lit]; exact this
theorem i64_xor_nat (a b : Nat) (ha : a < 2 ^ 62) (hb : b < 2 ^ 62) : bits .xor .i64 (a : Int) (b : Int) = ((a ^^^ b : Nat) : Int) := by
 have h := Nat.xor_lt_two_pow ha hb
 show IntKind.i64.wrap ((BitVec.ofInt 64 (a : Int) ^^^ BitVec.ofInt 64 (b : Int)).toNat : Int) = _
 have ea : (BitVec.ofInt 64 (a : Int)).toNat = a := by rw [BitVec.toNat_ofInt]; omega
 have eb : (BitVec.ofInt 64 (b : Int)).toNat = b := by rw [BitVec.toNat_ofInt]; omega
 rw [BitVec.toNat_xor, ea, eb]
 have e : ((a ^^^ b : Nat) : Int) % 2 ^ 64 = ((a ^^^ b : Nat) : Int) := Int.emod_eq_of_lt (by omega) (by omega)
 simp only [IntKind.wrap, IntKind.bits, IntKind.signed, e]
 rw [if_neg]
 simp
 omega
theorem xor_byteR (n : Nat) (h : n < 256) : n ^^^ 255 = 255 - n := by
 have : ∀ k : Fin 256, k.1 ^^^ 255 = 255 - k.1 := by decide +kernel
 exact this ⟨n, h⟩
theorem xor_allR (n : Nat) (h : n < 65536) : n ^^^ 65535 = 65535 - n := by
 have h1 := xor_byteR (n % 256) (Nat.mod_lt _ (by omega))
 have h2 := xor_byteR (n / 256) (by omega)
 have e1 : (n ^^^ 65535) % 2 ^ 8 = (n % 2 ^ 8) ^^^ (65535 % 2 ^ 8) := Nat.xor_mod_two_pow
 have e2 : (n ^^^ 65535) / 2 ^ 8 = (n / 2 ^ 8) ^^^ (65535 / 2 ^ 8) := by rw [← Nat.shiftRight_eq_div_pow, ← Nat.shiftRight_eq_div_pow, ← Nat.shiftRight_eq_div_pow, Nat.shiftRight_xor_distrib]
 simp only [Nat.reducePow, Nat.reduceMod, Nat.reduceDiv] at e1 e2
 rw [h1] at e1
 rw [h2] at e2
 omega
theorem xor_sumR {n m : Nat} (hn : n < 65536) (hm : m < 65536) : n ^^^ m = 65535 ↔ n + m = 65535 := by
 constructor
 · intro h; have h2 : m = n ^^^ 65535 := by rw [← h, ← Nat.xor_assoc, Nat.xor_self, Nat.zero_xor]
   rw [xor_allR n hn] at h2; omega
 · intro h; have : m = n ^^^ 65535 := by rw [xor_allR n hn]; omega
   rw [this, ← Nat.xor_assoc, Nat.xor_self, Nat.zero_xor]
def StRel (src : List UInt8) (a : Nat) (f : Bool) (H H' : List UInt8) (a' : Nat) (f' : Bool) : Prop :=
 (f = true → f' = true) ∧ (f = false →
  f' = true ∧ (src.length < (a + 7) / 8 + 4 ∨ bv src (8 * ((a + 7) / 8)) 16 + bv src (8 * ((a + 7) / 8) + 16) 16 ≠ 65535 ∨ src.length < (a + 7) / 8 + 4 + bv src (8 * ((a + 7) / 8)) 16) ∨
  f' = false ∧ (a + 7) / 8 + 4 + bv src (8 * ((a + 7) / 8)) 16 ≤ src.length ∧ bv src (8 * ((a + 7) / 8)) 16 + bv src (8 * ((a + 7) / 8) + 16) 16 = 65535 ∧ a' = 8 * ((a + 7) / 8 + 4 + bv src (8 * ((a + 7) / 8)) 16) ∧ H' = H ++ (src.drop ((a + 7) / 8 + 4)).take (bv src (8 * ((a + 7) / 8)) 16))
def HsPost (w : World) (N0 B : Nat) (sb : Option Addr) (src : List UInt8) (sc : Nat) (v : Value) (R : List UInt8 → Nat → Bool → Prop) (e : Ending) (w' : World) : Prop :=
 ∃ v' H' a' f', e = .returned v' ∧ Own w' N0 v' H' ∧ Rr w' B sb src sc a' f' ∧ Grw w v v' ∧ Frm (SOw v B) w w' ∧ H'.length ≤ 32768 + 258 * a' ∧ R H' a' f'
theorem two_bits {src : List UInt8} {p n m a2 a3 : Nat} {f f2 f3 : Bool} (h2 : BitsR src 16 (8 * p) f n a2 f2) (h3 : BitsR src 16 a2 f2 m a3 f3) :
 (f = true → f3 = true) ∧ (f = false → f3 = true ∧ src.length < p + 4 ∨ f3 = false ∧ p + 4 ≤ src.length ∧ n = bv src (8 * p) 16 ∧ m = bv src (8 * p + 16) 16 ∧ a3 = 8 * (p + 4)) := by
 refine ⟨fun e => ?_, fun e => ?_⟩
 · subst e; have := h2.stays; subst this; exact h3.stays
 · subst e; rcases h2.cases with ⟨e2, l2, rfl, rfl⟩ | ⟨e2, l2⟩
   · subst e2; rcases h3.cases with ⟨e3, l3, rfl, rfl⟩ | ⟨e3, l3⟩
     · exact .inr ⟨e3, by omega, rfl, rfl, by omega⟩
     · exact .inl ⟨e3, by omega⟩
   · subst e2; exact .inl ⟨h3.stays, by omega⟩
set_option maxHeartbeats 2000000 in
theorem rstored_any (w : World) (N0 B : Nat) (sb : Option Addr) (src : List UInt8) (sc a : Nat) (f : Bool) (h : Rr w B sb src sc a f) (hB : B < N0) (hN : N0 ≤ w.heap.size) (hsb : ∀ x, sb = some x → x.block < N0) (hsl : src.length ≤ 2147483647) (v : Value) (H : List UInt8) (ho : Own w N0 v H) (hH : H.length ≤ 32768 + 258 * a) :
 Calls Tryz.prog 35 #[.pointer (some ⟨B, 0, none⟩), v] w (HsPost w N0 B sb src sc v (StRel src a f H)) := by
 have HA := zHi (zAi hB (zAi hN (zAi hsb (zAi hsl (zAi ho hH)))))
 have HAL := zHi (ralign_any w B sb src sc a f h)
 have HSP := zHi ho.bytes
 clear h hB hN hsb hsl ho hH
 obtain ⟨p, hp⟩ : ∃ p, p = (a + 7) / 8 := ⟨_, rfl⟩
 rw [← hp] at HAL
 have HP := zHi hp
 clear hp
 go_enter Tryz.func35, Tryz.ntmps35
 go_wp2_with fail
 refine HAL.out.mono ?_
 rintro e w1 ⟨rfl, hr1, hf1⟩
 have HB1 := zHi (show Calls Tryz.prog 34 #[.pointer (some ⟨B, 0, none⟩), .int .i64 16] w1 _ from rbits_any w1 B sb src sc (8 * p) f hr1 16 (by omega))
 have HF1 := zHi hf1
 clear hr1 hf1
 go_wp2_with fail
 refine HB1.out.mono ?_
 rintro e w2 ⟨n, a2, f2, rfl, hr2, hb2, hf2⟩
 have HB2 := zHi (show Calls Tryz.prog 34 #[.pointer (some ⟨B, 0, none⟩), .int .i64 16] w2 _ from rbits_any w2 B sb src sc a2 f2 hr2 16 (by omega))
 have H2 := zHi (zAi hb2 hf2)
 have hn := hb2.lt
 have c1 : (n : Int) ≤ 65535 := by omega
 clear hr2 hb2 hf2 HB1 hn
 go_wp2_with fail
 refine HB2.out.mono ?_
 rintro e w3 ⟨m, a3, f3, rfl, hr3, hb3, hf3⟩
 have hm := hb3.lt
 have hn := H2.out.1.lt
 have c2 : (m : Int) ≤ 65535 := by omega
 have h2b := two_bits H2.out.1 hb3
 have hx := i64_xor_nat n m (by omega) (by omega)
 have hxs := xor_sumR hn hm
 obtain ⟨y, hy⟩ : ∃ y, y = n ^^^ m := ⟨_, rfl⟩
 rw [← hy] at hx hxs
 have hf03 : Frm (fun b _ => b = B) w w3 := (HF1.out.trans H2.out.2).trans hf3
 have p0 := hr3.c0
 have p1 := hr3.c1
 have p2 := hr3.c2
 have q1 := hr3.fr 1
 have q2 := hr3.fr 2
 have hle := hr3.at_
 have hlen := hr3.len
 obtain ⟨L, hL⟩ : ∃ L, L = src.length := ⟨_, rfl⟩
 rw [← hL] at p0
 have b1 : (L : Int) ≤ 1099511627776 := by omega
 have b2 : (a3 : Int) ≤ 8796093022208 := by omega
 have hf3B := hf03
 have HX := zHi (zAi hr3 (zAi h2b (zAi hxs (zAi hf03 (zAi hL (zAi hle (zAi hn hm)))))))
 have hfail : ∀ k : Nat, (f = false → src.length < (a + 7) / 8 + 4 ∨ bv src (8 * ((a + 7) / 8)) 16 + bv src (8 * ((a + 7) / 8) + 16) 16 ≠ 65535 ∨ src.length < (a + 7) / 8 + 4 + bv src (8 * ((a + 7) / 8)) 16) → a ≤ a3 → HsPost w N0 B sb src sc v (StRel src a f H) (.returned v) ((w3.drewN k).setCell ⟨B, 2, none⟩ (.bool true)) := by
  intro k hrel haa; obtain ⟨g1, g2⟩ := (HX.out.1.drewN k).set_fail true; have hff : Frm (fun b _ => b = B) w ((w3.drewN k).setCell ⟨B, 2, none⟩ (.bool true)) := (HX.out.2.2.2.1.drewN k).trans (g2.mono fun b o e => e.1)
  refine ⟨v, H, a3, true, rfl, HA.out.2.2.2.2.1.keep hff (fun g o hg e => ?_), g1, Grw.refl _ _, frm_SOw_B hff, by have := HA.out.2.2.2.2.2; omega, fun _ => rfl, fun e => .inl ⟨rfl, hrel e⟩⟩
  have := (HA.out.2.2.2.2.1.lt g hg).1; have := HA.out.1; omega
 have HFAIL := zHi hfail
 have haa : a ≤ a3 := by
  have h1 := H2.out.1.ge; have h2 := hb3.ge; have := HP.out; omega
 have HAA := zHi haa
 clear hr3 hb3 hf3 hm hn h2b hxs hy hf03 hle hlen hL hf3B hfail haa
 cases f3 with
 | true =>
  go_upto_region 3 with (fail)
  (go_quiet (fail))
  go_wp2_with fail
  go_ret
  refine HFAIL.out _ (fun e => ?_) HAA.out
  rcases HX.out.2.1.2 e with ⟨_, q⟩ | ⟨q, _⟩
  · rw [← HP.out]; exact .inl q
  · simp at q
 | false =>
  have hff : f = false := by
   cases f with
   | false => rfl
   | true => exact absurd (HX.out.2.1.1 rfl) (by simp)
  subst hff; obtain ⟨hpl, hnv, hmv, ha3⟩ : p + 4 ≤ src.length ∧ n = bv src (8 * p) 16 ∧ m = bv src (8 * p + 16) 16 ∧ a3 = 8 * (p + 4) := by
   rcases HX.out.2.1.2 rfl with ⟨q, _⟩ | ⟨_, q⟩
   · simp at q
   · exact q
  have HV := zHi (zAi hpl (zAi hnv (zAi hmv ha3))); obtain ⟨q3, hq3⟩ : ∃ q3, q3 = p + 4 := ⟨_, rfl⟩; have e1 : (a3 : Int) / 8 = (q3 : Int) := by omega
  have e1' : (a3 : Int).tdiv 8 = (q3 : Int) := by rw [Int.tdiv_eq_ediv_of_nonneg (by omega)]; exact e1
  have b3 : (q3 : Int) ≤ 1099511627776 := by omega
  have HQ := zHi hq3; clear hpl hnv hmv ha3 hq3
  by_cases hy1 : y = 65535
  · subst hy1; obtain ⟨u, hu⟩ : ∃ u, u = q3 + n := ⟨_, rfl⟩; have e2 : (q3 : Int) + (n : Int) = (u : Int) := by omega
    have b4 : (u : Int) ≤ 1099511693311 := by omega
    replace hx : bits .xor .i64 (n : Int) (m : Int) = 65535 := hx
    by_cases hgt : L < u
    · have t1 : decide ((L : Int) < (u : Int)) = true := by simp; omega
      have HU := zHi (zAi hu hgt); clear hu; go_upto_region 3 with (fail)
      (go_quiet (fail))
      go_wp2_with fail
      go_ret
      refine HFAIL.out _ (fun _ => .inr (.inr ?_)) HAA.out
      have := HV.out; rw [← HP.out, ← this.2.1]; have := HU.out; have := HQ.out; have := HX.out.2.2.2.2.1; omega
    · have t1 : decide ((L : Int) < (u : Int)) = false := by simp; omega
      have hLL := HX.out.2.2.2.2.1; obtain ⟨sb', hrun, hbt⟩ := run_midR HX.out.1.bt q3 u (by omega) (by omega)
      rw [← hLL, show u - q3 = n by omega] at hrun
      rw [show u - q3 = n by omega] at hbt
      have hlt : ((src.drop q3).take n).length = n := by rw [List.length_take, List.length_drop]; omega
      have HU := zHi (zAi hu (zAi hgt (zAi hbt hlt))); have hr : ∀ k : Nat, ∃ v' w', (∀ ty, (Builtin.append_ #[22, 22] ty #[v, .slice sb' n (sc - q3)]).run Tryz.prog (w3.drewN k) = .ok v' w') ∧ HsPost w N0 B sb src sc v (StRel src a false H) (.returned v') (w'.setCell ⟨B, 1, none⟩ (.int .i64 ((8 * (p + 4 + n) : Nat) : Int))) ∧ w'.cell? ⟨B, 1, none⟩ = some (.int .i64 (a3 : Int)) ∧ w'.frozen? ⟨B, 1, none⟩ = false := by
       intro k; have hfk : Frm (fun b _ => b = B) w (w3.drewN k) := HX.out.2.2.2.1.drewN k
       have hov := HA.out.2.2.2.2.1; have ho3 : Own (w3.drewN k) N0 v H := hov.keep hfk (fun g o hg e => by have := (hov.lt g hg).1; have := HA.out.1; omega)
       have hHl := HA.out.2.2.2.2.2; have hsl := HA.out.2.2.2.1; have haa := HAA.out; have hle := HX.out.2.2.2.2.2.1; obtain ⟨v', w', hr, ho', hfr, hgw⟩ := append_bt (w3.drewN k) N0 v H ho3 sb' ((src.drop q3).take n) (sc - q3) (HU.out.2.2.1.drewN k) (by rw [hlt]; omega) (Nat.le_trans HA.out.2.1 hfk.size)
       rw [hlt] at hr; have hrr : Rr w' B sb src sc a3 false := (HX.out.1.drewN k).keepO hfr (fun g hg => (ho3.lt g hg).1) HA.out.1 HA.out.2.2.1
       obtain ⟨g1, g2⟩ := hrr.set_at (8 * (p + 4 + n)) (by have := HQ.out; omega)
       have hB := HA.out.1; refine ⟨v', w', hr, ⟨v', _, 8 * (p + 4 + n), false, rfl, ho'.keep (S := fun b _ => b = B) (g2.mono fun b o e => e.1) (fun g o hg e => by have := (ho'.lt g hg).1; omega), g1, ?_, ?_, ?_, fun e => by simp at e, fun _ => .inr ⟨rfl, ?_⟩⟩, hrr.c1, hrr.fr 1⟩
       · rcases hgw with e | e
         · exact .inl e
         · exact .inr ⟨_, e, hfk.size⟩
       · have h1 : Frm (SOw v B) w w' := (frm_SOw_B hfk).trans (hfr.mono fun b o e => .inr e)
         exact h1.trans' g2 (fun x o hx e => .inl e.1)
       · rw [List.length_append, hlt]; have := HQ.out; have := HV.out.2.2.2; omega
       · rw [← HP.out, ← HV.out.2.1, ← HV.out.2.2.1, ← HQ.out]; refine ⟨?_, HX.out.2.2.1.1 rfl, by rw [HQ.out], rfl⟩
         have := HU.out.1; omega
      have e3 : (a3 : Int) + 8 * (n : Int) = ((8 * (p + 4 + n) : Nat) : Int) := by have := HV.out.2.2.2; omega
      have HR := zHi hr; clear hu hbt hr hlt hLL; go_upto_region 3 with (fail)
      (go_quiet (fail))
      obtain ⟨v', w', hr', hpost, hc1, hz1⟩ := HR.out (nq + 1); have HPO := zHi hpost; have e6 : IntKind.i64.wrap (q3 : Int) = (q3 : Int) := i64_in _ (by omega)
      have e7 : IntKind.i64.wrap (u : Int) = (u : Int) := i64_in _ (by omega)
      clear hpost HR; go_upto_region 6 with (fail)
      (refine region_tail 18 (by kernel_rfl) (by kernel_rfl) ?_; simp only [List.take_succ_cons, List.take_zero, List.drop_succ_cons, List.drop_zero]; (repeat still_step); refine wpStill_nil ?_)
      go_wp2_with (at_builtin; refine wpList_append_by (by rfl) (.tmp 42) (.tmp 59) 22 (by rfl) _ _ (by rfl) (by rfl) (hr' _) ?_)
      go_ret
      exact HPO.out
  · have t1 : ((y : Int) != 65535) = true := by simp; omega
    have HY := zHi hy1; clear hy1; go_upto_region 3 with (fail)
    (go_quiet (fail))
    go_wp2_with fail
    go_ret
    refine HFAIL.out _ (fun _ => .inr (.inl fun q => ?_)) HAA.out
    rw [← HP.out, ← HV.out.2.1, ← HV.out.2.2.1] at q; exact HY.out (HX.out.2.2.1.2 q)
theorem append_oneR (w : World) (N0 : Nat) (v : Value) (l : List UInt8) (hrow : Own w N0 v l) (x : UInt8) (hle : l.length + 1 ≤ 140737488355328) (hbase : N0 ≤ w.heap.size) :
 ∃ b c w', (∀ ty, (Builtin.append_ #[22, 22] ty #[v, .slice (some ⟨w.heap.size, 0, none⟩) 1 1]).run Tryz.prog (w.alloc (.cells #[byteV x] 5)) = .ok (.slice b (l.length + 1) c) w') ∧ Own w' N0 (.slice b (l.length + 1) c) (l ++ [x]) ∧ Frm (fun b _ => v.ownBlock = some b) w w' ∧ Grw w v (.slice b (l.length + 1) c) := by
 have hf : Frm (fun _ _ => False) w (w.alloc (.cells #[byteV x] 5)) := (Frm.refl _ _).alloc _
 obtain ⟨v', w', hr, ho, hfr, hg⟩ := append_bytes (w.alloc (.cells #[byteV x] 5)) N0 v l (hrow.keep hf (fun _ _ _ e => e)) ⟨w.heap.size, 0, none⟩ rfl 1 [x] (fun j hj => by
  have : j = 0 := by simp at hj; omega
  subst this; exact (cells_at (heap_alloc_new w _)).trans rfl) (by simpa using hle) (Nat.le_trans hbase hf.size)
 obtain ⟨b, c, rfl, _⟩ := ho.bytes
 simp only [List.length_append, List.length_cons, List.length_nil, Nat.zero_add] at ho hr
 refine ⟨b, c, w', hr, ho, (hf.mono fun _ _ e => e.elim).trans' hfr (fun _ _ _ q => q), ?_⟩
 rcases hg with e | e
 · exact .inl (Eq.trans (by cases b <;> rfl) e)
 · exact .inr ⟨_, Eq.trans (by cases b <;> rfl) e, hf.size⟩
theorem own_map_ne {w : World} {N0 M j : Nat} {v : Value} {l : List UInt8} {lens : List Nat} (h : Own w N0 v l) (hM : CMap w M lens j) : v.ownBlock ≠ some M := by
 intro e
 obtain ⟨D, ⟨es, clock, hb, _⟩, _⟩ := hM
 rcases h.own.2 with ⟨rfl, _⟩ | ⟨g, cap, cur, rfl, _, hg, _⟩
 · simp [Value.ownBlock] at e
 · obtain rfl : g = M := Option.some.inj e; rw [hb] at hg; simp at hg
structure BkS (w : World) (N0 B : Nat) (sb : Option Addr) (src : List UInt8) (sc : Nat) (v : Value) (wr : World) (v1 : Value) (H1 : List UInt8) (a1 : Nat) (f1 : Bool) : Prop where
 own : Own wr N0 v1 H1
 rr : Rr wr B sb src sc a1 f1
 grw : Grw w v v1
 frm : Frm (SOw v B) w wr
 few : H1.length ≤ 32768 + 258 * a1
section
variable {w : World} {N0 B : Nat} {sb : Option Addr} {src : List UInt8} {sc : Nat} {v : Value} {wr : World} {v1 : Value} {H1 : List UInt8} {a1 : Nat} {f1 : Bool}
theorem BkS.bits (h : BkS w N0 B sb src sc v wr v1 H1 a1 f1) (hB : B < N0) {w2 : World} {a2 : Nat} {f2 : Bool} (hr : Rr w2 B sb src sc a2 f2) (ha : a1 ≤ a2) (hf : Frm (fun b _ => b = B) wr w2) : BkS w N0 B sb src sc v w2 v1 H1 a2 f2 :=
 ⟨h.own.keep hf (fun g o hg e => by have := (h.own.lt g hg).1; omega), hr, h.grw, frm_SOw_trans h.frm h.grw (frm_SOw_B hf), by have := h.few; omega⟩
theorem BkS.ret (h : BkS w N0 B sb src sc v wr v1 H1 a1 f1) {R : List UInt8 → Nat → Bool → Prop} (hR : R H1 a1 f1) : HsPost w N0 B sb src sc v R (.returned v1) wr :=
 ⟨v1, H1, a1, f1, rfl, h.own, h.rr, h.grw, h.frm, h.few, hR⟩
theorem BkS.fail (h : BkS w N0 B sb src sc v wr v1 H1 a1 f1) (hB : B < N0) : BkS w N0 B sb src sc v (wr.setCell ⟨B, 2, none⟩ (.bool true)) v1 H1 a1 true := by
 obtain ⟨g1, g2⟩ := h.rr.set_fail true
 exact h.bits hB g1 (Nat.le_refl _) (g2.mono fun b o e => e.1)
theorem BkS.app (h : BkS w N0 B sb src sc v wr v1 H1 a1 f1) (hB : B < N0) (hsb : ∀ x, sb = some x → x.block < N0) {w2 : World} {v2 : Value} {H2 : List UInt8} (ho : Own w2 N0 v2 H2) (hf : Frm (fun b _ => v1.ownBlock = some b) wr w2) (hg : Grw wr v1 v2) {a2 : Nat} (ha : a1 = a2) (hl : H2.length ≤ 32768 + 258 * a2) : BkS w N0 B sb src sc v w2 v2 H2 a2 f1 := by
 subst ha
 exact ⟨ho, h.rr.keepO hf (fun g hg => (h.own.lt g hg).1) hB hsb, h.grw.trans hg h.frm.size, frm_SOw_trans h.frm h.grw (hf.mono fun b o e => .inr e), hl⟩
end
def BkRel (src : List UInt8) (ll dl : List Nat) (a : Nat) (f : Bool) (H H' : List UInt8) (a' : Nat) (f' : Bool) : Prop :=
 (f = true → f' = true) ∧ (f = false → f' = false ∧ Full ll ∧ Full dl ∧ SpRun src ll dl a H (some (a', H')) ∨ f' = true ∧ (Full ll → Full dl → SpRun src ll dl a H none))
def BkInv (w : World) (N0 B : Nat) (sb : Option Addr) (src : List UInt8) (sc : Nat) (v : Value) (M1 M2 : Nat) (ll dl : List Nat) (a : Nat) (f : Bool) (H : List UInt8) (g : Nat) (v1 : Value) (wr : World) : Prop :=
 ∃ H1 a1 f1 b m c, g = 8 * src.length + 1 - a1 ∧ v1 = .slice b m c ∧ m = H1.length ∧ BkS w N0 B sb src sc v wr v1 H1 a1 f1 ∧ CMap wr M1 ll ll.length ∧ CMap wr M2 dl dl.length ∧
  (f1 = true ∧ (f = true ∨ ¬ Full ll ∨ ¬ Full dl) ∨ f1 = false ∧ f = false ∧ Full ll ∧ Full dl ∧ ∀ R, SpRun src ll dl a1 H1 R → SpRun src ll dl a H R)
def CpInv (w : World) (N0 B : Nat) (sb : Option Addr) (src : List UInt8) (sc : Nat) (v : Value) (M1 M2 : Nat) (ll dl : List Nat) (a5 : Nat) (H1 : List UInt8) (far long : Nat) (g : Nat) (v1 i : Value) (wr : World) : Prop :=
 ∃ j b m c, j ≤ long ∧ g = long - j ∧ i = .int .i64 (j : Int) ∧ v1 = .slice b m c ∧ m = H1.length + j ∧ BkS w N0 B sb src sc v wr v1 (lz H1 far j) a5 false ∧ CMap wr M1 ll ll.length ∧ CMap wr M2 dl dl.length
set_option maxHeartbeats 8000000 in
theorem rblock_any (w : World) (N0 B : Nat) (sb : Option Addr) (src : List UInt8) (sc a : Nat) (f : Bool) (h : Rr w B sb src sc a f) (hB : B < N0) (hN : N0 ≤ w.heap.size) (hsb : ∀ x, sb = some x → x.block < N0) (hsl : src.length ≤ 2147483647) (v : Value) (H : List UInt8) (ho : Own w N0 v H) (hH : H.length ≤ 32768 + 258 * a)
 (lb : Option Addr) (ll : List Nat) (lc : Nat) (hnl : NtO w lb ll) (hl15 : ∀ n ∈ ll, n ≤ 15) (hll : ll.length ≤ 320) (db : Option Addr) (dl : List Nat) (dc : Nat) (hnd : NtO w db dl) (hd15 : ∀ n ∈ dl, n ≤ 15) (hdl : dl.length ≤ 320) :
 Calls Tryz.prog 37 #[.pointer (some ⟨B, 0, none⟩), v, .slice lb ll.length lc, .slice db dl.length dc] w (HsPost w N0 B sb src sc v (BkRel src ll dl a f H)) := by
 have HNC1 := zHi (newCode_any w lb ll lc hnl hl15 hll)
 have HK1 := zHi (fun hF => full_kraft hl15 hll hF)
 have HK2 := zHi (fun hF => full_kraft hd15 hdl hF)
 have HA := zHi (zAi hB (zAi hN (zAi hsb (zAi hsl (zAi ho (zAi hH h))))))
 have HD := zHi (zAi hnd (zAi hd15 (zAi hll hdl)))
 clear h hB hN hsb hsl ho hH hnl hl15 hll hnd hd15 hdl
 obtain ⟨n1, hn1⟩ : ∃ n1, n1 = ll.length := ⟨_, rfl⟩
 obtain ⟨n2, hn2⟩ : ∃ n2, n2 = dl.length := ⟨_, rfl⟩
 have HN := zHi (zAi hn1 hn2)
 rw [← hn1] at HNC1 ⊢
 rw [← hn2]
 clear hn1 hn2
 go_enter Tryz.func37, Tryz.ntmps37
 go_wp2_with fail
 refine HNC1.out.mono ?_
 rintro e w1 ⟨M1, full1, rfl, hfu1, hm1, hM1, hf1⟩
 have hnc2 := newCode_any w1 db dl dc (HD.out.1.keep hf1 (fun _ _ _ _ e => e)) HD.out.2.1 HD.out.2.2.2
 rw [← HN.out.2] at hnc2
 have HNC2 := zHi hnc2
 have H1 := zHi (zAi hfu1 (zAi hm1 (zAi hM1 hf1)))
 clear hfu1 hm1 hM1 hf1 hnc2 HNC1
 go_wp2_with fail
 refine HNC2.out.mono ?_
 rintro e w2 ⟨M2, full2, rfl, hfu2, hm2, hM2, hf2⟩
 obtain ⟨hfu1, hm1, hM1, hf1⟩ := H1.out
 have hm1' := hm1.keep hf2 (fun _ e => e)
 have hf02 := hf1.trans hf2
 have hBM1 : M1 ≠ B := by have := HA.out.1; have := HA.out.2.1; omega
 have hBM2 : M2 ≠ B := by have := HA.out.1; have := HA.out.2.1; have := hf1.size; omega
 have hr2 : Rr w2 B sb src sc a f := HA.out.2.2.2.2.2.2.keep hf02 (fun _ e => e) (fun _ _ _ e => e)
 have hs2 : BkS w N0 B sb src sc v w2 v H a f := ⟨HA.out.2.2.2.2.1.keep hf02 (fun _ _ _ e => e), hr2, Grw.refl _ _, hf02.mono fun _ _ e => e.elim, HA.out.2.2.2.2.2.1⟩
 have HM := zHi (zAi hfu1 (zAi hfu2 (zAi hm1' (zAi hm2 (zAi hBM1 (zAi hBM2 hs2))))))
 clear hfu1 hm1 hM1 hf1 hfu2 hm2 hM2 hf2 hm1' hf02 hBM1 hBM2 hr2 hs2 HNC2 H1
 go_upto_region 3 with (fail)
 go_cut [34] (fun c wq => c = .bool (!(full1 && full2)) ∧ w2 = wq)
 case first =>
  cases full1 <;> cases full2
  all_goals
   go_wp2_with fail
   go_meet
   case rel => exact ⟨rfl, rfl⟩
 case rest =>
 obtain ⟨rfl, rfl⟩ := hcut
 apply_assumption
 go_upto_if 34 with (fail)
 go_cut [35] (fun _ wq => ∃ f1, BkS w N0 B sb src sc v wq v H a f1 ∧ CMap wq M1 ll ll.length ∧ CMap wq M2 dl dl.length ∧ (f1 = true ∧ (f = true ∨ ¬ Full ll ∨ ¬ Full dl) ∨ f1 = false ∧ f = false ∧ Full ll ∧ Full dl))
 case first =>
  obtain ⟨hfu1, hfu2, hm1, hm2, hBM1, hBM2, hs2⟩ := HM.out
  by_cases hff : full1 = true ∧ full2 = true
  · have e1 := hff.1; have e2 := hff.2; subst e1 e2; have hrel : ∃ f1, BkS w N0 B sb src sc v w2 v H a f1 ∧ CMap w2 M1 ll ll.length ∧ CMap w2 M2 dl dl.length ∧ (f1 = true ∧ (f = true ∨ ¬ Full ll ∨ ¬ Full dl) ∨ f1 = false ∧ f = false ∧ Full ll ∧ Full dl) := by
     refine ⟨f, hs2, hm1, hm2, ?_⟩
     cases f with
     | true => exact .inl ⟨rfl, .inl rfl⟩
     | false => exact .inr ⟨rfl, rfl, hfu1.1 rfl, hfu2.1 rfl⟩
    have HX := zHi hrel; clear hfu1 hfu2 hm1 hm2 hBM1 hBM2 hs2 hff hrel; go_wp2_with fail
    go_meet
    case rel => exact HX.out
  · have hnot : ¬ Full ll ∨ ¬ Full dl := by
     by_cases h1 : full1 = true
     · exact .inr (fun q => hff ⟨h1, hfu2.2 q⟩)
     · exact .inl (fun q => h1 (hfu1.2 q))
    have hb : (!(full1 && full2)) = true := by
     cases full1 <;> cases full2 <;> first | rfl | exact absurd ⟨rfl, rfl⟩ hff
    have hs3 := hs2.fail HA.out.1; obtain ⟨_, g2⟩ := hs2.rr.set_fail true; have hrel : ∃ f1, BkS w N0 B sb src sc v (w2.setCell ⟨B, 2, none⟩ (.bool true)) v H a f1 ∧ CMap (w2.setCell ⟨B, 2, none⟩ (.bool true)) M1 ll ll.length ∧ CMap (w2.setCell ⟨B, 2, none⟩ (.bool true)) M2 dl dl.length ∧ (f1 = true ∧ (f = true ∨ ¬ Full ll ∨ ¬ Full dl) ∨ f1 = false ∧ f = false ∧ Full ll ∧ Full dl) :=
     ⟨true, hs3, hm1.keep g2 (fun o e => hBM1 e.1), hm2.keep g2 (fun o e => hBM2 e.1), .inl ⟨rfl, .inr hnot⟩⟩
    have p2 := hs2.rr.c2; have q2 := hs2.rr.fr 2; have HX := zHi hrel; rw [hb]; clear hfu1 hfu2 hm1 hm2 hBM1 hBM2 hs2 hff hrel hnot hb hs3 g2; go_wp2_with fail
    go_meet
    case rel => exact HX.out
 case rest =>
 obtain ⟨f1, hs1, hm1, hm2, hcase⟩ := hcut
 have HS1 := zHi (zAi hs1 (zAi hm1 (zAi hm2 hcase)))
 have hMB := zAi HM.out.2.2.2.2.1 HM.out.2.2.2.2.2.1
 have HMB := zHi hMB
 clear hs1 hm1 hm2 hcase HM hMB
 apply_assumption
 go_wp2_with fail
 go_loopg [1] (8 * src.length + 1 - a) (fun g v1 wr => BkInv w N0 B sb src sc v M1 M2 ll dl a f H g v1 wr)
 case atStart =>
  obtain ⟨hs1, hm1, hm2, hcase⟩ := HS1.out; obtain ⟨b, c, hv, _⟩ := hs1.own.bytes; refine ⟨H, a, f1, b, H.length, c, rfl, hv, rfl, hs1, hm1, hm2, ?_⟩; rcases hcase with h | ⟨h1, h2, h3, h4⟩
  · exact .inl h
  · exact .inr ⟨h1, h2, h3, h4, fun R h => h⟩
 case round =>
  obtain ⟨H1, a1, f2, b, m, c, hg, rfl, hm, hs, hm1, hm2, hcase⟩ := hrel; have p2 := hs.rr.c2; rcases hcase with ⟨rfl, hc⟩ | ⟨rfl, rfl, hF1, hF2, hrun⟩
  · have hret : HsPost w N0 B sb src sc v (BkRel src ll dl a f H) (.returned (.slice b m c)) wr := hs.ret ⟨fun _ => rfl, fun e => .inr ⟨rfl, fun q1 q2 => by
     rcases hc with h | h | h
     · rw [e] at h; simp at h
     · exact absurd q1 h
     · exact absurd q2 h⟩⟩
    have HX := zHi hret; clear hret hs hm1 hm2 hc hg hm HS1; go_wp2_with fail
    go_ret
    exact HX.out
  · have HSY := zHi (rsymbol_any wr B sb src sc a1 false hs.rr M1 ll hm1 HMB.out.1 (HK1.out hF1) HD.out.2.2.1); have HR := zHi (zAi hg (zAi hm (zAi hs (zAi hm1 (zAi hm2 (zAi hF1 (zAi hF2 hrun))))))); clear hg hm hs hm1 hm2 hF1 hF2 hrun HS1; go_wp2_with fail
    refine HSY.out.mono ?_; rintro e w3 ⟨s, a2, f3, rfl, hr3, hsym, hf3⟩; obtain ⟨hg, hm, hs, hm1, hm2, hF1, hF2, hrun⟩ := HR.out; have hs3 := hs.bits HA.out.1 hr3 hsym.1 hf3; have hm13 := hm1.keep hf3 (fun _ e => HMB.out.1 e)
    have hm23 := hm2.keep hf3 (fun _ e => HMB.out.2 e)
    have p2 := hr3.c2; rcases hsym.2.2 with ⟨rfl, rfl, hno⟩ | ⟨rfl, _, hso, hsl3, hs0, ha2⟩
    · have hno' : symS ll src a1 = none := by
       rcases hno with h | h
       · simp at h
       · exact h
      have hret : HsPost w N0 B sb src sc v (BkRel src ll dl a false H) (.returned (.slice b m c)) w3 := hs3.ret ⟨fun _ => rfl, fun _ => .inr ⟨rfl, fun _ _ => hrun _ (.fail (step_none hno'))⟩⟩
      have HX := zHi hret; clear hg hm hs hm1 hm2 hF1 hF2 hrun hs3 hm13 hm23 hr3 hsym hf3 hno hno' hret; go_wp2_with fail
      go_ret
      exact HX.out
    · have hsle : s < 320 := by have := HD.out.2.2.1; omega
      have c1 : (s : Int) ≤ 319 := by omega
      by_cases h256 : s = 256
      · subst h256; have hret : HsPost w N0 B sb src sc v (BkRel src ll dl a false H) (.returned (.slice b m c)) w3 := hs3.ret ⟨fun e => by simp at e, fun _ => .inl ⟨rfl, hF1, hF2, hrun _ (by rw [ha2]; exact .fin (Flate.step_end hso))⟩⟩
        have HX := zHi hret; clear hg hm hs hm1 hm2 hF1 hF2 hrun hs3 hm13 hm23 hr3 hsym hf3 hso hsl3 hs0 ha2 hsle hret; go_wp2_with fail
        go_ret
        exact HX.out
      · have t1 : ((s : Int) == 256) = false := by simp; omega
        by_cases hlit : s < 256
        · have t2 : decide ((s : Int) < 256) = true := by simp; omega
          have hbnd := hs3.rr.at_; have hsl' := HA.out.2.2.2.1; have hfew := hs3.few; obtain ⟨b', c', w4, hrun4, hown4, hfr4, hgw4⟩ := append_oneR w3 N0 _ _ hs3.own (UInt8.ofNat s) (by omega) (Nat.le_trans HA.out.2.1 hs3.frm.size)
          have hfew' := hs.few; have hs4 := hs3.app HA.out.1 HA.out.2.2.1 hown4 hfr4 hgw4 (a2 := a2) rfl (by rw [List.length_append]; simp only [List.length_cons, List.length_nil]; omega)
          have eb : byteV (UInt8.ofNat s) = .int .u8 (s : Int) := by simp only [byteV]; congr 1; simp; omega
          obtain ⟨m', hm'⟩ : ∃ m', m' = H1.length + 1 := ⟨_, rfl⟩; rw [← hm', eb] at hrun4; rw [← hm'] at hs4; have hm14 := hm13.keep hfr4 (fun _ e => own_map_ne hs3.own hm13 e)
          have hm24 := hm23.keep hfr4 (fun _ e => own_map_ne hs3.own hm23 e)
          have hr := fun ty => hrun4 ty
          have c2 : (s : Int) ≤ 255 := by omega
          have hrun' : ∀ R, SpRun src ll dl a2 (H1 ++ [UInt8.ofNat s]) R → SpRun src ll dl a H R := fun R h => hrun R (.go (a' := a2) (H' := H1 ++ [UInt8.ofNat s]) (by rw [ha2]; exact step_lit hso hlit) h)
          have hmes : a1 < a2 := by omega
          have HX := zHi (zAi hs4 (zAi hm14 (zAi hm24 (zAi hrun' (zAi hmes (zAi hm' (zAi hF1 (zAi hF2 (zAi hg hbnd))))))))); clear hg hm hs hm1 hm2 hF1 hF2 hrun hs3 hm13 hm23 hr3 hsym hf3 hso hsl3 hs0 ha2 hsle h256 hlit hbnd hsl' hfew hrun4 hown4 hfr4 hgw4 hfew' hs4 eb hm' hm14 hm24 hrun' hmes; go_wp2_with (at_builtin; refine wpList_append_by (by rfl) (.tmp 59) (.tmp 62) 22 (by rfl) _ _ (by rfl) (by rfl) (hr _) ?_)
          clear hr; go_roundg (8 * src.length + 1 - a2)
          case measure => have := HX.out.2.2.2.2.1; have := HX.out.2.2.2.2.2.2.2.2; omega
          case rel =>
           obtain ⟨hs4, hm14, hm24, hrun', hmes, hm', hF1, hF2, _⟩ := HX.out; exact ⟨_, a2, false, b', m', c', rfl, rfl, by rw [hm']; simp, hs4, hm14, hm24, .inr ⟨rfl, rfl, hF1, hF2, hrun'⟩⟩
        · have t2 : decide ((s : Int) < 256) = false := by simp; omega
          by_cases hbig : 285 < s
          · have t3 : decide ((285 : Int) < (s : Int)) = true := by simp; omega
            have t3' : 285 < s := hbig; have hret : HsPost w N0 B sb src sc v (BkRel src ll dl a false H) (.returned (.slice b m c)) (w3.setCell ⟨B, 2, none⟩ (.bool true)) := (hs3.fail HA.out.1).ret ⟨fun _ => rfl, fun _ => .inr ⟨rfl, fun _ _ => hrun _ (.fail (step_big hso hbig))⟩⟩
            have q2 := hr3.fr 2; have HX := zHi hret; clear hg hm hs hm1 hm2 hF1 hF2 hrun hs3 hm13 hm23 hr3 hsym hf3 hso hsl3 hs0 ha2 hsle h256 hlit hbig hret; go_wp2_with fail
            go_ret
            exact HX.out
          · have t3 : decide ((285 : Int) < (s : Int)) = false := by simp; omega
            obtain ⟨hlo, hb1, hb2, hb3⟩ := lenOf_goLen (s := s) (by omega) (by omega)
            have hlen := lengthOf_any w3 s (by omega) (by omega)
            have hstep : ∀ H2, spStep src ll dl a1 H2 = match spPair src dl s a2 with
             | none => .fail
             | some (n, f, a') => if H2.length < f then .fail else .go a' (lz H2 f n) := fun H2 => by rw [ha2]; exact step_pair hso (by omega)
            have hmes : a1 < a2 := by omega
            obtain ⟨gq, hgq⟩ : ∃ gq, gq = goLen s := ⟨_, rfl⟩; rw [← hgq] at hlo hb1 hb2 hb3 hlen; obtain ⟨lbs, lx⟩ := gq; simp only at hb1 hb2 hb3 hlen; have HLEN := zHi hlen; have HBT := zHi (rbits_any w3 B sb src sc a2 false hr3 lx (by omega))
            have c3 : (lx : Int) ≤ 5 := by omega
            have c4 : (lbs : Int) ≤ 258 := by have := Nat.two_pow_pos lx; omega
            have h3c : (3 : Int) ≤ (lbs : Int) := by omega
            have c257 : (257 : Int) ≤ (s : Int) := by omega
            have c285 : (s : Int) ≤ 285 := by omega
            have hfew := hs.few; have HX := zHi (zAi hs3 (zAi hm13 (zAi hm23 (zAi hstep (zAi hmes (zAi hlo (zAi hb1 (zAi hrun (zAi hF1 (zAi hF2 (zAi hg (zAi hm hfew)))))))))))); clear hg hm hs hm1 hm2 hF1 hF2 hrun hs3 hm13 hm23 hr3 hsym hf3 hso hsl3 hs0 ha2 hsle h256 hlit hbig hlo hb1 hb2 hb3 hlen hstep hmes hgq hfew HSY; go_wp2_with fail
            refine HLEN.out.mono ?_; rintro e w4 ⟨rfl, rfl⟩; clear HLEN; go_wp2_with fail
            refine HBT.out.mono ?_; rintro e w4 ⟨x, a3, f3, rfl, hr4, hb4, hf4⟩; obtain ⟨hs3, hm13, hm23, hstep, hmes, hlo, hb1, hrun, hF1, hF2, hg, hm, hfew⟩ := HX.out; have hxl := hb4.lt; obtain ⟨long, hlong⟩ : ∃ long, long = lbs + x := ⟨_, rfl⟩; have e1 : (lbs : Int) + (x : Int) = (long : Int) := by omega
            have hlong2 : long ≤ 258 := by omega
            have c5 : (long : Int) ≤ 258 := by omega
            have c6 : (x : Int) ≤ 258 := by omega
            have hs4 := hs3.bits HA.out.1 hr4 hb4.ge hf4; have hm14 := hm13.keep hf4 (fun _ e => HMB.out.1 e)
            have hm24 := hm23.keep hf4 (fun _ e => HMB.out.2 e)
            have HSY2 := zHi (rsymbol_any w4 B sb src sc a3 f3 hr4 M2 dl hm24 HMB.out.2 (HK2.out hF2) HD.out.2.2.2); have HY := zHi (zAi hs4 (zAi hm14 (zAi hm24 (zAi hb4 (zAi hlong hlong2))))); clear hs3 hm13 hm23 hstep hmes hlo hb1 hrun hF1 hF2 hg hm hfew hr4 hb4 hf4 hxl hlong hlong2 hs4 hm14 hm24 HBT; go_wp2_with fail
            refine HSY2.out.mono ?_; rintro e w5 ⟨d, a4, f4, rfl, hr5, hsym5, hf5⟩; obtain ⟨hs3, hm13, hm23, hstep, hmes, hlo, hb1, hrun, hF1, hF2, hg, hm, hfew⟩ := HX.out; obtain ⟨hs4, hm14, hm24, hb4, hlong, hlong2⟩ := HY.out; have hs5 := hs4.bits HA.out.1 hr5 hsym5.1 hf5; have hm15 := hm14.keep hf5 (fun _ e => HMB.out.1 e)
            have hm25 := hm24.keep hf5 (fun _ e => HMB.out.2 e)
            have hps := pair_sym hlo hb4 hsym5; have hd320 : d < 320 := by
             rcases hsym5.2.2 with ⟨_, h, _⟩ | ⟨_, _, _, h, _⟩
             · omega
             · have := HD.out.2.2.2; omega
            have c7 : (d : Int) ≤ 319 := by omega
            have q2 := hr5.fr 2; have p2 := hr5.c2
            by_cases hd29 : 29 < d
            · have t4 : decide ((29 : Int) < (d : Int)) = true := by simp; omega
              have hnone : spPair src dl s a2 = none := by
               rcases hps with ⟨_, h0, _⟩ | ⟨_, _, _, _, _, hn⟩
               · omega
               · exact hn (distOf_none hd29)
              have hret : HsPost w N0 B sb src sc v (BkRel src ll dl a false H) (.returned (.slice b m c)) (w5.setCell ⟨B, 2, none⟩ (.bool true)) := (hs5.fail HA.out.1).ret ⟨fun _ => rfl, fun _ => .inr ⟨rfl, fun _ _ => hrun _ (.fail (by rw [hstep, hnone]))⟩⟩
              have HZ := zHi hret; clear hs3 hm13 hm23 hstep hmes hlo hb1 hrun hF1 hF2 hg hm hfew hs4 hm14 hm24 hb4 hlong hlong2 hs5 hm15 hm25 hps hd320 hd29 hnone hret hr5 hsym5 hf5; go_wp2_with fail
              go_ret
              exact HZ.out
            · have t4 : decide ((29 : Int) < (d : Int)) = false := by simp; omega
              have hdi := distanceOf_any w5 d (by omega)
              obtain ⟨hdo, hd1, hd2, hd3⟩ := distOf_goDist (d := d) (by omega)
              obtain ⟨gq, hgq⟩ : ∃ gq, gq = goDist d := ⟨_, rfl⟩; rw [← hgq] at hdo hd1 hd2 hd3 hdi; obtain ⟨dbs, dx⟩ := gq; simp only at hd1 hd2 hd3 hdi; have HDI := zHi hdi; have HBT2 := zHi (rbits_any w5 B sb src sc a4 f4 hr5 dx (by omega))
              have c8 : (dx : Int) ≤ 13 := by omega
              have c9 : (dbs : Int) ≤ 32768 := by have := Nat.two_pow_pos dx; omega
              have c10 : (1 : Int) ≤ (dbs : Int) := by omega
              have HW := zHi (zAi hs5 (zAi hm15 (zAi hm25 (zAi hsym5 (zAi hdo (zAi hd1 hd2)))))); clear hs3 hm13 hm23 hstep hmes hlo hb1 hrun hF1 hF2 hg hm hfew hs4 hm14 hm24 hb4 hlong hlong2 hs5 hm15 hm25 hps hd320 hd29 hdi hdo hd1 hd2 hd3 hgq hr5 hsym5 hf5 HSY2; go_wp2_with fail
              refine HDI.out.mono ?_; rintro e w6 ⟨rfl, rfl⟩; clear HDI; go_wp2_with fail
              refine HBT2.out.mono ?_; rintro e w6 ⟨y, a5, f5, rfl, hr6, hb6, hf6⟩; obtain ⟨hs3, hm13, hm23, hstep, hmes, hlo, hb1, hrun, hF1, hF2, hg, hm, hfew⟩ := HX.out; obtain ⟨hs4, hm14, hm24, hb4, hlong, hlong2⟩ := HY.out; obtain ⟨hs5, hm15, hm25, hsym5, hdo, hd1, hd2⟩ := HW.out; have hpa := Flate.pair_all hlo hb4 hsym5 hdo hb6; have hs6 := hs5.bits HA.out.1 hr6 hb6.ge hf6; have hm16 := hm15.keep hf6 (fun _ e => HMB.out.1 e)
              have hm26 := hm25.keep hf6 (fun _ e => HMB.out.2 e)
              have hyl := hb6.lt; obtain ⟨far, hfar⟩ : ∃ far, far = dbs + y := ⟨_, rfl⟩; rw [← hlong, ← hfar] at hpa; have e2 : (dbs : Int) + (y : Int) = (far : Int) := by omega
              have hfar1 : 1 ≤ far ∧ far ≤ 32768 := by omega
              have c11 : (far : Int) ≤ 32768 := by omega
              have c12 : (y : Int) ≤ 32768 := by omega
              have c13 : (1 : Int) ≤ (far : Int) := by omega
              have p2 := hr6.c2; have q2 := hr6.fr 2; have hage : a2 ≤ a5 := by have := hb4.ge; have := hsym5.1; have := hb6.ge; omega
              have ha5 := hr6.at_; have hmle : m ≤ 4432406282240 := by rw [hm]; have := hs6.few; have := HA.out.2.2.2.1; omega
              have c14 : (m : Int) ≤ 4432406282240 := by omega
              rcases hpa with ⟨rfl, hnone⟩ | ⟨rfl, hsome⟩
              · have hret : HsPost w N0 B sb src sc v (BkRel src ll dl a false H) (.returned (.slice b m c)) (w6.setCell ⟨B, 2, none⟩ (.bool true)) := (hs6.fail HA.out.1).ret ⟨fun _ => rfl, fun _ => .inr ⟨rfl, fun _ _ => hrun _ (.fail (by rw [hstep, hnone]))⟩⟩
                have HZ := zHi hret; clear hs3 hm13 hm23 hstep hmes hlo hb1 hrun hF1 hF2 hg hm hfew hs4 hm14 hm24 hb4 hlong hlong2 hs5 hm15 hm25 hsym5 hdo hd1 hd2 hs6 hm16 hm26 hyl hfar hfar1 hage ha5 hmle hnone hret hr6 hb6 hf6; go_wp2_with fail
                go_ret
                exact HZ.out
              · by_cases hgt : m < far
                · have t5 : decide ((m : Int) < (far : Int)) = true := by simp; omega
                  have hret : HsPost w N0 B sb src sc v (BkRel src ll dl a false H) (.returned (.slice b m c)) (w6.setCell ⟨B, 2, none⟩ (.bool true)) := (hs6.fail HA.out.1).ret ⟨fun _ => rfl, fun _ => .inr ⟨rfl, fun _ _ => hrun _ (.fail (by rw [hstep, hsome]; simp only; rw [if_pos (by omega)]))⟩⟩
                  have HZ := zHi hret; clear hs3 hm13 hm23 hstep hmes hlo hb1 hrun hF1 hF2 hg hm hfew hs4 hm14 hm24 hb4 hlong hlong2 hs5 hm15 hm25 hsym5 hdo hd1 hd2 hs6 hm16 hm26 hyl hfar hfar1 hage ha5 hmle hsome hret hr6 hb6 hf6; go_wp2_with fail
                  go_ret
                  exact HZ.out
                · have t5 : decide ((m : Int) < (far : Int)) = false := by simp; omega
                  have hrun' : ∀ R, SpRun src ll dl a5 (lz H1 far long) R → SpRun src ll dl a H R := fun R h => hrun R (.go (a' := a5) (H' := lz H1 far long) (by rw [hstep, hsome]; simp only; rw [if_neg (by omega)]) h)
                  have HZ := zHi (zAi hs6 (zAi hm16 (zAi hm26 (zAi hrun' (zAi hage (zAi hfar1 (zAi hlong2 (zAi ha5 hgt)))))))); clear hs3 hm13 hm23 hstep hmes hlo hb1 hrun hF1 hF2 hg hm hfew hs4 hm14 hm24 hb4 hlong hlong2 hs5 hm15 hm25 hsym5 hdo hd1 hd2 hs6 hm16 hm26 hyl hfar hfar1 hage ha5 hsome hrun' hr6 hb6 hf6; go_wp2_with fail
                  go_loopg [1, 115] long (fun g v1 i wq => CpInv w N0 B sb src sc v M1 M2 ll dl a5 H1 far long g v1 i wq)
                  case atStart => exact ⟨0, b, m, c, Nat.zero_le _, rfl, rfl, rfl, HX.out.2.2.2.2.2.2.2.2.2.2.2.1, by rw [lz_zero]; exact HZ.out.1, HZ.out.2.1, HZ.out.2.2.1⟩
                  case round =>
                   obtain ⟨j, b2, m2, c2, hj, hgj, rfl, rfl, hmj, hsj, hmj1, hmj2⟩ := hrel
                   by_cases hltj : j < long
                   · obtain ⟨_, _, _, hrun', hage, hfar1, hlong2, ha5, hgt⟩ := HZ.out; obtain ⟨_, _, _, _, hmes, _, _, _, _, _, _, hm, hfew⟩ := HX.out; have hsl2 := HA.out.2.2.2.1; obtain ⟨ix, hix⟩ : ∃ ix, ix = m2 - far := ⟨_, rfl⟩; have e3 : (m2 : Int) - (far : Int) = (ix : Int) := by omega
                     have hll : (lz H1 far j).length = m2 := by rw [lz_length, hmj]
                     have hixl : ix < (lz H1 far j).length := by omega
                     obtain ⟨gg, cp, hv, _, _, _, hcell, _⟩ := Row.at hsj.own hixl; have hb' : b2 = some ⟨gg, 0, none⟩ := by injection hv
                     subst hb'; simp only [List.getElem_map] at hcell; obtain ⟨xx, hxx⟩ : ∃ x, x = (lz H1 far j)[ix] := ⟨_, rfl⟩; rw [← hxx] at hcell; obtain ⟨xn, hxn⟩ : ∃ xn, xn = xx.toNat := ⟨_, rfl⟩; replace hcell : wr.cell? ⟨gg, ix, none⟩ = some (.int .u8 (xn : Int)) := by rw [hxn]; exact hcell
                     have hidx : ix < m2 := by omega
                     have hm2le : m2 ≤ 4432406282498 := by omega
                     have c15 : (m2 : Int) ≤ 4432406282498 := by omega
                     have c16 : (ix : Int) < (m2 : Int) := by omega
                     obtain ⟨b3, c3', w8, hrun8, hown8, hfr8, hgw8⟩ := append_oneR wr N0 _ _ hsj.own xx (by omega) (Nat.le_trans HA.out.2.1 hsj.frm.size)
                     have eb : byteV xx = .int .u8 (xn : Int) := by simp only [byteV]; rw [hxn]
                     have elz : lz H1 far (j + 1) = lz H1 far j ++ [xx] := by
                      rw [lz_succ H1 far j hfar1.1 (by omega), hxx]
                      congr 2
                      rw [List.getD_eq_getElem?_getD, show H1.length + j - far = ix by omega, List.getElem?_eq_getElem hixl]; rfl
                     rw [← elz] at hown8; have hs8 := hsj.app HA.out.1 HA.out.2.2.1 hown8 hfr8 hgw8 (a2 := a5) rfl (by rw [lz_length]; omega)
                     obtain ⟨m3, hm3⟩ : ∃ m3, m3 = m2 + 1 := ⟨_, rfl⟩; rw [hll, ← hm3, eb] at hrun8; rw [hll, ← hm3] at hs8; have hk1 := hmj1.keep hfr8 (fun _ e => own_map_ne hsj.own hmj1 e)
                     have hk2 := hmj2.keep hfr8 (fun _ e => own_map_ne hsj.own hmj2 e)
                     have hr := fun ty => hrun8 ty
                     have HV := zHi (zAi hs8 (zAi hk1 (zAi hk2 (zAi hm3 (zAi hmj hgj))))); clear hrun' hage hfar1 hlong2 ha5 hgt hmes hm hfew hsl2 hix hll hixl hv hxx hxn hm2le hrun8 hown8 hfr8 hgw8 eb elz hs8 hm3 hk1 hk2 hsj hmj1 hmj2 hmj hgj hj; go_wp2_with (at_builtin; refine wpList_append_by (by rfl) (.tmp 117) (.tmp 125) 22 (by rfl) _ _ (by rfl) (by rfl) (hr _) ?_)
                     clear hr; go_roundg (long - (j + 1))
                     case measure => have := HV.out.2.2.2.2.2; omega
                     case rel =>
                      obtain ⟨hs8, hk1, hk2, hm3, hmj, hgj⟩ := HV.out; exact ⟨j + 1, b3, m3, c3', hltj, rfl, by go_num, rfl, by omega, hs8, hk1, hk2⟩
                   · obtain rfl : j = long := by omega
                     have hd : decide (j < j) = false := by simp
                     have HV := zHi (zAi hsj (zAi hmj1 (zAi hmj2 hmj))); clear hsj hmj1 hmj2 hmj hgj hltj hj; go_wp2_with fail
                     go_roundg (8 * src.length + 1 - a5)
                     case measure =>
                      have h1 := HX.out.2.2.2.2.1; have h2 := HX.out.2.2.2.2.2.2.2.2.2.2.1; have h3 := HZ.out.2.2.2.2.1; have h4 := HZ.out.2.2.2.2.2.2.2.1; omega
                     case rel =>
                      obtain ⟨hsj, hmj1, hmj2, hmj⟩ := HV.out; obtain ⟨_, _, _, _, _, _, _, _, hF1, hF2, _, _, _⟩ := HX.out; exact ⟨lz H1 far j, a5, false, b2, m2, c2, rfl, rfl, by rw [lz_length]; exact hmj, hsj, hmj1, hmj2, .inr ⟨rfl, rfl, hF1, hF2, HZ.out.2.2.2.1⟩⟩
end Go.Proofs.YthfncdfcklbigaaGreatDoor
namespace Flate
noncomputable def dyEnd (x : Nat) : Option (List Nat × Nat) → Option ((List Nat × List Nat) × Nat)
 | none => none
 | some (ls, a') => open Classical in if Full (ls.take (x + 257)) ∧ Full (ls.drop (x + 257)) then some ((ls.take (x + 257), ls.drop (x + 257)), a') else none
section
variable {src : List UInt8} {a : Nat} {f : Bool}
theorem spDyn_short (h : 8 * src.length < a + 14) : spDyn src a = none := by unfold spDyn; rw [if_pos h]
theorem spDyn_x (h : 29 < bv src a 5) : spDyn src a = none := by
 unfold spDyn
 by_cases h1 : 8 * src.length < a + 14
 · rw [if_pos h1]
 · rw [if_neg h1, if_pos h]
theorem spDyn_y (h : 29 < bv src (a + 5) 5) : spDyn src a = none := by
 by_cases h2 : 29 < bv src a 5
 · exact spDyn_x h2
 · unfold spDyn
   by_cases h1 : 8 * src.length < a + 14
   · rw [if_pos h1]
   · rw [if_neg h1, if_neg h2, if_pos h]
theorem spDyn_cut (h : 8 * src.length < a + 14 + 3 * (bv src (a + 10) 4 + 4)) : spDyn src a = none := by
 by_cases h2 : 29 < bv src a 5
 · exact spDyn_x h2
 · by_cases h3 : 29 < bv src (a + 5) 5
   · exact spDyn_y h3
   · unfold spDyn
     by_cases h1 : 8 * src.length < a + 14
     · rw [if_pos h1]
     · rw [if_neg h1, if_neg h2, if_neg h3, if_pos h]
theorem spDyn_not (h : ¬ Full (clens ((List.range (bv src (a + 10) 4 + 4)).map fun i => bv src (a + 14 + 3 * i) 3))) : spDyn src a = none := by
 by_cases h4 : 8 * src.length < a + 14 + 3 * (bv src (a + 10) 4 + 4)
 · exact spDyn_cut h4
 · by_cases h2 : 29 < bv src a 5
   · exact spDyn_x h2
   · by_cases h3 : 29 < bv src (a + 5) 5
     · exact spDyn_y h3
     · unfold spDyn; rw [if_neg (by omega), if_neg h2, if_neg h3, if_neg h4, if_pos h]
theorem spDyn_go (h1 : ¬ 29 < bv src a 5) (h2 : ¬ 29 < bv src (a + 5) 5) (h3 : ¬ 8 * src.length < a + 14 + 3 * (bv src (a + 10) 4 + 4)) (h : Full (clens ((List.range (bv src (a + 10) 4 + 4)).map fun i => bv src (a + 14 + 3 * i) 3))) :
 spDyn src a = dyEnd (bv src a 5) (spLens src (clens ((List.range (bv src (a + 10) 4 + 4)).map fun i => bv src (a + 14 + 3 * i) 3)) (bv src a 5 + 257 + (bv src (a + 5) 5 + 1)) 400 [] (a + 14 + 3 * (bv src (a + 10) 4 + 4))) := by
 unfold spDyn
 rw [if_neg (by omega), if_neg h1, if_neg h2, if_neg h3, if_neg (fun q => q h)]
 rfl
structure DyHd (src : List UInt8) (a : Nat) (f : Bool) (x y z a1 : Nat) (f1 : Bool) : Prop where
 xl : x < 32
 yl : y < 32
 zl : z < 16
 ge : a ≤ a1
 le : a1 ≤ 8 * src.length
 good : f1 = false → f = false ∧ a + 14 ≤ 8 * src.length ∧ x = bv src a 5 ∧ y = bv src (a + 5) 5 ∧ z = bv src (a + 10) 4 ∧ a1 = a + 14
 bad : f1 = true → f = true ∨ spDyn src a = none
theorem DyHd.of {x y z a1 a2 a3 : Nat} {f1 f2 f3 : Bool} (h1 : BitsR src 5 a f x a1 f1) (h2 : BitsR src 5 a1 f1 y a2 f2) (h3 : BitsR src 4 a2 f2 z a3 f3) : DyHd src a f x y z a3 f3 := by
 have l1 := h1.lt
 have l2 := h2.lt
 have l3 := h3.lt
 have g1 := h1.ge
 have g2 := h2.ge
 have g3 := h3.ge
 have key : f3 = true ∧ (f = true ∨ 8 * src.length < a + 14) ∨ f3 = false ∧ f = false ∧ a + 14 ≤ 8 * src.length ∧ x = bv src a 5 ∧ y = bv src (a + 5) 5 ∧ z = bv src (a + 10) 4 ∧ a3 = a + 14 := by
  cases f with
  | true =>
   have := h1.stays; subst this; have := h2.stays; subst this; exact .inl ⟨h3.stays, .inl rfl⟩
  | false =>
   rcases h1.cases with ⟨e1, k1, rfl, rfl⟩ | ⟨e1, k1⟩
   · subst e1; rcases h2.cases with ⟨e2, k2, rfl, rfl⟩ | ⟨e2, k2⟩
     · subst e2; rcases h3.cases with ⟨e3, k3, rfl, rfl⟩ | ⟨e3, k3⟩
       · exact .inr ⟨e3, rfl, by omega, rfl, rfl, by rw [Nat.add_assoc], by omega⟩
       · exact .inl ⟨e3, .inr (by omega)⟩
     · subst e2; exact .inl ⟨h3.stays, .inr (by omega)⟩
   · subst e1; have := h2.stays; subst this; exact .inl ⟨h3.stays, .inr (by omega)⟩
 refine ⟨l1, l2, l3, by omega, h3.le, fun e => ?_, fun e => ?_⟩
 · rcases key with ⟨q, _⟩ | ⟨_, q⟩
   · rw [e] at q; simp at q
   · exact q
 · rcases key with ⟨_, q⟩ | ⟨q, _⟩
   · exact q.imp id spDyn_short
   · rw [e] at q; simp at q
structure DyCl (src : List UInt8) (a : Nat) (f : Bool) (x y z : Nat) (vs : List Nat) (a1 : Nat) (f1 : Bool) : Prop where
 small : ∀ v ∈ vs, v < 8
 xl : x ≤ 29
 yl : y ≤ 29
 ge : a ≤ a1
 le : a1 ≤ 8 * src.length
 good : f1 = false → f = false ∧ x = bv src a 5 ∧ y = bv src (a + 5) 5 ∧ z = bv src (a + 10) 4 ∧ a1 = a + 14 + 3 * vs.length ∧ vs = (List.range vs.length).map fun i => bv src (a + 14 + 3 * i) 3
 bad : f1 = true → f = true ∨ spDyn src a = none
theorem DyHd.far {x y z a1 : Nat} (h : DyHd src a f x y z a1 false) (hx : 29 < x ∨ 29 < y) : f = false ∧ spDyn src a = none := by
 obtain ⟨h0, h1, rfl, rfl, _⟩ := h.good rfl
 exact ⟨h0, hx.elim spDyn_x spDyn_y⟩
theorem DyHd.start {x y z a1 : Nat} {f1 : Bool} (h : DyHd src a f x y z a1 f1) (hx : x ≤ 29) (hy : y ≤ 29) : DyCl src a f x y z [] a1 f1 :=
 ⟨fun v hv => by simp at hv, hx, hy, h.ge, h.le, fun e => by
  obtain ⟨h0, h1, h2, h3, h4, h5⟩ := h.good e; exact ⟨h0, h2, h3, h4, by simpa using h5, rfl⟩, h.bad⟩
theorem DyCl.step {x y z a1 a2 u : Nat} {vs : List Nat} {f1 f2 : Bool} (h : DyCl src a f x y z vs a1 f1) (hv : vs.length < z + 4) (g : BitsR src 3 a1 f1 u a2 f2) : DyCl src a f x y z (vs ++ [u]) a2 f2 := by
 have l1 := g.lt
 have g1 := g.ge
 have h1 := h.ge
 refine ⟨fun v hv => ?_, h.xl, h.yl, by omega, g.le, fun e => ?_, fun e => ?_⟩
 · rcases List.mem_append.1 hv with q | q
   · exact h.small v q
   · obtain rfl := List.mem_singleton.1 q; exact l1
 · subst e
   cases f1 with
   | true => exact absurd g.stays (by simp)
   | false =>
    obtain ⟨p1, p2, p3, p4, p5, p6⟩ := h.good rfl; rcases g.cases with ⟨_, k, rfl, rfl⟩ | ⟨q, _⟩
    · refine ⟨p1, p2, p3, p4, by rw [List.length_append, List.length_singleton]; omega, ?_⟩
      rw [List.length_append, List.length_singleton, List.range_succ, List.map_append, ← p6, List.map_singleton, p5]
    · simp at q
 · subst e
   cases f1 with
   | true => exact h.bad rfl
   | false =>
    obtain ⟨p1, p2, p3, p4, p5, p6⟩ := h.good rfl; rcases g.cases with ⟨q, _⟩ | ⟨_, q⟩
    · simp at q
    · exact .inr (spDyn_cut (by omega))
theorem clens_snoc (vs : List Nat) (u : Nat) (h : vs.length < 19) : clens (vs ++ [u]) = (clens vs).set (clOrder.getD vs.length 0) u := by
 have hol : clOrder.length = 19 := by decide
 have hx : clOrder[vs.length]? = some (clOrder.getD vs.length 0) := by
  rw [List.getD_eq_getElem?_getD, List.getElem?_eq_getElem (by omega)]; rfl
 have hlt : clOrder.getD vs.length 0 < 19 := by
  have : ∀ i : Fin 19, clOrder.getD i.1 0 < 19 := by decide +kernel
  exact this ⟨vs.length, h⟩
 have hid : ∀ i : Fin 19, clOrder.idxOf (clOrder.getD i.1 0) = i.1 := by decide +kernel
 have hid2 : ∀ s : Fin 19, clOrder.getD (clOrder.idxOf s.1) 0 = s.1 := by decide +kernel
 refine List.ext_getElem? fun s => ?_
 unfold clens
 rw [List.getElem?_set]
 by_cases hs : s < 19
 · have e1 : ∀ l : List Nat, ((List.range 19).map fun s => l.getD (clOrder.idxOf s) 0)[s]? = some (l.getD (clOrder.idxOf s) 0) := fun l => by
    rw [List.getElem?_map, List.getElem?_range hs]; rfl
   rw [e1, e1]
   by_cases e : clOrder.getD vs.length 0 = s
   · rw [if_pos e, if_pos (by rw [List.length_map, List.length_range]; exact hlt)]
     have := hid ⟨vs.length, h⟩; simp only at this; rw [← e, this, List.getD_eq_getElem?_getD, List.getElem?_append_right (Nat.le_refl _)]; simp
   · rw [if_neg e]; have hne : clOrder.idxOf s ≠ vs.length := fun q => e (by rw [← q]; exact hid2 ⟨s, hs⟩)
     congr 1
     rw [List.getD_eq_getElem?_getD, List.getD_eq_getElem?_getD]
     by_cases hl : clOrder.idxOf s < vs.length
     · rw [List.getElem?_append_left hl]
     · rw [List.getElem?_eq_none (l := vs) (by omega), List.getElem?_eq_none (l := vs ++ [u]) (by simp; omega)]
 · rw [List.getElem?_eq_none (by simp; omega), if_neg (by omega), List.getElem?_eq_none (by simp; omega)]
theorem clens_nil : clens [] = List.replicate 19 0 := by decide +kernel
theorem clens_len (vs : List Nat) : (clens vs).length = 19 := by simp [clens]
theorem clens_small (vs : List Nat) (m : Nat) (h : ∀ v ∈ vs, v ≤ m) : ∀ v ∈ clens vs, v ≤ m := by
 intro v hv
 obtain ⟨s, _, rfl⟩ := List.mem_map.1 hv
 rw [List.getD_eq_getElem?_getD]
 cases he : vs[clOrder.idxOf s]? with
 | none => simp
 | some y => exact h y (List.mem_of_getElem? he)
structure DyLn (src : List UInt8) (a : Nat) (f : Bool) (x y : Nat) (vs acc : List Nat) (a1 : Nat) (f1 : Bool) : Prop where
 small : ∀ v ∈ acc, v ≤ 15
 xl : x ≤ 29
 yl : y ≤ 29
 ge : a ≤ a1
 le : a1 ≤ 8 * src.length
 good : f1 = false → f = false ∧ Full (clens vs) ∧ (x + 257 + (y + 1) < acc.length ∧ spDyn src a = none ∨ acc.length ≤ x + 257 + (y + 1) ∧ ∃ fu, 400 ≤ fu + acc.length ∧ spDyn src a = dyEnd x (spLens src (clens vs) (x + 257 + (y + 1)) fu acc a1))
 bad : f1 = true → f = true ∨ spDyn src a = none
theorem DyCl.go {x y z a1 : Nat} {vs : List Nat} {f1 : Bool} (h : DyCl src a f x y z vs a1 f1) (hv : vs.length = z + 4) (hF : Full (clens vs)) : DyLn src a f x y vs [] a1 f1 := by
 refine ⟨fun v hv => by simp at hv, h.xl, h.yl, h.ge, h.le, fun e => ?_, h.bad⟩
 obtain ⟨p1, p2, p3, p4, p5, p6⟩ := h.good e
 have h29 := h.xl
 have y29 := h.yl
 have hle := h.le
 have e4 : vs.length = bv src (a + 10) 4 + 4 := by omega
 refine ⟨p1, hF, .inr ⟨by simp, 400, by simp, ?_⟩⟩
 rw [e4] at p6
 have hgo := spDyn_go (src := src) (a := a) (by omega) (by omega) (by omega) (by rw [← p6]; exact hF)
 rw [← p6] at hgo
 rw [hgo, p5, e4, p2, p3]
theorem DyCl.stop {x y z a1 : Nat} {vs : List Nat} {f1 : Bool} (h : DyCl src a f x y z vs a1 f1) (hv : vs.length = z + 4) (hF : ¬ Full (clens vs)) : DyLn src a f x y vs [] a1 true := by
 refine ⟨fun v hv => by simp at hv, h.xl, h.yl, h.ge, h.le, fun e => by simp at e, fun _ => ?_⟩
 cases f1 with
 | true => exact h.bad rfl
 | false =>
  obtain ⟨p1, p2, p3, p4, p5, p6⟩ := h.good rfl; have e4 : vs.length = bv src (a + 10) 4 + 4 := by omega
  rw [e4] at p6; exact .inr (spDyn_not (by rw [← p6]; exact hF))
section
variable {x y a1 : Nat} {vs acc : List Nat}
theorem DyLn.one (h : DyLn src a f x y vs acc a1 false) (hl : acc.length < x + 257 + (y + 1)) : f = false ∧ ∃ fu, 400 ≤ fu + 1 + acc.length ∧ (spLen src (clens vs) (x + 257 + (y + 1)) acc a1 = none → spDyn src a = none) ∧
 ∀ acc' a', spLen src (clens vs) (x + 257 + (y + 1)) acc a1 = some (acc', a') → spDyn src a = dyEnd x (spLens src (clens vs) (x + 257 + (y + 1)) fu acc' a') := by
 obtain ⟨p1, p2, p3⟩ := h.good rfl
 have h29 := h.xl
 have y29 := h.yl
 rcases p3 with ⟨q, _⟩ | ⟨_, fu, q1, q2⟩
 · omega
 · cases fu with
   | zero => omega
   | succ fu =>
    rw [spLens, if_neg (by omega)] at q2
    refine ⟨p1, fu, q1, fun e => ?_, fun acc' a' e => ?_⟩
    · rw [e] at q2; exact q2
    · rw [e] at q2; exact q2
theorem DyLn.plain {s a2 : Nat} {f2 : Bool} (h : DyLn src a f x y vs acc a1 false) (hl : acc.length < x + 257 + (y + 1)) (g : SymR (clens vs) src a1 false s a2 f2) (hs : s < 16) : DyLn src a f x y vs (acc ++ [s]) a2 f2 := by
 obtain ⟨p1, fu, q1, q2, q3⟩ := h.one hl
 have hge := h.ge
 have gge := g.1
 refine ⟨fun v hv => ?_, h.xl, h.yl, by omega, g.2.1, fun e => ?_, fun e => ?_⟩
 · rcases List.mem_append.1 hv with q | q
   · exact h.small v q
   · obtain rfl := List.mem_singleton.1 q; omega
 · rcases g.2.2 with ⟨q, _⟩ | ⟨_, _, k1, _, _, k2⟩
   · rw [e] at q; simp at q
   · have hs : spLen src (clens vs) (x + 257 + (y + 1)) acc a1 = some (acc ++ [s], a2) := by
      unfold spLen; rw [k1, k2]; simp only; rw [if_pos hs]
     exact ⟨p1, (h.good rfl).2.1, .inr ⟨by rw [List.length_append, List.length_singleton]; omega, fu, by rw [List.length_append, List.length_singleton]; omega, q3 _ _ hs⟩⟩
 · rcases g.2.2 with ⟨_, _, k⟩ | ⟨q, _⟩
   · rcases k with k | k
     · simp at k
     · exact .inr (q2 (by unfold spLen; rw [k]))
   · rw [e] at q; simp at q
theorem DyLn.nil {a2 : Nat} (h : DyLn src a f x y vs acc a1 false) (hl : acc.length < x + 257 + (y + 1)) (g : SymR (clens vs) src a1 false 16 a2 false) (hs : acc.length = 0) : DyLn src a f x y vs acc a2 true := by
 obtain ⟨p1, fu, q1, q2, q3⟩ := h.one hl
 have hge := h.ge
 have gge := g.1
 refine ⟨h.small, h.xl, h.yl, by omega, g.2.1, fun e => by simp at e, fun _ => .inr (q2 ?_)⟩
 rcases g.2.2 with ⟨q, _⟩ | ⟨_, _, k1, _, _, k2⟩
 · simp at q
 · unfold spLen; rw [k1]; simp only; rw [if_neg (by omega), if_pos ⟨trivial, hs⟩]
theorem DyLn.rep {s a2 a3 u : Nat} {f3 : Bool} (h : DyLn src a f x y vs acc a1 false) (hl : acc.length < x + 257 + (y + 1)) (g : SymR (clens vs) src a1 false s a2 false) (hs : 16 ≤ s) (hn : ¬ (s = 16 ∧ acc.length = 0)) (gb : BitsR src (repOf s acc).2.1 a2 false u a3 f3) :
 DyLn src a f x y vs (acc ++ List.replicate ((repOf s acc).1 + u) (repOf s acc).2.2) a3 f3 := by
 obtain ⟨p1, fu, q1, q2, q3⟩ := h.one hl
 have hge := h.ge
 have gge := g.1
 have bge := gb.ge
 have hr := repOf_le (x := s) h.small
 have hsp : spLen src (clens vs) (x + 257 + (y + 1)) acc a1 = if 8 * src.length < a2 + (repOf s acc).2.1 then none else if x + 257 + (y + 1) < acc.length + ((repOf s acc).1 + bv src a2 (repOf s acc).2.1) then none else some (acc ++ List.replicate ((repOf s acc).1 + bv src a2 (repOf s acc).2.1) (repOf s acc).2.2, a2 + (repOf s acc).2.1) := by
  rcases g.2.2 with ⟨q, _⟩ | ⟨_, _, k1, _, _, k2⟩
  · simp at q
  · unfold spLen; rw [k1, k2]; simp only; rw [if_neg (by omega), if_neg hn]
 refine ⟨fun v hv => ?_, h.xl, h.yl, by omega, gb.le, fun e => ?_, fun e => ?_⟩
 · rcases List.mem_append.1 hv with q | q
   · exact h.small v q
   · have := (List.mem_replicate.1 q).2; omega
 · subst e; rcases gb.cases with ⟨_, k, rfl, rfl⟩ | ⟨q, _⟩
   · rw [if_neg (by omega)] at hsp
     refine ⟨p1, (h.good rfl).2.1, ?_⟩; rw [List.length_append, List.length_replicate]
     by_cases hm : x + 257 + (y + 1) < acc.length + ((repOf s acc).1 + bv src a2 (repOf s acc).2.1)
     · rw [if_pos hm] at hsp; exact .inl ⟨hm, q2 hsp⟩
     · rw [if_neg hm] at hsp; exact .inr ⟨by omega, fu, by omega, q3 _ _ hsp⟩
   · simp at q
 · subst e; rcases gb.cases with ⟨q, _⟩ | ⟨_, k⟩
   · simp at q
   · rw [if_pos k] at hsp; exact .inr (q2 hsp)
theorem DyLn.fin (h : DyLn src a f x y vs acc a1 false) (hl : x + 257 + (y + 1) ≤ acc.length) : f = false ∧ (acc.length ≠ x + 257 + (y + 1) → spDyn src a = none) ∧
 (acc.length = x + 257 + (y + 1) → spDyn src a = some ((acc.take (x + 257), acc.drop (x + 257)), a1) ∨ spDyn src a = none ∧ ¬ (Full (acc.take (x + 257)) ∧ Full (acc.drop (x + 257)))) := by
 obtain ⟨p1, p2, p3⟩ := h.good rfl
 rcases p3 with ⟨q, q'⟩ | ⟨q, fu, q1, q2⟩
 · exact ⟨p1, fun _ => q', fun e => by omega⟩
 · refine ⟨p1, fun e => by omega, fun e => ?_⟩
   have : spLens src (clens vs) (x + 257 + (y + 1)) fu acc a1 = some (acc, a1) := by
    cases fu with
    | zero => rfl
    | succ fu => rw [spLens, if_pos (by omega)]
   rw [this] at q2; unfold dyEnd at q2; simp only at q2
   by_cases hF : Full (acc.take (x + 257)) ∧ Full (acc.drop (x + 257))
   · rw [if_pos hF] at q2; exact .inl q2
   · rw [if_neg hF] at q2; exact .inr ⟨q2, hF⟩
end
end
end Flate
namespace Go.Proofs.YthfncdfcklbigaaGreatDoor
open Go.RowKit Go.IntWalk Flate
set_option maxRecDepth 100000
theorem size_intR (w : World) : (sizeOf (Tryz.prog.elem 33)).run Tryz.prog w = .ok 1 w := by kernel_rfl
theorem under_intsR : Tryz.prog.underlying 33 = some (.slice (Tryz.prog.elem 33)) := by kernel_rfl
theorem run_takeI (b : Option Addr) (n cap m : Nat) (hm : m ≤ n) (hcap : n ≤ cap) (hb : ∀ x, b = some x → x.spot = none) :
 ∀ w' : World, (Instr.sliceAt 33 (.slice b n cap) none (some (.int .i64 (m : Int))) none).run Tryz.prog w' = .ok (.slice b m cap) w' := by
 intro w'
 rw [run_sliceAt_slice w' _ _ _ _ _ under_intsR, run_slice_h w' _ _ _ _ under_intsR _ _ (by omega) (by omega), size_intR]
 simp only [Result.andThen, sliced, Int.toNat_natCast, Nat.sub_zero]
 cases b with
 | none => simp
 | some a => by_cases h : cap = 0 <;> simp [h, Addr.add]
theorem NtO.take {w : World} {b : Option Addr} {l : List Nat} (h : NtO w b l) (m : Nat) : NtO w b (l.take m) :=
 ⟨fun j hj => by
  rw [List.length_take] at hj; obtain ⟨g, o, h1, h2⟩ := h.cells j (by omega)
  exact ⟨g, o, h1, by rw [List.getElem_take]; exact h2⟩⟩
theorem run_dropI {w : World} {b : Option Addr} {l : List Nat} (h : NtO w b l) (n cap m : Nat) (hn : n = l.length) (hm : m ≤ n) (hcap : n ≤ cap) :
 ∃ b', (∀ w' : World, (Instr.sliceAt 33 (.slice b n cap) (some (.int .i64 (m : Int))) none none).run Tryz.prog w' = .ok (.slice b' (n - m) (cap - m)) w') ∧ NtO w b' (l.drop m) := by
 refine ⟨if cap = m then b else b.map (·.add m), fun w' => ?_, ⟨fun j hj => ?_⟩⟩
 · rw [run_sliceAt_slice w' _ _ _ _ _ under_intsR, run_slice_l w' _ _ _ _ under_intsR _ _ (by omega) (by omega), size_intR]
   simp only [Result.andThen, sliced, Int.toNat_natCast, Nat.mul_one]
 · rw [List.length_drop] at hj; obtain ⟨g, o, rfl, h2⟩ := h.cells (m + j) (by omega)
   rw [if_neg (by omega)]
   refine ⟨g, o + m, by simp [Addr.add_lit], ?_⟩
   rw [List.getElem_drop, Nat.add_assoc]; exact h2
def DyPost (w : World) (B : Nat) (sb : Option Addr) (src : List UInt8) (sc a : Nat) (f : Bool) (e : Ending) (w' : World) : Prop :=
 ∃ b1 c1 ll b2 c2 dl a' f', e = .returned (.tuple #[.slice b1 ll.length c1, .slice b2 dl.length c2]) ∧ Rr w' B sb src sc a' f' ∧ a ≤ a' ∧ Frm (fun b _ => b = B) w w' ∧
  NtO w' b1 ll ∧ NtO w' b2 dl ∧ (∀ n ∈ ll, n ≤ 15) ∧ (∀ n ∈ dl, n ≤ 15) ∧ ll.length ≤ 320 ∧ dl.length ≤ 320 ∧
  (f' = true ∧ (f = true ∨ spDyn src a = none) ∨ f' = false ∧ f = false ∧ (spDyn src a = some ((ll, dl), a') ∨ spDyn src a = none ∧ ¬ (Full ll ∧ Full dl)))
theorem DyPost.bad {w : World} {B : Nat} {sb : Option Addr} {src : List UInt8} {sc a : Nat} {f : Bool} {w' : World} {a' : Nat} (hr : Rr w' B sb src sc a' true) (ha : a ≤ a') (hf : Frm (fun b _ => b = B) w w') (h : f = true ∨ spDyn src a = none) :
 DyPost w B sb src sc a f (.returned (.tuple #[.slice none 0 0, .slice none 0 0])) w' :=
 ⟨none, 0, [], none, 0, [], a', true, rfl, hr, ha, hf, ⟨fun j hj => by simp at hj⟩, ⟨fun j hj => by simp at hj⟩, fun n hn => by simp at hn, fun n hn => by simp at hn, by simp, by simp, .inl ⟨rfl, h⟩⟩
def ClInv (w : World) (B : Nat) (sb : Option Addr) (src : List UInt8) (sc a : Nat) (f : Bool) (x y z nc L og : Nat) (g : Nat) (iv : Value) (wr : World) : Prop :=
 ∃ vs k a1 f1, k = vs.length ∧ k ≤ nc ∧ g = nc - k ∧ iv = .int .i64 (k : Int) ∧ Rr wr B sb src sc a1 f1 ∧ DyCl src a f x y z vs a1 f1 ∧ OwnN wr L (.slice (some ⟨L, 0, none⟩) 19 19) (clens vs) ∧
  Nt wr (some ⟨og, 0, none⟩) clOrder ∧ Frm (fun b _ => b = B) w wr
def LnInv (w : World) (B : Nat) (sb : Option Addr) (src : List UInt8) (sc a : Nat) (f : Bool) (x y : Nat) (vs : List Nat) (M N1 : Nat) (g : Nat) (v : Value) (wr : World) : Prop :=
 ∃ acc a1 f1 b m c, v = .slice b m c ∧ m = acc.length ∧ m ≤ 500 ∧ (if f1 = true then 0 else x + 257 + (y + 1) + 1 - m) ≤ g ∧ OwnN wr N1 v acc ∧ Rr wr B sb src sc a1 f1 ∧ DyLn src a f x y vs acc a1 f1 ∧ CMap wr M (clens vs) 19 ∧ Frm (fun b _ => b = B) w wr ∧ N1 ≤ wr.heap.size
def RpInv (w : World) (B : Nat) (sb : Option Addr) (src : List UInt8) (sc : Nat) (vs acc : List Nat) (M N1 k c a3 : Nat) (f3 : Bool) (g : Nat) (v i : Value) (wr : World) : Prop :=
 ∃ j b m cp, j ≤ k ∧ g = k - j ∧ i = .int .i64 (j : Int) ∧ v = .slice b m cp ∧ m = acc.length + j ∧ OwnN wr N1 v (acc ++ List.replicate j c) ∧ Rr wr B sb src sc a3 f3 ∧ CMap wr M (clens vs) 19 ∧ Frm (fun b _ => b = B) w wr ∧ N1 ≤ wr.heap.size
set_option maxHeartbeats 4000000 in
theorem dynamic_any (w : World) (B : Nat) (sb : Option Addr) (src : List UInt8) (sc a : Nat) (f : Bool) (h : Rr w B sb src sc a f) :
 Calls Tryz.prog 38 #[.pointer (some ⟨B, 0, none⟩)] w (DyPost w B sb src sc a f) := by
 have HB1 := zHi (show Calls Tryz.prog 34 #[.pointer (some ⟨B, 0, none⟩), .int .i64 5] w _ from rbits_any w B sb src sc a f h 5 (by omega))
 have HBL := zHi h.blt
 have HSB := zHi h.far
 clear h
 go_enter Tryz.func38, Tryz.ntmps38
 go_wp2_with fail
 refine HB1.out.mono ?_
 rintro e w1 ⟨x, a1, f1, rfl, hr1, hb1, hf1⟩
 have hx := hb1.lt
 have c1 : (x : Int) ≤ 31 := by omega
 have HB2 := zHi (show Calls Tryz.prog 34 #[.pointer (some ⟨B, 0, none⟩), .int .i64 5] w1 _ from rbits_any w1 B sb src sc a1 f1 hr1 5 (by omega))
 have H1 := zHi (zAi hb1 hf1)
 obtain ⟨nl, hnl⟩ : ∃ nl, nl = x + 257 := ⟨_, rfl⟩
 have e1 : (x : Int) + 257 = (nl : Int) := by omega
 have c1' : (nl : Int) ≤ 288 := by omega
 have HN1 := zHi hnl
 clear hr1 hb1 hf1 HB1 hx hnl
 go_wp2_with fail
 refine HB2.out.mono ?_
 rintro e w2 ⟨y, a2, f2, rfl, hr2, hb2, hf2⟩
 have hy := hb2.lt
 have c2 : (y : Int) ≤ 31 := by omega
 have HB3 := zHi (show Calls Tryz.prog 34 #[.pointer (some ⟨B, 0, none⟩), .int .i64 4] w2 _ from rbits_any w2 B sb src sc a2 f2 hr2 4 (by omega))
 have H2 := zHi (zAi hb2 hf2)
 obtain ⟨nd, hnd⟩ : ∃ nd, nd = y + 1 := ⟨_, rfl⟩
 have e2 : (y : Int) + 1 = (nd : Int) := by omega
 have c2' : (nd : Int) ≤ 32 := by omega
 have HN2 := zHi hnd
 clear hr2 hb2 hf2 HB2 hy hnd
 go_wp2_with fail
 refine HB3.out.mono ?_
 rintro e w3 ⟨z, a3, f3, rfl, hr3, hb3, hf3⟩
 have hz := hb3.lt
 have c3 : (z : Int) ≤ 15 := by omega
 obtain ⟨nc, hnc⟩ : ∃ nc, nc = z + 4 := ⟨_, rfl⟩
 have e3 : (z : Int) + 4 = (nc : Int) := by omega
 have c3' : (nc : Int) ≤ 19 := by omega
 have hhd := DyHd.of H1.out.1 H2.out.1 hb3
 have hf03 : Frm (fun b _ => b = B) w w3 := (H1.out.2.trans H2.out.2).trans hf3
 have p2 := hr3.c2
 have q2 := hr3.fr 2
 have H3 := zHi (zAi hr3 (zAi hhd hf03))
 have hnl := HN1.out
 have hnd := HN2.out
 have HN := zHi (zAi hnl (zAi hnd hnc))
 clear HN1 HN2 hr3 hb3 hf3 hz hhd hf03 HB3 H1 H2
 by_cases hbig : 29 < x ∨ 29 < y
 · have hfail : f = true ∨ spDyn src a = none := by
    cases f3 with
    | true => exact H3.out.2.1.bad rfl
    | false => exact .inr (H3.out.2.1.far hbig).2
   obtain ⟨g1, g2⟩ := H3.out.1.set_fail true; have hret := DyPost.bad g1 H3.out.2.1.ge (H3.out.2.2.trans (g2.mono fun b o e => e.1)) hfail
   have HR := zHi hret; clear hfail g1 g2 hret hnl hnd hnc
   by_cases hxb : 29 < x
   · have t1 : decide ((286 : Int) < (nl : Int)) = true := by simp; omega
     have t1' : 286 < nl := by omega
     clear hbig hxb; go_wp2_with fail
     go_ret2
     exact HR.out
   · have t1 : decide ((286 : Int) < (nl : Int)) = false := by simp; omega
     have t2 : decide ((30 : Int) < (nd : Int)) = true := by simp; omega
     have t2' : 30 < nd := by omega
     clear hbig hxb; go_wp2_with fail
     go_ret2
     exact HR.out
 · have hx29 : x ≤ 29 := by omega
   have hy29 : y ≤ 29 := by omega
   have t1 : decide ((286 : Int) < (nl : Int)) = false := by simp; omega
   have t2 : decide ((30 : Int) < (nd : Int)) = false := by simp; omega
   have c4 : (nl : Int) ≤ 286 := by omega
   have c5 : (nd : Int) ≤ 30 := by omega
   have hmk : ∀ w : World, (Instr.makeSlice 33 (.int .i64 19) (.int .i64 19)).run Tryz.prog w = .ok (.slice (some ⟨w.heap.size, 0, none⟩) 19 19) (w.alloc (.cells (madeCells #[.int .i64 0] 19) 3)) := run_make_row' (P := Tryz.prog) 33 3 (.int .i64 0) 8 Tryz.underlying33 infoInts rfl .i64 .i64 19 (by omega) (by omega)
   have hown := ownN_made w3 19 (by simp only [maxLen]; omega)
   have hf4 : Frm (fun _ _ => False) w3 (w3.alloc (.cells (madeCells #[.int .i64 0] 19) 3)) := (Frm.refl _ _).alloc _
   have HO := zHi (zAi hown (zAi hf4 (zAi hx29 hy29))); clear hbig hown hf4 hx29 hy29 hnl hnd hnc; go_upto_region 6 with (fail)
   obtain ⟨w4, hw4⟩ : ∃ w4, w4 = w3.alloc (.cells (madeCells #[.int .i64 0] 19) 3) := ⟨_, rfl⟩; obtain ⟨L, hL⟩ : ∃ L, L = w3.heap.size := ⟨_, rfl⟩; rw [← hw4, ← hL] at HO ⊢; have HL := zHi hL; clear hw4 hL hmk; go_wp2_with fail
   refine (order_any w4).mono ?_; rintro e w5 ⟨rfl, hor, hf5⟩; obtain ⟨og, hog⟩ : ∃ og, og = w4.heap.size := ⟨_, rfl⟩; rw [← hog] at hor ⊢; obtain ⟨ob, ocp, hvo, _, hnto⟩ := OwnN.nt hor; have hob : ob = some ⟨og, 0, none⟩ := by injection hvo with q1 q2 q3; exact q1.symm
   subst hob; have s1 := run_takeI (some ⟨og, 0, none⟩) 19 19 nc (by omega) (by omega) (fun x hx => by obtain rfl := Option.some.inj hx; rfl)
   have hf35 := HO.out.2.1.trans hf5; have hinv : ClInv w B sb src sc a f x y z nc L og (nc - 0) (.int .i64 0) w5 := by
    refine ⟨[], 0, a3, f3, rfl, Nat.zero_le _, rfl, rfl, H3.out.1.keep hf35 (fun _ e => e) (fun _ _ _ e => e), H3.out.2.1.start HO.out.2.2.1 HO.out.2.2.2, ?_, hnto, H3.out.2.2.trans (hf35.mono fun _ _ e => e.elim)⟩
    rw [clens_nil]; exact HO.out.1.keep hf5 (fun _ _ _ e => e)
   have HINV := zHi hinv; have hnc19 : nc ≤ 19 := by omega
   have HC19 := zHi hnc19; have hogn : og ≠ B ∧ og ≠ L := by
    have q1 := HBL.out; have q2 := H3.out.2.2.size; have q3 := HO.out.2.1.size; have q4 := (HO.out.1.lt L rfl).2; omega
   have HOG := zHi hogn; clear hor hvo hnto hf35 hf5 hog hinv hnc19 hogn; go_wp2_with fail
   go_loopg [39] (nc - 0) (fun g iv wr => ClInv w B sb src sc a f x y z nc L og g iv wr)
   case atStart => exact HINV.out
   case round =>
    obtain ⟨vs, k, a4, f4, hk, hkn, hg, rfl, hr, hcl, hown, hnt, hfr⟩ := hrel; have hLw : w.heap.size ≤ L := by rw [HL.out]; exact H3.out.2.2.size
    have hLB : L ≠ B := by have := HBL.out; omega
    by_cases hlt : k < nc
    · have hol : clOrder.length = 19 := by decide
      obtain ⟨s, hs⟩ : ∃ s, s = clOrder.getD k 0 := ⟨_, rfl⟩; have hk19 : k < 19 := by have := HC19.out; omega
      have hs19 : s < 19 := by
       have : ∀ i : Fin 19, clOrder.getD i.1 0 < 19 := by decide +kernel
       rw [hs]; exact this ⟨k, hk19⟩
      have hcs : wr.cell? ⟨og, k, none⟩ = some (.int .i64 (s : Int)) := by
       obtain ⟨g', hg', hc⟩ := hnt.cells k (by rw [hol]; exact hk19)
       injection hg' with q1; injection q1 with q2; subst q2; rw [hc, hs, List.getD_eq_getElem?_getD, List.getElem?_eq_getElem (by rw [hol]; exact hk19)]
       rfl
      have d1 : (s : Int) ≤ 18 := by omega
      have d2 : (k : Int) ≤ 18 := by omega
      have HBT := zHi (show Calls Tryz.prog 34 #[.pointer (some ⟨B, 0, none⟩), .int .i64 3] wr _ from rbits_any wr B sb src sc a4 f4 hr 3 (by omega))
      have HR := zHi (zAi hk (zAi hkn (zAi hg (zAi hcl (zAi hown (zAi hnt (zAi hfr (zAi hs (zAi hs19 (zAi hLw hLB)))))))))); clear hk hkn hg hr hcl hown hnt hfr hs hs19 hLw hLB hol hk19 HINV; go_wp2_with fail
      refine HBT.out.mono ?_; rintro e w6 ⟨u, a5, f5, rfl, hr6, hb6, hf6⟩; obtain ⟨hk, hkn, hg, hcl, hown, hnt, hfr, hs, hs19, hLw, hLB⟩ := HR.out; have hown6 := hown.keep hf6 (fun g o hg e => by obtain rfl := Option.some.inj hg; exact hLB e)
      obtain ⟨gg, cp, hv, _, _, _, hcell, hfz⟩ := Row.at hown6 (show s < (clens vs).length by rw [clens_len]; exact hs19)
      have hgg : L = gg := Option.some.inj (congrArg Value.ownBlock hv); subst hgg; replace hcell : ∃ ov, w6.cell? ⟨L, s, none⟩ = some ov := ⟨_, hcell⟩; obtain ⟨ov, hcell⟩ := hcell; have hul := hb6.lt; have d3 : (u : Int) ≤ 7 := by omega
      have hcl6 := hcl.step (by rw [← hk, ← HN.out.2.2]; exact hlt) hb6
      have hst := OwnN.set hown6 (g := L) rfl (show s < (clens vs).length by rw [clens_len]; exact hs19) u
      rw [hs, hk, ← clens_snoc vs u (by rw [← hk]; have := HC19.out; omega), ← hk, ← hs] at hst
      have hrr := hr6.keep hst.2 (fun o e => hLB e.1.symm) (fun q hq j e => by
       have := HSB.out q hq; have := e.1; omega)
      have hnt7 : Nt (w6.setCell ⟨L, s, none⟩ (natV u)) (some ⟨og, 0, none⟩) clOrder :=
       ⟨fun j hj => by
        obtain ⟨g', hg', hc⟩ := hnt.cells j hj; injection hg' with q1; injection q1 with q2; subst q2; exact ⟨og, rfl, hst.2.keep (hf6.keep hc HOG.out.1) (fun e => HOG.out.2 e.1)⟩⟩
      have hfr7 : Frm (fun b _ => b = B) w (w6.setCell ⟨L, s, none⟩ (natV u)) := (hfr.trans hf6).trans' hst.2 (fun q o hq e => by have := e.1; omega)
      have HX := zHi (zAi hrr (zAi hcl6 (zAi hst.1 (zAi hnt7 hfr7)))); have HM := zHi (zAi hk hg); clear hk hkn hg hcl hown hnt hfr hs hs19 hLw hLB hr6 hb6 hf6 hown6 hv hul hcl6 hst hrr hnt7 hfr7 HBT HR; go_wp2_with fail
      go_roundg (nc - (k + 1))
      case measure => have := HM.out.2; omega
      case rel =>
       obtain ⟨hrr, hcl6, hown7, hnt7, hfr7⟩ := HX.out; exact ⟨vs ++ [u], k + 1, a5, f5, by rw [List.length_append, List.length_singleton, HM.out.1], hlt, rfl, by go_num, hrr, hcl6, hown7, hnt7, hfr7⟩
    · obtain rfl : k = nc := by omega
      have hd : decide (k < k) = false := by simp
      obtain ⟨ob, ocp, hvo, _, hntl⟩ := OwnN.nt hown; have hob : ob = some ⟨L, 0, none⟩ := by injection hvo with q1 q2 q3; exact q1.symm
      subst hob; have hnewc := newCode_any wr (some ⟨L, 0, none⟩) (clens vs) 19 hntl.o (clens_small vs 15 (fun v hv => by have := hcl.small v hv; omega)) (by rw [clens_len]; omega)
      rw [clens_len] at hnewc; have HNC := zHi hnewc; have HR := zHi (zAi hk (zAi hr (zAi hcl hfr))); clear hk hkn hg hr hcl hown hnt hfr hLw hLB hlt hvo hntl hnewc HINV; go_wp2_with fail
      refine HNC.out.mono ?_; rintro e w6 ⟨M, full, rfl, hfu, hM, hMl, hf6⟩; rw [clens_len] at hM; obtain ⟨hk, hr, hcl, hfr⟩ := HR.out; have hr6 := hr.keep hf6 (fun _ e => e) (fun _ _ _ e => e)
      have hfr6 : Frm (fun b _ => b = B) w w6 := hfr.trans (hf6.mono fun _ _ e => e.elim)
      have hMB : M ≠ B := by
       have := HBL.out; have := hfr.size; omega
      obtain ⟨N1, hN1⟩ : ∃ N1, N1 = w6.heap.size := ⟨_, rfl⟩; have hMN : M < N1 := by rw [hN1]; exact hM.lt
      have hN0 : w.heap.size ≤ N1 := by rw [hN1]; exact hfr6.size
      have p2 := hr6.c2; have q2 := hr6.fr 2; have hkr : Full (clens vs) → Kraft (clens vs) := fun hF => full_kraft (clens_small vs 15 (fun v hv => by have := hcl.small v hv; omega)) (by rw [clens_len]; omega) hF
      have HKR := zHi hkr; clear hkr; have H6 := zHi (zAi hk (zAi hr6 (zAi hcl (zAi hfr6 (zAi hfu hM))))); have HM := zHi (zAi hMB (zAi hMN (zAi hN0 hN1))); clear hk hr hcl hfr hfu hM hMl hf6 hr6 hfr6 hMB hN1 hMN hN0 HNC HR
      go_upto_if 55 with (fail)
      go_cut [56] (fun _ wq => ∃ f7, Rr wq B sb src sc a4 f7 ∧ DyLn src a f x y vs [] a4 f7 ∧ CMap wq M (clens vs) 19 ∧ Frm (fun b _ => b = B) w wq ∧ N1 ≤ wq.heap.size)
      case first =>
       obtain ⟨hk, hr6, hcl, hfr6, hfu, hM⟩ := H6.out
       cases full with
       | true =>
        have hrel : ∃ f7, Rr w6 B sb src sc a4 f7 ∧ DyLn src a f x y vs [] a4 f7 ∧ CMap w6 M (clens vs) 19 ∧ Frm (fun b _ => b = B) w w6 ∧ N1 ≤ w6.heap.size :=
         ⟨f4, hr6, hcl.go (by rw [← hk, ← HN.out.2.2]) (hfu.1 rfl), hM, hfr6, Nat.le_of_eq HM.out.2.2.2⟩
        have HX := zHi hrel; clear hk hr6 hcl hfr6 hfu hM hrel; go_wp2_with fail
        go_meet
        case rel => exact HX.out
       | false =>
        obtain ⟨g1, g2⟩ := hr6.set_fail true; have hrel : ∃ f7, Rr (w6.setCell ⟨B, 2, none⟩ (.bool true)) B sb src sc a4 f7 ∧ DyLn src a f x y vs [] a4 f7 ∧ CMap (w6.setCell ⟨B, 2, none⟩ (.bool true)) M (clens vs) 19 ∧ Frm (fun b _ => b = B) w (w6.setCell ⟨B, 2, none⟩ (.bool true)) ∧ N1 ≤ (w6.setCell ⟨B, 2, none⟩ (.bool true)).heap.size :=
         ⟨true, g1, hcl.stop (by rw [← hk, ← HN.out.2.2]) (fun q => by simpa using hfu.2 q), hM.keep g2 (fun o e => HM.out.1 e.1), hfr6.trans (g2.mono fun b o e => e.1), by rw [HM.out.2.2.2]; exact g2.size⟩
        have HX := zHi hrel; clear hk hr6 hcl hfr6 hfu hM hrel g1 g2; go_wp2_with fail
        go_meet
        case rel => exact HX.out
      case rest =>
      obtain ⟨f7, hr7, hln, hM7, hfr7, hN7⟩ := hcut; have H7 := zHi (zAi hr7 (zAi hln (zAi hM7 (zAi hfr7 hN7)))); clear hr7 hln hM7 hfr7 hN7 H6; apply_assumption; go_wp2_with fail
      go_loopg [12] (x + 257 + (y + 1) + 1) (fun g v wr => LnInv w B sb src sc a f x y vs M N1 g v wr)
      case atStart =>
       obtain ⟨hr7, hln, hM7, hfr7, hN7⟩ := H7.out; exact ⟨[], a4, f7, none, 0, 0, rfl, rfl, by omega, by split <;> omega, Row.nil _ _ _ _ _, hr7, hln, hM7, hfr7, hN7⟩
      case round =>
       obtain ⟨acc, aa, ff, b, m, c, rfl, hm, hm5, hg, hown, hr, hln, hM8, hfr, hN8⟩ := hrel; have p2 := hr.c2; have q2 := hr.fr 2; have d1 : (m : Int) ≤ 500 := by omega
       obtain ⟨nn, hnn⟩ : ∃ nn, nn = nl + nd := ⟨_, rfl⟩; have e4 : (nl : Int) + (nd : Int) = (nn : Int) := by omega
       have hnx : nn = x + 257 + (y + 1) := by rw [hnn, HN.out.1, HN.out.2.1]
       have d2 : (nn : Int) ≤ 316 := by have := hln.xl; have := hln.yl; omega
       have HNN := zHi (zAi hnn hnx); obtain ⟨hMB, hMN, hN0, hN1⟩ := HM.out; have HQ := zHi (zAi hMB (zAi hMN hN0)); clear hnn hnx hMB hMN hN0 hN1 H7; obtain ⟨g1, g2⟩ := hr.set_fail true; have hbad : (f = true ∨ spDyn src a = none) → DyPost w B sb src sc a f (.returned (.tuple #[.slice none 0 0, .slice none 0 0])) (wr.setCell ⟨B, 2, none⟩ (.bool true)) := fun hq => DyPost.bad g1 hln.ge (hfr.trans (g2.mono fun b o e => e.1)) hq
       have HBAD := zHi hbad; clear g1 g2 hbad
       cases ff with
       | true =>
        have HX := zHi (HBAD.out (hln.bad rfl)); clear hm hm5 hg hown hr hln hM8 hfr hN8
        by_cases heq : m = nn
        · have t4 : ((m : Int) != (nn : Int)) = false := by simp; omega
          clear heq; go_wp2_with fail
          go_ret2
          exact HX.out
        · have t4 : ((m : Int) != (nn : Int)) = true := by simp; omega
          clear heq; go_wp2_with fail
          go_ret2
          exact HX.out
       | false =>
        by_cases hlt : m < nn
        · have t3 : decide ((m : Int) < (nn : Int)) = true := by simp; omega
          have t3' : m < nn := hlt; have hlx : acc.length < x + 257 + (y + 1) := by rw [← HNN.out.2, ← hm]; exact hlt
          have hsy := rsymbol_any wr B sb src sc aa false hr M (clens vs) (by rw [clens_len]; exact hM8) HQ.out.1 (HKR.out (hln.good rfl).2.1) (by rw [clens_len]; omega)
          have HSY := zHi hsy; have HR := zHi (zAi hm (zAi hm5 (zAi hg (zAi hown (zAi hln (zAi hM8 (zAi hfr (zAi hN8 (zAi hlt hlx))))))))); clear hm hm5 hg hown hr hln hM8 hfr hN8 hlt hlx hsy; go_wp2_with fail
          refine HSY.out.mono ?_; rintro e w7 ⟨s, a8, f8, rfl, hr8, hsym, hf8⟩; clear HSY; obtain ⟨hm, hm5, hg, hown, hln, hM8, hfr, hN8, hlt, hlx⟩ := HR.out; obtain ⟨hMB, hMN, hN0⟩ := HQ.out; have hB0 := HBL.out; have hown8 : OwnN w7 N1 (.slice b m c) acc := Row.keep hown hf8 (fun g o hg e => by have := (hown.lt g hg).1; omega)
          have hM9 := hM8.keep hf8 (fun o e => hMB e)
          have hfr8 := hfr.trans hf8; have hN9 := Nat.le_trans hN8 hf8.size; have hs18 : s ≤ 18 := by
           rcases hsym.2.2 with ⟨_, q, _⟩ | ⟨_, _, _, q, _⟩
           · omega
           · rw [clens_len] at q; omega
          have d3 : (s : Int) ≤ 18 := by omega
          by_cases h16 : s < 16
          · have t4 : decide ((s : Int) < 16) = true := by simp; omega
            have hln8 := hln.plain hlx hsym h16; obtain ⟨v', w8, hra, hown', hfra⟩ := append_nat w7 N1 (.slice b m c) acc hown8 s (by omega) hN9
            obtain ⟨b', c', rfl, _, _⟩ := OwnN.nt hown'; have hr9 := hr8.keep hfra (fun o e => by have := (hown8.lt B e).1; omega) (fun q hq j e => by have := (hown8.lt _ e).1; have := HSB.out q hq; omega)
            have hM10 := hM9.keep hfra (fun o e => by have := (hown8.lt M e).1; omega)
            have hfr9 : Frm (fun b _ => b = B) w w8 := hfr8.trans' hfra (fun q o hq e => by have := (hown8.lt q e).1; omega)
            have hlen : (acc ++ [s]).length = m + 1 := by rw [List.length_append, List.length_singleton, hm]
            obtain ⟨m', hm'⟩ : ∃ m', m' = (acc ++ [s]).length := ⟨_, rfl⟩; rw [← hm'] at hra hown' hlen; have HX := zHi (zAi hown' (zAi hr9 (zAi hln8 (zAi hM10 (zAi hfr9 (zAi (Nat.le_trans hN9 hfra.size) hm')))))); have HV := zHi (zAi hg (zAi hlt (zAi hlen (zAi HNN.out.2 hln.xl)))); have HY29 := zHi hln.yl; have hr := fun ty => hra ty
            clear hm hm5 hg hown hln hM8 hfr hN8 hlt hlx hMB hMN hN0 hB0 hown8 hM9 hfr8 hN9 hs18 h16 hln8 hra hown' hfra hr9 hM10 hfr9 hlen hm' hr8 hsym hf8 HR; go_wp2_with (at_builtin; refine wpList_append_by (by rfl) (.tmp 77) (.tmp 79) 33 (by rfl) _ _ (by rfl) (by rfl) (hr _) ?_)
            clear hr; go_roundg (if f8 = true then 0 else x + 257 + (y + 1) + 1 - m')
            case measure =>
             obtain ⟨q1, q2, q3, q4, q5⟩ := HV.out; rw [if_neg (by simp)] at q1
             split <;> omega
            case rel =>
             obtain ⟨k1, k2, k3, k4, k5, k6, k7⟩ := HX.out; exact ⟨acc ++ [s], a8, f8, b', m', c', rfl, k7, by have := HV.out; have := HY29.out; omega, Nat.le_refl _, k1, k2, k3, k4, k5, k6⟩
          · have t4 : decide ((s : Int) < 16) = false := by simp; omega
            have hf8f : f8 = false := by
             rcases hsym.2.2 with ⟨_, q, _⟩ | ⟨q, _⟩
             · omega
             · exact q
            subst hf8f; have p2 := hr8.c2; have q2 := hr8.fr 2; have HZ := zHi (zAi hr8 (zAi hsym (zAi hown8 (zAi hM9 (zAi hfr8 (zAi hN9 (zAi h16 hs18))))))); clear hm hm5 hg hown hln hM8 hfr hN8 hlt hlx hMB hMN hN0 hB0 hown8 hM9 hfr8 hN9 hr8 hsym hf8
            go_upto_block 4 with (fail)
            go_cut [14, 15] (fun what many wq => ∃ (k9 cv a9 : Nat) (f9 : Bool), what = .int .i64 (cv : Int) ∧ many = .int .i64 (k9 : Int) ∧ k9 ≤ 138 ∧ cv ≤ 15 ∧ Rr wq B sb src sc a9 f9 ∧ DyLn src a f x y vs (acc ++ List.replicate k9 cv) a9 f9 ∧ CMap wq M (clens vs) 19 ∧ OwnN wq N1 (.slice b m c) acc ∧ Frm (fun b _ => b = B) w wq ∧ N1 ≤ wq.heap.size ∧ (f9 = true ∨ 1 ≤ k9))
            case first =>
             have key : ∀ (k9 cv a9 : Nat) (f9 : Bool) (wq : World), k9 ≤ 138 → cv ≤ 15 → Rr wq B sb src sc a9 f9 → DyLn src a f x y vs (acc ++ List.replicate k9 cv) a9 f9 → Frm (fun b _ => b = B) w7 wq → (f9 = true ∨ 1 ≤ k9) →
              ∃ (k9' cv' a9 : Nat) (f9 : Bool), Value.int .i64 (cv : Int) = .int .i64 (cv' : Int) ∧ Value.int .i64 (k9 : Int) = .int .i64 (k9' : Int) ∧ k9' ≤ 138 ∧ cv' ≤ 15 ∧ Rr wq B sb src sc a9 f9 ∧ DyLn src a f x y vs (acc ++ List.replicate k9' cv') a9 f9 ∧ CMap wq M (clens vs) 19 ∧ OwnN wq N1 (.slice b m c) acc ∧ Frm (fun b _ => b = B) w wq ∧ N1 ≤ wq.heap.size ∧ (f9 = true ∨ 1 ≤ k9') := by
              intro k9 cv a9 f9 wq h1 h2 h3 h4 h5 h6; obtain ⟨hr8, hsym, hown8, hM9, hfr8, hN9, _⟩ := HZ.out; have := HBL.out; have := HQ.out; exact ⟨k9, cv, a9, f9, rfl, rfl, h1, h2, h3, h4, hM9.keep h5 (fun o e => by omega), Row.keep hown8 h5 (fun g o hg e => by have := (hown8.lt g hg).1; omega), hfr8.trans h5, Nat.le_trans hN9 h5.size, h6⟩
             have HKEY := zHi key; clear key; have d4 : (m : Int) ≤ 315 := by have := HR.out.2.2.2.2.2.2.2.2.1; omega
             by_cases s16 : s = 16
             · subst s16
               by_cases m0 : m = 0
               · subst m0; obtain ⟨g1, g2⟩ := HZ.out.1.set_fail true; have hrel := HKEY.out 0 0 a8 true (w7.setCell ⟨B, 2, none⟩ (.bool true)) (by omega) (by omega) g1 (by
                  rw [List.replicate_zero, List.append_nil]; exact HR.out.2.2.2.2.1.nil HR.out.2.2.2.2.2.2.2.2.2 HZ.out.2.1 HR.out.1.symm) (g2.mono fun b o e => e.1) (.inl rfl)
                 have HX := zHi hrel; clear hrel g1 g2; go_wp2_with fail
                 go_meet
                 case rel => exact HX.out
               · have t5 : ((m : Int) == 0) = false := by simp; omega
                 have t5' : ¬ ((m : Int) = 0) := by omega
                 obtain ⟨m1, hm1⟩ : ∃ m1, m1 = m - 1 := ⟨_, rfl⟩; have e5 : (m : Int) - 1 = (m1 : Int) := by omega
                 have d5 : m1 < m := by omega
                 have ew : IntKind.i64.wrap (m1 : Int) = (m1 : Int) := i64_in _ (by omega)
                 have d5' : (m1 : Int) < (m : Int) := by omega
                 obtain ⟨gg, cp, hv, _, _, _, hcell, hfz⟩ := Row.at HZ.out.2.2.1 (show m1 < acc.length by rw [← HR.out.1]; exact d5)
                 injection hv with q3 q4 q5; subst q3 q5; clear q4; obtain ⟨cv, hcv⟩ : ∃ cv, cv = acc.getD (acc.length - 1) 0 := ⟨_, rfl⟩; have hcc : w7.cell? ⟨gg, m1, none⟩ = some (.int .i64 (cv : Int)) := by
                  have hlt : m1 < acc.length := by rw [← HR.out.1]; exact d5
                  have e7 : acc.length - 1 = m1 := by have := HR.out.1; omega
                  rw [hcell, hcv, e7, List.getElem_map, List.getD_eq_getElem?_getD, List.getElem?_eq_getElem hlt]; rfl
                 have hcv15 : cv ≤ 15 := by
                  rw [hcv, List.getD_eq_getElem?_getD, List.getElem?_eq_getElem (by rw [← HR.out.1]; omega)]
                  exact HR.out.2.2.2.2.1.small _ (List.getElem_mem _)
                 have hgB : gg ≠ B := by
                  have := (HZ.out.2.2.1.lt gg rfl).1; have := HBL.out; have := HQ.out.2.2; omega
                 have hrp : repOf 16 acc = (3, 2, cv) := by unfold repOf; rw [if_pos rfl, hcv]
                 have HB24 : Calls Tryz.prog 34 #[.pointer (some ⟨B, 0, none⟩), .int .i64 2] w7.drew fun e w' => ∃ (u : Nat) (a9 : Nat) (f9 : Bool), e = .returned (.int .i64 (u : Int)) ∧ (u : Int) ≤ 3 ∧ w'.cell? ⟨gg, m1, none⟩ = some (.int .i64 (cv : Int)) ∧ RowKit.Hid (Rr w' B sb src sc a9 f9 ∧ BitsR src 2 a8 false u a9 f9 ∧ Frm (fun b _ => b = B) w7 w') := by
                  have hr9 : Rr w7.drew B sb src sc a8 false := HZ.out.1.keep (S := fun _ _ => False) ((Frm.refl _ _).drew) (fun _ e => e) (fun _ _ _ e => e)
                  refine (rbits_any w7.drew B sb src sc a8 false hr9 2 (by omega)).mono ?_
                  rintro e w9 ⟨u, a9, f9, rfl, k1, k2, k3⟩; have hfd : Frm (fun b _ => b = B) w7 w9 := ((Frm.refl (fun b _ => b = B) w7).drew).trans k3
                  exact ⟨u, a9, f9, rfl, by have := k2.lt; omega, hfd.keep hcc hgB, zHi ⟨k1, k2, hfd⟩⟩
                 have HB := zHi HB24; have HC := zHi (zAi hcv15 (zAi hrp (zAi t5' (zAi hcv hm1)))); clear HB24 hcv15 hrp t5' hcv hgB hm1 hcell m0; go_upto_region 24 with (fail)
                 go_region_with (go_at_call 34; refine HB.out.mono ?_; rintro e w9 ⟨u, a9, f9, rfl, hu3, hc9, HU⟩)
                 all_goals
                  go_wp2_with fail
                  go_meet
                  case rel =>
                   have e6 : (3 : Int) + (u : Int) = ((3 + u : Nat) : Int) := by omega
                   have ew3 : IntKind.i64.wrap ((3 + u : Nat) : Int) = ((3 + u : Nat) : Int) := i64_in _ (by omega)
                   rw [e6, ew3]; have hrep := HR.out.2.2.2.2.1.rep HR.out.2.2.2.2.2.2.2.2.2 HZ.out.2.1 (Nat.le_refl _) (fun q => by have := HC.out.2.2.1; have := HR.out.1; omega) (u := u) (a3 := a9) (f3 := f9) (by rw [HC.out.2.1]; exact HU.out.2.1)
                   rw [HC.out.2.1] at hrep; exact HKEY.out (3 + u) cv a9 f9 _ (by omega) HC.out.1 HU.out.1 hrep HU.out.2.2 (.inr (by omega))
             · have t5 : ((s : Int) == 16) = false := by simp; omega
               by_cases s17 : s = 17
               · subst s17; have hrp : repOf 17 acc = (3, 3, 0) := by unfold repOf; rw [if_neg (by omega), if_pos rfl]
                 have HB := zHi (show Calls Tryz.prog 34 #[.pointer (some ⟨B, 0, none⟩), .int .i64 3] w7 _ from rbits_any w7 B sb src sc a8 false HZ.out.1 3 (by omega))
                 have HC := zHi hrp; clear hrp s16; go_wp2_with fail
                 refine HB.out.mono ?_; rintro e w9 ⟨u, a9, f9, rfl, hr9, hb9, hf9⟩; have hul := hb9.lt; have hu7 : (u : Int) ≤ 7 := by omega
                 have HU := zHi (zAi hr9 (zAi hb9 hf9)); clear hr9 hb9 hf9 hul; go_wp2_with fail
                 go_meet
                 case rel =>
                  have e6 : (3 : Int) + (u : Int) = ((3 + u : Nat) : Int) := by omega
                  rw [e6]; have hrep := HR.out.2.2.2.2.1.rep HR.out.2.2.2.2.2.2.2.2.2 HZ.out.2.1 (by omega) (fun q => by omega) (u := u) (a3 := a9) (f3 := f9) (by rw [HC.out]; exact HU.out.2.1)
                  rw [HC.out] at hrep; exact HKEY.out (3 + u) 0 a9 f9 _ (by omega) (by omega) HU.out.1 hrep HU.out.2.2 (.inr (by omega))
               · have t6 : ((s : Int) == 17) = false := by simp; omega
                 obtain rfl : s = 18 := by have := HZ.out; omega
                 have hrp : repOf 18 acc = (11, 7, 0) := by unfold repOf; rw [if_neg (by omega), if_neg (by omega)]
                 have HB := zHi (show Calls Tryz.prog 34 #[.pointer (some ⟨B, 0, none⟩), .int .i64 7] w7 _ from rbits_any w7 B sb src sc a8 false HZ.out.1 7 (by omega))
                 have HC := zHi hrp; clear hrp s16 s17; go_wp2_with fail
                 refine HB.out.mono ?_; rintro e w9 ⟨u, a9, f9, rfl, hr9, hb9, hf9⟩; have hul := hb9.lt; have hu7 : (u : Int) ≤ 127 := by omega
                 have HU := zHi (zAi hr9 (zAi hb9 hf9)); clear hr9 hb9 hf9 hul; go_wp2_with fail
                 go_meet
                 case rel =>
                  have e6 : (11 : Int) + (u : Int) = ((11 + u : Nat) : Int) := by omega
                  rw [e6]; have hrep := HR.out.2.2.2.2.1.rep HR.out.2.2.2.2.2.2.2.2.2 HZ.out.2.1 (by omega) (fun q => by omega) (u := u) (a3 := a9) (f3 := f9) (by rw [HC.out]; exact HU.out.2.1)
                  rw [HC.out] at hrep; exact HKEY.out (11 + u) 0 a9 f9 _ (by omega) (by omega) HU.out.1 hrep HU.out.2.2 (.inr (by omega))
            case rest =>
            obtain ⟨k9, cv, a9, f9, rfl, rfl, hk138, hcv, hr9, hln9, hM10, hown9, hfr9, hN10, h1k⟩ := hcut; apply_assumption; have HS := zHi (zAi hr9 (zAi hln9 (zAi hM10 (zAi hown9 (zAi hfr9 (zAi hN10 h1k)))))); have d6 : (k9 : Int) ≤ 138 := by omega
            have d7 : (cv : Int) ≤ 15 := by omega
            clear hr9 hln9 hM10 hown9 hfr9 hN10 h1k HZ t4; have d4 : (m : Int) ≤ 315 := by have := HR.out.2.2.2.2.2.2.2.2.1; omega
            obtain ⟨w9, rfl⟩ : ∃ w9, w9 = wc := ⟨_, rfl⟩; go_wp2_with fail
            go_loopg [12, 114] k9 (fun g v i wr => RpInv w B sb src sc vs acc M N1 k9 cv a9 f9 g v i wr)
            case atStart =>
             obtain ⟨hr9, hln9, hM10, hown9, hfr9, hN10, h1k⟩ := HS.out; exact ⟨0, b, m, c, Nat.zero_le _, rfl, rfl, rfl, HR.out.1, by rw [List.replicate_zero, List.append_nil]; exact hown9, hr9, hM10, hfr9, hN10⟩
            case round =>
             obtain ⟨j, b', m', c', hj, hg9, rfl, rfl, hm', hown', hr', hM', hfr', hN'⟩ := hrel; have d8 : (m' : Int) ≤ 453 := by have := HR.out.1; omega
             by_cases hlt : j < k9
             · have hacc : acc.length + j + 1 ≤ 1000 := by have := HR.out.1; omega
               obtain ⟨v'', w10, hra, hown'', hfra⟩ := append_nat wr N1 (.slice b' m' c') (acc ++ List.replicate j cv) hown' cv (by rw [List.length_append, List.length_replicate]; omega) hN'
               obtain ⟨b2, c2', rfl, _, _⟩ := OwnN.nt hown''; have hB0 := HBL.out; obtain ⟨hMB, hMN, hN0⟩ := HQ.out; have hr9 := hr'.keep hfra (fun o e => by have := (hown'.lt B e).1; omega) (fun q hq j e => by have := (hown'.lt _ e).1; have := HSB.out q hq; omega)
               have hM10 := hM'.keep hfra (fun o e => by have := (hown'.lt M e).1; omega)
               have hfr9 : Frm (fun b _ => b = B) w w10 := hfr'.trans' hfra (fun q o hq e => by have := (hown'.lt q e).1; omega)
               have hlist : acc ++ List.replicate j cv ++ [cv] = acc ++ List.replicate (j + 1) cv := by rw [List.append_assoc, ← List.replicate_succ']
               rw [hlist] at hown'' hra; have hlen : (acc ++ List.replicate (j + 1) cv).length = acc.length + (j + 1) := by rw [List.length_append, List.length_replicate]
               obtain ⟨m2, hm2⟩ : ∃ m2, m2 = (acc ++ List.replicate (j + 1) cv).length := ⟨_, rfl⟩; rw [← hm2] at hra hown'' hlen; have HX := zHi (zAi hown'' (zAi hr9 (zAi hM10 (zAi hfr9 (zAi (Nat.le_trans hN' hfra.size) hlen))))); have HV := zHi hg9; have hr := fun ty => hra ty
               clear hj hg9 hm' hown' hr' hM' hfr' hN' hacc hra hown'' hfra hB0 hMB hMN hN0 hr9 hM10 hfr9 hlist hlen hm2; go_wp2_with (at_builtin; refine wpList_append_by (by rfl) (.tmp 116) (.tmp 118) 33 (by rfl) _ _ (by rfl) (by rfl) (hr _) ?_)
               clear hr; go_roundg (k9 - (j + 1))
               case measure => have := HV.out; omega
               case rel =>
                obtain ⟨k1, k2, k3, k4, k5, k6⟩ := HX.out; exact ⟨j + 1, b2, m2, c2', hlt, rfl, by go_num, rfl, k6, k1, k2, k3, k4, k5⟩
             · obtain rfl : j = k9 := by omega
               have hd : decide (j < j) = false := by simp
               have HX := zHi (zAi hown' (zAi hr' (zAi hM' (zAi hfr' (zAi hN' hm'))))); clear hj hg9 hm' hown' hr' hM' hfr' hN' hlt; go_wp2_with fail
               go_roundg (if f9 = true then 0 else x + 257 + (y + 1) + 1 - m')
               case measure =>
                obtain ⟨q1, _, q3, _, q5, _, _, _, q9, _⟩ := HR.out; obtain ⟨_, _, _, _, _, _, h1k⟩ := HS.out; have := HNN.out.2; have := HX.out.2.2.2.2.2; rw [if_neg (by simp)] at q3
                rcases h1k with e | e
                · rw [if_pos e]; omega
                · split <;> omega
               case rel =>
                obtain ⟨k1, k2, k3, k4, k5, k6⟩ := HX.out; exact ⟨acc ++ List.replicate j cv, a9, f9, b', m', c', rfl, by rw [k6, List.length_append, List.length_replicate], by omega, Nat.le_refl _, k1, k2, HS.out.2.1, k3, k4, k5⟩
        · have t3 : decide ((m : Int) < (nn : Int)) = false := by simp; omega
          have t3' : ¬ m < nn := hlt; have hfin := hln.fin (by rw [← HNN.out.2, ← hm]; omega)
          by_cases heq : m = nn
          · have t4 : ((m : Int) != (nn : Int)) = false := by simp; omega
            obtain ⟨b', c', hv, hlc, hntl⟩ := OwnN.nt hown; injection hv with q3 q4 q5; subst q3 q5; clear q4; obtain ⟨gb, hb0, hcc0⟩ := hntl.cells 0 (by rw [← hm, heq, HNN.out.1, HN.out.1]; omega)
            have hnlm : nl ≤ m := by rw [heq, HNN.out.1]; omega
            have s2 := run_takeI b m c nl hnlm (by rw [hm]; exact hlc) (fun x hx => by rw [hb0] at hx; obtain rfl := Option.some.inj hx; rfl)
            obtain ⟨b2, s3, hnt2⟩ := run_dropI hntl.o m c nl hm hnlm (by rw [hm]; exact hlc)
            have hret : ∀ k : Nat, DyPost w B sb src sc a f (.returned (.tuple #[.slice b nl c, .slice b2 (m - nl) (c - nl)])) (wr.drewN k) := fun k => by
             have hf0 : Frm (fun _ _ => False) wr (wr.drewN k) := (Frm.refl _ _).drewN k
             have l1 : nl = (acc.take nl).length := by rw [List.length_take]; omega
             have l2 : m - nl = (acc.drop nl).length := by rw [List.length_drop]; omega
             have hx29 := hln.xl; have hy29 := hln.yl; have e1 := HN.out.1; have e2 := HN.out.2.1; have key : ∀ p q, p = (acc.take nl).length → q = (acc.drop nl).length → DyPost w B sb src sc a f (.returned (.tuple #[.slice b p c, .slice b2 q (c - nl)])) (wr.drewN k) := by
              rintro p q rfl rfl; refine ⟨b, c, acc.take nl, b2, c - nl, acc.drop nl, aa, false, rfl, hr.drewN k, hln.ge, hfr.drewN k, (hntl.o.take nl).keep hf0 (fun _ _ _ _ e => e), hnt2.keep hf0 (fun _ _ _ _ e => e), fun n hn => hln.small n (List.mem_of_mem_take hn), fun n hn => hln.small n (List.mem_of_mem_drop hn), by omega, by omega, .inr ⟨rfl, hfin.1, ?_⟩⟩
              rw [HN.out.1]; exact hfin.2.2 (by rw [← HNN.out.2, ← hm]; exact heq)
             exact key nl (m - nl) l1 l2
            have HX := zHi hret; clear hcc0 hm hm5 hg hown hr hln hM8 hfr hN8 hlt hfin heq hlc hntl hb0 hnlm hnt2 hret; go_upto_region 34 with (fail)
            (go_quiet (fail))
            go_wp2_with fail
            go_ret2
            exact HX.out _
          · have t4 : ((m : Int) != (nn : Int)) = true := by simp; omega
            have HX := zHi (HBAD.out (.inr (hfin.2.1 (by rw [← HNN.out.2, ← hm]; exact heq))))
            clear hm hm5 hg hown hr hln hM8 hfr hN8 hlt hfin heq; go_wp2_with fail
            go_ret2
            exact HX.out
def RfPost (w : World) (src dict : List UInt8) (e : Ending) (w' : World) : Prop :=
 (∃ (b : Option Addr) (X : List UInt8) (c P : Nat), e = .returned (.tuple #[.slice b X.length c, .int .i64 (P : Int), .bool true]) ∧ Bt w' b X c ∧ Infl src dict .eof P X ∧ Frm (fun _ _ => False) w w') ∨
 (e = .returned (.tuple #[.slice none 0 0, .int .i64 0, .bool false]) ∧ (∃ er P X, Infl src dict er P X ∧ er ≠ .eof) ∧ Frm (fun _ _ => False) w w')
theorem rr_new (w : World) (base : Option Addr) (src : List UInt8) (cap : Nat) (hs : Bt w base src cap) (hsl : src.length ≤ 1099511627776) :
 Rr (w.alloc (.cells #[.slice base src.length cap, .int .i64 0, .bool false] 70)) w.heap.size base src cap 0 false := by
 have hc : ∀ o, (w.alloc (.cells #[.slice base src.length cap, .int .i64 0, .bool false] 70)).cell? ⟨w.heap.size, o, none⟩ = (#[.slice base src.length cap, .int .i64 0, .bool false] : Array Value)[o]? := fun o => cells_at (heap_alloc_new w _)
 have hf : Frm (fun _ _ => False) w (w.alloc (.cells #[.slice base src.length cap, .int .i64 0, .bool false] 70)) := (Frm.refl _ _).alloc _
 exact ⟨(hc 0).trans rfl, (hc 1).trans rfl, (hc 2).trans rfl, fun o => World.frozen?_alloc_new (w := w) .., (hs.keep hf).bytes, fun x hx => by have := hs.lt x hx; omega, fun x hx => Nat.lt_of_lt_of_le (hs.lt x hx) hf.size, hs.nilc, hsl, hs.hcap, Nat.zero_le _⟩
theorem pair_le {src : List UInt8} {dl : List Nat} {v a n f a' : Nat} (h : spPair src dl v a = some (n, f, a')) : a ≤ a' := by
 unfold spPair at h
 split at h
 · simp at h
 · split at h
   · simp at h
   · split at h
     · simp at h
     · split at h
       · simp at h
       · split at h
         · simp at h
         · simp only [Option.some.injEq, Prod.mk.injEq] at h; omega
theorem run_le {src : List UInt8} {ll dl : List Nat} {a : Nat} {H : List UInt8} {R : Option (Nat × List UInt8)} (h : SpRun src ll dl a H R) : ∀ q, R = some q → a ≤ q.1 := by
 have st : ∀ {a H}, match spStep src ll dl a H with | .fail => True | .fin a' => a ≤ a' | .go a' _ => a ≤ a' := by
  intro a H; unfold spStep
  cases h1 : symS ll src a with
  | none => trivial
  | some s =>
   simp only
   by_cases h2 : s < 256
   · rw [if_pos h2]; simp only; omega
   · rw [if_neg h2]
     by_cases h3 : s = 256
     · rw [if_pos h3]; simp only; omega
     · rw [if_neg h3]
       cases h4 : spPair src dl s (a + ll.getD s 0) with
       | none => trivial
       | some p =>
        obtain ⟨n, f, a'⟩ := p; have := pair_le h4; simp only
        by_cases h5 : H.length < f
        · rw [if_pos h5]; trivial
        · rw [if_neg h5]; simp only; omega
 induction h with
 | fail _ => intro q hq; simp at hq
 | @fin a H a' h1 =>
  intro q hq; obtain rfl := Option.some.inj hq; have := st (a := a) (H := H); rw [h1] at this; exact this
 | @go a H a' H' R h1 _ ih =>
  intro q hq; have := st (a := a) (H := H); rw [h1] at this; exact Nat.le_trans this (ih q hq)
theorem spDyn_full {src : List UInt8} {a : Nat} {ll dl : List Nat} {a' : Nat} (h : spDyn src a = some ((ll, dl), a')) : Full ll ∧ Full dl := by
 unfold spDyn at h
 split at h
 · simp at h
 · split at h
   · simp at h
   · split at h
     · simp at h
     · split at h
       · simp at h
       · split at h
         · simp at h
         · split at h
           · simp at h
           · split at h
             · rename_i hF; simp only [Option.some.injEq, Prod.mk.injEq] at h; obtain ⟨⟨rfl, rfl⟩, _⟩ := h; exact hF
             · simp at h
theorem BkS.next {w : World} {N0 B : Nat} {sb : Option Addr} {src : List UInt8} {sc : Nat} {v : Value} {wr : World} {v1 : Value} {H1 : List UInt8} {a1 : Nat} {f1 : Bool} (h : BkS w N0 B sb src sc v wr v1 H1 a1 f1) {w2 : World} {v2 : Value} {H2 : List UInt8} {a2 : Nat} {f2 : Bool}
 (ho : Own w2 N0 v2 H2) (hr : Rr w2 B sb src sc a2 f2) (hg : Grw wr v1 v2) (hf : Frm (SOw v1 B) wr w2) (hl : H2.length ≤ 32768 + 258 * a2) : BkS w N0 B sb src sc v w2 v2 H2 a2 f2 :=
 ⟨ho, hr, h.grw.trans hg h.frm.size, frm_SOw_trans h.frm h.grw hf, hl⟩
def BlkOut (src : List UInt8) (a1 : Nat) (H1 : List UInt8) (x : Nat) (a4 : Nat) (f4 : Bool) (H4 : List UInt8) : Prop :=
 f4 = true ∧ SpBlk src a1 H1 none ∨ f4 = false ∧ a1 < a4 ∧ x = bv src a1 1 ∧ SpBlk src a1 H1 (some (bv src a1 1 == 1, a4, H4))
def Hd3 (src : List UInt8) (a1 : Nat) (x k a3 : Nat) (f3 : Bool) : Prop :=
 x ≤ 1 ∧ k < 4 ∧ a1 ≤ a3 ∧ (f3 = true ∧ 8 * src.length < a1 + 3 ∨ f3 = false ∧ a1 + 3 ≤ 8 * src.length ∧ x = bv src a1 1 ∧ k = bv src (a1 + 1) 2 ∧ a3 = a1 + 3)
theorem hd3_of {src : List UInt8} {a1 x k a2 a3 : Nat} {f2 f3 : Bool} (h1 : BitsR src 1 a1 false x a2 f2) (h2 : BitsR src 2 a2 f2 k a3 f3) : Hd3 src a1 x k a3 f3 := by
 have l1 := h1.lt
 have l2 := h2.lt
 have g1 := h1.ge
 have g2 := h2.ge
 refine ⟨by omega, by omega, by omega, ?_⟩
 rcases h1.cases with ⟨e1, k1, rfl, rfl⟩ | ⟨e1, k1⟩
 · subst e1; rcases h2.cases with ⟨e2, k2, rfl, rfl⟩ | ⟨e2, k2⟩
   · exact .inr ⟨e2, by omega, rfl, rfl, by omega⟩
   · exact .inl ⟨e2, by omega⟩
 · subst e1; exact .inl ⟨h2.stays, by omega⟩
theorem Hd3.stored {src : List UInt8} {a1 x a3 a4 : Nat} {f3 f4 : Bool} {H1 H4 : List UInt8} (h : Hd3 src a1 x 0 a3 f3) (g : StRel src a3 f3 H1 H4 a4 f4) : BlkOut src a1 H1 x a4 f4 H4 := by
 rcases h.2.2.2 with ⟨e, q⟩ | ⟨e, q, hx, hk, rfl⟩
 · exact .inl ⟨g.1 e, .cut q⟩
 · rcases g.2 e with ⟨e4, r⟩ | ⟨e4, r1, r2, r3, r4⟩
   · refine .inl ⟨e4, ?_⟩
     by_cases c1 : src.length < (a1 + 3 + 7) / 8 + 4
     · exact .stCut q hk.symm c1
     · by_cases c2 : bv src (8 * ((a1 + 3 + 7) / 8)) 16 + bv src (8 * ((a1 + 3 + 7) / 8) + 16) 16 ≠ 65535
       · exact .stBad q hk.symm (by omega) c2
       · exact .stShort q hk.symm (by omega) (by omega) (by rcases r with r | r | r <;> first | exact absurd r c1 | exact absurd r c2 | exact r)
   · exact .inr ⟨e4, by omega, hx, by rw [r3, r4]; exact .stored q hk.symm r2 r1⟩
theorem Hd3.fixed {src : List UInt8} {a1 x a3 a4 : Nat} {f3 f4 : Bool} {H1 H4 : List UInt8} (h : Hd3 src a1 x 1 a3 f3) (hl : Full fixedLens) (hd : Full fixedDist) (g : BkRel src fixedLens fixedDist a3 f3 H1 H4 a4 f4) : BlkOut src a1 H1 x a4 f4 H4 := by
 rcases h.2.2.2 with ⟨e, q⟩ | ⟨e, q, hx, hk, rfl⟩
 · exact .inl ⟨g.1 e, .cut q⟩
 · rcases g.2 e with ⟨e4, _, _, r⟩ | ⟨e4, r⟩
   · have := run_le r _ rfl; exact .inr ⟨e4, by simp only at this; omega, hx, .fixed q hk.symm r⟩
   · exact .inl ⟨e4, .fixed (R := none) q hk.symm (r hl hd)⟩
theorem Hd3.dynBad {src : List UInt8} {a1 x a3 : Nat} {f3 : Bool} {H1 : List UInt8} (h : Hd3 src a1 x 2 a3 f3) (g : f3 = true ∨ spDyn src a3 = none) : SpBlk src a1 H1 none := by
 rcases h.2.2.2 with ⟨e, q⟩ | ⟨e, q, hx, hk, rfl⟩
 · exact .cut q
 · rcases g with g | g
   · rw [e] at g; simp at g
   · exact .dynBad q hk.symm g
theorem Hd3.dyn {src : List UInt8} {a1 x a3 a4 a5 : Nat} {f3 f5 : Bool} {H1 H5 : List UInt8} {ll dl : List Nat} (h : Hd3 src a1 x 2 a3 f3) (ha : a3 ≤ a4) (h3 : f3 = false) (g : spDyn src a3 = some ((ll, dl), a4) ∨ spDyn src a3 = none ∧ ¬ (Full ll ∧ Full dl)) (k : BkRel src ll dl a4 false H1 H5 a5 f5) : BlkOut src a1 H1 x a5 f5 H5 := by
 rcases h.2.2.2 with ⟨e, q⟩ | ⟨e, q, hx, hk, rfl⟩
 · rw [h3] at e; simp at e
 · rcases g with g | ⟨g, gn⟩
   · obtain ⟨hl, hd⟩ := spDyn_full g; rcases k.2 rfl with ⟨e5, _, _, r⟩ | ⟨e5, r⟩
     · have := run_le r _ rfl; exact .inr ⟨e5, by simp only at this; omega, hx, .dyn q hk.symm g r⟩
     · exact .inl ⟨e5, .dyn (R := none) q hk.symm g (r hl hd)⟩
   · rcases k.2 rfl with ⟨_, hl, hd, _⟩ | ⟨e5, _⟩
     · exact absurd ⟨hl, hd⟩ gn
     · exact .inl ⟨e5, .dynBad q hk.symm g⟩
theorem Hd3.kind {src : List UInt8} {a1 x a3 : Nat} {f3 : Bool} {H1 : List UInt8} (h : Hd3 src a1 x 3 a3 f3) : SpBlk src a1 H1 none := by
 rcases h.2.2.2 with ⟨e, q⟩ | ⟨e, q, hx, hk, rfl⟩
 · exact .cut q
 · exact .kind q hk.symm
def InRel (src H0 : List UInt8) (l1 a1 : Nat) (f1 : Bool) (H1 : List UInt8) : Prop :=
 f1 = true ∧ SpIn src 0 H0 none ∨ f1 = false ∧ l1 = 0 ∧ (∀ R, SpIn src a1 H1 R → SpIn src 0 H0 R) ∨ f1 = false ∧ l1 = 1 ∧ SpIn src 0 H0 (some (a1, H1))
theorem BlkOut.rel {src H0 : List UInt8} {a1 : Nat} {H1 : List UInt8} {x a4 : Nat} {f4 : Bool} {H4 : List UInt8} (h : BlkOut src a1 H1 x a4 f4 H4) (hx : x ≤ 1) (g : ∀ R, SpIn src a1 H1 R → SpIn src 0 H0 R) : InRel src H0 x a4 f4 H4 := by
 rcases h with ⟨e, q⟩ | ⟨e, _, hv, q⟩
 · exact .inl ⟨e, g _ (.fail q)⟩
 · rw [← hv] at q; have h01 : x = 0 ∨ x = 1 := by omega
   rcases h01 with e1 | e1
   · subst e1; exact .inr (.inl ⟨e, rfl, fun R r => g R (.go q r)⟩)
   · subst e1; exact .inr (.inr ⟨e, rfl, g _ (.last q)⟩)
def InInv (w0 : World) (N0 B : Nat) (sb : Option Addr) (src : List UInt8) (sc : Nat) (v0 : Value) (H0 : List UInt8) (g : Nat) (v last : Value) (wr : World) : Prop :=
 ∃ H1 a1 f1 l1 b m c, v = .slice b m c ∧ m = H1.length ∧ last = .int .i64 ((l1 : Nat) : Int) ∧ l1 ≤ 1 ∧ (if f1 = true then 0 else 8 * src.length + 1 - a1) ≤ g ∧ BkS w0 N0 B sb src sc v0 wr v H1 a1 f1 ∧ InRel src H0 l1 a1 f1 H1
theorem fixedDist15R : ∀ n ∈ fixedDist, n ≤ 15 := fun n hn => by unfold fixedDist at hn; have := (List.mem_replicate.1 hn).2; omega
theorem full_fixedDist : Full fixedDist := (full_iff fixedDist15R).2 (.inl (by decide +kernel))
def RfDict (w : World) (dict : List UInt8) (s : Value) (wq : World) : Prop := ∃ b c, s = .slice b (lastOf dict).length c ∧ Bt w b (lastOf dict) c ∧ w = wq
set_option maxHeartbeats 4000000 in
theorem rinflate_any (w : World) (base : Option Addr) (src : List UInt8) (cap : Nat) (hs : Bt w base src cap) (hsl : src.length ≤ 2147483647) (dbase : Option Addr) (dict : List UInt8) (dcap : Nat) (hd : Bt w dbase dict dcap) (hdl : dict.length ≤ 4294967296) :
 Calls Tryz.prog 23 #[.slice base src.length cap, .slice dbase dict.length dcap] w (RfPost w src dict) := by
 have HL := zHi (zAi hsl hdl)
 have HBB := zHi hs.lt
 have hr1 := rr_new w base src cap hs (by omega)
 have hf1 : Frm (fun _ _ => False) w (w.alloc (.cells #[.slice base src.length cap, .int .i64 0, .bool false] 70)) := (Frm.refl _ _).alloc _
 have hz1 : (w.alloc (.cells #[.slice base src.length cap, .int .i64 0, .bool false] 70)).heap.size = w.heap.size + 1 := by simp
 obtain ⟨n2, hn2⟩ : ∃ n2, n2 = dict.length := ⟨_, rfl⟩
 rw [← hn2]
 have c1 : (n2 : Int) ≤ 4294967296 := by omega
 obtain ⟨w1, hw1⟩ : ∃ w1, w1 = w.alloc (.cells #[.slice base src.length cap, .int .i64 0, .bool false] 70) := ⟨_, rfl⟩
 obtain ⟨B, hB⟩ : ∃ B, B = w.heap.size := ⟨_, rfl⟩
 rw [← hw1] at hr1 hf1 hz1
 rw [← hB] at hr1 hz1
 have HD := zHi (hd.keep hf1)
 have H1 := zHi (zAi hr1 (zAi hf1 (zAi hz1 (zAi hB hn2))))
 clear hs hsl hd hdl hr1 hf1 hz1 hn2
 go_enter Tryz.func23, Tryz.ntmps23
 go_upto_if 20 with (fail)
 rw [← hw1, ← hB]
 clear hw1 hB
 go_cut [1] (fun s wq => RfDict w1 dict s wq)
 case first =>
  by_cases h : 32768 < n2
  · have t1 : decide ((32768 : Int) < (n2 : Int)) = true := by simp; omega
    obtain ⟨q, hq⟩ : ∃ q, q = n2 - 32768 := ⟨_, rfl⟩; have e1 : (n2 : Int) - 32768 = (q : Int) := by omega
    obtain ⟨b', hrun, hbt⟩ := run_tailB HD.out q (by have := H1.out.2.2.2.2; omega)
    have hq1 : dict.length - q = (lastOf dict).length := by unfold lastOf; rw [List.length_drop]; have := H1.out.2.2.2.2; omega
    have hq2 : dict.drop q = lastOf dict := by unfold lastOf; rw [hq, H1.out.2.2.2.2]
    rw [hq2] at hbt; rw [hq1, ← H1.out.2.2.2.2] at hrun; have HX := zHi (show RfDict w1 dict (.slice b' (lastOf dict).length (dcap - q)) w1 from ⟨b', dcap - q, rfl, hbt, rfl⟩)
    clear hq hbt hq1 hq2 h; rw [t1]; clear t1; go_wp2_with fail
    go_meet
    case rel => exact HX.out
  · have t1 : decide ((32768 : Int) < (n2 : Int)) = false := by simp; omega
    have hq2 : lastOf dict = dict := by unfold lastOf; have := H1.out.2.2.2.2; rw [show dict.length - 32768 = 0 by omega]; rfl
    have HX := zHi (show RfDict w1 dict (.slice dbase n2 dcap) w1 from ⟨dbase, dcap, by rw [hq2, H1.out.2.2.2.2], by rw [hq2]; exact HD.out, rfl⟩)
    clear hq2 h; rw [t1]; clear t1; go_wp2_with fail
    go_meet
    case rel => exact HX.out
 case rest =>
 obtain ⟨b2, cp2, rfl, hbt2, rfl⟩ := hcut
 apply_assumption
 obtain ⟨H0, hH0⟩ : ∃ H0, H0 = lastOf dict := ⟨_, rfl⟩
 rw [← hH0] at hbt2 ⊢
 obtain ⟨m2, hm2⟩ : ∃ m2, m2 = H0.length := ⟨_, rfl⟩
 have hm2b : m2 ≤ 32768 := by rw [hm2, hH0]; unfold lastOf; rw [List.length_drop]; omega
 rw [← hm2]
 have c2 : (m2 : Int) ≤ 32768 := by omega
 have ho3 : Own (w1.alloc (.cells #[] 5)) w1.heap.size (.slice (some ⟨w1.heap.size, 0, none⟩) 0 0) [] := own_new w1 [] (by simp)
 have hf3 : Frm (fun _ _ => False) w1 (w1.alloc (.cells #[] 5)) := (Frm.refl _ _).alloc _
 obtain ⟨v4, w4, hr4, ho4, hfr4, _⟩ := append_bt _ w1.heap.size _ [] ho3 b2 H0 cp2 (hbt2.keep hf3) (by simp only [List.length_nil]; omega) hf3.size
 have hf4 := ho3.fresh hf3 (Nat.le_refl _) hfr4
 rw [List.nil_append] at ho4
 rw [← hm2] at hr4
 obtain ⟨N0, hN0⟩ : ∃ N0, N0 = w1.heap.size := ⟨_, rfl⟩
 rw [← hN0] at ho4
 have hB0 : B < N0 := by rw [hN0, H1.out.2.2.1]; omega
 have hbk : BkS w4 N0 B base src cap v4 w4 v4 H0 0 false := ⟨ho4, H1.out.1.keep hf4 (fun _ e => e) (fun _ _ _ e => e), Grw.refl _ _, Frm.refl _ _, by omega⟩
 have hN4 : N0 ≤ w4.heap.size := by rw [hN0]; exact hf4.size
 have hsb : ∀ x, base = some x → x.block < N0 := fun x hx => by have := HBB.out x hx; have := H1.out.2.2.1; have := H1.out.2.2.2.1; omega
 have hr := fun ty => hr4 ty
 have H4 := zHi (zAi hbk (zAi hB0 (zAi hN4 (zAi hsb (zAi hf4 (zAi hH0 hm2))))))
 have HW := zHi (show w.heap.size ≤ B ∧ w.heap.size ≤ N0 from by have := H1.out.2.2.1; have := H1.out.2.2.2.1; omega)
 clear hbt2 hm2b ho3 hf3 hr4 ho4 hfr4 hf4 hN0 hB0 hbk hN4 hsb hH0 hm2
 go_wp2_with (at_builtin; refine wpList_append_by (by rfl) (.tmp 26) (.tmp 27) 22 (by rfl) _ _ (by rfl) (by rfl) (hr _) ?_)
 clear hr
 go_loopg [8, 9] (8 * src.length + 1) (fun g v last wr => InInv w4 N0 B base src cap v4 H0 g v last wr)
 case atStart =>
  obtain ⟨b, c, hv, hbt⟩ := H4.out.1.own.bt; exact ⟨H0, 0, false, 0, b, H0.length, c, hv, rfl, rfl, by omega, Nat.le_refl _, H4.out.1, .inr (.inl ⟨rfl, rfl, fun R h => h⟩)⟩
 case round =>
  obtain ⟨H1', a1, f1, l1, b, m, c, rfl, hm, rfl, hl1, hg, hbk, hrel⟩ := hrel; have p2 := hbk.rr.c2; have d1 : (l1 : Int) ≤ 1 := by omega
  have hfw : Frm (fun _ _ => False) w wr := (H1.out.2.1.trans H4.out.2.2.2.2.1).trans' hbk.frm (fun x o hx e => by
   rcases e with e | e
   · have := HW.out.1; omega
   · have := (H4.out.1.own.lt x e).1; have := HW.out.2; omega)
  rcases hrel with ⟨rfl, hsp⟩ | ⟨rfl, rfl, hsp⟩ | ⟨rfl, rfl, hsp⟩
  · have hret : RfPost w src dict (.returned (.tuple #[.slice none 0 0, .int .i64 0, .bool false])) wr := by
     rw [H4.out.2.2.2.2.2.1] at hsp; exact .inr ⟨rfl, spIn_none hsp, hfw⟩
    have HX := zHi hret; have hl01 : l1 = 0 ∨ l1 = 1 := by omega
    clear hret hsp hfw hm hl1 hg hbk; rcases hl01 with rfl | rfl
    all_goals
     go_wp2_with fail
     go_ret3
     exact HX.out
  · have HB1 := zHi (show Calls Tryz.prog 33 #[.pointer (some ⟨B, 0, none⟩)] wr _ from rbit_any wr B base src cap a1 false hbk.rr)
    have HR := zHi (zAi hm (zAi hg (zAi hbk hsp))); clear hm hg hbk hsp hfw hl1; go_wp2_with fail
    refine HB1.out.mono ?_; rintro e w5 ⟨x, a2, f2, rfl, hr5, hb5, hf5⟩; have HB2 := zHi (show Calls Tryz.prog 34 #[.pointer (some ⟨B, 0, none⟩), .int .i64 2] w5 _ from rbits_any w5 B base src cap a2 f2 hr5 2 (by omega))
    have H5 := zHi (zAi hb5 hf5); have hx1 := hb5.lt; have d2 : (x : Int) ≤ 1 := by omega
    clear hr5 hb5 hf5 hx1 HB1; go_wp2_with fail
    refine HB2.out.mono ?_; rintro e w6 ⟨k, a3, f3, rfl, hr6, hb6, hf6⟩; have hhd := hd3_of H5.out.1 hb6; have hbk6 := HR.out.2.2.1.bits H4.out.2.1 hr6 hhd.2.2.1 (H5.out.2.trans hf6); have p2 := hr6.c2; have q2 := hr6.fr 2; have hk4 : k = 0 ∨ k = 1 ∨ k = 2 ∨ k = 3 := by have := hhd.2.1; omega
    have H6 := zHi (zAi hhd hbk6); clear hr6 hb6 hf6 hhd hbk6 HB2; have d3 : (k : Int) ≤ 3 := by omega
    have HK := zHi hk4; clear hk4; have hN6 : N0 ≤ w6.heap.size := Nat.le_trans H4.out.2.2.1 H6.out.2.frm.size; have HN6 := zHi hN6; clear hN6; have key : ∀ (v : Value) (wq : World) (H5 : List UInt8) (a5 : Nat) (f5 : Bool), BkS w4 N0 B base src cap v4 wq v H5 a5 f5 → BlkOut src a1 H1' x a5 f5 H5 → (if f5 = true then 0 else 8 * src.length + 1 - a5) < gk ∧ InInv w4 N0 B base src cap v4 H0 (if f5 = true then 0 else 8 * src.length + 1 - a5) v (.int .i64 (x : Int)) wq := by
     intro v wq H5 a5 f5 h1 h2; have hx1 : x ≤ 1 := H6.out.1.1; refine ⟨?_, ?_⟩
     · have hg := HR.out.2.1; have hle := HR.out.2.2.1.rr.at_; have hle5 := h1.rr.at_; rw [if_neg (by simp)] at hg
       rcases h2 with ⟨e, _⟩ | ⟨e, q, _⟩
       · rw [if_pos e]; omega
       · split <;> omega
     · obtain ⟨b, c, hv, _⟩ := h1.own.bt; exact ⟨H5, a5, f5, x, b, H5.length, c, hv, rfl, rfl, hx1, Nat.le_refl _, h1, h2.rel hx1 HR.out.2.2.2⟩
    have HKEY := zHi key; clear key; rcases HK.out with rfl | rfl | rfl | rfl
    · have HST := zHi (rstored_any w6 N0 B base src cap a3 f3 H6.out.2.rr H4.out.2.1 HN6.out H4.out.2.2.2.1 HL.out.1 (.slice b m c) H1' H6.out.2.own H6.out.2.few); go_wp2_with fail
      refine HST.out.mono ?_; rintro e w7 ⟨vv, HH, aa, ff, rfl, ho, hr, hg, hf, hl, hR⟩; have hrel := HKEY.out vv w7 HH aa ff (H6.out.2.next ho hr hg hf hl) (H6.out.1.stored hR); have HX := zHi hrel; clear ho hr hg hf hl hR hrel HST; go_wp2_with fail
      go_roundg (if ff = true then 0 else 8 * src.length + 1 - aa)
      case measure => exact HX.out.1
      case rel => exact HX.out.2
    · have HFX := zHi (fixed_any w6); go_wp2_with fail
      refine HFX.out.mono ?_; rintro e w7 ⟨v1, v2, rfl, o1, o2, hf7⟩; obtain ⟨lb, lc, rfl, _, n1⟩ := OwnN.nt o1; obtain ⟨db, dc, rfl, _, n2⟩ := OwnN.nt o2; have hbk7 := H6.out.2.bits H4.out.2.1 (H6.out.2.rr.keep hf7 (fun _ e => e) (fun _ _ _ e => e)) (Nat.le_refl _) (hf7.mono fun _ _ e => e.elim)
      have HBL := zHi (rblock_any w7 N0 B base src cap a3 f3 hbk7.rr H4.out.2.1 (Nat.le_trans HN6.out hf7.size) H4.out.2.2.2.1 HL.out.1 (.slice b m c) H1' hbk7.own hbk7.few lb fixedLens lc n1.o fixedLens_le (by rw [fixedLens_length]; omega) db fixedDist dc n2.o fixedDist15R (by unfold fixedDist; rw [List.length_replicate]; omega))
      have H7 := zHi hbk7; clear o1 o2 n1 n2 hf7 hbk7 HFX; go_wp2_with fail
      refine HBL.out.mono ?_; rintro e w8 ⟨vv, HH, aa, ff, rfl, ho, hr, hg, hf, hl, hR⟩; have hrel := HKEY.out vv w8 HH aa ff (H7.out.next ho hr hg hf hl) (H6.out.1.fixed fixed_law.2 full_fixedDist hR); have HX := zHi hrel; clear ho hr hg hf hl hR hrel HBL; go_wp2_with fail
      go_roundg (if ff = true then 0 else 8 * src.length + 1 - aa)
      case measure => exact HX.out.1
      case rel => exact HX.out.2
    · have HDY := zHi (dynamic_any w6 B base src cap a3 f3 H6.out.2.rr); go_wp2_with fail
      refine HDY.out.mono ?_; rintro e w7 ⟨lb, lc, ll, db, dc, dl, a4, f4, rfl, hr7, ha4, hf7, n1, n2, l15, d15, l320, d320, hcase⟩; have hbk7 := H6.out.2.bits H4.out.2.1 hr7 ha4 hf7; have p2 := hr7.c2; rcases hcase with ⟨rfl, hno⟩ | ⟨rfl, h3, hyes⟩
      · have hrel := HKEY.out (.slice b m c) w7 H1' a4 true hbk7 (.inl ⟨rfl, H6.out.1.dynBad hno⟩); have HX := zHi hrel; clear hr7 ha4 hf7 n1 n2 l15 d15 l320 d320 hbk7 hno hrel HDY; go_wp2_with fail
        go_roundg (if true = true then 0 else 8 * src.length + 1 - a4)
        case measure => exact HX.out.1
        case rel => exact HX.out.2
      · have HBL := zHi (rblock_any w7 N0 B base src cap a4 false hbk7.rr H4.out.2.1 (Nat.le_trans HN6.out hf7.size) H4.out.2.2.2.1 HL.out.1 (.slice b m c) H1' hbk7.own hbk7.few lb ll lc n1 l15 l320 db dl dc n2 d15 d320); have H7 := zHi (zAi hbk7 (zAi ha4 (zAi h3 hyes))); clear hr7 ha4 hf7 n1 n2 l15 d15 l320 d320 hbk7 h3 hyes HDY; go_wp2_with fail
        refine HBL.out.mono ?_; rintro e w8 ⟨vv, HH, aa, ff, rfl, ho, hr, hg, hf, hl, hR⟩; have hrel := HKEY.out vv w8 HH aa ff (H7.out.1.next ho hr hg hf hl) (H6.out.1.dyn H7.out.2.1 H7.out.2.2.1 H7.out.2.2.2 hR); have HX := zHi hrel; clear ho hr hg hf hl hR hrel HBL; go_wp2_with fail
        go_roundg (if ff = true then 0 else 8 * src.length + 1 - aa)
        case measure => exact HX.out.1
        case rel => exact HX.out.2
    · have hrel := HKEY.out (.slice b m c) (w6.setCell ⟨B, 2, none⟩ (.bool true)) H1' a3 true (H6.out.2.fail H4.out.2.1) (.inl ⟨rfl, H6.out.1.kind⟩); have HX := zHi hrel; clear hrel; go_wp2_with fail
      go_roundg (if true = true then 0 else 8 * src.length + 1 - a3)
      case measure => exact HX.out.1
      case rel => exact HX.out.2
  · rw [H4.out.2.2.2.2.2.1] at hsp; obtain ⟨X, hX, hI⟩ := spIn_some hsp; have HAL := zHi (ralign_any wr B base src cap a1 false hbk.rr); have HR := zHi (zAi hm (zAi hbk (zAi hfw (zAi hX hI)))); clear hm hg hbk hsp hfw hX hI hl1; go_wp2_with fail
    refine HAL.out.mono ?_; rintro e w5 ⟨rfl, hr5, hf5⟩; obtain ⟨hm, hbk, hfw, hX, hI⟩ := HR.out; obtain ⟨b', c', hv, hbt⟩ := (hbk.bits H4.out.2.1 hr5 (by omega) hf5).own.bt
    injection hv with e1 e2 e3; subst e1 e3; clear e2; have hm2 := H4.out.2.2.2.2.2.2; have hH0 := H4.out.2.2.2.2.2.1; have hle : m2 ≤ H1'.length := by rw [hX, List.length_append, hm2, hH0]; omega
    obtain ⟨b3, hrun, hbt3⟩ := run_tailB hbt m2 hle; have hdr : H1'.drop m2 = X := by rw [hX, hm2, hH0]; exact List.drop_left
    rw [hdr] at hbt3; have hnx : H1'.length - m2 = X.length := by rw [← hdr, List.length_drop]
    rw [hnx, ← hm] at hrun; obtain ⟨P, hP⟩ : ∃ P, P = (a1 + 7) / 8 := ⟨_, rfl⟩; obtain ⟨q8, hq8⟩ : ∃ q8, q8 = 8 * P := ⟨_, rfl⟩; rw [← hP, ← hq8] at hr5; have p1 := hr5.c1; have hq1 := hr5.at_; have e1 : (q8 : Int) / 8 = (P : Int) := by omega
    have e1' : (q8 : Int).tdiv 8 = (P : Int) := by rw [Int.tdiv_eq_ediv_of_nonneg (by omega)]; exact e1
    have d3 : (q8 : Int) ≤ 17179869176 := by have := HL.out.1; omega
    have d4 : (P : Int) ≤ 2147483647 := by omega
    have ew : IntKind.i64.wrap (P : Int) = (P : Int) := i64_in _ (by omega)
    have hret : ∀ k : Nat, RfPost w src dict (.returned (.tuple #[.slice b3 X.length (c - m2), .int .i64 (P : Int), .bool true])) (w5.drewN k) := fun k => by
     have hfk : Frm (fun _ _ => False) w5 (w5.drewN k) := (Frm.refl _ _).drewN k
     rw [← hP] at hI; have hf15 : Frm (fun _ _ => False) w w5 := hfw.trans' hf5 (fun x o hx e => by have := HW.out.1; omega)
     exact .inl ⟨b3, X, c - m2, P, rfl, hbt3.keep hfk, hI, hf15.trans hfk⟩
    have HX := zHi hret; have hmb : m2 ≤ m := by rw [hm]; exact hle
    have hX4 : ∃ nx, nx = X.length := ⟨_, rfl⟩; obtain ⟨nx, hnx4⟩ := hX4; rw [← hnx4] at hrun; have HNX := zHi hnx4; clear hm hbk hfw hX hI hbt hm2 hH0 hle hbt3 hdr hnx hP hq8 hr5 hq1 hret hnx4 hf5 HAL hmb; go_upto_region 23 with (fail)
    (go_quiet (fail))
    go_wp2_with fail
    go_ret3
    rw [HNX.out]; exact HX.out _
end Go.Proofs.YthfncdfcklbigaaGreatDoor
