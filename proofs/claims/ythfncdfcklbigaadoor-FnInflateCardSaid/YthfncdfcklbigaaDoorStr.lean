/-
  For the walk of 'huffmanDecoder.init': every step-th cell of a row is turned.
-/
import Derived.Test.YthfncdfcklbigaaDoorLay
import Derived.Test.YthfncdfcklbigaaDoorTabOk
set_option linter.unusedVariables false
set_option linter.unusedSimpArgs false
namespace Go.Proofs.YthfncdfcklbigaaDoor
open Go.RowKit Flate
set_option maxRecDepth 100000

theorem i64_or_nat (a b : Nat) (ha : a < 2 ^ 62) (hb : b < 2 ^ 62) : bits .or .i64 (a : Int) (b : Int) = ((a ||| b : Nat) : Int) := by
  have h := Nat.or_lt_two_pow ha hb
  show IntKind.i64.wrap ((BitVec.ofInt 64 (a : Int) ||| BitVec.ofInt 64 (b : Int)).toNat : Int) = _
  have ea : (BitVec.ofInt 64 (a : Int)).toNat = a := by rw [BitVec.toNat_ofInt]; omega
  have eb : (BitVec.ofInt 64 (b : Int)).toNat = b := by rw [BitVec.toNat_ofInt]; omega
  rw [BitVec.toNat_or, ea, eb]
  have e : ((a ||| b : Nat) : Int) % 2 ^ 64 = ((a ||| b : Nat) : Int) := Int.emod_eq_of_lt (by omega) (by omega)
  simp only [IntKind.wrap, IntKind.bits, IntKind.signed, e]
  rw [if_neg]
  simp
  omega

theorem i64_and_nat (a b : Nat) (ha : a < 2 ^ 62) (hb : b < 2 ^ 62) : bits .and .i64 (a : Int) (b : Int) = ((a &&& b : Nat) : Int) := by
  have h : a &&& b ≤ a := Nat.and_le_left
  show IntKind.i64.wrap ((BitVec.ofInt 64 (a : Int) &&& BitVec.ofInt 64 (b : Int)).toNat : Int) = _
  have ea : (BitVec.ofInt 64 (a : Int)).toNat = a := by rw [BitVec.toNat_ofInt]; omega
  have eb : (BitVec.ofInt 64 (b : Int)).toNat = b := by rw [BitVec.toNat_ofInt]; omega
  rw [BitVec.toNat_and, ea, eb]
  have e : ((a &&& b : Nat) : Int) % 2 ^ 64 = ((a &&& b : Nat) : Int) := Int.emod_eq_of_lt (by omega) (by omega)
  simp only [IntKind.wrap, IntKind.bits, IntKind.signed, e]
  rw [if_neg]
  simp
  omega

theorem symStep_short {b b' : Bld} {i n : Nat} (h : symStep b i n = some b') (h0 : n ≠ 0) (h9 : n ≤ 9) :
    b' = { b with next := b.next.set n (b.next.getD n 0 + 1), chunks := stride b.chunks (revB n (b.next.getD n 0)) (2 ^ n) (i * 16 + n) } := by
  unfold symStep at h
  rw [if_neg h0, if_pos h9] at h
  exact (Option.some.inj h).symm

theorem symStep_long {b b' : Bld} {i n : Nat} (h : symStep b i n = some b') (h0 : n ≠ 0) (h9 : ¬ n ≤ 9) :
    b.chunks.getD (revB n (b.next.getD n 0) % 512) 0 / 16 < b.links.length ∧
    b' = { b with next := b.next.set n (b.next.getD n 0 + 1), links := b.links.set (b.chunks.getD (revB n (b.next.getD n 0) % 512) 0 / 16) (stride (b.links.getD (b.chunks.getD (revB n (b.next.getD n 0) % 512) 0 / 16) []) (revB n (b.next.getD n 0) / 512) (2 ^ (n - 9)) (i * 16 + n)) } := by
  unfold symStep at h
  rw [if_neg h0, if_neg h9] at h
  simp only at h
  split at h
  · rename_i hv
    exact ⟨hv, (Option.some.inj h).symm⟩
  · exact absurd h (by simp)

/-- Every step-th cell from rev on has been turned, up to where the loop stands. -/
def StrInv (w : World) (X x0 : Nat) (l : List Nat) (rev step c : Nat) (i : Value) (wr : World) : Prop :=
  ∃ t : Nat, i = .int .i64 ((rev + t * step : Nat) : Int) ∧ rev + t * step ≤ l.length + rev + step ∧
    (∀ i, i < l.length → wr.cell? ⟨X, x0 + i, none⟩ = some (.int .u32 (((if rev ≤ i ∧ i < rev + t * step ∧ (i - rev) % step = 0 then c else l.getD i 0 : Nat)) : Int))) ∧
    Frm (fun b x => b = X ∧ x0 ≤ x ∧ x < x0 + l.length) w wr

theorem str_start {w : World} {X x0 : Nat} {l : List Nat} {rev step c : Nat} (h : ∀ i, i < l.length → w.cell? ⟨X, x0 + i, none⟩ = some (.int .u32 ((l.getD i 0 : Nat) : Int))) : StrInv w X x0 l rev step c (.int .i64 (rev : Int)) w := by
  refine ⟨0, by rw [Nat.zero_mul, Nat.add_zero], by omega, fun i hi => ?_, Frm.refl _ _⟩
  rw [if_neg (by omega)]; exact h i hi

theorem str_next {w wr : World} {X x0 : Nat} {l : List Nat} {rev step c t : Nat} (h : StrInv w X x0 l rev step c (.int .i64 ((rev + t * step : Nat) : Int)) wr) (hs : 0 < step) (hlt : rev + t * step < l.length) :
    StrInv w X x0 l rev step c (.int .i64 ((rev + (t + 1) * step : Nat) : Int)) (wr.setCell ⟨X, x0 + (rev + t * step), none⟩ (.int .u32 (c : Int))) := by
  obtain ⟨t', ht, hb, hc, hf⟩ := h
  have he : rev + t * step = rev + t' * step := by
    have := congrArg intOf ht
    simp only [intOf] at this; exact Int.ofNat.inj this
  obtain rfl : t = t' := Nat.eq_of_mul_eq_mul_right hs (by omega)
  have hm : (t + 1) * step = t * step + step := Nat.succ_mul _ _
  refine ⟨t + 1, rfl, by omega, fun i hi => ?_, hf.setCell (.inl ⟨rfl, by simp, by simp; omega⟩) _⟩
  by_cases e : i = rev + t * step
  · subst e
    rw [if_pos ⟨by omega, by omega, by rw [Nat.add_sub_cancel_left]; exact Nat.mul_mod_left _ _⟩]
    exact set_get (hc _ hi)
  · rw [cell_set_off (by omega), hc i hi]
    by_cases h1 : rev ≤ i ∧ i < rev + t * step ∧ (i - rev) % step = 0
    · rw [if_pos h1, if_pos ⟨h1.1, by omega, h1.2.2⟩]
    · rw [if_neg h1, if_neg]
      rintro ⟨a1, a2, a3⟩
      refine h1 ⟨a1, ?_, a3⟩
      by_cases h2 : i < rev + t * step
      · exact h2
      · exfalso
        have h3 : (i - rev - t * step) % step = 0 := by
          have : i - rev = (i - rev - t * step) + t * step := by omega
          rw [this, Nat.add_mul_mod_self_right] at a3; exact a3
        rw [Nat.mod_eq_of_lt (by omega)] at h3
        omega

theorem str_done {w wr : World} {X x0 : Nat} {l : List Nat} {rev step c t : Nat} (h : StrInv w X x0 l rev step c (.int .i64 ((rev + t * step : Nat) : Int)) wr) (hge : l.length ≤ rev + t * step) :
    (∀ i, i < l.length → wr.cell? ⟨X, x0 + i, none⟩ = some (.int .u32 (((stride l rev step c).getD i 0 : Nat) : Int))) ∧ Frm (fun b x => b = X ∧ x0 ≤ x ∧ x < x0 + l.length) w wr := by
  obtain ⟨t', ht, hb, hc, hf⟩ := h
  have he : rev + t * step = rev + t' * step := by
    have := congrArg intOf ht
    simp only [intOf] at this; exact Int.ofNat.inj this
  refine ⟨fun i hi => ?_, hf⟩
  rw [hc i hi, stride_getD _ _ _ _ _ hi]
  by_cases h1 : rev ≤ i ∧ (i - rev) % step = 0
  · rw [if_pos h1, if_pos ⟨h1.1, by omega, h1.2⟩]
  · rw [if_neg h1, if_neg (fun q => h1 ⟨q.1, q.2.2⟩)]

theorem BA.lt_row {w : World} {B o base mn mk m L : Nat} {b : Bld} (h : BA w B o base mn mk m L b) (hm : 0 < m) (e : b.links ≠ []) (k : Nat) (hk : k ≤ b.links.length) : L + k < w.heap.size := by
  have h0 : 0 < b.links.length := by
    rcases Nat.eq_zero_or_pos b.links.length with q | q
    · exact absurd (List.length_eq_zero_iff.1 q) e
    · exact q
  cases k with
  | zero => exact cell_lt (h.row 0 h0).1
  | succ k =>
    have := cell_lt ((h.row k hk).2.2 0 hm)
    omega

theorem BA.keep {S : Nat → Nat → Prop} {w wr : World} {B o base mn mk m L : Nat} {b : Bld} (h : BA w B o base mn mk m L b) (hm : 0 < m) (hf : Frm S w wr) (hB : ∀ x, o ≤ x → x < o + 515 → ¬ S B x)
    (hr : ∀ k x, b.links ≠ [] → k ≤ b.links.length → ¬ S (L + k) x) : BA wr B o base mn mk m L b := by
  refine ⟨hf.keep h.min (hB _ (by omega) (by omega)), fun i hi => hf.keep (h.ch i hi) (hB _ (by omega) (by omega)), h.clen, hf.keep h.mask (hB _ (by omega) (by omega)), fun e => hf.keep (h.none_ e) (hB _ (by omega) (by omega)), fun e => ⟨(h.some_ e).1, hf.keep (h.some_ e).2 (hB _ (by omega) (by omega))⟩, fun k hk => ?_, fun k x e hk => ?_⟩
  · have e : b.links ≠ [] := fun e => by rw [e] at hk; exact absurd hk (by simp)
    obtain ⟨r1, r2, r3⟩ := h.row k hk
    exact ⟨hf.keep r1 (hr 0 _ e (by omega)), r2, fun j hj => hf.keep (r3 j hj) (by rw [Nat.add_assoc, Nat.add_comm 1 k]; exact hr (k + 1) _ e hk)⟩
  · exact (hf.froz _ _ (h.lt_row hm e k hk)).trans (h.frz k x e hk)

/-- A short code is laid. -/
theorem BA.chunks {w wr : World} {B o base mn mk m L rev step c t : Nat} {b : Bld} {nx : List Nat} (h : BA w B o base mn mk m L b) (hB : B < base) (hm : 0 < m) (hs : StrInv w B (o + 1) b.chunks rev step c (.int .i64 ((rev + t * step : Nat) : Int)) wr)
    (hge : 512 ≤ rev + t * step) : BA wr B o base mn mk m L { b with chunks := stride b.chunks rev step c, next := nx } ∧ Frm (ST B o) w wr := by
  obtain ⟨hc, hf⟩ := str_done hs (by rw [h.clen]; exact hge)
  have hcl := h.clen
  rw [hcl] at hc hf
  have k1 : ∀ {x v}, w.cell? ⟨B, x, none⟩ = some v → (x ≤ o ∨ o + 513 ≤ x) → wr.cell? ⟨B, x, none⟩ = some v := fun hc hx => hf.keep hc (by omega)
  have rB : ∀ k x, base ≤ k → ¬ (k = B ∧ o + 1 ≤ x ∧ x < o + 1 + 512) := by omega
  refine ⟨⟨k1 h.min (by omega), fun i hi => hc i hi, by rw [stride_len]; exact hcl, k1 h.mask (by omega), fun e => k1 (h.none_ e) (by omega), fun e => ⟨(h.some_ e).1, k1 (h.some_ e).2 (by omega)⟩, fun k hk => ?_, fun k x e hk => ?_⟩, hf.mono fun b x e => ⟨e.1, by omega, by omega⟩⟩
  · have hbase := (h.some_ (fun e => by rw [show b.links = [] from e] at hk; exact absurd hk (by simp))).1
    obtain ⟨r1, r2, r3⟩ := h.row k hk
    exact ⟨hf.keep r1 (rB _ _ hbase), r2, fun j hj => hf.keep (r3 j hj) (rB _ _ (by omega))⟩
  · exact (hf.froz _ _ (h.lt_row hm e k hk)).trans (h.frz k x e hk)

theorem getDs_set {α : Type} (l : List α) (i j : Nat) (v d : α) : (l.set i v).getD j d = if i = j ∧ i < l.length then v else l.getD j d := by
  simp only [List.getD_eq_getElem?_getD, List.getElem?_set]
  by_cases h : i = j
  · subst h
    by_cases h2 : i < l.length
    · simp [h2]
    · simp [h2]
  · simp [h]

/-- A long code is laid. -/
theorem BA.linked {w wr : World} {B o base mn mk m L rev step c t v : Nat} {b : Bld} {nx : List Nat} (h : BA w B o base mn mk m L b) (hB : B < base) (hm : 0 < m) (hv : v < b.links.length)
    (hs : StrInv w (L + 1 + v) 0 (b.links.getD v []) rev step c (.int .i64 ((rev + t * step : Nat) : Int)) wr)
    (hge : m ≤ rev + t * step) : BA wr B o base mn mk m L { b with links := b.links.set v (stride (b.links.getD v []) rev step c), next := nx } ∧ Frm (fun b _ => b = L + 1 + v) w wr := by
  have e : b.links ≠ [] := fun e => by rw [e] at hv; exact absurd hv (by simp)
  obtain ⟨r1, r2, r3⟩ := h.row v hv
  obtain ⟨hc, hf⟩ := str_done hs (by rw [r2]; exact hge)
  rw [r2] at hc hf
  have hbase := (h.some_ e).1
  have k1 : ∀ {b' x u}, w.cell? ⟨b', x, none⟩ = some u → b' ≠ L + 1 + v → wr.cell? ⟨b', x, none⟩ = some u := fun hc hx => hf.keep hc (fun q => hx q.1)
  refine ⟨⟨k1 h.min (by omega), fun i hi => k1 (h.ch i hi) (by omega), h.clen, k1 h.mask (by omega), fun e2 => ?_, fun _ => ⟨hbase, ?_⟩, fun k hk => ?_, fun k x _ hk => ?_⟩, hf.mono fun b x e => e.1⟩
  · have := congrArg List.length e2
    simp only [List.length_set, List.length_nil] at this
    omega
  · simp only [List.length_set]; exact k1 (h.some_ e).2 (by omega)
  · simp only [List.length_set] at hk
    obtain ⟨q1, q2, q3⟩ := h.row k hk
    simp only [getDs_set]
    by_cases ek : v = k
    · subst ek
      rw [if_pos ⟨rfl, hv⟩]
      refine ⟨k1 q1 (by omega), by rw [stride_len]; exact q2, fun j hj => ?_⟩
      have := hc j hj
      rw [Nat.zero_add] at this; exact this
    · rw [if_neg (fun q => ek q.1)]
      exact ⟨k1 q1 (by omega), q2, fun j hj => k1 (q3 j hj) (by omega)⟩
  · simp only [List.length_set] at hk
    exact (hf.froz _ _ (h.lt_row hm e k hk)).trans (h.frz k x e hk)

/-- The table is built. -/
theorem ba_tab {w : World} {B o base M L : Nat} {c : Cnt} {b : Bld} (hM : M = 2 ^ (c.max - 9)) (h : BA w B o base c.min (if 9 < c.max then M - 1 else 0) M L b) : TabAt w B o (mkTab c b) (fun x => base ≤ x) := by
  have hp := Nat.two_pow_pos (c.max - 9)
  have hmk : (mkTab c b).mask = if 9 < c.max then M - 1 else 0 := by unfold mkTab; rw [hM]
  have hm1 : (mkTab c b).mask + 1 = M := by
    rw [hmk]; split
    · omega
    · rw [hM, show c.max - 9 = 0 by omega]
  refine ⟨h.min, h.ch, by rw [hmk]; exact h.mask, h.none_, fun e => ?_⟩
  obtain ⟨h1, h2⟩ := h.some_ e
  refine ⟨L, h1, h2, fun k hk => ?_⟩
  obtain ⟨r1, r2, r3⟩ := h.row k hk
  rw [hm1]
  exact ⟨L + 1 + k, by omega, r1, r3⟩

end Go.Proofs.YthfncdfcklbigaaDoor
