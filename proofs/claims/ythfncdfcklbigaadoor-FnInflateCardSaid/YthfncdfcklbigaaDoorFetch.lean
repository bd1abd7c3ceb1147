/-
  MORE BITS: the loops that call 'moreBits' until there are enough.
-/
import Derived.Test.YthfncdfcklbigaaDoorData
set_option linter.unusedVariables false
set_option linter.unusedSimpArgs false
namespace Go.Proofs.YthfncdfcklbigaaDoor
open Go.RowKit Flate
set_option maxRecDepth 100000

theorem getBits_zero (src : List UInt8) (r : Br) : getBits src 0 r = .ok 0 r := by
  unfold getBits
  rw [fill_has (Nat.zero_le _)]
  simp only
  rw [bv_zero]; rfl

/-- More bits are being fetched: n of them are wanted. -/
def MB (w : World) (F : Nat) (d : DS) (r : Br) (n : Nat) (wr : World) : Prop :=
  ∃ r', Dec wr F (d.put r') ∧ r'.ok d.src ∧ r'.nb ≤ 22 ∧ fill d.src.length n r' = fill d.src.length n r ∧ Frm (SB F d.R) w wr

/-- What is left of the source, as memory tells it. -/
def leftN (len R : Nat) (w : World) : Nat :=
  match w.cell? ⟨R, 0, none⟩, w.cell? ⟨R, 1, none⟩ with
  | some (.slice _ n _), some (.int _ p) => (n - p).toNat
  | _, _ => 0

theorem leftN_of {w : World} {F : Nat} {d : DS} (h : Dec w F d) : leftN d.src.length d.R w = d.src.length - d.pos := by
  obtain ⟨_, off, N, Q, hN, hQ, h1, _, h2, _⟩ := h.so.s
  unfold leftN
  rw [h1, h2]
  simp only
  have := h.so.le
  omega

/-- n bits taken out of the buffer. -/
theorem Dec.take {w : World} {F : Nat} {d : DS} {r : Br} {n : Nat} (h : Dec w F (d.put r)) (hr : r.ok d.src) (hn : n ≤ r.nb) {b2 nb2 : Nat} (hb : b2 = r.b d.src / 2 ^ n) (hnb : nb2 = r.nb - n) :
    Dec ((w.setCell ⟨F, 3, none⟩ (.int .u32 (b2 : Int))).setCell ⟨F, 4, none⟩ (.int .u64 (nb2 : Int))) F (d.put { r with at_ := r.at_ + n }) := by
  have h1 := (h.set_b b2).set_nb nb2
  have e1 := b_skip (src := d.src) hn
  have e2 := (skip_ok hr hn).2
  have : d.put { r with at_ := r.at_ + n } = { d.put r with b := b2, nb := nb2 } := by
    unfold DS.put
    rw [e2, ← e1, hb, hnb]
  rw [this]; exact h1

theorem b_mod {src : List UInt8} {r : Br} {n : Nat} (h : n ≤ r.nb) : r.b src % 2 ^ n = bv src r.at_ n := by
  unfold Br.b
  conv => lhs; rw [show r.nb = n + (r.nb - n) by omega]
  exact bv_mod _ _ _ _

theorem getBits_has {src : List UInt8} {r r' : Br} {n : Nat} (h : fill src.length n r' = fill src.length n r) (hn : n ≤ r'.nb) : getBits src n r = .ok (bv src r'.at_ n) { r' with at_ := r'.at_ + n } := by
  unfold getBits
  rw [← h, fill_has hn]

theorem getBits_cut {src : List UInt8} {r r' : Br} {n : Nat} (h : fill src.length n r' = fill src.length n r) (hn : ¬ n ≤ r'.nb) (hp : r'.pos = src.length) (ho : r'.ok src) : getBits src n r = .bad .cut r' := by
  unfold getBits
  rw [← h, fill_end hn hp ho.1]

/-- The lowest bits, by a mask. -/
theorem mask_bits (b n P : Nat) (hP : P = 2 ^ n) (hb : b < 4294967296) (hp : P ≤ 65536) : bits .and .u32 (b : Int) ((P : Int) - 1) = ((b % P : Nat) : Int) := by
  have := Nat.two_pow_pos n
  rw [show (P : Int) - 1 = ((P - 1 : Nat) : Int) by omega, u32_and_nat _ _ hb (by omega), hP, Nat.and_two_pow_sub_one_eq_mod]

/-- A byte more: the loop's relation is kept, its measure goes down. -/
theorem MB.call_more {w wr : World} {F : Nat} {d : DS} {r r' : Br} {n : Nat} (hD : Dec wr F (d.put r')) (ho : r'.ok d.src) (hfl : fill d.src.length n r' = fill d.src.length n r) (hf : Frm (SB F d.R) w wr) (hlt : ¬ n ≤ r'.nb) (hn : n ≤ 15) (hp : r'.pos < d.src.length) :
    Calls Tryd.prog 73 #[.pointer (some ⟨F, 0, none⟩)] wr fun e w' => e = .returned .nilIface ∧ Hid (MB w F d r n w' ∧ leftN d.src.length d.R w' < leftN d.src.length d.R wr) := by
  refine (moreBits_ok wr F d r' hD ho (by omega) hp).mono ?_
  rintro e w4 ⟨rfl, hD4, hf4⟩
  have h1 := ho.1
  refine ⟨rfl, Lib.hid ⟨⟨_, hD4, ⟨by simp only; omega, hp⟩, ?_, (fill_more hlt hp h1).trans hfl, hf.trans hf4⟩, ?_⟩⟩
  · unfold Br.nb at hlt ⊢; simp only; omega
  · have e1 := leftN_of hD
    have e2 := leftN_of hD4
    have e1' : leftN d.src.length d.R wr = d.src.length - r'.pos := e1
    have e2' : leftN d.src.length d.R w4 = d.src.length - (r'.pos + 1) := e2
    rw [e1', e2']
    omega

/-- The source is at its end. -/
theorem MB.call_end {w wr : World} {F C : Nat} {p : Ps} {d : DS} {r r' : Br} {n : Nat} (he : Env w C p) (hC : C ≤ d.R) (hF : C ≤ F) (hD : Dec wr F (d.put r')) (ho : r'.ok d.src) (hfl : fill d.src.length n r' = fill d.src.length n r) (hf : Frm (SB F d.R) w wr) (hlt : ¬ n ≤ r'.nb) (hp : ¬ r'.pos < d.src.length) :
    Calls Tryd.prog 73 #[.pointer (some ⟨F, 0, none⟩)] wr fun e w' => e = .returned (errAt p.U) ∧ Dec w' F (d.put r') ∧ Hid (getBits d.src n r = .bad .cut r' ∧ Frm (SB F d.R) w w') := by
  have hpe : r'.pos = d.src.length := by have := ho.2; omega
  have he' : Env wr C p := he.keep hf (fun b o e => by rcases e with ⟨e, _⟩ | e <;> omega)
  refine (moreBits_end wr F C p d r' he' hC hD hpe).mono ?_
  rintro e w4 ⟨rfl, hD4, hf4⟩
  exact ⟨rfl, hD4, Lib.hid ⟨getBits_cut hfl hlt hpe ho, hf.trans (hf4.mono fun b o e => .inr e)⟩⟩

/-- There are enough: what the buffer is, what the bits are, what is left. -/
theorem MB.has {w wr : World} {F : Nat} {d : DS} {r r' : Br} {n : Nat} (hD : Dec wr F (d.put r')) (ho : r'.ok d.src) (hn' : r'.nb ≤ 22) (hfl : fill d.src.length n r' = fill d.src.length n r) (hf : Frm (SB F d.R) w wr) (hlt : n ≤ r'.nb) {bb x b2 nb2 P : Nat}
    (hP : P = 2 ^ n) (hb : bb = r'.b d.src) (hx : x = bb % P) (hb2 : b2 = bb / P) (hnb : nb2 = r'.nb - n) :
    bb < 16777216 ∧ getBits d.src n r = .ok x { r' with at_ := r'.at_ + n } ∧ Dec ((wr.setCell ⟨F, 3, none⟩ (.int .u32 (b2 : Int))).setCell ⟨F, 4, none⟩ (.int .u64 (nb2 : Int))) F (d.put { r' with at_ := r'.at_ + n }) ∧
    Frm (SB F d.R) w ((wr.setCell ⟨F, 3, none⟩ (.int .u32 (b2 : Int))).setCell ⟨F, 4, none⟩ (.int .u64 (nb2 : Int))) ∧ ({ r' with at_ := r'.at_ + n } : Br).ok d.src ∧ ({ r' with at_ := r'.at_ + n } : Br).nb ≤ 22 := by
  obtain ⟨k1, k2⟩ := skip_ok ho hlt
  refine ⟨?_, ?_, hD.take ho hlt (by rw [hb2, hb, hP]) hnb, (hf.setCell (.inl (.inl ⟨rfl, by simp⟩)) _).setCell (.inl (.inl ⟨rfl, by simp⟩)) _, k1, by omega⟩
  · have h1 := bv_lt d.src r'.at_ r'.nb
    have h2 : 2 ^ r'.nb ≤ 2 ^ 22 := Nat.pow_le_pow_right (by omega) (by omega)
    rw [hb]; unfold Br.b; omega
  · rw [getBits_has hfl hlt, hx, hb, hP, b_mod hlt]

end Go.Proofs.YthfncdfcklbigaaDoor
