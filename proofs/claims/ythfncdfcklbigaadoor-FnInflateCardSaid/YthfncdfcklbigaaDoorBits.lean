/-
  THE WALKS OF THE BITS: 'moreBits', 'huffSym'.
-/
import Derived.Test.YthfncdfcklbigaaDoorDec
set_option linter.unusedVariables false
set_option linter.unusedSimpArgs false
namespace Go.Proofs.YthfncdfcklbigaaDoor
open Go.RowKit Flate
set_option maxRecDepth 100000
attribute [local go_sem] meth_ReadByte

/-- The state at this place of the source. -/
def DS.put (d : DS) (r : Br) : DS := { d with b := r.b d.src, nb := r.nb, roff := r.pos, pos := r.pos }

/-- The cells that reading bits turns. -/
def SB (F R : Nat) (b o : Nat) : Prop := b = F ∧ (o = 2 ∨ o = 3 ∨ o = 4) ∨ b = R

theorem DS.put_put (d : DS) (r r' : Br) : (d.put r).put r' = d.put r' := rfl

/-- A byte more in the buffer. -/
theorem more_bits {src : List UInt8} {r : Br} (hr : r.ok src) (hnb : r.nb ≤ 24) (hlt : r.pos < src.length) :
    bits .or .u32 (r.b src : Int) ((src[r.pos].toNat : Int) % 4294967296 * 2 ^ r.nb % 4294967296) = (({ r with pos := r.pos + 1 } : Br).b src : Int) := by
  have hc := src[r.pos].toNat_lt
  have hb := bv_lt src r.at_ r.nb
  have hp : (2 : Nat) ^ r.nb ≤ 2 ^ 24 := Nat.pow_le_pow_right (by omega) hnb
  have e1 : ((src[r.pos].toNat : Int) % 4294967296 * 2 ^ r.nb % 4294967296) = ((src[r.pos].toNat <<< r.nb : Nat) : Int) := by
    rw [Nat.shiftLeft_eq]
    have h1 : src[r.pos].toNat * 2 ^ r.nb < 4294967296 := by
      have : src[r.pos].toNat * 2 ^ r.nb ≤ 255 * 2 ^ 24 := Nat.mul_le_mul (by omega) hp
      omega
    have h2 : ((src[r.pos].toNat : Int) % 4294967296) = (src[r.pos].toNat : Int) := by omega
    rw [h2]
    have h3 : ((src[r.pos].toNat * 2 ^ r.nb : Nat) : Int) = (src[r.pos].toNat : Int) * 2 ^ r.nb := by push_cast; rfl
    rw [← h3]
    omega
  have e2 : r.at_ + r.nb = 8 * r.pos := by have := hr.1; unfold Br.nb; omega
  have e3 : ({ r with pos := r.pos + 1 } : Br).nb = r.nb + 8 := by have := hr.1; unfold Br.nb; simp only; omega
  have h4 : src[r.pos].toNat <<< r.nb < 4294967296 := by
    rw [Nat.shiftLeft_eq]
    have : src[r.pos].toNat * 2 ^ r.nb ≤ 255 * 2 ^ 24 := Nat.mul_le_mul (by omega) hp
    omega
  rw [e1, u32_or_nat _ _ (by unfold Br.b; omega) h4]
  unfold Br.b
  rw [e3, ← bv_or, e2, bv_byte src r.pos hlt]

theorem nb_more {src : List UInt8} {r : Br} (hr : r.ok src) : ((r.nb : Int) + 8) = (({ r with pos := r.pos + 1 } : Br).nb : Int) := by
  have := hr.1; unfold Br.nb; simp only; omega

set_option maxHeartbeats 400000 in
theorem moreBits_ok (w : World) (F : Nat) (d : DS) (r : Br) (hD : Dec w F (d.put r)) (hr : r.ok d.src) (hnb : r.nb ≤ 24) (hlt : r.pos < d.src.length) :
    Calls Tryd.prog 73 #[.pointer (some ⟨F, 0, none⟩)] w fun e w' =>
      e = .returned .nilIface ∧ Dec w' F (d.put { r with pos := r.pos + 1 }) ∧ Frm (SB F d.R) w w' := by
  have h0 : w.cell? ⟨F, 0, none⟩ = some (.iface 55 (.pointer (some ⟨d.R, 0, none⟩))) := hD.r
  go_enter Tryd.func73, Tryd.ntmps73
  go_wp2_with fail
  refine (readByte_any w d.R d.base d.src r.pos hD.so hlt).mono ?_
  rintro e w1 ⟨rfl, hS, hf⟩
  have hD1 : Dec w1 F { d.put r with pos := r.pos + 1 } := hD.set_src hf hS
  have h2 : w1.cell? ⟨F, 2, none⟩ = some (.int .i64 (r.pos : Int)) := hD1.roff
  have h3 : w1.cell? ⟨F, 3, none⟩ = some (.int .u32 (r.b d.src : Int)) := hD1.b
  have h4 : w1.cell? ⟨F, 4, none⟩ = some (.int .u64 (r.nb : Int)) := hD1.nb
  have f2 := hD1.fr 2
  have f3 := hD1.fr 3
  have f4 := hD1.fr 4
  have hfew := hD.so.few
  have b1 : (r.pos : Int) < 1099511627776 := by have : d.src.length ≤ 1099511627776 := hfew; omega
  have b2 : (r.nb : Int) ≤ 24 := by omega
  clear h0 hfew
  go_wp2_with fail
  (refine region_tail 14 (by kernel_rfl) (by kernel_rfl) ?_; simp only [List.take_succ_cons, List.take_zero, List.drop_succ_cons, List.drop_zero]; (repeat still_step); refine wpStill_nil ?_)
  go_wp2
  go_ret
  refine ⟨rfl, ?_, ?_⟩
  · rw [more_bits hr hnb hlt, nb_more hr]
    exact (((hD1.set_roff (r.pos + 1)).set_b _).set_nb _).drew
  · have hf' : Frm (SB F d.R) w w1 := hf.mono fun b o e => .inr e
    exact (((hf'.setCell (.inl (.inl ⟨rfl, .inl rfl⟩)) _).setCell (.inl (.inl ⟨rfl, .inr (.inl rfl)⟩)) _).setCell (.inl (.inl ⟨rfl, .inr (.inr rfl)⟩)) _).drew

set_option maxHeartbeats 400000 in
theorem moreBits_end (w : World) (F B : Nat) (p : Ps) (d : DS) (r : Br) (he : Env w B p) (hRB : B ≤ d.R) (hD : Dec w F (d.put r)) (hlt : r.pos = d.src.length) :
    Calls Tryd.prog 73 #[.pointer (some ⟨F, 0, none⟩)] w fun e w' =>
      e = .returned (errAt p.U) ∧ Dec w' F (d.put r) ∧ Frm (fun b _ => b = d.R) w w' := by
  have h0 : w.cell? ⟨F, 0, none⟩ = some (.iface 55 (.pointer (some ⟨d.R, 0, none⟩))) := hD.r
  have hS0 : Src w d.R d.base d.src d.src.length := by have := hD.so; rw [show (d.put r).pos = r.pos from rfl, hlt] at this; exact this
  go_enter Tryd.func73, Tryd.ntmps73
  go_wp2_with fail
  refine (readByte_end w d.R d.base d.src B p hS0 he hRB).mono ?_
  rintro e w1 ⟨rfl, hS, hf⟩
  clear h0
  have he1 := he.keep hf (fun b _ e => by omega)
  go_wp2_with fail
  refine (noEOF_any w1 B p he1 p.E (.inl rfl)).mono ?_
  rintro e w2 ⟨rfl, rfl⟩
  go_wp2_with fail
  go_ret
  refine ⟨rfl, ?_, hf⟩
  have := hD.set_src hf (q := r.pos) (by rw [hlt]; exact hS)
  exact this

/-- A table of a code in memory: in block B from place o on; what it links to lies in blocks of N. -/
structure TabAt (w : World) (B o : Nat) (T : Tab) (N : Nat → Prop) : Prop where
  min : w.cell? ⟨B, o, none⟩ = some (.int .i64 (T.min : Int))
  ch : ∀ i, i < 512 → w.cell? ⟨B, o + 1 + i, none⟩ = some (.int .u32 (T.chunks.getD i 0 : Nat))
  mask : w.cell? ⟨B, o + 514, none⟩ = some (.int .u32 (T.mask : Int))
  none_ : T.links = [] → w.cell? ⟨B, o + 513, none⟩ = some (.slice none 0 0)
  some_ : T.links ≠ [] → ∃ L, N L ∧ w.cell? ⟨B, o + 513, none⟩ = some (.slice (some ⟨L, 0, none⟩) T.links.length T.links.length) ∧
    ∀ k, k < T.links.length → ∃ b, N b ∧ w.cell? ⟨L, k, none⟩ = some (.slice (some ⟨b, 0, none⟩) (T.mask + 1) (T.mask + 1)) ∧
      ∀ j, j < T.mask + 1 → w.cell? ⟨b, j, none⟩ = some (.int .u32 (((T.links.getD k []).getD j 0 : Nat) : Int))

theorem TabAt.keep {S : Nat → Nat → Prop} {w w' : World} {B o : Nat} {T : Tab} {N : Nat → Prop} (h : TabAt w B o T N) (hf : Frm S w w') (hB : ∀ k, o ≤ k → k < o + 515 → ¬ S B k) (hN : ∀ b, N b → ∀ k, ¬ S b k) : TabAt w' B o T N := by
  refine ⟨hf.keep h.min (hB _ (by omega) (by omega)), fun i hi => hf.keep (h.ch i hi) (hB _ (by omega) (by omega)), hf.keep h.mask (hB _ (by omega) (by omega)),
    fun e => hf.keep (h.none_ e) (hB _ (by omega) (by omega)), fun e => ?_⟩
  obtain ⟨L, hL, h1, h2⟩ := h.some_ e
  refine ⟨L, hL, hf.keep h1 (hB _ (by omega) (by omega)), fun k hk => ?_⟩
  obtain ⟨b, hb, h3, h4⟩ := h2 k hk
  exact ⟨b, hb, hf.keep h3 (hN L hL _), fun j hj => hf.keep (h4 j hj) (hN b hb _)⟩

end Go.Proofs.YthfncdfcklbigaaDoor
