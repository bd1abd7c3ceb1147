/-
  WHAT THE WALKS SAY OF MEMORY: frames ('Frm': which cells a call may have turned), rows of bytes ('Bytes'), and small facts on cells behind a store, a new block, a draw.
-/
import Derived.Test.YthfncdfcklbigaaDoorProg
import Derived.Test.YthfncdfcklbigaaDoorModel
import Derived.WalkKit
import Derived.WalkSpells
import Derived.WalkLawsBesides
import Derived.StillTailTactics
import Derived.Deep.QuietTactic
import Derived.BigQuiet
import Derived.Lib.Hide
set_option linter.unusedVariables false
set_option linter.unusedSimpArgs false
namespace Go.Proofs.YthfncdfcklbigaaDoor
open Go.RowKit

/-- A region that draws its order: first what only reads, then a tail in one order. -/
theorem region_tail {P : Program} {id : Nat} {Q : Exit → Act → World → Prop} {a : Act} {w : World} {l : List Oper} (n : Nat) (hm : P.follows .mixedOrders = true) (hB : Region.lexTailB .any l.toArray n = true)
    (h : wpStill P l.toArray w.drew (fun a' => wpList P l.toArray Q (l.drop n) a' w.drew) (l.take n) a) : (Code.region id l.toArray true).wp P Q a w :=
  wp_region_still_tail n hm hB h

theorem and_frm {A F : Prop} (h : F) (f : F → A) : A ∧ F := ⟨f h, h⟩

/-- An address in a block. -/
abbrev ad (b o : Nat) : Addr := ⟨b, o, none⟩

/-- Behind w' the cells of w are as they were, but for those of S; what S does not touch at all is as it was. -/
structure Frm (S : Nat → Nat → Prop) (w w' : World) : Prop where
  os : w'.os = w.os
  tape : w'.tape = w.tape
  output : w'.output = w.output
  size : w.heap.size ≤ w'.heap.size
  cell : ∀ b o, b < w.heap.size → ¬ S b o → w'.cell? ⟨b, o, none⟩ = w.cell? ⟨b, o, none⟩
  froz : ∀ b o, b < w.heap.size → w'.frozen? ⟨b, o, none⟩ = w.frozen? ⟨b, o, none⟩
  live : ∀ b o, b < w.heap.size → (w'.cell? ⟨b, o, none⟩).isSome = (w.cell? ⟨b, o, none⟩).isSome
  obj : ∀ b, b < w.heap.size → (∀ o, ¬ S b o) → w'.heap[b]? = w.heap[b]?

theorem Frm.refl (S : Nat → Nat → Prop) (w : World) : Frm S w w := ⟨rfl, rfl, rfl, Nat.le_refl _, fun _ _ _ _ => rfl, fun _ _ _ => rfl, fun _ _ _ => rfl, fun _ _ _ => rfl⟩

theorem Frm.trans {S : Nat → Nat → Prop} {a b c : World} (h : Frm S a b) (k : Frm S b c) : Frm S a c :=
  ⟨k.os.trans h.os, k.tape.trans h.tape, k.output.trans h.output, Nat.le_trans h.size k.size,
   fun x o hx hs => (k.cell x o (Nat.lt_of_lt_of_le hx h.size) hs).trans (h.cell x o hx hs),
   fun x o hx => (k.froz x o (Nat.lt_of_lt_of_le hx h.size)).trans (h.froz x o hx),
   fun x o hx => (k.live x o (Nat.lt_of_lt_of_le hx h.size)).trans (h.live x o hx),
   fun x hx hs => (k.obj x (Nat.lt_of_lt_of_le hx h.size) hs).trans (h.obj x hx hs)⟩

/-- What a call may turn, seen from where it began: what lies in new blocks is no matter. -/
theorem Frm.mono' {S S' : Nat → Nat → Prop} {w w' : World} (h : Frm S w w') (hs : ∀ b o, b < w.heap.size → S b o → S' b o) : Frm S' w w' :=
  ⟨h.os, h.tape, h.output, h.size, fun b o hb hn => h.cell b o hb (fun x => hn (hs b o hb x)), h.froz, h.live, fun b hb hn => h.obj b hb (fun o x => hn o (hs b o hb x))⟩

theorem Frm.mono {S S' : Nat → Nat → Prop} {w w' : World} (h : Frm S w w') (hs : ∀ b o, S b o → S' b o) : Frm S' w w' := h.mono' fun b o _ => hs b o

/-- The second step may turn what is new to the first, too. -/
theorem Frm.trans' {S S' : Nat → Nat → Prop} {a b c : World} (h : Frm S a b) (k : Frm S' b c) (hs : ∀ x o, x < a.heap.size → S' x o → S x o) : Frm S a c :=
  ⟨k.os.trans h.os, k.tape.trans h.tape, k.output.trans h.output, Nat.le_trans h.size k.size,
   fun x o hx hn => (k.cell x o (Nat.lt_of_lt_of_le hx h.size) (fun q => hn (hs x o hx q))).trans (h.cell x o hx hn),
   fun x o hx => (k.froz x o (Nat.lt_of_lt_of_le hx h.size)).trans (h.froz x o hx),
   fun x o hx => (k.live x o (Nat.lt_of_lt_of_le hx h.size)).trans (h.live x o hx),
   fun x hx hn => (k.obj x (Nat.lt_of_lt_of_le hx h.size) (fun o q => hn o (hs x o hx q))).trans (h.obj x hx hn)⟩

theorem Frm.drew {S : Nat → Nat → Prop} {a w : World} (h : Frm S a w) : Frm S a w.drew := ⟨h.os, h.tape, h.output, h.size, h.cell, h.froz, h.live, h.obj⟩
theorem Frm.drewN {S : Nat → Nat → Prop} {a w : World} (h : Frm S a w) (n : Nat) : Frm S a (w.drewN n) := ⟨h.os, h.tape, h.output, h.size, h.cell, h.froz, h.live, h.obj⟩

theorem cell_set_ne {w : World} {p : Addr} {v : Value} {b o : Nat} (h : b ≠ p.block ∨ o ≠ p.off) : (w.setCell p v).cell? ⟨b, o, none⟩ = w.cell? ⟨b, o, none⟩ := by
  refine World.cell?_setCell_other w _ _ _ ?_
  intro e; subst e; rcases h with h | h <;> exact h rfl

theorem cell_set_off {w : World} {b k o : Nat} {v : Value} (h : o ≠ k) : (w.setCell ⟨b, k, none⟩ v).cell? ⟨b, o, none⟩ = w.cell? ⟨b, o, none⟩ := cell_set_ne (.inr h)

theorem live_setCell (w : World) (p : Addr) (v : Value) (x : Addr) : ((w.setCell p v).cell? x).isSome = (w.cell? x).isSome := by
  unfold World.cell? World.setCell
  simp only [Array.getElem?_modify]
  by_cases h : p.block = x.block
  · rw [if_pos h]
    cases hb : w.heap[x.block]? with
    | none => simp
    | some o =>
      cases o <;> simp only [Option.map_some]
      split
      · rfl
      · split
        · rfl
        · simp only [Array.getElem?_setIfInBounds]
          split
          · split <;> simp_all
          · rfl
  · rw [if_neg h]

theorem Frm.setCell {S : Nat → Nat → Prop} {a w : World} (h : Frm S a w) {p : Addr} (hp : S p.block p.off ∨ a.heap.size ≤ p.block) (v : Value) : Frm S a (w.setCell p v) := by
  refine ⟨h.os, h.tape, h.output, by simpa [World.setCell] using h.size, fun b o hb hn => ?_, fun b o hb => by rw [World.frozen?_setCell]; exact h.froz b o hb, fun b o hb => ?_, fun b hb hn => ?_⟩
  · rw [cell_set_ne, h.cell b o hb hn]
    by_cases e : b = p.block
    · subst e
      right; intro e; subst e
      rcases hp with hp | hp
      · exact hn hp
      · omega
    · exact .inl e
  · rw [live_setCell]; exact h.live b o hb
  · rw [Below.heap_setCell _ _ _ _ (fun e => by
      subst e
      rcases hp with hp | hp
      · exact hn _ hp
      · omega)]
    exact h.obj b hb hn

theorem Frm.alloc {S : Nat → Nat → Prop} {a w : World} (h : Frm S a w) (o : Obj) : Frm S a (w.alloc o) := by
  have hh : ∀ b, b < a.heap.size → (w.alloc o).heap[b]? = w.heap[b]? := fun b hb => Below.heap_alloc _ _ _ (Nat.lt_of_lt_of_le hb h.size)
  refine ⟨h.os, h.tape, h.output, Nat.le_trans h.size (by simp), fun b x hb hn => ?_, fun b x hb => ?_, fun b x hb => ?_, fun b hb hn => (hh b hb).trans (h.obj b hb hn)⟩
  · rw [World.cell?_of_block (w := w) (hh b hb)]; exact h.cell b x hb hn
  · rw [World.frozen?_of_block (w := w) (hh b hb)]; exact h.froz b x hb
  · rw [World.cell?_of_block (w := w) (hh b hb)]; exact h.live b x hb

theorem Frm.below {S : Nat → Nat → Prop} {w w' : World} {B : Nat} (h : Frm S w w') (hB : B ≤ w.heap.size) (hS : ∀ b o, S b o → B ≤ b) : Below B w w' :=
  ⟨h.os, h.tape, h.output, h.size, fun k hk => h.obj k (by omega) (fun o x => by have := hS k o x; omega)⟩

theorem Frm.of_below {S : Nat → Nat → Prop} {w w' : World} (h : Below w.heap.size w w') : Frm S w w' :=
  ⟨h.os, h.tape, h.output, h.size, fun b _ hb _ => h.cell (p := ⟨b, _, none⟩) hb, fun b _ hb => h.frozen (p := ⟨b, _, none⟩) hb,
   fun b o hb => by rw [h.cell (p := ⟨b, o, none⟩) hb], fun b hb _ => h.block b hb⟩

theorem cell_lt {w : World} {b o : Nat} {v : Value} (h : w.cell? ⟨b, o, none⟩ = some v) : b < w.heap.size := by
  unfold World.cell? at h
  cases hb : w.heap[b]? with
  | none => simp [hb] at h
  | some x => exact (Array.getElem?_eq_some_iff.1 hb).1

/-- A cell that a call may not turn reads as it did. -/
theorem Frm.keep {S : Nat → Nat → Prop} {w w' : World} (h : Frm S w w') {b o : Nat} {v : Value} (hc : w.cell? ⟨b, o, none⟩ = some v) (hn : ¬ S b o) : w'.cell? ⟨b, o, none⟩ = some v :=
  (h.cell b o (cell_lt hc) hn).trans hc

theorem set_get {w : World} {b o : Nat} {u v : Value} (h : w.cell? ⟨b, o, none⟩ = some u) : (w.setCell ⟨b, o, none⟩ v).cell? ⟨b, o, none⟩ = some v := World.cell?_setCell_same w _ _ h

/-- The slice's first cells are these bytes. -/
def Bytes (w : World) (base : Option Addr) (l : List UInt8) : Prop :=
  match base with
  | none => l = []
  | some a => a.spot = none ∧ ∀ j (h : j < l.length), w.cell? ⟨a.block, a.off + j, none⟩ = some (.int .u8 (l[j].toNat : Int))

theorem Bytes.keep {S : Nat → Nat → Prop} {w w' : World} {base : Option Addr} {l : List UInt8} (h : Bytes w base l) (hf : Frm S w w') (hn : ∀ a, base = some a → ∀ j, j < l.length → ¬ S a.block (a.off + j)) : Bytes w' base l := by
  cases base with
  | none => exact h
  | some a => exact ⟨h.1, fun j hj => hf.keep (h.2 j hj) (hn a rfl j hj)⟩

/-- Bytes from place off on. -/
def BytesAt (w : World) (base : Option Addr) (off : Nat) (l : List UInt8) : Prop :=
  match base with
  | none => l = [] ∧ off = 0
  | some a => a.spot = none ∧ ∀ j (h : j < l.length), w.cell? ⟨a.block, a.off + (off + j), none⟩ = some (.int .u8 (l[j].toNat : Int))

theorem BytesAt.keep {S : Nat → Nat → Prop} {w w' : World} {base : Option Addr} {off : Nat} {l : List UInt8} (h : BytesAt w base off l) (hf : Frm S w w') (hn : ∀ a, base = some a → ∀ j : Nat, 0 ≤ j → ¬ S a.block (a.off + j)) : BytesAt w' base off l := by
  cases base with
  | none => exact h
  | some a => exact ⟨h.1, fun j hj => hf.keep (h.2 j hj) (hn a rfl _ (Nat.zero_le _))⟩

/-- A '*bytes.Reader': block R; the bytes that it had left at some time, and its place in them. (Off: how many bytes lie ahead of them.) -/
structure Src (w : World) (R : Nat) (base : Option Addr) (src : List UInt8) (pos : Nat) : Prop where
  s : ∃ cap off N Q, N = off + src.length ∧ Q = off + pos ∧ w.cell? ⟨R, 0, none⟩ = some (.slice base N cap) ∧ N ≤ cap ∧ w.cell? ⟨R, 1, none⟩ = some (.int .i64 (Q : Int)) ∧ BytesAt w base off src ∧ N ≤ 1099511627776
  p : ∃ v, w.cell? ⟨R, 2, none⟩ = some v
  fr : ∀ o, w.frozen? ⟨R, o, none⟩ = false
  le : pos ≤ src.length
  few : src.length ≤ 1099511627776
  ne : ∀ a, base = some a → a.block ≠ R

theorem Src.lt {w : World} {R : Nat} {base : Option Addr} {src : List UInt8} {pos : Nat} (h : Src w R base src pos) : R < w.heap.size := by
  obtain ⟨_, h⟩ := h.p
  exact cell_lt h

theorem Src.keep {S : Nat → Nat → Prop} {w w' : World} {R : Nat} {base : Option Addr} {src : List UInt8} {pos : Nat} (h : Src w R base src pos) (hf : Frm S w w')
    (hR : ∀ o, ¬ S R o) (hn : ∀ a, base = some a → ∀ j : Nat, 0 ≤ j → ¬ S a.block (a.off + j)) : Src w' R base src pos := by
  obtain ⟨⟨cap, off, N, Q, hN, hQ, hs, hcap, hi, hb, hN2⟩, ⟨v, hp⟩, hfr, hle, hfew, hne⟩ := h
  have hlt := cell_lt hi
  exact ⟨⟨cap, off, N, Q, hN, hQ, hf.keep hs (hR 0), hcap, hf.keep hi (hR 1), hb.keep hf hn, hN2⟩, ⟨v, hf.keep hp (hR 2)⟩, fun o => (hf.froz R o hlt).trans (hfr o), hle, hfew, hne⟩

theorem Src.drewN {w : World} {R : Nat} {base : Option Addr} {src : List UInt8} {pos : Nat} (h : Src w R base src pos) (n : Nat) : Src (w.drewN n) R base src pos :=
  ⟨h.s, h.p, h.fr, h.le, h.few, h.ne⟩
theorem Src.drew {w : World} {R : Nat} {base : Option Addr} {src : List UInt8} {pos : Nat} (h : Src w R base src pos) : Src w.drew R base src pos :=
  ⟨h.s, h.p, h.fr, h.le, h.few, h.ne⟩

/-- What has been read is no more looked at. -/
theorem Src.rest {w : World} {R : Nat} {base : Option Addr} {src : List UInt8} {pos : Nat} (h : Src w R base src pos) (q k : Nat) (hq : q + k = pos) : Src w R base (src.drop q) k := by
  obtain ⟨⟨cap, off, N, Q, hN, hQ, hs, hcap, hi, hb, hN2⟩, hp, hfr, hle, hfew, hne⟩ := h
  refine ⟨⟨cap, off + q, N, Q, by rw [List.length_drop]; omega, by omega, hs, hcap, hi, ?_, hN2⟩, hp, hfr, by rw [List.length_drop]; omega, by rw [List.length_drop]; omega, hne⟩
  cases base with
  | none =>
    obtain ⟨rfl, rfl⟩ := hb
    simp only [List.length_nil] at hle
    refine ⟨by simp, by omega⟩
  | some a =>
    refine ⟨hb.1, fun j hj => ?_⟩
    rw [List.length_drop] at hj
    rw [List.getElem_drop, Nat.add_assoc off q j]
    exact hb.2 (q + j) (by omega)

/-- The place moved on. -/
theorem Src.step {w : World} {R : Nat} {base : Option Addr} {src : List UInt8} {pos q : Nat} (h : Src w R base src pos) {x : Int} (hx : ∀ Q off : Nat, Q = off + pos → w.cell? ⟨R, 1, none⟩ = some (.int .i64 (Q : Int)) → x = ((off + q : Nat) : Int)) (hq : q ≤ src.length) : Src (w.setCell ⟨R, 1, none⟩ (.int .i64 x)) R base src q := by
  obtain ⟨⟨cap, off, N, Q, hN, hQ, hs, hcap, hi, hb, hN2⟩, ⟨v, hp⟩, hfr, hle, hfew, hne⟩ := h
  have hx := hx Q off hQ hi
  subst hx
  exact ⟨⟨cap, off, N, off + q, hN, rfl, (cell_set_off (by decide)).trans hs, hcap, set_get hi, hb.keep (S := fun b _ => b = R) ((Frm.refl _ _).setCell (.inl rfl) _) (fun a ha _ _ x => hne a ha x), hN2⟩, ⟨v, (cell_set_off (by decide)).trans hp⟩,
    fun o => by rw [World.frozen?_setCell]; exact hfr o, hq, hfew, hne⟩

end Go.Proofs.YthfncdfcklbigaaDoor
