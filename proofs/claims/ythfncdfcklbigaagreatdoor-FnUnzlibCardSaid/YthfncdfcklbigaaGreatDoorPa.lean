/-
  Several texts in one: Kit Model Hist Tab Rev TabOk Flow Ahead Shift Stored Infl Cutp Takep.
-/
import Derived.Test.YthfncdfcklbigaaGreatDoorProg
import Derived.WalkKit
import Derived.WalkSpells
import Derived.WalkLawsBesides
import Derived.StillTailTactics
import Derived.Deep.QuietTactic
import Derived.BigQuiet
import Derived.Lib.Hide
set_option linter.unusedVariables false
set_option linter.unusedSimpArgs false
theorem zAi {a b : Prop} (h : a) (k : b) : a ∧ b := ⟨h, k⟩
theorem zHi {p : Prop} (h : p) : Go.RowKit.Hid p := Go.Lib.hid h
namespace Go.Proofs.YthfncdfcklbigaaGreatDoor
open Go.RowKit
theorem region_tail {P : Program} {id : Nat} {Q : Exit → Act → World → Prop} {a : Act} {w : World} {l : List Oper} (n : Nat) (hm : P.follows .mixedOrders = true) (hB : Region.lexTailB .any l.toArray n = true)
 (h : wpStill P l.toArray w.drew (fun a' => wpList P l.toArray Q (l.drop n) a' w.drew) (l.take n) a) : (Code.region id l.toArray true).wp P Q a w :=
 wp_region_still_tail n hm hB h
theorem and_frm {A F : Prop} (h : F) (f : F → A) : A ∧ F := ⟨f h, h⟩
abbrev ad (b o : Nat) : Addr := ⟨b, o, none⟩
structure Frm (S : Nat → Nat → Prop) (w w' : World) : Prop where
 os : w'.os = w.os
 tape : w'.tape = w.tape
 output : w'.output = w.output
 size : w.heap.size ≤ w'.heap.size
 cell : ∀ b o, b < w.heap.size → ¬ S b o → w'.cell? ⟨b, o, none⟩ = w.cell? ⟨b, o, none⟩
 froz : ∀ b o, b < w.heap.size → w'.frozen? ⟨b, o, none⟩ = w.frozen? ⟨b, o, none⟩
 live : ∀ b o, b < w.heap.size → (w'.cell? ⟨b, o, none⟩).isSome = (w.cell? ⟨b, o, none⟩).isSome
 obj : ∀ b, b < w.heap.size → (∀ o, ¬ S b o) → w'.heap[b]? = w.heap[b]?
theorem Frm.refl (S : Nat → Nat → Prop) (w : World) : Frm S w w := ⟨rfl, rfl, rfl, Nat.le_refl _, fun _ _ _ _ => rfl, fun _ _ _ => rfl, fun _ _ _ => rfl, fun _ _ _ => rfl⟩
theorem Frm.trans {S : Nat → Nat → Prop} {a b c : World} (h : Frm S a b) (k : Frm S b c) : Frm S a c :=
 ⟨k.os.trans h.os, k.tape.trans h.tape, k.output.trans h.output, Nat.le_trans h.size k.size,
  fun x o hx hs => (k.cell x o (Nat.lt_of_lt_of_le hx h.size) hs).trans (h.cell x o hx hs),
  fun x o hx => (k.froz x o (Nat.lt_of_lt_of_le hx h.size)).trans (h.froz x o hx),
  fun x o hx => (k.live x o (Nat.lt_of_lt_of_le hx h.size)).trans (h.live x o hx),
  fun x hx hs => (k.obj x (Nat.lt_of_lt_of_le hx h.size) hs).trans (h.obj x hx hs)⟩
theorem Frm.mono' {S S' : Nat → Nat → Prop} {w w' : World} (h : Frm S w w') (hs : ∀ b o, b < w.heap.size → S b o → S' b o) : Frm S' w w' :=
 ⟨h.os, h.tape, h.output, h.size, fun b o hb hn => h.cell b o hb (fun x => hn (hs b o hb x)), h.froz, h.live, fun b hb hn => h.obj b hb (fun o x => hn o (hs b o hb x))⟩
theorem Frm.mono {S S' : Nat → Nat → Prop} {w w' : World} (h : Frm S w w') (hs : ∀ b o, S b o → S' b o) : Frm S' w w' := h.mono' fun b o _ => hs b o
theorem Frm.trans' {S S' : Nat → Nat → Prop} {a b c : World} (h : Frm S a b) (k : Frm S' b c) (hs : ∀ x o, x < a.heap.size → S' x o → S x o) : Frm S a c :=
 ⟨k.os.trans h.os, k.tape.trans h.tape, k.output.trans h.output, Nat.le_trans h.size k.size,
  fun x o hx hn => (k.cell x o (Nat.lt_of_lt_of_le hx h.size) (fun q => hn (hs x o hx q))).trans (h.cell x o hx hn),
  fun x o hx => (k.froz x o (Nat.lt_of_lt_of_le hx h.size)).trans (h.froz x o hx),
  fun x o hx => (k.live x o (Nat.lt_of_lt_of_le hx h.size)).trans (h.live x o hx),
  fun x hx hn => (k.obj x (Nat.lt_of_lt_of_le hx h.size) (fun o q => hn o (hs x o hx q))).trans (h.obj x hx hn)⟩
theorem Frm.drew {S : Nat → Nat → Prop} {a w : World} (h : Frm S a w) : Frm S a w.drew := ⟨h.os, h.tape, h.output, h.size, h.cell, h.froz, h.live, h.obj⟩
theorem Frm.drewN {S : Nat → Nat → Prop} {a w : World} (h : Frm S a w) (n : Nat) : Frm S a (w.drewN n) := ⟨h.os, h.tape, h.output, h.size, h.cell, h.froz, h.live, h.obj⟩
theorem cell_set_ne {w : World} {p : Addr} {v : Value} {b o : Nat} (h : b ≠ p.block ∨ o ≠ p.off) : (w.setCell p v).cell? ⟨b, o, none⟩ = w.cell? ⟨b, o, none⟩ := by
 refine World.cell?_setCell_other w _ _ _ ?_
 intro e; subst e; rcases h with h | h <;> exact h rfl
theorem cell_set_off {w : World} {b k o : Nat} {v : Value} (h : o ≠ k) : (w.setCell ⟨b, k, none⟩ v).cell? ⟨b, o, none⟩ = w.cell? ⟨b, o, none⟩ := cell_set_ne (.inr h)
theorem live_setCell (w : World) (p : Addr) (v : Value) (x : Addr) : ((w.setCell p v).cell? x).isSome = (w.cell? x).isSome := by
 unfold World.cell? World.setCell
 simp only [Array.getElem?_modify]
 by_cases h : p.block = x.block
 · rw [if_pos h]
   cases hb : w.heap[x.block]? with
   | none => simp
   | some o =>
    cases o <;> simp only [Option.map_some]
    split
    · rfl
    · split
      · rfl
      · simp only [Array.getElem?_setIfInBounds]; split
        · split <;> simp_all
        · rfl
 · rw [if_neg h]
theorem Frm.setCell {S : Nat → Nat → Prop} {a w : World} (h : Frm S a w) {p : Addr} (hp : S p.block p.off ∨ a.heap.size ≤ p.block) (v : Value) : Frm S a (w.setCell p v) := by
 refine ⟨h.os, h.tape, h.output, by simpa [World.setCell] using h.size, fun b o hb hn => ?_, fun b o hb => by rw [World.frozen?_setCell]; exact h.froz b o hb, fun b o hb => ?_, fun b hb hn => ?_⟩
 · rw [cell_set_ne, h.cell b o hb hn]
   by_cases e : b = p.block
   · subst e
     right; intro e; subst e
     rcases hp with hp | hp
     · exact hn hp
     · omega
   · exact .inl e
 · rw [live_setCell]; exact h.live b o hb
 · rw [Below.heap_setCell _ _ _ _ (fun e => by
    subst e; rcases hp with hp | hp
    · exact hn _ hp
    · omega)]
   exact h.obj b hb hn
theorem Frm.alloc {S : Nat → Nat → Prop} {a w : World} (h : Frm S a w) (o : Obj) : Frm S a (w.alloc o) := by
 have hh : ∀ b, b < a.heap.size → (w.alloc o).heap[b]? = w.heap[b]? := fun b hb => Below.heap_alloc _ _ _ (Nat.lt_of_lt_of_le hb h.size)
 refine ⟨h.os, h.tape, h.output, Nat.le_trans h.size (by simp), fun b x hb hn => ?_, fun b x hb => ?_, fun b x hb => ?_, fun b hb hn => (hh b hb).trans (h.obj b hb hn)⟩
 · rw [World.cell?_of_block (w := w) (hh b hb)]; exact h.cell b x hb hn
 · rw [World.frozen?_of_block (w := w) (hh b hb)]; exact h.froz b x hb
 · rw [World.cell?_of_block (w := w) (hh b hb)]; exact h.live b x hb
theorem Frm.below {S : Nat → Nat → Prop} {w w' : World} {B : Nat} (h : Frm S w w') (hB : B ≤ w.heap.size) (hS : ∀ b o, S b o → B ≤ b) : Below B w w' :=
 ⟨h.os, h.tape, h.output, h.size, fun k hk => h.obj k (by omega) (fun o x => by have := hS k o x; omega)⟩
theorem cell_lt {w : World} {b o : Nat} {v : Value} (h : w.cell? ⟨b, o, none⟩ = some v) : b < w.heap.size := by
 unfold World.cell? at h
 cases hb : w.heap[b]? with
 | none => simp [hb] at h
 | some x => exact (Array.getElem?_eq_some_iff.1 hb).1
theorem Frm.keep {S : Nat → Nat → Prop} {w w' : World} (h : Frm S w w') {b o : Nat} {v : Value} (hc : w.cell? ⟨b, o, none⟩ = some v) (hn : ¬ S b o) : w'.cell? ⟨b, o, none⟩ = some v :=
 (h.cell b o (cell_lt hc) hn).trans hc
theorem set_get {w : World} {b o : Nat} {u v : Value} (h : w.cell? ⟨b, o, none⟩ = some u) : (w.setCell ⟨b, o, none⟩ v).cell? ⟨b, o, none⟩ = some v := World.cell?_setCell_same w _ _ h
def Bytes (w : World) (base : Option Addr) (l : List UInt8) : Prop :=
 match base with
 | none => l = []
 | some a => a.spot = none ∧ ∀ j (h : j < l.length), w.cell? ⟨a.block, a.off + j, none⟩ = some (.int .u8 (l[j].toNat : Int))
theorem Bytes.keep {S : Nat → Nat → Prop} {w w' : World} {base : Option Addr} {l : List UInt8} (h : Bytes w base l) (hf : Frm S w w') (hn : ∀ a, base = some a → ∀ j, j < l.length → ¬ S a.block (a.off + j)) : Bytes w' base l := by
 cases base with
 | none => exact h
 | some a => exact ⟨h.1, fun j hj => hf.keep (h.2 j hj) (hn a rfl j hj)⟩
def BytesAt (w : World) (base : Option Addr) (off : Nat) (l : List UInt8) : Prop :=
 match base with
 | none => l = [] ∧ off = 0
 | some a => a.spot = none ∧ ∀ j (h : j < l.length), w.cell? ⟨a.block, a.off + (off + j), none⟩ = some (.int .u8 (l[j].toNat : Int))
theorem BytesAt.keep {S : Nat → Nat → Prop} {w w' : World} {base : Option Addr} {off : Nat} {l : List UInt8} (h : BytesAt w base off l) (hf : Frm S w w') (hn : ∀ a, base = some a → ∀ j : Nat, 0 ≤ j → ¬ S a.block (a.off + j)) : BytesAt w' base off l := by
 cases base with
 | none => exact h
 | some a => exact ⟨h.1, fun j hj => hf.keep (h.2 j hj) (hn a rfl _ (Nat.zero_le _))⟩
structure Src (w : World) (R : Nat) (base : Option Addr) (src : List UInt8) (pos : Nat) : Prop where
 s : ∃ cap off N Q, N = off + src.length ∧ Q = off + pos ∧ w.cell? ⟨R, 0, none⟩ = some (.slice base N cap) ∧ N ≤ cap ∧ w.cell? ⟨R, 1, none⟩ = some (.int .i64 (Q : Int)) ∧ BytesAt w base off src ∧ N ≤ 1099511627776
 p : ∃ v, w.cell? ⟨R, 2, none⟩ = some v
 fr : ∀ o, w.frozen? ⟨R, o, none⟩ = false
 le : pos ≤ src.length
 few : src.length ≤ 1099511627776
 ne : ∀ a, base = some a → a.block ≠ R
theorem Src.lt {w : World} {R : Nat} {base : Option Addr} {src : List UInt8} {pos : Nat} (h : Src w R base src pos) : R < w.heap.size := by
 obtain ⟨_, h⟩ := h.p
 exact cell_lt h
theorem Src.keep {S : Nat → Nat → Prop} {w w' : World} {R : Nat} {base : Option Addr} {src : List UInt8} {pos : Nat} (h : Src w R base src pos) (hf : Frm S w w')
 (hR : ∀ o, ¬ S R o) (hn : ∀ a, base = some a → ∀ j : Nat, 0 ≤ j → ¬ S a.block (a.off + j)) : Src w' R base src pos := by
 obtain ⟨⟨cap, off, N, Q, hN, hQ, hs, hcap, hi, hb, hN2⟩, ⟨v, hp⟩, hfr, hle, hfew, hne⟩ := h
 have hlt := cell_lt hi
 exact ⟨⟨cap, off, N, Q, hN, hQ, hf.keep hs (hR 0), hcap, hf.keep hi (hR 1), hb.keep hf hn, hN2⟩, ⟨v, hf.keep hp (hR 2)⟩, fun o => (hf.froz R o hlt).trans (hfr o), hle, hfew, hne⟩
theorem Src.drewN {w : World} {R : Nat} {base : Option Addr} {src : List UInt8} {pos : Nat} (h : Src w R base src pos) (n : Nat) : Src (w.drewN n) R base src pos :=
 ⟨h.s, h.p, h.fr, h.le, h.few, h.ne⟩
theorem Src.drew {w : World} {R : Nat} {base : Option Addr} {src : List UInt8} {pos : Nat} (h : Src w R base src pos) : Src w.drew R base src pos :=
 ⟨h.s, h.p, h.fr, h.le, h.few, h.ne⟩
theorem Src.rest {w : World} {R : Nat} {base : Option Addr} {src : List UInt8} {pos : Nat} (h : Src w R base src pos) (q k : Nat) (hq : q + k = pos) : Src w R base (src.drop q) k := by
 obtain ⟨⟨cap, off, N, Q, hN, hQ, hs, hcap, hi, hb, hN2⟩, hp, hfr, hle, hfew, hne⟩ := h
 refine ⟨⟨cap, off + q, N, Q, by rw [List.length_drop]; omega, by omega, hs, hcap, hi, ?_, hN2⟩, hp, hfr, by rw [List.length_drop]; omega, by rw [List.length_drop]; omega, hne⟩
 cases base with
 | none =>
  obtain ⟨rfl, rfl⟩ := hb; simp only [List.length_nil] at hle; refine ⟨by simp, by omega⟩
 | some a =>
  refine ⟨hb.1, fun j hj => ?_⟩
  rw [List.length_drop] at hj; rw [List.getElem_drop, Nat.add_assoc off q j]; exact hb.2 (q + j) (by omega)
theorem Src.step {w : World} {R : Nat} {base : Option Addr} {src : List UInt8} {pos q : Nat} (h : Src w R base src pos) {x : Int} (hx : ∀ Q off : Nat, Q = off + pos → w.cell? ⟨R, 1, none⟩ = some (.int .i64 (Q : Int)) → x = ((off + q : Nat) : Int)) (hq : q ≤ src.length) : Src (w.setCell ⟨R, 1, none⟩ (.int .i64 x)) R base src q := by
 obtain ⟨⟨cap, off, N, Q, hN, hQ, hs, hcap, hi, hb, hN2⟩, ⟨v, hp⟩, hfr, hle, hfew, hne⟩ := h
 have hx := hx Q off hQ hi
 subst hx
 exact ⟨⟨cap, off, N, off + q, hN, rfl, (cell_set_off (by decide)).trans hs, hcap, set_get hi, hb.keep (S := fun b _ => b = R) ((Frm.refl _ _).setCell (.inl rfl) _) (fun a ha _ _ x => hne a ha x), hN2⟩, ⟨v, (cell_set_off (by decide)).trans hp⟩,
  fun o => by rw [World.frozen?_setCell]; exact hfr o, hq, hfew, hne⟩
end Go.Proofs.YthfncdfcklbigaaGreatDoor
namespace Flate
def num : List UInt8 → Nat
 | [] => 0
 | c :: l => c.toNat + 256 * num l
def bv (src : List UInt8) (at_ n : Nat) : Nat := num src / 2 ^ at_ % 2 ^ n
theorem bv_lt (src : List UInt8) (a n : Nat) : bv src a n < 2 ^ n := Nat.mod_lt _ (Nat.two_pow_pos n)
theorem num_lt (l : List UInt8) : num l < 2 ^ (8 * l.length) := by
 induction l with
 | nil => simp [num]
 | cons c l ih =>
  have hc := c.toNat_lt; simp only [num, List.length_cons]; rw [show 8 * (l.length + 1) = 8 * l.length + 8 from by omega, Nat.pow_add]
  omega
theorem num_div_byte (l : List UInt8) (i : Nat) : num l / 256 ^ i = num (l.drop i) := by
 induction i generalizing l with
 | zero => simp
 | succ i ih =>
  cases l with
  | nil => simp [num]
  | cons c l =>
   have hc := c.toNat_lt; simp only [List.drop_succ_cons]; rw [← ih, Nat.pow_succ, Nat.mul_comm, ← Nat.div_div_eq_div_mul]
   congr 1
   simp only [num]; omega
theorem bv_byte (src : List UInt8) (i : Nat) (h : i < src.length) : bv src (8 * i) 8 = src[i].toNat := by
 have e : (2 : Nat) ^ (8 * i) = 256 ^ i := by rw [Nat.pow_mul]
 rw [bv, e, num_div_byte, List.drop_eq_getElem_cons h]
 have := src[i].toNat_lt
 simp only [num]; omega
theorem bv_add (src : List UInt8) (a n m : Nat) : bv src a (n + m) = bv src a n + 2 ^ n * bv src (a + n) m := by
 unfold bv
 rw [Nat.pow_add, Nat.pow_add, ← Nat.div_div_eq_div_mul, Nat.mod_mul]
theorem bv_div (src : List UInt8) (a n m : Nat) : bv src a (n + m) / 2 ^ n = bv src (a + n) m := by
 rw [bv_add, Nat.add_mul_div_left _ _ (Nat.two_pow_pos n), Nat.div_eq_of_lt (bv_lt src a n), Nat.zero_add]
theorem bv_mod (src : List UInt8) (a n m : Nat) : bv src a (n + m) % 2 ^ n = bv src a n := by
 rw [bv_add, Nat.add_mul_mod_self_left, Nat.mod_eq_of_lt (bv_lt src a n)]
theorem bv_zero (src : List UInt8) (a : Nat) : bv src a 0 = 0 := by simp [bv, Nat.mod_one]
theorem bv_or (src : List UInt8) (a n m : Nat) : bv src a n ||| (bv src (a + n) m <<< n) = bv src a (n + m) := by
 rw [bv_add, Nat.or_comm, Nat.shiftLeft_eq, Nat.mul_comm (bv src (a+n) m), Nat.add_comm (bv src a n)]
 exact (Nat.two_pow_add_eq_or_of_lt (bv_lt src a n) _).symm
structure Br where
 at_ : Nat
 pos : Nat
deriving DecidableEq
namespace Br
def nb (r : Br) : Nat := 8 * r.pos - r.at_
def b (src : List UInt8) (r : Br) : Nat := bv src r.at_ r.nb
def ok (src : List UInt8) (r : Br) : Prop := r.at_ ≤ 8 * r.pos ∧ r.pos ≤ src.length
end Br
def fill (len n : Nat) (r : Br) : Bool × Br :=
 if n ≤ r.nb then (true, r)
 else if (r.at_ + n + 7) / 8 ≤ len then (true, { r with pos := (r.at_ + n + 7) / 8 })
 else (false, { r with pos := len })
def upd (g : Nat → UInt8) (k : Nat) (c : UInt8) : Nat → UInt8 := fun i => if i = k then c else g i
theorem upd_same (g : Nat → UInt8) (k : Nat) (c : UInt8) : upd g k c k = c := if_pos rfl
theorem upd_other (g : Nat → UInt8) {k i : Nat} (c : UInt8) (h : i ≠ k) : upd g k c i = g i := if_neg h
structure Tab where
 min : Nat
 chunks : List Nat
 links : List (List Nat)
 mask : Nat
deriving DecidableEq
def Tab.look (T : Tab) (bits : Nat) : Nat :=
 let c := T.chunks.getD (bits % 512) 0
 if 9 < c % 16 then (T.links.getD (c / 16) []).getD ((bits / 512) &&& T.mask) 0 else c
structure Tab.OK (T : Tab) : Prop where
 size : T.chunks.length = 512
 min : T.min ≤ 15
 chunk : ∀ i, T.chunks.getD i 0 < 2 ^ 32
 link : ∀ i, 9 < T.chunks.getD i 0 % 16 → T.chunks.getD i 0 / 16 < T.links.length
 row : ∀ l ∈ T.links, l.length = T.mask + 1
 entry : ∀ l ∈ T.links, ∀ i, l.getD i 0 < 2 ^ 32
 mask : T.mask < 2 ^ 32
 few : T.links.length ≤ 512
 two : T.links ≠ [] → 1 ≤ T.mask
inductive Err where
 | eof | cut | corrupt
deriving DecidableEq
inductive Rd (α : Type) where
 | ok (v : α) (r : Br)
 | bad (e : Err) (r : Br)
def sym (src : List UInt8) (T : Tab) : Nat → Nat → Br → Rd Nat
 | 0, _, r => .bad .corrupt r
 | f + 1, n, r =>
  match fill src.length n r with
  | (false, r') => .bad .cut r'
  | (true, r') =>
   let c := T.look (r'.b src)
   if c % 16 ≤ r'.nb then
    if c % 16 = 0 then .bad .corrupt r' else .ok (c / 16) { r' with at_ := r'.at_ + c % 16 }
   else sym src T f (c % 16) r'
def symbol (src : List UInt8) (T : Tab) (r : Br) : Rd Nat := sym src T 20 T.min r
theorem fill_has {len n : Nat} {r : Br} (h : n ≤ r.nb) : fill len n r = (true, r) := by unfold fill; rw [if_pos h]
theorem fill_end {len n : Nat} {r : Br} (h : ¬ n ≤ r.nb) (hp : r.pos = len) (ha : r.at_ ≤ 8 * r.pos) : fill len n r = (false, r) := by
 unfold Br.nb at h
 unfold fill; rw [if_neg (by unfold Br.nb; omega), if_neg (by omega)]
 cases r; simp_all
theorem fill_more {len n : Nat} {r : Br} (h : ¬ n ≤ r.nb) (hp : r.pos < len) (ha : r.at_ ≤ 8 * r.pos) : fill len n { r with pos := r.pos + 1 } = fill len n r := by
 unfold Br.nb at h
 unfold fill Br.nb
 simp only
 rw [if_neg (show ¬ n ≤ 8 * r.pos - r.at_ by omega)]
 by_cases h1 : n ≤ 8 * (r.pos + 1) - r.at_
 · rw [if_pos h1, if_pos (by omega)]
   congr 2; omega
 · rw [if_neg h1]
theorem sym_step {src : List UInt8} {T : Tab} {f n : Nat} {r r' : Br} (h : fill src.length n r = (true, r')) :
 sym src T (f + 1) n r = if T.look (r'.b src) % 16 ≤ r'.nb then
  if T.look (r'.b src) % 16 = 0 then .bad .corrupt r' else .ok (T.look (r'.b src) / 16) { r' with at_ := r'.at_ + T.look (r'.b src) % 16 }
  else sym src T f (T.look (r'.b src) % 16) r' := by
 rw [sym, h]
theorem sym_cut {src : List UInt8} {T : Tab} {f n : Nat} {r r' : Br} (h : fill src.length n r = (false, r')) : sym src T (f + 1) n r = .bad .cut r' := by
 rw [sym, h]
theorem b_skip {src : List UInt8} {r : Br} {n : Nat} (h : n ≤ r.nb) : r.b src / 2 ^ n = ({ r with at_ := r.at_ + n } : Br).b src := by
 have e : ({ r with at_ := r.at_ + n } : Br).nb = r.nb - n := by unfold Br.nb; simp only; omega
 have e2 : r.nb = n + (r.nb - n) := by omega
 unfold Br.b
 rw [e]
 conv => lhs; rw [e2]
 exact bv_div _ _ _ _
def getBits (src : List UInt8) (n : Nat) (r : Br) : Rd Nat :=
 match fill src.length n r with
 | (false, r') => .bad .cut r'
 | (true, r') => .ok (bv src r'.at_ n) { r' with at_ := r'.at_ + n }
end Flate
namespace Flate
def lzBytes (H : List UInt8) (d n : Nat) : List UInt8 := (List.range n).map fun j => H.getD (H.length - d + j % d) 0
def lz (H : List UInt8) (d n : Nat) : List UInt8 := H ++ lzBytes H d n
theorem lz_length (H : List UInt8) (d n : Nat) : (lz H d n).length = H.length + n := by simp [lz, lzBytes]
theorem lz_zero (H : List UInt8) (d : Nat) : lz H d 0 = H := by simp [lz, lzBytes]
theorem lz_getD (H : List UInt8) (d n i : Nat) (hi : i < H.length + n) : (lz H d n).getD i 0 = if i < H.length then H.getD i 0 else H.getD (H.length - d + (i - H.length) % d) 0 := by
 unfold lz lzBytes
 simp only [List.getD_eq_getElem?_getD]
 by_cases h : i < H.length
 · rw [if_pos h, List.getElem?_append_left h]
 · rw [if_neg h, List.getElem?_append_right (by omega)]
   simp [List.getElem?_map, List.getElem?_range (show i - H.length < n by omega)]
theorem lz_add (H : List UInt8) (d a b : Nat) (hd : 1 ≤ d) (hH : d ≤ H.length) : lz (lz H d a) d b = lz H d (a + b) := by
 apply List.ext_getElem?
 intro i
 have e : ∀ (l : List UInt8) (n : Nat), n < l.length → l[n]? = some (l.getD n 0) := fun l n h => by simp [List.getD_eq_getElem?_getD, List.getElem?_eq_getElem h]
 by_cases hi : i < H.length + (a + b)
 · rw [e _ _ (by rw [lz_length, lz_length]; omega), e _ _ (by rw [lz_length]; omega)]
   congr 1
   rw [lz_getD _ _ _ _ (by rw [lz_length]; omega), lz_getD _ _ _ _ hi, lz_length]
   by_cases h1 : i < H.length + a
   · rw [if_pos h1, lz_getD _ _ _ _ h1]
   · rw [if_neg h1, if_neg (by omega)]
     have hm : (i - (H.length + a)) % d < d := Nat.mod_lt _ (by omega)
     rw [lz_getD _ _ _ _ (by omega)]
     by_cases h2 : H.length + a - d + (i - (H.length + a)) % d < H.length
     · rw [if_pos h2]
       congr 1
       have h3 : a < d := by omega
       generalize hq : i - (H.length + a) = q at *
       have e1 : i - H.length = a + q := by omega
       rw [e1]; have : (a + q) % d = a + q % d := by
        rw [Nat.add_mod, Nat.mod_eq_of_lt h3]; exact Nat.mod_eq_of_lt (by omega)
       rw [this]; omega
     · rw [if_neg h2]
       congr 2
       generalize hq : i - (H.length + a) = q at *
       have e1 : i - H.length = a + q := by omega
       rw [e1]; have e2 : H.length + a - d + q % d - H.length + d = a + q % d := by omega
       rw [show (H.length + a - d + q % d - H.length) % d = (H.length + a - d + q % d - H.length + d) % d from (Nat.add_mod_right _ _).symm, e2]
       rw [Nat.add_mod a (q % d), Nat.mod_mod, ← Nat.add_mod]
 · rw [List.getElem?_eq_none (by rw [lz_length, lz_length]; omega), List.getElem?_eq_none (by rw [lz_length]; omega)]
structure WinB (g : Nat → UInt8) (wr : Nat) (H : List UInt8) : Prop where
 le : wr ≤ 32768
 eq : wr % 32768 = H.length % 32768
 at_ : ∀ i, i < H.length → H.length ≤ i + 32768 → g (i % 32768) = H.getD i 0
theorem getD_append_left {l m : List UInt8} {i : Nat} (h : i < l.length) : (l ++ m).getD i 0 = l.getD i 0 := by
 simp only [List.getD_eq_getElem?_getD]; rw [List.getElem?_append_left h]
theorem getD_append_right {l m : List UInt8} {i : Nat} (h : l.length ≤ i) : (l ++ m).getD i 0 = m.getD (i - l.length) 0 := by
 simp only [List.getD_eq_getElem?_getD]; rw [List.getElem?_append_right h]
theorem WinB.lay {g g' : Nat → UInt8} {wr : Nat} {H vs : List UInt8} (h : WinB g wr H) (hn : wr + vs.length ≤ 32768) (hnew : ∀ j, j < vs.length → g' (wr + j) = vs.getD j 0)
 (hold : ∀ i, i < 32768 → i < wr ∨ wr + vs.length ≤ i → g' i = g i) : WinB g' (wr + vs.length) (H ++ vs) := by
 have heq := h.eq
 refine ⟨hn, by rw [List.length_append]; omega, fun i hi hw => ?_⟩
 rw [List.length_append] at hi hw
 by_cases hl : i < H.length
 · rw [getD_append_left hl, ← h.at_ i hl (by omega)]
   exact hold _ (Nat.mod_lt _ (by omega)) (by omega)
 · rw [getD_append_right (by omega), ← hnew _ (by omega)]
   congr 1
   omega
theorem WinB.byte {g : Nat → UInt8} {wr : Nat} {H : List UInt8} (h : WinB g wr H) (hw : wr < 32768) (c : UInt8) : WinB (upd g wr c) (wr + 1) (H ++ [c]) :=
 h.lay (vs := [c]) (by simp; omega) (fun j hj => by simp at hj; subst hj; simp [upd_same]) (fun i _ hi => upd_other _ _ (by simp at hi; omega))
theorem WinB.round {g : Nat → UInt8} {H : List UInt8} (h : WinB g 32768 H) : WinB g 0 H := ⟨by omega, by have := h.eq; omega, h.at_⟩
theorem WinB.copy {g g' : Nat → UInt8} {wr m m0 d n : Nat} {H : List UInt8} (h : WinB g (wr + m) (lz H d m)) (hd : 1 ≤ d) (hH : d ≤ H.length) (h0 : m0 ≤ m) (hdiv : (m - m0) % d = 0) (hsrc : d ≤ wr + m0)
 (hfit : wr + m + n ≤ 32768) (hn : n ≤ m - m0 + d) (hnew : ∀ j, j < n → g' (wr + m + j) = g (wr + m0 - d + j)) (hold : ∀ i, i < 32768 → i < wr + m ∨ wr + m + n ≤ i → g' i = g i) : WinB g' (wr + m + n) (lz H d (m + n)) := by
 have hlen := lz_length H d m
 have heq := h.eq
 rw [hlen] at heq
 rw [← lz_add H d m n hd hH]
 have hl : (lzBytes (lz H d m) d n).length = n := by simp [lzBytes]
 have key := WinB.lay (g' := g') (vs := lzBytes (lz H d m) d n) h (by rw [hl]; omega) (fun j hj => by
  rw [hl] at hj; rw [hnew j hj]; have hi : H.length + m0 - d + j < H.length + m := by omega
  have hidx : (H.length + m0 - d + j) % 32768 = wr + m0 - d + j := by omega
  rw [← hidx, h.at_ _ (by rw [hlen]; exact hi) (by rw [hlen]; omega)]
  have e1 : (lzBytes (lz H d m) d n).getD j 0 = (lz H d m).getD ((lz H d m).length - d + j % d) 0 := by
   simp [lzBytes, List.getD_eq_getElem?_getD, List.getElem?_range hj]
  have hjd : j % d < d := Nat.mod_lt _ (by omega)
  rw [e1, hlen, lz_getD _ _ _ _ hi, lz_getD _ _ _ _ (by omega)]
  obtain ⟨q, hq⟩ : ∃ q, m = m0 + d * q := ⟨(m - m0) / d, by have := Nat.div_add_mod (m - m0) d; omega⟩
  have c1 : ∀ k, H.length - d + k < H.length + m → (if H.length - d + k < H.length then H.getD (H.length - d + k) 0 else H.getD (H.length - d + (H.length - d + k - H.length) % d) 0) = H.getD (H.length - d + k % d) 0 := by
   intro k hk
   by_cases hc : H.length - d + k < H.length
   · rw [if_pos hc, Nat.mod_eq_of_lt (show k < d by omega)]
   · rw [if_neg hc]
     congr 2
     rw [← Nat.add_mod_right (H.length - d + k - H.length) d]
     congr 1; omega
  have s1 : H.length + m0 - d + j = H.length - d + (m0 + j) := by omega
  have s2 : H.length + m - d + j % d = H.length - d + (m + j % d) := by omega
  rw [s1, s2, c1 _ (by omega), c1 _ (by omega)]
  congr 2
  rw [hq, show m0 + d * q + j % d = m0 + j % d + d * q by omega, Nat.add_mul_mod_self_left, Nat.add_mod m0 (j % d), Nat.mod_mod, ← Nat.add_mod])
  (fun i hi ho => by rw [hl] at ho; exact hold i hi ho)
 rw [hl] at key
 exact key
theorem WinB.wrap {g g' : Nat → UInt8} {wr d n : Nat} {H : List UInt8} (h : WinB g wr H) (hd : 1 ≤ d) (hH : d ≤ H.length) (h32 : d ≤ 32768) (hwr : wr < d) (hfit : wr + n ≤ 32768) (hn : n ≤ d - wr)
 (hnew : ∀ j, j < n → g' (wr + j) = g (wr + 32768 - d + j)) (hold : ∀ i, i < 32768 → i < wr ∨ wr + n ≤ i → g' i = g i) : WinB g' (wr + n) (lz H d n) := by
 have hl : (lzBytes H d n).length = n := by simp [lzBytes]
 have heq := h.eq
 have key := WinB.lay (g' := g') (vs := lzBytes H d n) h (by rw [hl]; omega) (fun j hj => by
  rw [hl] at hj; rw [hnew j hj]; have hidx : (H.length - d + j) % 32768 = wr + 32768 - d + j := by omega
  rw [← hidx, h.at_ _ (by omega) (by omega)]
  have e1 : (lzBytes H d n).getD j 0 = H.getD (H.length - d + j % d) 0 := by
   simp [lzBytes, List.getD_eq_getElem?_getD, List.getElem?_range hj]
  rw [e1, Nat.mod_eq_of_lt (show j < d by omega)])
  (fun i hi ho => by rw [hl] at ho; exact hold i hi ho)
 rw [hl] at key
 exact key
def revB : Nat → Nat → Nat
 | 0, _ => 0
 | n + 1, x => x % 2 * 2 ^ n + revB n (x / 2)
theorem revB_lt (n x : Nat) : revB n x < 2 ^ n := by
 induction n generalizing x with
 | zero => simp [revB]
 | succ n ih =>
  have := ih (x / 2); have h2 : x % 2 < 2 := Nat.mod_lt _ (by omega)
  rw [revB, Nat.pow_succ]; have : x % 2 * 2 ^ n ≤ 1 * 2 ^ n := Nat.mul_le_mul_right _ (by omega)
  omega
theorem revB_div (n k x : Nat) : revB (n + k) x / 2 ^ k = revB n x := by
 induction n generalizing x with
 | zero => simp only [revB, Nat.zero_add]; exact Nat.div_eq_of_lt (revB_lt k x)
 | succ n ih =>
  rw [show n + 1 + k = (n + k) + 1 by omega, revB, revB, Nat.pow_add, ← Nat.mul_assoc, Nat.mul_comm (x % 2 * 2 ^ n) (2 ^ k), Nat.mul_add_div (Nat.two_pow_pos k), ih]
theorem revB_add (n k x : Nat) : revB (n + k) x = revB n x * 2 ^ k + revB k (x / 2 ^ n) := by
 induction n generalizing x with
 | zero => simp [revB]
 | succ n ih =>
  rw [show n + 1 + k = (n + k) + 1 by omega, revB, revB, ih, Nat.pow_add, Nat.add_mul, Nat.mul_assoc, Nat.div_div_eq_div_mul, Nat.pow_succ, Nat.mul_comm (2 ^ n) 2, Nat.add_assoc]
theorem revB_mod (n x : Nat) : revB n (x % 2 ^ n) = revB n x := by
 induction n generalizing x with
 | zero => rfl
 | succ n ih =>
  rw [revB, revB]; have h1 : x % 2 ^ (n + 1) % 2 = x % 2 := by
   rw [Nat.pow_succ, Nat.mul_comm, Nat.mod_mul_right_mod]
  have h2 : x % 2 ^ (n + 1) / 2 = x / 2 % 2 ^ n := by
   rw [Nat.pow_succ, Nat.mul_comm, Nat.mod_mul_right_div_self]
  rw [h1, h2, ih]
theorem revB_revB (n x : Nat) : revB n (revB n x) = x % 2 ^ n := by
 induction n generalizing x with
 | zero => simp [revB, Nat.mod_one]
 | succ n ih =>
  have hl := revB_lt n (x / 2); have e1 : (x % 2 * 2 ^ n + revB n (x / 2)) / 2 ^ n = x % 2 := by
   rw [Nat.mul_comm, Nat.mul_add_div (Nat.two_pow_pos n), Nat.div_eq_of_lt hl, Nat.add_zero]
  have e2 : (x % 2 * 2 ^ n + revB n (x / 2)) % 2 ^ n = revB n (x / 2) := by
   rw [Nat.mul_comm, Nat.mul_add_mod, Nat.mod_eq_of_lt hl]
  obtain ⟨y, hy⟩ : ∃ y, y = revB (n + 1) x := ⟨_, rfl⟩; have hy' : y = x % 2 * 2 ^ n + revB n (x / 2) := hy; rw [← hy' ] at e1 e2; rw [← hy, revB_add n 1, ← revB_mod n y, e2, ih, revB, e1]; simp only [revB, Nat.pow_zero, Nat.mul_one, Nat.add_zero, Nat.mod_mod]; have e3 : x % 2 ^ (n + 1) = x % 2 + 2 * (x / 2 % 2 ^ n) := by rw [Nat.pow_succ, Nat.mul_comm (2 ^ n) 2, Nat.mod_mul]
  rw [e3]; omega
structure Cnt where
 min : Nat
 max : Nat
 count : List Nat
def cntStep (c : Cnt) (n : Nat) : Cnt :=
 if n = 0 then c else
  { min := if c.min = 0 ∨ n < c.min then n else c.min, max := if c.max < n then n else c.max, count := c.count.set n (c.count.getD n 0 + 1) }
def cnt0 : Cnt := ⟨0, 0, List.replicate 16 0⟩
def cntAll (lens : List Nat) : Cnt := lens.foldl cntStep cnt0
theorem getD_set (l : List Nat) (i j v : Nat) : (l.set i v).getD j 0 = if i = j ∧ i < l.length then v else l.getD j 0 := by
 simp only [List.getD_eq_getElem?_getD, List.getElem?_set]
 by_cases h : i = j
 · subst h
   by_cases h2 : i < l.length
   · simp [h2]
   · simp [h2]
 · simp [h]
structure CntOK (c : Cnt) (k : Nat) : Prop where
 len : c.count.length = 16
 le : ∀ j, c.count.getD j 0 ≤ k
 min : c.min ≤ 15
 max : c.max ≤ 15
theorem cnt_step_ok {c : Cnt} {k n : Nat} (h : CntOK c k) (hn : n ≤ 15) : CntOK (cntStep c n) (k + 1) := by
 unfold cntStep
 split
 · exact ⟨h.len, fun j => Nat.le_succ_of_le (h.le j), h.min, h.max⟩
 · have hm := h.min; have hx := h.max; refine ⟨by simp [h.len], fun j => ?_, ?_, ?_⟩
   · simp only [getD_set]; have := h.le n; have := h.le j; split <;> omega
   · simp only; split <;> omega
   · simp only; split <;> omega
theorem take_succ_fold (lens : List Nat) (k : Nat) (h : k < lens.length) : (lens.take (k + 1)).foldl cntStep cnt0 = cntStep ((lens.take k).foldl cntStep cnt0) (lens.getD k 0) := by
 rw [List.take_succ_eq_append_getElem h, List.foldl_append, List.getD_eq_getElem?_getD, List.getElem?_eq_getElem h]; rfl
theorem cnt_ok (lens : List Nat) (h15 : ∀ n ∈ lens, n ≤ 15) (k : Nat) (hk : k ≤ lens.length) : CntOK ((lens.take k).foldl cntStep cnt0) k := by
 induction k with
 | zero =>
  refine ⟨by simp [cnt0], fun j => ?_, by simp [cnt0], by simp [cnt0]⟩
  simp only [List.take_zero, List.foldl_nil, cnt0]; rw [List.getD_eq_getElem?_getD, List.getElem?_replicate]; split <;> simp
 | succ k ih =>
  rw [take_succ_fold lens k hk]; refine cnt_step_ok (ih (by omega)) ?_
  rw [List.getD_eq_getElem?_getD, List.getElem?_eq_getElem (show k < lens.length by omega)]
  exact h15 _ (List.getElem_mem _)
def nextFrom (count : List Nat) : Nat → Nat → Nat → List Nat → Nat × List Nat
 | 0, _, code, nx => (code, nx)
 | k + 1, i, code, nx => nextFrom count k (i + 1) (2 * code + count.getD i 0) (nx.set i (2 * code))
def nextAll (c : Cnt) : Nat × List Nat := nextFrom c.count (c.max + 1 - c.min) c.min 0 (List.replicate 16 0)
def linkTo (link : Nat) (chunks : List Nat) : Nat → List Nat
 | 0 => chunks
 | k + 1 => (linkTo link chunks k).set (revB 9 (link + k)) (k * 16 + 10)
structure Bld where
 next : List Nat
 chunks : List Nat
 links : List (List Nat)
def stride (l : List Nat) (off step c : Nat) : List Nat := l.mapIdx fun p x => if off ≤ p ∧ (p - off) % step = 0 then c else x
def symStep (b : Bld) (i n : Nat) : Option Bld :=
 if n = 0 then some b else
  let code := b.next.getD n 0
  let next := b.next.set n (code + 1)
  let rev := revB n code
  if n ≤ 9 then some { b with next, chunks := stride b.chunks rev (2 ^ n) (i * 16 + n) }
  else
   let v := b.chunks.getD (rev % 512) 0 / 16
   if v < b.links.length then some { b with next, links := b.links.set v (stride (b.links.getD v []) (rev / 512) (2 ^ (n - 9)) (i * 16 + n)) } else none
theorem stride_len (l : List Nat) (off step c : Nat) : (stride l off step c).length = l.length := by unfold stride; simp
theorem stride_getD (l : List Nat) (off step c p : Nat) (hp : p < l.length) : (stride l off step c).getD p 0 = if off ≤ p ∧ (p - off) % step = 0 then c else l.getD p 0 := by
 unfold stride
 rw [List.getD_eq_getElem?_getD, List.getElem?_mapIdx, List.getD_eq_getElem?_getD, List.getElem?_eq_getElem hp]
 rfl
def symAll : Bld → Nat → List Nat → Option Bld
 | b, _, [] => some b
 | b, i, n :: l => (symStep b i n).bind fun b' => symAll b' (i + 1) l
theorem symAll_step {b : Bld} {k : Nat} {lens : List Nat} {T : Bld} (hk : k < lens.length) (h : symAll b k (lens.drop k) = some T) :
 ∃ b', symStep b k (lens.getD k 0) = some b' ∧ symAll b' (k + 1) (lens.drop (k + 1)) = some T := by
 rw [List.drop_eq_getElem_cons hk, symAll] at h
 rw [List.getD_eq_getElem?_getD, List.getElem?_eq_getElem hk]
 cases hs : symStep b k lens[k] with
 | none => rw [hs] at h; cases h
 | some b' => rw [hs] at h; exact ⟨b', hs, h⟩
def emptyTab : Tab := ⟨0, List.replicate 512 0, [], 0⟩
def bld0 (max : Nat) (nx : List Nat) : Bld :=
 if 9 < max then { next := nx, chunks := linkTo (nx.getD 10 0 / 2) (List.replicate 512 0) (512 - nx.getD 10 0 / 2), links := List.replicate (512 - nx.getD 10 0 / 2) (List.replicate (2 ^ (max - 9)) 0) }
 else { next := nx, chunks := List.replicate 512 0, links := [] }
def mkTab (c : Cnt) (b : Bld) : Tab := { min := c.min, chunks := b.chunks, links := b.links, mask := if 9 < c.max then 2 ^ (c.max - 9) - 1 else 0 }
def initTab (lens : List Nat) : Option (Option Tab) :=
 let c := cntAll lens
 if c.max = 0 then some (some emptyTab)
 else
  let cn := nextAll c
  if cn.1 ≠ 2 ^ c.max ∧ ¬ (cn.1 = 1 ∧ c.max = 1) then some none
  else if 9 < c.max ∧ 512 ≤ cn.2.getD 10 0 / 2 then none
  else match symAll (bld0 c.max cn.2) 0 lens with
   | none => none
   | some b => some (some (mkTab c b))
theorem initTab_empty {lens : List Nat} {c : Cnt} (hc : c = cntAll lens) (h0 : c.max = 0) : initTab lens = some (some emptyTab) := by
 subst hc; unfold initTab; simp only [h0, if_true]
theorem initTab_bad {lens : List Nat} {c : Cnt} {x : Nat} {nx : List Nat} (hc : c = cntAll lens) (h0 : ¬ c.max = 0) (hn : nextAll c = (x, nx)) (hd : true = decide (x ≠ 2 ^ c.max ∧ ¬ (x = 1 ∧ c.max = 1))) : initTab lens = some none := by
 subst hc
 have hd := of_decide_eq_true hd.symm
 unfold initTab
 simp only [hn]
 rw [if_neg h0, if_pos hd]
theorem initTab_go {lens : List Nat} {c : Cnt} {x : Nat} {nx : List Nat} (hc : c = cntAll lens) (h0 : ¬ c.max = 0) (hn : nextAll c = (x, nx)) (hd : false = decide (x ≠ 2 ^ c.max ∧ ¬ (x = 1 ∧ c.max = 1))) (hnp : initTab lens ≠ none) :
 (9 < c.max → nx.getD 10 0 / 2 < 512) ∧ ∃ b, symAll (bld0 c.max nx) 0 lens = some b ∧ initTab lens = some (some (mkTab c b)) := by
 subst hc
 have hd := of_decide_eq_false hd.symm
 unfold initTab at hnp ⊢
 simp only [hn] at hnp ⊢
 rw [if_neg h0, if_neg hd] at hnp ⊢
 by_cases h : 9 < (cntAll lens).max ∧ 512 ≤ nx.getD 10 0 / 2
 · rw [if_pos h] at hnp; exact absurd rfl hnp
 · rw [if_neg h] at hnp ⊢; refine ⟨fun h9 => by omega, ?_⟩
   cases hs : symAll (bld0 (cntAll lens).max nx) 0 lens with
   | none => rw [hs] at hnp; exact absurd rfl hnp
   | some b => exact ⟨b, rfl, rfl⟩
def fixedLens : List Nat := List.replicate 144 8 ++ List.replicate 112 9 ++ List.replicate 24 7 ++ List.replicate 8 8
end Flate
namespace Go.Proofs.YthfncdfcklbigaaGreatDoor
open Go.RowKit Flate
set_option maxRecDepth 100000
def rev8tab : ByteArray := ⟨#[0, 128, 64, 192, 32, 160, 96, 224, 16, 144, 80, 208, 48, 176, 112, 240, 8, 136, 72, 200, 40, 168, 104, 232, 24, 152, 88, 216, 56, 184, 120, 248, 4, 132, 68, 196, 36, 164, 100, 228, 20, 148, 84, 212, 52, 180, 116, 244, 12, 140, 76, 204, 44, 172, 108, 236, 28, 156, 92, 220, 60, 188, 124, 252, 2, 130, 66, 194, 34, 162, 98, 226, 18, 146, 82, 210, 50, 178, 114, 242, 10, 138, 74, 202, 42, 170, 106, 234, 26, 154, 90, 218, 58, 186, 122, 250, 6, 134, 70, 198, 38, 166, 102, 230, 22, 150, 86, 214, 54, 182, 118, 246, 14, 142, 78, 206, 46, 174, 110, 238, 30, 158, 94, 222, 62, 190, 126, 254, 1, 129, 65, 193, 33, 161, 97, 225, 17, 145, 81, 209, 49, 177, 113, 241, 9, 137, 73, 201, 41, 169, 105, 233, 25, 153, 89, 217, 57, 185, 121, 249, 5, 133, 69, 197, 37, 165, 101, 229, 21, 149, 85, 213, 53, 181, 117, 245, 13, 141, 77, 205, 45, 173, 109, 237, 29, 157, 93, 221, 61, 189, 125, 253, 3, 131, 67, 195, 35, 163, 99, 227, 19, 147, 83, 211, 51, 179, 115, 243, 11, 139, 75, 203, 43, 171, 107, 235, 27, 155, 91, 219, 59, 187, 123, 251, 7, 135, 71, 199, 39, 167, 103, 231, 23, 151, 87, 215, 55, 183, 119, 247, 15, 143, 79, 207, 47, 175, 111, 239, 31, 159, 95, 223, 63, 191, 127, 255]⟩
theorem rev8_all : ∀ y : Fin 256, ∃ h : y.1 < rev8tab.size, (rev8tab[y.1]'h).toNat = revB 8 y.1 := by decide +kernel
theorem rev8_at (x : Nat) (h : x < rev8tab.size) (hx : x < 256) : (rev8tab[x]'h).toNat = revB 8 x := (rev8_all ⟨x, hx⟩).2
set_option maxHeartbeats 400000 in
theorem reverse8_any (w : World) (x : Nat) (hx : x < 256) :
 Calls Tryz.prog 92 #[.int .u8 (x : Int)] w fun e w' => e = .returned (.int .u8 (revB 8 x : Nat)) ∧ w = w' := by
 go_enter Tryz.func92, Tryz.ntmps92
 go_wp2_with fail
 go_ret
 exact ⟨congrArg (fun n : Nat => Ending.returned (.int .u8 (n : Int))) (rev8_at x _ hx), rfl⟩
theorem rev16_eq (x a b : Nat) (ha : a = revB 8 (x / 256)) (hb : b = revB 8 (x % 256)) :
 bits .or .u16 (IntKind.u16.wrap (a : Int)) (IntKind.u16.wrap (IntKind.u16.wrap (b : Int) * 256)) = ((revB 16 x : Nat) : Int) := by
 have la : a < 256 := by rw [ha]; exact revB_lt 8 _
 have lb : b < 256 := by rw [hb]; exact revB_lt 8 _
 have e1 : IntKind.u16.wrap (a : Int) = (a : Int) := by rw [IntKind.wrap_u16]; omega
 have e2 : IntKind.u16.wrap (IntKind.u16.wrap (b : Int) * 256) = ((b * 256 : Nat) : Int) := by rw [IntKind.wrap_u16, IntKind.wrap_u16]; omega
 have e3 : revB 8 (x % 256) = revB 8 x := revB_mod 8 x
 rw [e1, e2, u16_or_nat _ _ (by omega) (by omega), Nat.or_comm, nat_join 8 _ _ (by omega) (by omega), show (16 : Nat) = 8 + 8 from rfl, revB_add, ← e3, ← hb]
 rw [show (2 : Nat) ^ 8 = 256 from rfl, ← ha]
set_option maxHeartbeats 400000 in
theorem reverse16_any (w : World) (x : Nat) (hx : x < 65536) :
 Calls Tryz.prog 99 #[.int .u16 (x : Int)] w fun e w' => e = .returned (.int .u16 (revB 16 x : Nat)) ∧ ∃ n, w' = w.drewN n := by
 have e0 : bits .and .u16 (x : Int) 255 = ((x % 256 : Nat) : Int) := by rw [show (255 : Int) = ((255 : Nat) : Int) from rfl, u16_and_nat _ _ hx (by omega), nat_mask8]
 have b1 : (x : Int) ≤ 65535 := by omega
 have b2 : (x : Int) / 256 < 256 := by omega
 have b3 : x / 256 < 256 := by omega
 have b4 : (0 : Int) ≤ (x : Int) / 256 := by omega
 have b5 : (0 : Int) ≤ (x : Int) % 256 := by omega
 have b6 : (x : Int) % 256 < 256 := by omega
 have b7 : x % 256 < 256 := by omega
 have b8 : ((x : Int) % 256).toNat = x % 256 := by omega
 go_enter Tryz.func99, Tryz.ntmps99
 go_wp2_with fail
 (go_quiet (fail))
 go_wp2_with fail
 go_ret
 exact ⟨congrArg (fun n : Int => Ending.returned (.int .u16 n)) (rev16_eq x _ _ (rev8_at _ _ b3) (rev8_at _ _ b7)), nq, rfl⟩
end Go.Proofs.YthfncdfcklbigaaGreatDoor
namespace Flate
theorem cnt_fold (lens : List Nat) : ∀ c : Cnt, c.count.length = 16 →
 (lens.foldl cntStep c).count.length = 16 ∧
 (∀ n, n < 16 → n ≠ 0 → (lens.foldl cntStep c).count.getD n 0 = c.count.getD n 0 + lens.count n) ∧
 c.max ≤ (lens.foldl cntStep c).max ∧ (∀ n ∈ lens, n ≤ (lens.foldl cntStep c).max) ∧ ((lens.foldl cntStep c).max = c.max ∨ (lens.foldl cntStep c).max ∈ lens) ∧
 (c.min ≠ 0 → (lens.foldl cntStep c).min ≠ 0 ∧ (lens.foldl cntStep c).min ≤ c.min) ∧ (∀ n ∈ lens, n ≠ 0 → (lens.foldl cntStep c).min ≠ 0 ∧ (lens.foldl cntStep c).min ≤ n) := by
 induction lens with
 | nil => intro c hc; exact ⟨hc, fun n _ _ => by simp, Nat.le_refl _, fun n h => absurd h (by simp), .inl rfl, fun h => ⟨h, Nat.le_refl _⟩, fun n h => absurd h (by simp)⟩
 | cons x l ih =>
  intro c hc; have hl : (cntStep c x).count.length = 16 := by unfold cntStep; split <;> simp [hc]
  obtain ⟨i1, i2, i3, i4, i5, i6, i7⟩ := ih (cntStep c x) hl; have hx : c.max ≤ (cntStep c x).max ∧ (x ≤ (cntStep c x).max) ∧ ((cntStep c x).max = c.max ∨ (cntStep c x).max = x) := by
   unfold cntStep; split
   · exact ⟨Nat.le_refl _, by omega, .inl rfl⟩
   · simp only; split
     · exact ⟨by omega, by omega, .inr rfl⟩
     · exact ⟨by omega, by omega, .inl rfl⟩
  have hm : (c.min ≠ 0 → (cntStep c x).min ≠ 0 ∧ (cntStep c x).min ≤ c.min) ∧ (x ≠ 0 → (cntStep c x).min ≠ 0 ∧ (cntStep c x).min ≤ x) := by
   unfold cntStep; split
   · exact ⟨fun h => ⟨h, Nat.le_refl _⟩, fun h => absurd (by assumption) h⟩
   · simp only; split
     · exact ⟨fun h => by omega, fun h => by omega⟩
     · exact ⟨fun h => by omega, fun h => by omega⟩
  simp only [List.foldl_cons]; refine ⟨i1, fun n h1 h2 => ?_, by omega, fun n hn => ?_, ?_, fun h => ?_, fun n hn h => ?_⟩
  · rw [i2 n h1 h2, List.count_cons]; unfold cntStep
    by_cases h0 : x = 0
    · rw [if_pos h0, if_neg (by simp; omega)]; omega
    · rw [if_neg h0]; simp only [getD_set]
      by_cases e : x = n
      · subst e; rw [if_pos ⟨rfl, by omega⟩, if_pos (by simp)]; omega
      · rw [if_neg (fun q => e q.1), if_neg (by simp [e])]; omega
  · rcases List.mem_cons.1 hn with rfl | hn
    · omega
    · exact i4 n hn
  · rcases i5 with e | e
    · rcases hx.2.2 with q | q
      · left; omega
      · right; rw [e, q]; exact List.mem_cons_self
    · right; exact List.mem_cons_of_mem _ e
  · have a := hm.1 h; have b := i6 a.1; exact ⟨b.1, by omega⟩
  · rcases List.mem_cons.1 hn with rfl | hn
    · have a := hm.2 h; have b := i6 a.1; exact ⟨b.1, by omega⟩
    · exact i7 n hn h
structure CntFacts (lens : List Nat) (c : Cnt) : Prop where
 len : c.count.length = 16
 count : ∀ n, n < 16 → n ≠ 0 → c.count.getD n 0 = lens.count n
 le : ∀ n ∈ lens, n ≤ c.max
 mem : c.max = 0 ∨ c.max ∈ lens
 min : ∀ n ∈ lens, n ≠ 0 → c.min ≠ 0 ∧ c.min ≤ n
theorem cnt_facts (lens : List Nat) : CntFacts lens (cntAll lens) := by
 obtain ⟨h1, h2, _, h4, h5, _, h7⟩ := cnt_fold lens cnt0 (by simp [cnt0])
 refine ⟨h1, fun n a b => ?_, h4, h5, h7⟩
 show (lens.foldl cntStep cnt0).count.getD n 0 = _
 rw [h2 n a b]
 have : cnt0.count.getD n 0 = 0 := by
  unfold cnt0; rw [List.getD_eq_getElem?_getD, List.getElem?_replicate]; split <;> rfl
 omega
def Ck (count : List Nat) : Nat → Nat
 | 0 => 0
 | i + 1 => 2 * Ck count i + count.getD (i + 1) 0
theorem nextFrom_spec (count : List Nat) (k : Nat) : ∀ (i : Nat) (nx : List Nat), 1 ≤ i → i + k ≤ 16 → nx.length = 16 →
 ∃ nx', nextFrom count k i (Ck count (i - 1)) nx = (Ck count (i + k - 1), nx') ∧ nx'.length = 16 ∧ ∀ j, nx'.getD j 0 = if i ≤ j ∧ j < i + k then 2 * Ck count (j - 1) else nx.getD j 0 := by
 induction k with
 | zero => intro i nx h1 _ hl; exact ⟨nx, rfl, hl, fun j => by rw [if_neg (by omega)]⟩
 | succ k ih =>
  intro i nx h1 hk hl; obtain ⟨nx', e1, e2, e3⟩ := ih (i + 1) (nx.set i (2 * Ck count (i - 1))) (by omega) (by omega) (by simp [hl])
  have hc : 2 * Ck count (i - 1) + count.getD i 0 = Ck count (i + 1 - 1) := by
   obtain ⟨q, rfl⟩ : ∃ q, i = q + 1 := ⟨i - 1, by omega⟩
   rfl
  refine ⟨nx', ?_, e2, fun j => ?_⟩
  · rw [nextFrom, hc, e1]; congr 2; omega
  · rw [e3 j, getD_set]
    by_cases ha : i + 1 ≤ j ∧ j < i + 1 + k
    · rw [if_pos ha, if_pos (by omega)]
    · rw [if_neg ha]
      by_cases hb : i = j
      · subst hb; rw [if_pos ⟨rfl, by omega⟩, if_pos (by omega)]
      · rw [if_neg (fun q => hb q.1), if_neg (by omega)]
theorem Ck_mono (count : List Nat) (i d : Nat) : Ck count i * 2 ^ d ≤ Ck count (i + d) := by
 induction d with
 | zero => simp
 | succ d ih =>
  rw [Nat.pow_succ, ← Nat.mul_assoc, ← Nat.add_assoc, Ck]; omega
theorem Ck_zero {count : List Nat} {m : Nat} (h : ∀ j, 1 ≤ j → j < m → count.getD j 0 = 0) : ∀ i, i < m → Ck count i = 0 := by
 intro i
 induction i with
 | zero => intro _; rfl
 | succ i ih => intro hi; rw [Ck, ih (by omega), h (i + 1) (by omega) hi]
structure CodeFacts (lens : List Nat) (c : Cnt) (nx : List Nat) : Prop where
 len : nx.length = 16
 nx : ∀ n, 1 ≤ n → n ≤ c.max → nx.getD n 0 = 2 * Ck c.count (n - 1)
 le : ∀ n, n ≤ c.max → Ck c.count n ≤ 2 ^ n
 few : 9 < c.max → Ck c.count 9 < 512
theorem code_facts {lens : List Nat} (h15 : ∀ n ∈ lens, n ≤ 15) {x : Nat} {nx : List Nat} (h0 : (cntAll lens).max ≠ 0) (hn : nextAll (cntAll lens) = (x, nx)) (hok : ¬ (x ≠ 2 ^ (cntAll lens).max ∧ ¬ (x = 1 ∧ (cntAll lens).max = 1))) :
 CodeFacts lens (cntAll lens) nx := by
 have hc := cnt_facts lens
 generalize cntAll lens = c at *
 have hmem : c.max ∈ lens := by rcases hc.mem with e | e; exact absurd e h0; exact e
 have hmax : c.max ≤ 15 := h15 _ hmem
 obtain ⟨hmin0, hminle⟩ := hc.min _ hmem h0
 have hz : ∀ i, i < c.min → Ck c.count i = 0 := Ck_zero fun j h1 h2 => by
  rw [hc.count j (by omega) (by omega)]
  refine List.count_eq_zero.2 fun hj => ?_
  have := (hc.min j hj (by omega)).2; omega
 unfold nextAll at hn
 obtain ⟨nx', e1, e2, e3⟩ := nextFrom_spec c.count (c.max + 1 - c.min) c.min (List.replicate 16 0) (by omega) (by omega) (by simp)
 rw [hz (c.min - 1) (by omega), hn] at e1
 obtain ⟨rfl, rfl⟩ := Prod.mk.injEq .. ▸ e1
 have hxm : c.min + (c.max + 1 - c.min) - 1 = c.max := by omega
 rw [hxm] at hok
 have hcm : 1 ≤ c.count.getD c.max 0 := by
  rw [hc.count _ (by omega) h0]; exact List.count_pos_iff.2 hmem
 have hle : ∀ n, n ≤ c.max → Ck c.count n ≤ 2 ^ n := by
  intro n hnm
  by_cases hA : Ck c.count c.max = 2 ^ c.max
  · have := Ck_mono c.count n (c.max - n); rw [show n + (c.max - n) = c.max by omega, hA] at this
    have e : 2 ^ c.max = 2 ^ n * 2 ^ (c.max - n) := by rw [← Nat.pow_add]; congr 1; omega
    rw [e] at this; exact Nat.le_of_mul_le_mul_right this (Nat.two_pow_pos _)
  · have hB : Ck c.count c.max = 1 ∧ c.max = 1 := by
     by_cases hB : Ck c.count c.max = 1 ∧ c.max = 1
     · exact hB
     · exact absurd ⟨hA, hB⟩ hok
    have : n = 0 ∨ n = 1 := by omega
    rcases this with rfl | rfl
    · simp [Ck]
    · rw [← hB.2, hB.1]; exact Nat.one_le_two_pow
 refine ⟨e2, fun n h1 h2 => ?_, hle, fun h9 => ?_⟩
 · rw [e3 n]
   by_cases hn : c.min ≤ n
   · rw [if_pos (by omega)]
   · rw [if_neg (by omega), hz (n - 1) (by omega)]
     rw [List.getD_eq_getElem?_getD, List.getElem?_replicate]; split <;> rfl
 · have hA : Ck c.count c.max = 2 ^ c.max := by
    by_cases hA : Ck c.count c.max = 2 ^ c.max
    · exact hA
    · exact absurd ⟨hA, fun q => by omega⟩ hok
   obtain ⟨M, hM⟩ : ∃ M, c.max = M + 1 := ⟨c.max - 1, by omega⟩
   rw [hM] at hA hcm; rw [Ck, Nat.pow_succ] at hA; have := Ck_mono c.count 9 (M - 9); rw [show 9 + (M - 9) = M by omega] at this
   have h2 : Ck c.count M < 2 ^ M := by omega
   have e : 2 ^ M = 2 ^ 9 * 2 ^ (M - 9) := by rw [← Nat.pow_add]; congr 1; omega
   rw [e] at h2; exact Nat.lt_of_mul_lt_mul_right (Nat.lt_of_le_of_lt this h2)
theorem stride_iff {rev p s : Nat} (hr : rev < s) : (rev ≤ p ∧ (p - rev) % s = 0) ↔ p % s = rev := by
 constructor
 · rintro ⟨h1, h2⟩; obtain ⟨q, hq⟩ : ∃ q, p - rev = s * q := ⟨(p - rev) / s, by have := Nat.div_add_mod (p - rev) s; omega⟩
   have : p = rev + s * q := by omega
   rw [this, Nat.add_mul_mod_self_left, Nat.mod_eq_of_lt hr]
 · intro h; have h1 := Nat.div_add_mod p s; rw [h] at h1; refine ⟨by omega, ?_⟩
   have : p - rev = s * (p / s) := by omega
   rw [this]; exact Nat.mul_mod_right _ _
theorem revB_mod_lt {n m x : Nat} (h : n ≤ m) : x % 2 ^ m % 2 ^ n = x % 2 ^ n := Nat.mod_mod_of_dvd _ (Nat.pow_dvd_pow 2 h)
theorem rev_short {n cd i : Nat} (hn : n ≤ 9) (hcd : cd < 2 ^ n) (h : i % 2 ^ n = revB n cd) : revB 9 i < (cd + 1) * 2 ^ (9 - n) := by
 have h1 : revB (n + (9 - n)) i / 2 ^ (9 - n) = revB n i := revB_div n (9 - n) i
 rw [show n + (9 - n) = 9 by omega] at h1
 have h2 : revB n i = cd := by
  rw [← revB_mod, h, revB_revB, Nat.mod_eq_of_lt hcd]
 rw [h2] at h1
 have := (Nat.div_lt_iff_lt_mul (Nat.two_pow_pos (9 - n))).1 (show revB 9 i / 2 ^ (9 - n) < cd + 1 by omega)
 exact this
def SymE (S lo hi x : Nat) : Prop := x = 0 ∨ ∃ s n, s < S ∧ lo ≤ n ∧ n ≤ hi ∧ x = s * 16 + n
structure BInv (lens : List Nat) (c : Cnt) (link LN m : Nat) (k : Nat) (b : Bld) : Prop where
 nlen : b.next.length = 16
 next : ∀ n, 1 ≤ n → n ≤ c.max → b.next.getD n 0 = 2 * Ck c.count (n - 1) + (lens.take k).count n
 clen : b.chunks.length = 512
 llen : b.links.length = LN
 big : ∀ v, v < LN → b.chunks.getD (revB 9 (link + v)) 0 = v * 16 + 10
 small : ∀ i, i < 512 → (LN = 0 ∨ revB 9 i < link) → SymE lens.length 1 9 (b.chunks.getD i 0)
 rows : ∀ l ∈ b.links, l.length = m ∧ ∀ j, j < m → SymE lens.length 10 15 (l.getD j 0)
structure Dims (c : Cnt) (link LN : Nat) : Prop where
 lk : link = Ck c.count 9
 few : LN = 0 ∧ c.max ≤ 9 ∨ 9 < c.max ∧ link + LN = 512 ∧ 0 < LN
theorem binv_step {lens : List Nat} {c : Cnt} {nx : List Nat} {link LN m k : Nat} {b : Bld} (hc : CntFacts lens c) (hf : CodeFacts lens c nx) (h15 : c.max ≤ 15) (hd : Dims c link LN)
 (h : BInv lens c link LN m k b) (hk : k < lens.length) : ∃ b', symStep b k (lens.getD k 0) = some b' ∧ BInv lens c link LN m (k + 1) b' := by
 obtain ⟨n, hn⟩ : ∃ n, n = lens.getD k 0 := ⟨_, rfl⟩
 have hnk : lens[k] = n := by rw [hn, List.getD_eq_getElem?_getD, List.getElem?_eq_getElem hk]; rfl
 have hmem : n ∈ lens := by rw [← hnk]; exact List.getElem_mem hk
 have htk : ∀ j, (lens.take (k + 1)).count j = (lens.take k).count j + if n = j then 1 else 0 := by
  intro j; rw [List.take_succ_eq_append_getElem hk, List.count_append, hnk, List.count_singleton]; simp
 rw [← hn]
 by_cases h0 : n = 0
 · subst h0; refine ⟨b, by unfold symStep; rw [if_pos rfl], h.nlen, fun j h1 h2 => ?_, h.clen, h.llen, h.big, h.small, h.rows⟩
   rw [htk, if_neg (by omega)]; exact h.next j h1 h2
 have hnm : n ≤ c.max := hc.le n hmem
 obtain ⟨cd, hcd⟩ : ∃ cd, cd = b.next.getD n 0 := ⟨_, rfl⟩
 have hcde := h.next n (by omega) hnm
 have hlt : cd + 1 ≤ Ck c.count n := by
  have h1 : (lens.take (k + 1)).count n ≤ lens.count n := by
   conv => rhs; rw [← List.take_append_drop (k + 1) lens, List.count_append]
   omega
  rw [htk, if_pos rfl] at h1; obtain ⟨q, rfl⟩ : ∃ q, n = q + 1 := ⟨n - 1, by omega⟩
  rw [Ck, hc.count _ (by omega) (by omega)]
  simp only [Nat.add_sub_cancel] at hcde; omega
 have hcdn : cd < 2 ^ n := by have := hf.le n hnm; omega
 have hnext : ∀ j, 1 ≤ j → j ≤ c.max → (b.next.set n (cd + 1)).getD j 0 = 2 * Ck c.count (j - 1) + (lens.take (k + 1)).count j := by
  intro j h1 h2; rw [getD_set, htk]
  by_cases e : n = j
  · subst e; rw [if_pos ⟨rfl, by rw [h.nlen]; omega⟩, if_pos rfl]; omega
  · rw [if_neg (fun q => e q.1), if_neg e]; exact h.next j h1 h2
 unfold symStep
 rw [if_neg h0, ← hcd]
 simp only
 by_cases h9 : n ≤ 9
 · rw [if_pos h9]; have hrl : revB n cd < 2 ^ n := revB_lt n cd; have hst : ∀ i, i < 512 → (stride b.chunks (revB n cd) (2 ^ n) (k * 16 + n)).getD i 0 = if i % 2 ^ n = revB n cd then k * 16 + n else b.chunks.getD i 0 := by
    intro i hi; rw [stride_getD _ _ _ _ _ (by rw [h.clen]; exact hi)]
    by_cases e : i % 2 ^ n = revB n cd
    · rw [if_pos e, if_pos ((stride_iff hrl).2 e)]
    · rw [if_neg e, if_neg (fun q => e ((stride_iff hrl).1 q))]
   refine ⟨_, rfl, by simp [h.nlen], hnext, by simp [stride_len, h.clen], h.llen, fun v hv => ?_, fun i hi hl => ?_, h.rows⟩
   · simp only; rw [hst _ (revB_lt 9 _), if_neg, h.big v hv]; intro e; have h1 := rev_short h9 hcdn e; rcases hd.few with ⟨q, _⟩ | ⟨q1, q2, _⟩
     · omega
     · rw [revB_revB, Nat.mod_eq_of_lt (by omega)] at h1
       have h2 := Ck_mono c.count n (9 - n); rw [show n + (9 - n) = 9 by omega, ← hd.lk] at h2
       have h3 : (cd + 1) * 2 ^ (9 - n) ≤ Ck c.count n * 2 ^ (9 - n) := Nat.mul_le_mul_right _ hlt; omega
   · simp only; rw [hst i hi]; split
     · exact .inr ⟨k, n, hk, by omega, h9, rfl⟩
     · exact h.small i hi hl
 · rw [if_neg h9]; have hnd : n = (n - 9) + 9 := by omega
   have hpre : cd / 2 ^ (n - 9) < 512 ∧ link ≤ cd / 2 ^ (n - 9) := by
    constructor
    · refine (Nat.div_lt_iff_lt_mul (Nat.two_pow_pos _)).2 ?_; have : 512 * 2 ^ (n - 9) = 2 ^ n := by rw [show 512 = 2 ^ 9 from rfl, ← Nat.pow_add]; congr 1; omega
      omega
    · refine (Nat.le_div_iff_mul_le (Nat.two_pow_pos _)).2 ?_; have h2 := Ck_mono c.count 9 (n - 1 - 9); rw [show 9 + (n - 1 - 9) = n - 1 by omega] at h2
      have e : 2 ^ (n - 9) = 2 * 2 ^ (n - 1 - 9) := by rw [Nat.mul_comm, ← Nat.pow_succ]; congr 1; omega
      rw [e, hd.lk, ← Nat.mul_assoc, Nat.mul_comm (Ck c.count 9) 2, Nat.mul_assoc]; omega
   have hrev : revB n cd % 512 = revB 9 (cd / 2 ^ (n - 9)) := by
    conv => lhs; rw [hnd, revB_add]
    rw [Nat.mul_comm, show (2 : Nat) ^ 9 = 512 from rfl, Nat.mul_add_mod]
    exact Nat.mod_eq_of_lt (revB_lt 9 _)
   have hLN : link + LN = 512 := by
    rcases hd.few with ⟨_, q⟩ | ⟨_, q2, _⟩
    · omega
    · exact q2
   have hbig := h.big (cd / 2 ^ (n - 9) - link) (by omega)
   rw [show link + (cd / 2 ^ (n - 9) - link) = cd / 2 ^ (n - 9) by omega] at hbig
   rw [hrev, hbig]; have hv : ((cd / 2 ^ (n - 9) - link) * 16 + 10) / 16 = cd / 2 ^ (n - 9) - link := by omega
   rw [hv, if_pos (by rw [h.llen]; omega)]
   refine ⟨_, rfl, by simp [h.nlen], hnext, h.clen, by simp [h.llen], h.big, h.small, fun l hl => ?_⟩
   simp only at hl; rcases List.mem_or_eq_of_mem_set hl with hl | rfl
   · exact h.rows l hl
   · have hvl : cd / 2 ^ (n - 9) - link < b.links.length := by rw [h.llen]; omega
     have hmemr : b.links.getD (cd / 2 ^ (n - 9) - link) [] ∈ b.links := by
      rw [List.getD_eq_getElem?_getD, List.getElem?_eq_getElem hvl]; exact List.getElem_mem hvl
     obtain ⟨r1, r2⟩ := h.rows _ hmemr; refine ⟨by rw [stride_len]; exact r1, fun j hj => ?_⟩
     rw [stride_getD _ _ _ _ _ (by rw [r1]; exact hj)]
     split
     · exact .inr ⟨k, n, hk, by omega, by omega, rfl⟩
     · exact r2 j hj
theorem binv_all {lens : List Nat} {c : Cnt} {nx : List Nat} {link LN m : Nat} (hc : CntFacts lens c) (hf : CodeFacts lens c nx) (h15 : c.max ≤ 15) (hd : Dims c link LN) (d : Nat) :
 ∀ {k : Nat} {b : Bld}, k + d = lens.length → BInv lens c link LN m k b → ∃ b', symAll b k (lens.drop k) = some b' ∧ BInv lens c link LN m lens.length b' := by
 induction d with
 | zero =>
  intro k b hk h; obtain rfl : k = lens.length := by omega
  exact ⟨b, by rw [List.drop_length]; rfl, h⟩
 | succ d ih =>
  intro k b hk h; have hlt : k < lens.length := by omega
  obtain ⟨b', h1, h2⟩ := binv_step hc hf h15 hd h hlt; obtain ⟨b2, h3, h4⟩ := ih (by omega) h2
  refine ⟨b2, ?_, h4⟩; rw [List.getD_eq_getElem?_getD, List.getElem?_eq_getElem hlt] at h1; rw [List.drop_eq_getElem_cons hlt, symAll]; rw [show symStep b k lens[k] = some b' from h1]
  exact h3
theorem linkTo_length (q : Nat) (l : List Nat) (k : Nat) : (linkTo q l k).length = l.length := by
 induction k with
 | zero => rfl
 | succ k ih => rw [linkTo, List.length_set, ih]
theorem linkTo_getD (link : Nat) (k : Nat) : ∀ i, i < 512 → link + k ≤ 512 → (linkTo link (List.replicate 512 0) k).getD i 0 = if link ≤ revB 9 i ∧ revB 9 i < link + k then (revB 9 i - link) * 16 + 10 else 0 := by
 induction k with
 | zero =>
  intro i hi _; rw [if_neg (by omega), linkTo, List.getD_eq_getElem?_getD, List.getElem?_replicate]; split <;> rfl
 | succ k ih =>
  intro i hi hk; have hi2 : revB 9 (revB 9 i) = i := by rw [revB_revB, Nat.mod_eq_of_lt hi]
  have hk2 : revB 9 (revB 9 (link + k)) = link + k := by rw [revB_revB, Nat.mod_eq_of_lt (by omega)]
  rw [linkTo, getD_set, linkTo_length, ih i hi (by omega)]
  by_cases e : revB 9 (link + k) = i
  · rw [if_pos ⟨e, by rw [e, List.length_replicate]; exact hi⟩]
    have : revB 9 i = link + k := by rw [← e]; exact hk2
    rw [this, if_pos (by omega)]; omega
  · rw [if_neg (fun q => e q.1)]
    have : revB 9 i ≠ link + k := fun q => e (by rw [← q]; exact hi2)
    by_cases h : link ≤ revB 9 i ∧ revB 9 i < link + k
    · rw [if_pos h, if_pos (by omega)]
    · rw [if_neg h, if_neg (by omega)]
def Tab.Sym (T : Tab) (S : Nat) : Prop := ∀ x, T.look x % 16 = 0 ∨ T.look x / 16 < S
theorem initTab_law {lens : List Nat} (h15 : ∀ n ∈ lens, n ≤ 15) (hlen : lens.length ≤ 320) : initTab lens ≠ none ∧ ∀ T, initTab lens = some (some T) → T.OK ∧ T.Sym lens.length := by
 have rep0 : ∀ n i : Nat, (List.replicate n 0).getD i 0 = 0 := fun n i => by
  rw [List.getD_eq_getElem?_getD, List.getElem?_replicate]; split <;> rfl
 have hempty : emptyTab.OK ∧ emptyTab.Sym lens.length := by
  refine ⟨⟨List.length_replicate, Nat.zero_le _, fun i => ?_, fun i h => ?_, fun l hl => absurd hl List.not_mem_nil, fun l hl => absurd hl List.not_mem_nil, (by decide : 0 < 2 ^ 32), Nat.zero_le _, fun h => absurd rfl h⟩, fun x => .inl ?_⟩
  · rw [show emptyTab.chunks.getD i 0 = 0 from rep0 512 i]; decide
  · rw [show emptyTab.chunks.getD i 0 = 0 from rep0 512 i] at h; omega
  · unfold Tab.look; rw [show emptyTab.chunks.getD (x % 512) 0 = 0 from rep0 512 _]; rfl
 obtain ⟨c, hcc⟩ : ∃ c, c = cntAll lens := ⟨_, rfl⟩
 by_cases h0 : c.max = 0
 · rw [initTab_empty hcc h0]; exact ⟨by simp, fun T hT => by obtain rfl := Option.some.inj (Option.some.inj hT); exact hempty⟩
 obtain ⟨x, nx, hn⟩ : ∃ x nx, nextAll c = (x, nx) := ⟨_, _, rfl⟩
 by_cases hok : x ≠ 2 ^ c.max ∧ ¬ (x = 1 ∧ c.max = 1)
 · rw [initTab_bad hcc h0 hn (by simp [hok])]
   exact ⟨by simp, fun T hT => by simp at hT⟩
 have hc := cnt_facts lens
 have hf := code_facts h15 (hcc ▸ h0) (hcc ▸ hn) (hcc ▸ hok)
 rw [← hcc] at hc hf
 have hmax : c.max ≤ 15 := h15 _ (by rcases hc.mem with e | e; exact absurd e h0; exact e)
 have hl10 : 9 < c.max → nx.getD 10 0 / 2 = Ck c.count 9 := fun h9 => by rw [hf.nx 10 (by omega) (by omega)]; exact Nat.mul_div_cancel_left _ (by omega)
 have hd : Dims c (Ck c.count 9) (if 9 < c.max then 512 - Ck c.count 9 else 0) := by
  refine ⟨rfl, ?_⟩
  by_cases h9 : 9 < c.max
  · rw [if_pos h9]; have := hf.few h9; exact .inr ⟨h9, by omega, by omega⟩
  · rw [if_neg h9]; exact .inl ⟨rfl, by omega⟩
 have hnext0 : ∀ n, 1 ≤ n → n ≤ c.max → nx.getD n 0 = 2 * Ck c.count (n - 1) + (lens.take 0).count n := by
  intro n h1 h2; rw [hf.nx n h1 h2]; simp
 have hstart : BInv lens c (Ck c.count 9) (if 9 < c.max then 512 - Ck c.count 9 else 0) (2 ^ (c.max - 9)) 0 (bld0 c.max nx) := by
  by_cases h9 : 9 < c.max
  · have hfew := hf.few h9; have hb : bld0 c.max nx = { next := nx, chunks := linkTo (Ck c.count 9) (List.replicate 512 0) (512 - Ck c.count 9), links := List.replicate (512 - Ck c.count 9) (List.replicate (2 ^ (c.max - 9)) 0) } := by
     unfold bld0; rw [if_pos h9, hl10 h9]
    rw [hb, if_pos h9]; refine ⟨hf.len, hnext0, by rw [linkTo_length, List.length_replicate], List.length_replicate, fun v hv => ?_, fun i hi hl => ?_, fun l hl => ?_⟩
    · simp only; rw [linkTo_getD _ _ _ (revB_lt 9 _) (by omega), revB_revB, Nat.mod_eq_of_lt (by omega), if_pos (by omega)]; omega
    · simp only; rw [linkTo_getD _ _ _ hi (by omega), if_neg (by omega)]; exact .inl rfl
    · simp only [List.mem_replicate] at hl; rw [hl.2]; exact ⟨by simp, fun j _ => .inl (rep0 _ _)⟩
  · have hb : bld0 c.max nx = { next := nx, chunks := List.replicate 512 0, links := [] } := by unfold bld0; rw [if_neg h9]
    rw [hb, if_neg h9]; exact ⟨hf.len, hnext0, List.length_replicate, rfl, fun v hv => absurd hv (by omega), fun i _ _ => .inl (rep0 _ _), fun l hl => absurd hl List.not_mem_nil⟩
 obtain ⟨b, hb1, hb2⟩ := binv_all hc hf hmax hd lens.length (k := 0) (by omega) hstart
 rw [List.drop_zero] at hb1
 have hres : initTab lens = some (some (mkTab c b)) := by
  unfold initTab; rw [← hcc]; simp only [hn]; rw [if_neg h0, if_neg hok, if_neg (fun q => by have := hf.few q.1; rw [hl10 q.1] at q; omega), hb1]
 rw [hres]
 refine ⟨by simp, fun T hT => ?_⟩
 obtain rfl := Option.some.inj (Option.some.inj hT)
 have hcm : ∀ i, 512 ≤ i → b.chunks.getD i 0 = 0 := fun i hi => by
  rw [List.getD_eq_getElem?_getD, List.getElem?_eq_none (by rw [hb2.clen]; exact hi)]; rfl
 have hall : ∀ i, SymE lens.length 1 9 (b.chunks.getD i 0) ∨ ∃ v, v < b.links.length ∧ v < 512 ∧ b.chunks.getD i 0 = v * 16 + 10 := by
  intro i
  by_cases hi : i < 512
  · by_cases hs : (if 9 < c.max then 512 - Ck c.count 9 else 0) = 0 ∨ revB 9 i < Ck c.count 9
    · exact .inl (hb2.small i hi hs)
    · refine .inr ⟨revB 9 i - Ck c.count 9, ?_, ?_, ?_⟩
      · rw [hb2.llen]; have := revB_lt 9 i; rcases hd.few with q | q <;> omega
      · have := revB_lt 9 i; omega
      · have := revB_lt 9 i; rw [← hb2.big (revB 9 i - Ck c.count 9) (by rcases hd.few with q | q <;> omega)]
        congr 1
        rw [show Ck c.count 9 + (revB 9 i - Ck c.count 9) = revB 9 i by omega, revB_revB, Nat.mod_eq_of_lt hi]
  · exact .inl (.inl (hcm i (by omega)))
 have hmask : (mkTab c b).mask + 1 = 2 ^ (c.max - 9) := by
  unfold mkTab; simp only; have := Nat.two_pow_pos (c.max - 9); split
  · omega
  · rw [show c.max - 9 = 0 by omega]
 have hp6 : 2 ^ (c.max - 9) ≤ 2 ^ 6 := Nat.pow_le_pow_right (by omega) (by omega)
 have hmin : c.min ≤ 15 := by
  have hmem : c.max ∈ lens := by rcases hc.mem with e | e; exact absurd e h0; exact e
  have := (hc.min _ hmem h0).2; omega
 have hrow : ∀ l ∈ b.links, ∀ j, SymE lens.length 10 15 (l.getD j 0) := by
  intro l hl j; obtain ⟨r1, r2⟩ := hb2.rows l hl
  by_cases hj : j < 2 ^ (c.max - 9)
  · exact r2 j hj
  · left; rw [List.getD_eq_getElem?_getD, List.getElem?_eq_none (by omega)]; rfl
 have hlk : ∀ v, b.links.getD v [] ∈ b.links ∨ b.links.getD v [] = [] := by
  intro v; rw [List.getD_eq_getElem?_getD]
  by_cases hi : v < b.links.length
  · rw [List.getElem?_eq_getElem hi]; exact .inl (List.getElem_mem hi)
  · rw [List.getElem?_eq_none (by omega)]; exact .inr rfl
 refine ⟨⟨hb2.clen, hmin, fun i => ?_, fun i hi => ?_, fun l hl => ?_, fun l hl j => ?_, ?_, ?_, fun hne => ?_⟩, fun x => ?_⟩
 · show b.chunks.getD i 0 < 2 ^ 32
   rcases hall i with (q | ⟨s, n, h1, h2, h3, q⟩) | ⟨v, h1, h2, q⟩ <;> rw [q] <;> omega
 · show b.chunks.getD i 0 / 16 < b.links.length
   have hi : 9 < b.chunks.getD i 0 % 16 := hi; rcases hall i with (q | ⟨s, n, h1, h2, h3, q⟩) | ⟨v, h1, h2, q⟩ <;> rw [q] at hi ⊢ <;> omega
 · rw [hmask]; exact (hb2.rows l hl).1
 · show l.getD j 0 < 2 ^ 32
   rcases hrow l hl j with q | ⟨s, n, h1, h2, h3, q⟩ <;> rw [q] <;> omega
 · omega
 · show b.links.length ≤ 512
   rw [hb2.llen]; split <;> omega
 · have h9 : 9 < c.max := by
    rcases Nat.lt_or_ge 9 c.max with h | h
    · exact h
    · have := hb2.llen; rw [if_neg (by omega)] at this
      exact absurd (List.eq_nil_of_length_eq_zero this) hne
   have hp : 2 ^ 1 ≤ 2 ^ (c.max - 9) := Nat.pow_le_pow_right (by omega) (by omega)
   omega
 · unfold Tab.look
   show (let c0 := b.chunks.getD (x % 512) 0; if 9 < c0 % 16 then (b.links.getD (c0 / 16) []).getD ((x / 512) &&& (mkTab c b).mask) 0 else c0) % 16 = 0 ∨ _
   have key : ∀ y, SymE lens.length 1 9 y ∨ SymE lens.length 10 15 y → y % 16 = 0 ∨ y / 16 < lens.length := by
    intro y hy; rcases hy with (q | ⟨s, n, h1, h2, h3, q⟩) | (q | ⟨s, n, h1, h2, h3, q⟩) <;> rw [q] <;> omega
   refine key _ ?_; simp only [mkTab]; split
   · rcases hlk (b.chunks.getD (x % 512) 0 / 16) with q | q
     · exact .inr (hrow _ q _)
     · right; rw [q]; exact .inl (by simp)
   · rename_i hsm; rcases hall (x % 512) with q | ⟨v, h1, h2, q⟩
     · exact .inl q
     · rw [q] at hsm; omega
def clOrder : List Nat := [16, 17, 18, 0, 8, 7, 9, 6, 10, 5, 11, 4, 12, 3, 13, 2, 14, 1, 15]
def clRead (src : List UInt8) : Nat → List Nat → Br → Rd (List Nat)
 | 0, acc, r => .ok acc r
 | k + 1, acc, r =>
  match getBits src 3 r with
  | .bad e r' => .bad e r'
  | .ok x r' => clRead src k (acc ++ [x]) r'
def clens (vs : List Nat) : List Nat := (List.range 19).map fun s => vs.getD (clOrder.idxOf s) 0
def repOf (x : Nat) (acc : List Nat) : Nat × Nat × Nat := if x = 16 then (3, 2, acc.getD (acc.length - 1) 0) else if x = 17 then (3, 3, 0) else (11, 7, 0)
def lenStep (src : List UInt8) (T : Tab) (n : Nat) (acc : List Nat) (r : Br) : Rd (List Nat) :=
 match symbol src T r with
 | .bad e r' => .bad e r'
 | .ok x r1 =>
  if x < 16 then .ok (acc ++ [x]) r1
  else if x = 16 ∧ acc.length = 0 then .bad .corrupt r1
  else match getBits src (repOf x acc).2.1 r1 with
   | .bad e r' => .bad e r'
   | .ok y r2 => if n < acc.length + ((repOf x acc).1 + y) then .bad .corrupt r2 else .ok (acc ++ List.replicate ((repOf x acc).1 + y) (repOf x acc).2.2) r2
def lenRead (src : List UInt8) (T : Tab) (n : Nat) : Nat → List Nat → Br → Rd (List Nat)
 | 0, acc, r => .ok acc r
 | f + 1, acc, r =>
  if n ≤ acc.length then .ok acc r
  else match lenStep src T n acc r with
   | .bad e r' => .bad e r'
   | .ok acc' r' => lenRead src T n f acc' r'
def twoTabs (ls : List Nat) (nlit : Nat) (r : Br) : Rd (Tab × Tab) :=
 match initTab (ls.take nlit) with
 | none | some none => .bad .corrupt r
 | some (some T1) =>
  match initTab (ls.drop nlit) with
  | none | some none => .bad .corrupt r
  | some (some T2) => .ok ({ T1 with min := if T1.min < ls.getD 256 0 then ls.getD 256 0 else T1.min }, T2) r
def readHuff (src : List UInt8) (r : Br) : Rd (Tab × Tab) :=
 match fill src.length 14 r with
 | (false, r') => .bad .cut r'
 | (true, r1) =>
  if 29 < bv src r1.at_ 5 then .bad .corrupt r1
  else if 29 < bv src (r1.at_ + 5) 5 then .bad .corrupt r1
  else
   match clRead src (bv src (r1.at_ + 10) 4 + 4) [] { r1 with at_ := r1.at_ + 14 } with
   | .bad e r' => .bad e r'
   | .ok vs r2 =>
    match initTab (clens vs) with
    | none | some none => .bad .corrupt r2
    | some (some TC) =>
     match lenRead src TC (bv src r1.at_ 5 + 257 + (bv src (r1.at_ + 5) 5 + 1)) 400 [] r2 with
     | .bad e r' => .bad e r'
     | .ok ls r3 => twoTabs ls (bv src r1.at_ 5 + 257) r3
inductive Cfg where
 | next (r : Br)
 | huff (last : Bool) (r : Br) (T : Tab) (D : Option Tab)
 | done (e : Err) (pos : Nat)
def more (last : Bool) (r : Br) : Cfg := if last then .done .eof r.pos else .next r
def lenOf (v : Nat) : Option (Nat × Nat) :=
 if v < 265 then some (v - 254, 0)
 else if v < 269 then some (v * 2 - 519, 1)
 else if v < 273 then some (v * 4 - 1057, 2)
 else if v < 277 then some (v * 8 - 2149, 3)
 else if v < 281 then some (v * 16 - 4365, 4)
 else if v < 285 then some (v * 32 - 8861, 5)
 else if v < 286 then some (258, 0)
 else none
def distOf (d : Nat) : Option (Nat × Nat) :=
 if d < 4 then some (d + 1, 0)
 else if d < 30 then some (2 ^ ((d - 2) / 2 + 1) + 1 + d % 2 * 2 ^ ((d - 2) / 2), (d - 2) / 2)
 else none
def distSym (src : List UInt8) (D : Option Tab) (r : Br) : Rd Nat :=
 match D with
 | some T => symbol src T r
 | none =>
  match getBits src 5 r with
  | .bad e r' => .bad e r'
  | .ok x r' => .ok (revB 5 x) r'
def pair (src : List UInt8) (D : Option Tab) (v : Nat) (r1 : Br) : Rd (Nat × Nat) :=
 match lenOf v with
 | none => .bad .corrupt r1
 | some (lb, lx) =>
  match getBits src lx r1 with
  | .bad e r' => .bad e r'
  | .ok x r2 =>
   match distSym src D r2 with
   | .bad e r' => .bad e r'
   | .ok ds r3 =>
    match distOf ds with
    | none => .bad .corrupt r3
    | some (db, dx) =>
     match getBits src dx r3 with
     | .bad e r' => .bad e r'
     | .ok y r4 => .ok (lb + x, db + y) r4
def huffStep (src : List UInt8) (last : Bool) (r : Br) (T : Tab) (D : Option Tab) (H : List UInt8) : Cfg × List UInt8 :=
 match symbol src T r with
 | .bad e r' => (.done e r'.pos, H)
 | .ok v r1 =>
  if v < 256 then (.huff last r1 T D, H ++ [UInt8.ofNat v])
  else if v = 256 then (more last r1, H)
  else match pair src D v r1 with
   | .bad e r' => (.done e r'.pos, H)
   | .ok (n, d) r' => if H.length < d then (.done .corrupt r'.pos, H) else (.huff last r' T D, lz H d n)
def stRest (src : List UInt8) (last : Bool) (pos n : Nat) (H : List UInt8) : Cfg × List UInt8 :=
 if pos + n ≤ src.length then (more last ⟨8 * (pos + n), pos + n⟩, H ++ (src.drop pos).take n) else (.done .cut src.length, H ++ src.drop pos)
def storedStep (src : List UInt8) (last : Bool) (pos : Nat) (H : List UInt8) : Cfg × List UInt8 :=
 if src.length < pos + 4 then (.done .cut src.length, H)
 else if bv src (8 * pos) 16 + bv src (8 * pos + 16) 16 ≠ 65535 then (.done .corrupt (pos + 4), H)
 else stRest src last (pos + 4) (bv src (8 * pos) 16) H
def fixedTab : Tab := match initTab fixedLens with | some (some T) => T | _ => emptyTab
def nextStep (src : List UInt8) (r : Br) (H : List UInt8) : Cfg × List UInt8 :=
 match fill src.length 3 r with
 | (false, r') => (.done .cut r'.pos, H)
 | (true, r1) =>
  let last := bv src r1.at_ 1 == 1
  let t := bv src (r1.at_ + 1) 2
  let r2 : Br := { r1 with at_ := r1.at_ + 3 }
  if t = 0 then storedStep src last r2.pos H
  else if t = 1 then (.huff last r2 fixedTab none, H)
  else if t = 2 then
   match readHuff src r2 with
   | .bad e r' => (.done e r'.pos, H)
   | .ok (T, D) r3 => (.huff last r3 T (some D), H)
  else (.done .corrupt r2.pos, H)
def sstep (src : List UInt8) : Cfg × List UInt8 → Cfg × List UInt8
 | (.next r, H) => nextStep src r H
 | (.huff last r T D, H) => huffStep src last r T D H
 | (.done e p, H) => (.done e p, H)
inductive Reach (src : List UInt8) : Cfg × List UInt8 → Cfg × List UInt8 → Prop
 | refl (c) : Reach src c c
 | step {c d} : Reach src (sstep src c) d → Reach src c d
theorem Reach.trans {src : List UInt8} {a b c : Cfg × List UInt8} (h : Reach src a b) (k : Reach src b c) : Reach src a c := by
 induction h with
 | refl => exact k
 | step _ ih => exact .step (ih k)
theorem Reach.one (src : List UInt8) (c : Cfg × List UInt8) : Reach src c (sstep src c) := .step (.refl _)
theorem Reach.done {src : List UInt8} {e : Err} {p : Nat} {H : List UInt8} {x : Cfg × List UInt8} (h : Reach src (.done e p, H) x) : x = (.done e p, H) := by
 generalize hc : (Cfg.done e p, H) = c at h
 induction h with
 | refl => rfl
 | step _ ih => exact (ih (by subst hc; rfl)).trans (by subst hc; rfl)
theorem Reach.back {src : List UInt8} {c x : Cfg × List UInt8} {e : Err} {p : Nat} {H : List UInt8} (h : Reach src c (.done e p, H)) (k : Reach src c x) : Reach src x (.done e p, H) := by
 induction k with
 | refl => exact h
 | step _ ih =>
  cases h with
  | refl => exact ih (.refl _)
  | step h => exact ih h
theorem Reach.end_unique {src : List UInt8} {c : Cfg × List UInt8} {e e' : Err} {p p' : Nat} {H H' : List UInt8} (h : Reach src c (.done e p, H)) (k : Reach src c (.done e' p', H')) : e = e' ∧ p = p' ∧ H = H' := by
 have := (h.back k).done
 simp only [Prod.mk.injEq, Cfg.done.injEq] at this
 exact ⟨this.1.1, this.1.2, this.2⟩
theorem fill_ok {src : List UInt8} {n : Nat} {r r' : Br} {t : Bool} (hr : r.ok src) (h : fill src.length n r = (t, r')) : r'.ok src ∧ r'.at_ = r.at_ ∧ (r'.nb ≤ r.nb ∨ r'.nb ≤ n + 7) ∧ (t = true → n ≤ r'.nb) ∧ (t = false → r'.pos = src.length) := by
 obtain ⟨h1, h2⟩ := hr
 unfold fill at h
 split at h
 · rename_i hn; obtain ⟨rfl, rfl⟩ := Prod.mk.injEq .. ▸ h; exact ⟨⟨h1, h2⟩, rfl, .inl (Nat.le_refl _), fun _ => hn, fun e => Bool.noConfusion e⟩
 · rename_i hn; split at h
   · rename_i hl; obtain ⟨rfl, rfl⟩ := Prod.mk.injEq .. ▸ h; refine ⟨⟨by simp only; omega, hl⟩, rfl, .inr ?_, fun _ => ?_, fun e => Bool.noConfusion e⟩
     · unfold Br.nb; simp only; omega
     · unfold Br.nb; simp only; omega
   · rename_i hl; obtain ⟨rfl, rfl⟩ := Prod.mk.injEq .. ▸ h; refine ⟨⟨by simp only; omega, Nat.le_refl _⟩, rfl, .inr ?_, fun e => Bool.noConfusion e, fun _ => rfl⟩
     unfold Br.nb; simp only; omega
def Rd.Good {α : Type} (src : List UInt8) (k : Nat) (r : Br) (P : α → Prop) : Rd α → Prop
 | .ok v r' => P v ∧ r'.ok src ∧ r.at_ + k ≤ r'.at_ ∧ r'.nb ≤ 22
 | .bad _ r' => r'.ok src
theorem skip_ok {src : List UInt8} {r : Br} {n : Nat} (hr : r.ok src) (hn : n ≤ r.nb) : ({ r with at_ := r.at_ + n } : Br).ok src ∧ ({ r with at_ := r.at_ + n } : Br).nb = r.nb - n := by
 obtain ⟨h1, h2⟩ := hr
 unfold Br.nb at hn
 refine ⟨⟨by simp only; omega, h2⟩, ?_⟩
 unfold Br.nb; simp only; omega
theorem getBits_good {src : List UInt8} {n : Nat} {r : Br} (hr : r.ok src) (hnb : r.nb ≤ 22) : (getBits src n r).Good src n r (fun v => v < 2 ^ n) := by
 unfold getBits
 cases hf : fill src.length n r with
 | mk t r' =>
  obtain ⟨a1, a2, a3, a4, a5⟩ := fill_ok hr hf
  cases t with
  | false => exact a1
  | true =>
   have hn := a4 rfl; obtain ⟨b1, b2⟩ := skip_ok a1 hn; refine ⟨bv_lt _ _ _, b1, by simp only; omega, ?_⟩
   rw [b2]; omega
theorem Tab.look_lt {T : Tab} (h : T.OK) (x : Nat) : T.look x < 2 ^ 32 := by
 have gd : ∀ (l : List (List Nat)) (i : Nat), l.getD i [] ∈ l ∨ l.getD i [] = [] := by
  intro l i; rw [List.getD_eq_getElem?_getD]
  by_cases hi : i < l.length
  · rw [List.getElem?_eq_getElem hi]; exact .inl (List.getElem_mem hi)
  · rw [List.getElem?_eq_none (by omega)]; exact .inr rfl
 unfold Tab.look
 simp only
 split
 · rcases gd T.links (T.chunks.getD (x % 512) 0 / 16) with q | q
   · exact h.entry _ q _
   · rw [q]; simp
 · exact h.chunk _
theorem sym_good {src : List UInt8} {T : Tab} (hT : T.OK) (f : Nat) : ∀ {n : Nat} {r : Br}, n ≤ 15 → r.ok src → r.nb ≤ 22 → (sym src T f n r).Good src 1 r (fun v => v < 2 ^ 28) := by
 induction f with
 | zero => intro n r _ hr _; exact hr
 | succ f ih =>
  intro n r hn hr hnb; rw [sym]
  cases hf : fill src.length n r with
  | mk t r' =>
   obtain ⟨a1, a2, a3, a4, a5⟩ := fill_ok hr hf
   cases t with
   | false => exact a1
   | true =>
    have h16 : T.look (r'.b src) % 16 < 16 := Nat.mod_lt _ (by omega)
    have hlt := Tab.look_lt hT (r'.b src); simp only; split
    · rename_i h1; split
      · exact a1
      · rename_i h0; obtain ⟨b1, b2⟩ := skip_ok a1 h1; refine ⟨by omega, b1, by simp only; omega, ?_⟩
        rw [b2]; omega
    · have := ih (n := T.look (r'.b src) % 16) (r := r') (by omega) a1 (by omega)
      cases hs : sym src T f (T.look (r'.b src) % 16) r' with
      | bad e q => rw [hs] at this; exact this
      | ok v q => rw [hs] at this; obtain ⟨b1, b2, b3, b4⟩ := this; exact ⟨b1, b2, by omega, b4⟩
theorem symbol_good {src : List UInt8} {T : Tab} (hT : T.OK) {r : Br} (hr : r.ok src) (hnb : r.nb ≤ 22) : (symbol src T r).Good src 1 r (fun v => v < 2 ^ 28) := sym_good hT 20 hT.min hr hnb
theorem distSym_good {src : List UInt8} {D : Option Tab} (hD : ∀ T, D = some T → T.OK) {r : Br} (hr : r.ok src) (hnb : r.nb ≤ 22) : (distSym src D r).Good src 1 r (fun v => v < 2 ^ 28) := by
 unfold distSym
 cases D with
 | some T => exact symbol_good (hD T rfl) hr hnb
 | none =>
  have := getBits_good (n := 5) hr hnb
  cases hs : getBits src 5 r with
  | bad e q => rw [hs] at this; exact this
  | ok v q =>
   rw [hs] at this; obtain ⟨b1, b2, b3, b4⟩ := this; exact ⟨Nat.lt_of_lt_of_le (revB_lt 5 v) (by decide), b2, by omega, b4⟩
theorem lenOf_le {v lb lx : Nat} (h : lenOf v = some (lb, lx)) (h257 : 256 < v) : 3 ≤ lb ∧ lb + 2 ^ lx ≤ 259 ∧ lx ≤ 5 := by
 unfold lenOf at h
 repeat' split at h
 all_goals simp only [Option.some.injEq, Prod.mk.injEq, reduceCtorEq] at h
 all_goals
  obtain ⟨e1, e2⟩ := h; rw [← e1, ← e2]; simp only [Nat.reducePow]; omega
theorem distOf_le {d db dx : Nat} (h : distOf d = some (db, dx)) : 1 ≤ db ∧ db + 2 ^ dx ≤ 32769 ∧ dx ≤ 13 := by
 unfold distOf at h
 split at h
 · obtain ⟨rfl, rfl⟩ := Prod.mk.injEq .. ▸ Option.some.inj h; simp only [Nat.reducePow]; omega
 · split at h
   · rename_i h4 h30; have hd : d = 4 ∨ d = 5 ∨ d = 6 ∨ d = 7 ∨ d = 8 ∨ d = 9 ∨ d = 10 ∨ d = 11 ∨ d = 12 ∨ d = 13 ∨ d = 14 ∨ d = 15 ∨ d = 16 ∨ d = 17 ∨ d = 18 ∨ d = 19 ∨ d = 20 ∨ d = 21 ∨ d = 22 ∨ d = 23 ∨ d = 24 ∨ d = 25 ∨ d = 26 ∨ d = 27 ∨ d = 28 ∨ d = 29 := by omega
     obtain ⟨h1, h2⟩ := Prod.mk.injEq .. ▸ Option.some.inj h; subst h1; subst h2; rcases hd with rfl | rfl | rfl | rfl | rfl | rfl | rfl | rfl | rfl | rfl | rfl | rfl | rfl | rfl | rfl | rfl | rfl | rfl | rfl | rfl | rfl | rfl | rfl | rfl | rfl | rfl <;> decide
   · exact absurd h (by simp)
theorem pair_good {src : List UInt8} {D : Option Tab} (hD : ∀ T, D = some T → T.OK) {v : Nat} {r : Br} (hv : 256 < v) (hr : r.ok src) (hnb : r.nb ≤ 22) :
 (pair src D v r).Good src 0 r (fun p => 3 ≤ p.1 ∧ p.1 ≤ 258 ∧ 1 ≤ p.2 ∧ p.2 ≤ 32768) := by
 unfold pair
 cases hl : lenOf v with
 | none => exact hr
 | some lp =>
  obtain ⟨lb, lx⟩ := lp; have hL := lenOf_le hl hv; have g1 := getBits_good (n := lx) hr hnb; simp only
  cases h1 : getBits src lx r with
  | bad e q => rw [h1] at g1; exact g1
  | ok x r2 =>
   rw [h1] at g1; obtain ⟨b1, b2, b3, b4⟩ := g1; have g2 := distSym_good hD b2 b4; simp only
   cases h2 : distSym src D r2 with
   | bad e q => rw [h2] at g2; exact g2
   | ok ds r3 =>
    rw [h2] at g2; obtain ⟨c1, c2, c3, c4⟩ := g2; simp only
    cases h3 : distOf ds with
    | none => exact c2
    | some dp =>
     obtain ⟨db, dx⟩ := dp; have hDd := distOf_le h3; have g3 := getBits_good (n := dx) c2 c4; simp only
     cases h4 : getBits src dx r3 with
     | bad e q => rw [h4] at g3; exact g3
     | ok y r4 =>
      rw [h4] at g3; obtain ⟨d1, d2, d3, d4⟩ := g3; exact ⟨⟨by simp only; omega, by simp only; omega, by simp only; omega, by simp only; omega⟩, d2, by omega, d4⟩
theorem clRead_good {src : List UInt8} (k : Nat) : ∀ {acc : List Nat} {r : Br}, r.ok src → r.nb ≤ 22 → (∀ v ∈ acc, v ≤ 7) → (clRead src k acc r).Good src 0 r (fun vs => vs.length = acc.length + k ∧ ∀ v ∈ vs, v ≤ 7) := by
 induction k with
 | zero => intro acc r hr hnb ha; exact ⟨⟨rfl, ha⟩, hr, by omega, hnb⟩
 | succ k ih =>
  intro acc r hr hnb ha; have g1 := getBits_good (n := 3) hr hnb; rw [clRead]
  cases h1 : getBits src 3 r with
  | bad e q => rw [h1] at g1; exact g1
  | ok x r2 =>
   rw [h1] at g1; obtain ⟨b1, b2, b3, b4⟩ := g1; have g2 := ih (acc := acc ++ [x]) b2 b4 (fun v hv => by
    rcases List.mem_append.1 hv with hv | hv
    · exact ha v hv
    · rw [List.mem_singleton.1 hv]; omega)
   simp only
   cases h2 : clRead src k (acc ++ [x]) r2 with
   | bad e q => rw [h2] at g2; exact g2
   | ok vs r3 =>
    rw [h2] at g2; obtain ⟨c1, c2, c3, c4⟩ := g2; refine ⟨⟨by rw [c1.1]; simp; omega, c1.2⟩, c2, by omega, c4⟩
theorem clens_le {vs : List Nat} (h : ∀ v ∈ vs, v ≤ 7) : ∀ n ∈ clens vs, n ≤ 7 := by
 intro n hn
 unfold clens at hn
 obtain ⟨s, _, rfl⟩ := List.mem_map.1 hn
 rw [List.getD_eq_getElem?_getD]
 by_cases hi : clOrder.idxOf s < vs.length
 · rw [List.getElem?_eq_getElem hi]; exact h _ (List.getElem_mem hi)
 · rw [List.getElem?_eq_none (by omega)]; exact Nat.zero_le _
theorem clens_length (vs : List Nat) : (clens vs).length = 19 := by unfold clens; simp
theorem sym_val {src : List UInt8} {T : Tab} {S : Nat} (hS : T.Sym S) (f : Nat) : ∀ {n : Nat} {r : Br} {v : Nat} {r' : Br}, sym src T f n r = .ok v r' → v < S := by
 induction f with
 | zero => intro n r v r' h; exact absurd h (by simp [sym])
 | succ f ih =>
  intro n r v r' h; rw [sym] at h
  cases hf : fill src.length n r with
  | mk t q =>
   rw [hf] at h
   cases t with
   | false => exact absurd h (by simp)
   | true =>
    simp only at h; split at h
    · split at h
      · exact absurd h (by simp)
      · rename_i h0; simp only [Rd.ok.injEq] at h; rw [← h.1]; rcases hS (q.b src) with e | e
        · exact absurd e h0
        · exact e
    · exact ih h
theorem getD_le {l : List Nat} {m i : Nat} (h : ∀ v ∈ l, v ≤ m) : l.getD i 0 ≤ m := by
 rw [List.getD_eq_getElem?_getD]
 by_cases hi : i < l.length
 · rw [List.getElem?_eq_getElem hi]; exact h _ (List.getElem_mem hi)
 · rw [List.getElem?_eq_none (by omega)]; exact Nat.zero_le _
theorem repOf_le {x : Nat} {acc : List Nat} (ha : ∀ v ∈ acc, v ≤ 15) : 3 ≤ (repOf x acc).1 ∧ (repOf x acc).1 ≤ 11 ∧ 2 ≤ (repOf x acc).2.1 ∧ (repOf x acc).2.1 ≤ 7 ∧ (repOf x acc).2.2 ≤ 15 := by
 unfold repOf
 split
 · exact ⟨by simp, by simp, by simp, by simp, getD_le ha⟩
 · split <;> exact ⟨by simp, by simp, by simp, by simp, by simp⟩
theorem lenStep_good {src : List UInt8} {T : Tab} (hT : T.OK) {n : Nat} {acc : List Nat} {r : Br} (hr : r.ok src) (hnb : r.nb ≤ 22) (ha : ∀ v ∈ acc, v ≤ 15) (hn : acc.length < n) :
 (lenStep src T n acc r).Good src 1 r (fun acc' => acc.length < acc'.length ∧ acc'.length ≤ n ∧ ∀ v ∈ acc', v ≤ 15) := by
 have g1 := symbol_good hT hr hnb
 unfold lenStep
 cases h1 : symbol src T r with
 | bad e q => rw [h1] at g1; exact g1
 | ok x r1 =>
  rw [h1] at g1; obtain ⟨b1, b2, b3, b4⟩ := g1; simp only; split
  · refine ⟨⟨by simp, by simp; omega, fun v hv => ?_⟩, b2, b3, b4⟩
    rcases List.mem_append.1 hv with hv | hv
    · exact ha v hv
    · rw [List.mem_singleton.1 hv]; omega
  · split
    · exact b2
    · have hrep := repOf_le (x := x) ha; have g2 := getBits_good (n := (repOf x acc).2.1) b2 b4
      cases h2 : getBits src (repOf x acc).2.1 r1 with
      | bad e q => rw [h2] at g2; exact g2
      | ok y r2 =>
       rw [h2] at g2; obtain ⟨c1, c2, c3, c4⟩ := g2; simp only; split
       · exact c2
       · refine ⟨⟨by simp; omega, by simp; omega, fun v hv => ?_⟩, c2, by omega, c4⟩
         rcases List.mem_append.1 hv with hv | hv
         · exact ha v hv
         · rw [(List.mem_replicate.1 hv).2]; exact hrep.2.2.2.2
theorem lenRead_good {src : List UInt8} {T : Tab} (hT : T.OK) {n : Nat} (f : Nat) : ∀ {acc : List Nat} {r : Br}, r.ok src → r.nb ≤ 22 → (∀ v ∈ acc, v ≤ 15) → acc.length ≤ n → n ≤ acc.length + f →
 (lenRead src T n f acc r).Good src 0 r (fun ls => ls.length = n ∧ ∀ v ∈ ls, v ≤ 15) := by
 induction f with
 | zero => intro acc r hr hnb ha h1 h2; exact ⟨⟨by omega, ha⟩, hr, by omega, hnb⟩
 | succ f ih =>
  intro acc r hr hnb ha h1 h2; rw [lenRead]
  by_cases h : n ≤ acc.length
  · rw [if_pos h]; exact ⟨⟨by omega, ha⟩, hr, by omega, hnb⟩
  · rw [if_neg h]; have g1 := lenStep_good hT hr hnb ha (by omega : acc.length < n)
    cases h3 : lenStep src T n acc r with
    | bad e q => rw [h3] at g1; exact g1
    | ok acc' r' =>
     rw [h3] at g1; obtain ⟨b1, b2, b3, b4⟩ := g1; have g2 := ih b2 b4 b1.2.2 b1.2.1 (by omega)
     simp only
     cases h4 : lenRead src T n f acc' r' with
     | bad e q => rw [h4] at g2; exact g2
     | ok ls r2 => rw [h4] at g2; exact ⟨g2.1, g2.2.1, by have := g2.2.2.1; omega, g2.2.2.2⟩
theorem twoTabs_good {src : List UInt8} {ls : List Nat} {nlit : Nat} {r : Br} (hr : r.ok src) (hnb : r.nb ≤ 22) (hl : ls.length ≤ 320) (h15 : ∀ v ∈ ls, v ≤ 15) :
 (twoTabs ls nlit r).Good src 0 r (fun p => p.1.OK ∧ p.2.OK) := by
 have l1 := initTab_law (lens := ls.take nlit) (fun v hv => h15 v (List.mem_of_mem_take hv)) (by rw [List.length_take]; omega)
 have l2 := initTab_law (lens := ls.drop nlit) (fun v hv => h15 v (List.mem_of_mem_drop hv)) (by rw [List.length_drop]; omega)
 unfold twoTabs
 cases h1 : initTab (ls.take nlit) with
 | none => exact hr
 | some o1 =>
  cases o1 with
  | none => exact hr
  | some T1 =>
   simp only
   cases h2 : initTab (ls.drop nlit) with
   | none => exact hr
   | some o2 =>
    cases o2 with
    | none => exact hr
    | some T2 =>
     have k1 := (l1.2 T1 h1).1; have k2 := (l2.2 T2 h2).1; refine ⟨⟨⟨k1.size, ?_, k1.chunk, k1.link, k1.row, k1.entry, k1.mask, k1.few, k1.two⟩, k2⟩, hr, by omega, hnb⟩
     have := k1.min; have := getD_le (i := 256) h15; simp only; split <;> omega
theorem readHuff_good {src : List UInt8} {r : Br} (hr : r.ok src) (hnb : r.nb ≤ 22) : (readHuff src r).Good src 0 r (fun p => p.1.OK ∧ p.2.OK) := by
 unfold readHuff
 cases hf : fill src.length 14 r with
 | mk t r1 =>
  obtain ⟨a1, a2, a3, a4, a5⟩ := fill_ok hr hf
  cases t with
  | false => exact a1
  | true =>
   have h14 := a4 rfl; obtain ⟨b1, b2⟩ := skip_ok a1 h14; simp only; split
   · exact a1
   · split
     · exact a1
     · rename_i n1 n2; have g1 := clRead_good (bv src (r1.at_ + 10) 4 + 4) (acc := []) b1 (by rw [b2]; omega) (fun v hv => absurd hv List.not_mem_nil)
       cases h1 : clRead src (bv src (r1.at_ + 10) 4 + 4) [] { r1 with at_ := r1.at_ + 14 } with
       | bad e q => rw [h1] at g1; exact g1
       | ok vs r2 =>
        rw [h1] at g1; obtain ⟨c1, c2, c3, c4⟩ := g1; have hcl := initTab_law (lens := clens vs) (fun n hn => by have := clens_le c1.2 n hn; omega) (by rw [clens_length]; omega)
        simp only
        cases h2 : initTab (clens vs) with
        | none => exact c2
        | some o =>
         cases o with
         | none => exact c2
         | some TC =>
          have g2 := lenRead_good (hcl.2 TC h2).1 (n := bv src r1.at_ 5 + 257 + (bv src (r1.at_ + 5) 5 + 1)) 400 (acc := []) c2 c4 (fun v hv => absurd hv List.not_mem_nil) (Nat.zero_le _) (by simp only [List.length_nil]; omega)
          simp only
          cases h3 : lenRead src TC (bv src r1.at_ 5 + 257 + (bv src (r1.at_ + 5) 5 + 1)) 400 [] r2 with
          | bad e q => rw [h3] at g2; exact g2
          | ok ls r3 =>
           rw [h3] at g2; obtain ⟨d1, d2, d3, d4⟩ := g2; have g3 := twoTabs_good (nlit := bv src r1.at_ 5 + 257) d2 d4 (by omega) d1.2
           simp only
           cases h4 : twoTabs ls (bv src r1.at_ 5 + 257) r3 with
           | bad e q => rw [h4] at g3; exact g3
           | ok p r4 => rw [h4] at g3; exact ⟨g3.1, g3.2.1, by have := g3.2.2.1; simp only at c3; omega, g3.2.2.2⟩
theorem fixedLens_le : ∀ n ∈ fixedLens, n ≤ 15 := by
 intro n hn; unfold fixedLens at hn; simp only [List.mem_append, List.mem_replicate] at hn; omega
theorem fixedLens_length : fixedLens.length = 288 := by unfold fixedLens; simp only [List.length_append, List.length_replicate]
def CfgOK (src : List UInt8) : Cfg → Prop
 | .next r => r.ok src ∧ r.nb ≤ 22
 | .huff _ r T D => r.ok src ∧ r.nb ≤ 22 ∧ T.OK ∧ ∀ T', D = some T' → T'.OK
 | .done _ p => p ≤ src.length
def Cfg.mu (src : List UInt8) : Cfg → Nat
 | .next r => 8 * src.length - r.at_ + 1
 | .huff _ r _ _ => 8 * src.length - r.at_ + 1
 | .done _ _ => 0
def Cfg.isDone : Cfg → Bool
 | .done _ _ => true
 | _ => false
def StepOK (src : List UInt8) (c : Cfg) (H : List UInt8) (x : Cfg × List UInt8) : Prop :=
 CfgOK src x.1 ∧ x.1.mu src < c.mu src ∧ ∃ X, x.2 = H ++ X ∧ X.length + 258 * x.1.mu src ≤ 258 * c.mu src
theorem more_ok {src : List UInt8} {last : Bool} {r : Br} (hr : r.ok src) (hnb : r.nb ≤ 22) : CfgOK src (more last r) ∧ (more last r).mu src ≤ 8 * src.length - r.at_ + 1 := by
 unfold more
 cases last
 · exact ⟨⟨hr, hnb⟩, Nat.le_refl _⟩
 · exact ⟨hr.2, Nat.zero_le _⟩
theorem stRest_ok {src : List UInt8} {last : Bool} {pos n : Nat} {H : List UInt8} (hp : pos ≤ src.length) :
 CfgOK src (stRest src last pos n H).1 ∧ (stRest src last pos n H).1.mu src ≤ 8 * (src.length - pos) + 1 ∧ ∃ X, (stRest src last pos n H).2 = H ++ X ∧ X.length + 258 * (stRest src last pos n H).1.mu src ≤ 258 * (8 * (src.length - pos) + 1) := by
 unfold stRest
 split
 · rename_i h; have ho : (⟨8 * (pos + n), pos + n⟩ : Br).ok src := ⟨Nat.le_refl _, h⟩; have hb : (⟨8 * (pos + n), pos + n⟩ : Br).nb = 0 := by unfold Br.nb; simp only; omega
   obtain ⟨h1, h2⟩ := more_ok (last := last) ho (by rw [hb]; omega)
   simp only at h2; refine ⟨h1, by simp only; omega, _, rfl, ?_⟩
   simp only [List.length_take, List.length_drop]; omega
 · refine ⟨Nat.le_refl _, Nat.zero_le _, _, rfl, ?_⟩; simp only [List.length_drop, Cfg.mu]; omega
theorem done_ok {src : List UInt8} {c : Cfg} {H : List UInt8} {e : Err} {p : Nat} (hp : p ≤ src.length) (hc : 0 < c.mu src) : StepOK src c H (.done e p, H) :=
 ⟨hp, hc, [], by simp, by simp only [Cfg.mu, List.length_nil]; omega⟩
theorem nextStep_ok {src : List UInt8} {r : Br} {H : List UInt8} (hr : r.ok src) (hnb : r.nb ≤ 22) : StepOK src (.next r) H (nextStep src r H) := by
 have hmu : 0 < (Cfg.next r).mu src := by simp [Cfg.mu]
 unfold nextStep
 cases hf : fill src.length 3 r with
 | mk t r1 =>
  obtain ⟨a1, a2, a3, a4, a5⟩ := fill_ok hr hf
  cases t with
  | false => exact done_ok a1.2 hmu
  | true =>
   obtain ⟨b1, b2⟩ := skip_ok a1 (a4 rfl); have b3 := b1.1; have b4 := b1.2; simp only at b3 b4; simp only; split
   · unfold storedStep; split
     · exact done_ok (Nat.le_refl _) hmu
     · split
       · exact done_ok (by omega) hmu
       · obtain ⟨h1, h2, X, h3, h4⟩ := stRest_ok (last := bv src r1.at_ 1 == 1) (n := bv src (8 * r1.pos) 16) (H := H) (show r1.pos + 4 ≤ src.length by omega)
         refine ⟨h1, ?_, X, h3, ?_⟩
         · simp only [Cfg.mu] at h2 ⊢; omega
         · have : 8 * (src.length - (r1.pos + 4)) + 1 ≤ (Cfg.next r).mu src := by simp only [Cfg.mu]; omega
           exact Nat.le_trans h4 (Nat.mul_le_mul_left _ this)
   · have hstep : 8 * src.length - (r1.at_ + 3) + 1 < (Cfg.next r).mu src := by simp only [Cfg.mu]; omega
     split
     · refine ⟨⟨b1, by rw [b2]; omega, ?_, fun T' h => absurd h (by simp)⟩, hstep, [], by simp, ?_⟩
       · unfold fixedTab; have := initTab_law fixedLens_le (by rw [fixedLens_length]; omega)
         split
         · rename_i T hT; exact (this.2 T hT).1
         · exact ((initTab_law (lens := []) (by simp) (by simp)).2 emptyTab (by rfl)).1
       · simp only [List.length_nil]; simp only [Cfg.mu] at hstep ⊢; omega
     · split
       · have g := readHuff_good b1 (by rw [b2]; omega)
         cases h1 : readHuff src { r1 with at_ := r1.at_ + 3 } with
         | bad e q => rw [h1] at g; exact done_ok g.2 hmu
         | ok p r3 =>
          rw [h1] at g; obtain ⟨c1, c2, c3, c4⟩ := g; obtain ⟨T, D⟩ := p; simp only at c3; have c5 := c2.1; have c6 := c2.2; refine ⟨⟨c2, c4, c1.1, fun T' h => by obtain rfl := Option.some.inj h; exact c1.2⟩, ?_, [], by simp, ?_⟩
          · simp only [Cfg.mu]; omega
          · simp only [Cfg.mu, List.length_nil]; omega
       · exact done_ok b1.2 hmu
theorem huffStep_ok {src : List UInt8} {last : Bool} {r : Br} {T : Tab} {D : Option Tab} {H : List UInt8} (h : CfgOK src (.huff last r T D)) : StepOK src (.huff last r T D) H (huffStep src last r T D H) := by
 obtain ⟨hr, hnb, hT, hD⟩ := h
 have hmu : 0 < (Cfg.huff last r T D).mu src := by simp [Cfg.mu]
 have g1 := symbol_good hT hr hnb
 unfold huffStep
 cases h1 : symbol src T r with
 | bad e q => rw [h1] at g1; exact done_ok g1.2 hmu
 | ok v r1 =>
  rw [h1] at g1; obtain ⟨b1, b2, b3, b4⟩ := g1; have b5 := b2.1; have b6 := b2.2; simp only; split
  · refine ⟨⟨b2, b4, hT, hD⟩, by simp only [Cfg.mu]; omega, [UInt8.ofNat v], rfl, ?_⟩
    simp only [Cfg.mu, List.length_cons, List.length_nil]; omega
  · split
    · obtain ⟨h2, h3⟩ := more_ok (last := last) b2 b4; refine ⟨h2, by simp only [Cfg.mu] at h3 ⊢; omega, [], by simp, ?_⟩
      simp only [Cfg.mu, List.length_nil] at h3 ⊢; omega
    · have g2 := pair_good (D := D) (v := v) hD (by omega) b2 b4
      cases h2 : pair src D v r1 with
      | bad e q => rw [h2] at g2; exact done_ok g2.2 hmu
      | ok p r' =>
       rw [h2] at g2; obtain ⟨c1, c2, c3, c4⟩ := g2; obtain ⟨n, d⟩ := p; have c5 := c2.1; have c6 := c2.2; simp only at c1; simp only; split
       · exact done_ok c2.2 hmu
       · refine ⟨⟨c2, c4, hT, hD⟩, by simp only [Cfg.mu]; omega, lzBytes H d n, rfl, ?_⟩
         have : (lzBytes H d n).length = n := by simp [lzBytes]
         simp only [Cfg.mu]; omega
theorem sstep_ok {src : List UInt8} {c : Cfg} {H : List UInt8} (h : CfgOK src c) (hd : c.isDone = false) : StepOK src c H (sstep src (c, H)) := by
 cases c with
 | next r => exact nextStep_ok h.1 h.2
 | huff last r T D => exact huffStep_ok h
 | done e p => exact absurd hd (by simp [Cfg.isDone])
theorem Reach.ends {src : List UInt8} (m : Nat) : ∀ {c : Cfg} {H : List UInt8}, c.mu src ≤ m → CfgOK src c → ∃ e p X, Reach src (c, H) (.done e p, H ++ X) ∧ p ≤ src.length ∧ X.length ≤ 258 * c.mu src := by
 induction m with
 | zero =>
  intro c H hm h
  cases c with
  | next r => simp [Cfg.mu] at hm
  | huff last r T D => simp [Cfg.mu] at hm
  | done e p => exact ⟨e, p, [], by rw [List.append_nil]; exact .refl _, h, by simp⟩
 | succ m ih =>
  intro c H hm h
  by_cases hd : c.isDone = false
  · obtain ⟨h1, h2, X, h3, h4⟩ := sstep_ok (H := H) h hd; obtain ⟨e, p, Y, g1, g2, g3⟩ := ih (c := (sstep src (c, H)).1) (H := (sstep src (c, H)).2) (by omega) h1
    refine ⟨e, p, X ++ Y, .step ?_, g2, by rw [List.length_append]; omega⟩
    rw [h3] at g1; rw [← List.append_assoc]; have : ((sstep src (c, H)).1, H ++ X) = sstep src (c, H) := by rw [← h3]
    rw [← this]; exact g1
  · cases c with
    | next r => simp [Cfg.isDone] at hd
    | huff last r T D => simp [Cfg.isDone] at hd
    | done e p => exact ⟨e, p, [], by rw [List.append_nil]; exact .refl _, h, by simp⟩
theorem Reach.ok {src : List UInt8} {x y : Cfg × List UInt8} (h : Reach src x y) (hx : CfgOK src x.1) : CfgOK src y.1 ∧ ∃ X, y.2 = x.2 ++ X := by
 induction h with
 | refl => exact ⟨hx, [], by simp⟩
 | @step c d _ ih =>
  by_cases hd : c.1.isDone = false
  · obtain ⟨h1, h2, X, h3, h4⟩ := sstep_ok (H := c.2) hx hd; obtain ⟨g1, Y, g2⟩ := ih h1; exact ⟨g1, X ++ Y, by rw [g2, h3, List.append_assoc]⟩
  · have he : sstep src c = c := by
     obtain ⟨c1, c2⟩ := c
     cases c1 with
     | next r => simp [Cfg.isDone] at hd
     | huff last r T D => simp [Cfg.isDone] at hd
     | done e p => rfl
    rw [he] at ih; exact ih hx
theorem num_append (l m : List UInt8) : num (l ++ m) = num l + 2 ^ (8 * l.length) * num m := by
 induction l with
 | nil => simp [num]
 | cons c l ih =>
  simp only [List.cons_append, num, ih, List.length_cons]; rw [show 8 * (l.length + 1) = 8 + 8 * l.length by omega, Nat.pow_add, show (2 : Nat) ^ 8 = 256 from rfl, Nat.mul_add, Nat.mul_assoc]
  omega
theorem bv_append (l m : List UInt8) (a n : Nat) (h : a + n ≤ 8 * l.length) : bv (l ++ m) a n = bv l a n := by
 unfold bv
 have e : 2 ^ (8 * l.length) * num m = 2 ^ a * (2 ^ n * (2 ^ (8 * l.length - a - n) * num m)) := by
  rw [← Nat.mul_assoc, ← Nat.mul_assoc, ← Nat.pow_add, ← Nat.pow_add]; congr 2; omega
 rw [num_append, e, Nat.add_mul_div_left _ _ (Nat.two_pow_pos a), Nat.add_mul_mod_self_left]
def Rd.Ext {α : Type} (a b : Rd α) : Prop := match a with
 | .bad .cut _ => True
 | x => b = x
theorem fill_ext {n k : Nat} {src : List UInt8} {r r' : Br} (h : fill src.length n r = (true, r')) : fill (src.length + k) n r = (true, r') := by
 unfold fill at h ⊢
 split
 · rename_i h1; rw [if_pos h1] at h; exact h
 · rename_i h1; rw [if_neg h1] at h; split at h
   · rename_i h2; rw [if_pos (by omega)]; exact h
   · simp at h
theorem ok_ext {src m : List UInt8} {r : Br} (hr : r.ok src) : r.ok (src ++ m) := ⟨hr.1, by rw [List.length_append]; have := hr.2; omega⟩
theorem b_ext {src m : List UInt8} {r : Br} (hr : r.ok src) : r.b (src ++ m) = r.b src := by
 unfold Br.b
 refine bv_append _ _ _ _ ?_
 have := hr.1; have := hr.2; unfold Br.nb; omega
theorem getBits_ext {src m : List UInt8} {n : Nat} {r : Br} (hr : r.ok src) : (getBits src n r).Ext (getBits (src ++ m) n r) := by
 unfold getBits
 cases hf : fill src.length n r with
 | mk t r' =>
  cases t with
  | false => trivial
  | true =>
   obtain ⟨a1, a2, a3, a4, a5⟩ := fill_ok hr hf; rw [List.length_append, fill_ext hf]; simp only [Rd.Ext]; have h1 := a1.1; have h2 := a1.2; have h3 := a4 rfl; unfold Br.nb at h3; rw [bv_append _ _ _ _ (by omega)]
theorem sym_ext {src m : List UInt8} {T : Tab} (f : Nat) : ∀ {n : Nat} {r : Br}, r.ok src → (sym src T f n r).Ext (sym (src ++ m) T f n r) := by
 induction f with
 | zero => intro n r _; exact rfl
 | succ f ih =>
  intro n r hr; rw [sym, sym]
  cases hf : fill src.length n r with
  | mk t r' =>
   cases t with
   | false => trivial
   | true =>
    obtain ⟨a1, a2, a3, a4, a5⟩ := fill_ok hr hf; rw [List.length_append, fill_ext hf]; simp only; rw [b_ext a1]; split
    · split <;> exact rfl
    · exact ih a1
theorem symbol_ext {src m : List UInt8} {T : Tab} {r : Br} (hr : r.ok src) : (symbol src T r).Ext (symbol (src ++ m) T r) := sym_ext 20 hr
theorem Rd.Ext.cases {α : Type} {a b : Rd α} (h : a.Ext b) : (∃ r, a = .bad .cut r) ∨ b = a := by
 cases a with
 | ok v r => exact .inr h
 | bad e r =>
  cases e with
  | cut => exact .inl ⟨r, rfl⟩
  | eof => exact .inr h
  | corrupt => exact .inr h
theorem Rd.Ext.rfl' {α : Type} (a : Rd α) : a.Ext a := by
 cases a with
 | ok v r => exact rfl
 | bad e r => cases e <;> first | exact rfl | trivial
theorem distSym_ext {src m : List UInt8} {D : Option Tab} {r : Br} (hr : r.ok src) : (distSym src D r).Ext (distSym (src ++ m) D r) := by
 unfold distSym
 cases D with
 | some T => exact symbol_ext hr
 | none =>
  rcases (getBits_ext (m := m) (n := 5) hr).cases with ⟨q, h⟩ | h
  · rw [h]; trivial
  · rw [h]; exact Rd.Ext.rfl' _
theorem pair_ext {src m : List UInt8} {D : Option Tab} {v : Nat} {r : Br} (hD : ∀ T, D = some T → T.OK) (hr : r.ok src) (hnb : r.nb ≤ 22) : (pair src D v r).Ext (pair (src ++ m) D v r) := by
 unfold pair
 cases lenOf v with
 | none => exact rfl
 | some p =>
  obtain ⟨lb, lx⟩ := p; have g1 := getBits_good (n := lx) hr hnb; simp only; rcases (getBits_ext (m := m) (n := lx) hr).cases with ⟨q, h⟩ | h
  · rw [h]; trivial
  rw [h]
  cases h1 : getBits src lx r with
  | bad e q => exact Rd.Ext.rfl' _
  | ok x r2 =>
   rw [h1] at g1; obtain ⟨b1, b2, b3, b4⟩ := g1; have g2 := distSym_good hD b2 b4; simp only; rcases (distSym_ext (m := m) (D := D) b2).cases with ⟨q, h⟩ | h
   · rw [h]; trivial
   rw [h]
   cases h2 : distSym src D r2 with
   | bad e q => exact Rd.Ext.rfl' _
   | ok ds r3 =>
    rw [h2] at g2; obtain ⟨c1, c2, c3, c4⟩ := g2; simp only
    cases distOf ds with
    | none => exact rfl
    | some p =>
     obtain ⟨db, dx⟩ := p; simp only; rcases (getBits_ext (m := m) (n := dx) c2).cases with ⟨q, h⟩ | h
     · rw [h]; trivial
     · rw [h]; exact Rd.Ext.rfl' _
theorem clRead_ext {src m : List UInt8} (k : Nat) : ∀ {acc : List Nat} {r : Br}, r.ok src → r.nb ≤ 22 → (clRead src k acc r).Ext (clRead (src ++ m) k acc r) := by
 induction k with
 | zero => intro acc r _ _; exact rfl
 | succ k ih =>
  intro acc r hr hnb; have g1 := getBits_good (n := 3) hr hnb; rw [clRead, clRead]; rcases (getBits_ext (m := m) (n := 3) hr).cases with ⟨q, h⟩ | h
  · rw [h]; trivial
  rw [h]
  cases h1 : getBits src 3 r with
  | bad e q => exact Rd.Ext.rfl' _
  | ok x r2 =>
   rw [h1] at g1; exact ih g1.2.1 g1.2.2.2
theorem lenStep_ext {src m : List UInt8} {T : Tab} (hT : T.OK) {n : Nat} {acc : List Nat} {r : Br} (hr : r.ok src) (hnb : r.nb ≤ 22) : (lenStep src T n acc r).Ext (lenStep (src ++ m) T n acc r) := by
 have g1 := symbol_good hT hr hnb
 unfold lenStep
 rcases (symbol_ext (m := m) (T := T) hr).cases with ⟨q, h⟩ | h
 · rw [h]; trivial
 rw [h]
 cases h1 : symbol src T r with
 | bad e q => exact Rd.Ext.rfl' _
 | ok x r1 =>
  rw [h1] at g1; obtain ⟨b1, b2, b3, b4⟩ := g1; simp only; split
  · exact rfl
  · split
    · exact rfl
    · rcases (getBits_ext (m := m) (n := (repOf x acc).2.1) b2).cases with ⟨q, h⟩ | h
      · rw [h]; trivial
      · rw [h]; exact Rd.Ext.rfl' _
theorem lenRead_ext {src m : List UInt8} {T : Tab} (hT : T.OK) {n : Nat} (f : Nat) : ∀ {acc : List Nat} {r : Br}, r.ok src → r.nb ≤ 22 → (∀ v ∈ acc, v ≤ 15) → (lenRead src T n f acc r).Ext (lenRead (src ++ m) T n f acc r) := by
 induction f with
 | zero => intro acc r _ _ _; exact rfl
 | succ f ih =>
  intro acc r hr hnb ha; rw [lenRead, lenRead]; split
  · exact rfl
  · rename_i hn; have g1 := lenStep_good hT hr hnb ha (by omega : acc.length < n)
    rcases (lenStep_ext (m := m) hT (n := n) (acc := acc) hr hnb).cases with ⟨q, h⟩ | h
    · rw [h]; trivial
    rw [h]
    cases h1 : lenStep src T n acc r with
    | bad e q => exact Rd.Ext.rfl' _
    | ok acc' r' =>
     rw [h1] at g1; exact ih g1.2.1 g1.2.2.2 g1.1.2.2
theorem readHuff_ext {src m : List UInt8} {r : Br} (hr : r.ok src) (hnb : r.nb ≤ 22) : (readHuff src r).Ext (readHuff (src ++ m) r) := by
 unfold readHuff
 cases hf : fill src.length 14 r with
 | mk t r1 =>
  cases t with
  | false => trivial
  | true =>
   obtain ⟨a1, a2, a3, a4, a5⟩ := fill_ok hr hf; have h14 := a4 rfl; obtain ⟨b1, b2⟩ := skip_ok a1 h14; have h1 := a1.1; have h2 := a1.2; have h15 := h14; unfold Br.nb at h15; rw [List.length_append, fill_ext hf]; simp only; rw [bv_append src m r1.at_ 5 (by omega), bv_append src m (r1.at_ + 5) 5 (by omega), bv_append src m (r1.at_ + 10) 4 (by omega)]
   split
   · exact rfl
   · split
     · exact rfl
     · have g1 := clRead_good (bv src (r1.at_ + 10) 4 + 4) (acc := []) b1 (by rw [b2]; omega) (fun v hv => absurd hv List.not_mem_nil)
       rcases (clRead_ext (m := m) (bv src (r1.at_ + 10) 4 + 4) (acc := []) b1 (by rw [b2]; omega)).cases with ⟨q, h⟩ | h
       · rw [h]; trivial
       rw [h]
       cases h1 : clRead src (bv src (r1.at_ + 10) 4 + 4) [] { r1 with at_ := r1.at_ + 14 } with
       | bad e q => exact Rd.Ext.rfl' _
       | ok vs r2 =>
        rw [h1] at g1; obtain ⟨c1, c2, c3, c4⟩ := g1; have hcl := initTab_law (lens := clens vs) (fun n hn => by have := clens_le c1.2 n hn; omega) (by rw [clens_length]; omega)
        simp only
        cases h2 : initTab (clens vs) with
        | none => exact rfl
        | some o =>
         cases o with
         | none => exact rfl
         | some TC =>
          simp only; rcases (lenRead_ext (m := m) (hcl.2 TC h2).1 (n := bv src r1.at_ 5 + 257 + (bv src (r1.at_ + 5) 5 + 1)) 400 (acc := []) c2 c4 (fun v hv => absurd hv List.not_mem_nil)).cases with ⟨q, h⟩ | h
          · rw [h]; trivial
          rw [h]; exact Rd.Ext.rfl' _
theorem drop_append_le {l m : List UInt8} {p : Nat} (h : p ≤ l.length) : (l ++ m).drop p = l.drop p ++ m := by rw [List.drop_append, show p - l.length = 0 by omega, List.drop_zero]
theorem sstep_ext {src m : List UInt8} {c : Cfg} {H : List UInt8} (h : CfgOK src c) (hd : c.isDone = false) :
 sstep (src ++ m) (c, H) = sstep src (c, H) ∨ ∃ p X, sstep src (c, H) = (.done .cut p, H ++ X) ∧ ∃ Y, (sstep (src ++ m) (c, H)).2 = H ++ X ++ Y := by
 have cutq : ∀ {p : Nat} {c2 : Cfg}, sstep src (c2, H) = (.done .cut p, H) → CfgOK (src ++ m) c2 → c2.isDone = false → ∃ p X, sstep src (c2, H) = (.done .cut p, H ++ X) ∧ ∃ Y, (sstep (src ++ m) (c2, H)).2 = H ++ X ++ Y := by
  intro p c2 h1 h2 h3; obtain ⟨_, _, X, h4, _⟩ := sstep_ok (H := H) h2 h3; exact ⟨p, [], by rw [h1, List.append_nil], X, by rw [h4, List.append_nil]⟩
 cases c with
 | done e p => simp [Cfg.isDone] at hd
 | next r =>
  obtain ⟨hr, hnb⟩ := h; have hok : CfgOK (src ++ m) (.next r) := ⟨ok_ext hr, hnb⟩; have e1 : ∀ s, sstep s (.next r, H) = nextStep s r H := fun _ => rfl
  cases hf : fill src.length 3 r with
  | mk t r1 =>
   obtain ⟨a1, a2, a3, a4, a5⟩ := fill_ok hr hf
   cases t with
   | false => right; exact cutq (p := r1.pos) (by rw [e1]; unfold nextStep; rw [hf]) hok rfl
   | true =>
    have h3 := a4 rfl; obtain ⟨b1, b2⟩ := skip_ok a1 h3; have p1 := a1.1; have p2 := a1.2; unfold Br.nb at h3; have E : ∀ s, s = src ++ m → nextStep s r H = (
     if bv src (r1.at_ + 1) 2 = 0 then storedStep s (bv src r1.at_ 1 == 1) r1.pos H
     else if bv src (r1.at_ + 1) 2 = 1 then (.huff (bv src r1.at_ 1 == 1) { r1 with at_ := r1.at_ + 3 } fixedTab none, H)
     else if bv src (r1.at_ + 1) 2 = 2 then
      match readHuff s { r1 with at_ := r1.at_ + 3 } with
      | .bad e r' => (.done e r'.pos, H)
      | .ok (T, D) r3 => (.huff (bv src r1.at_ 1 == 1) r3 T (some D), H)
     else (.done .corrupt r1.pos, H)) := by
     intro s hs; unfold nextStep; rw [hs, List.length_append, fill_ext hf]; simp only
     (rw [bv_append src m r1.at_ 1 (by omega), bv_append src m (r1.at_ + 1) 2 (by omega)]) <;> rfl
    have E0 : nextStep src r H = (
     if bv src (r1.at_ + 1) 2 = 0 then storedStep src (bv src r1.at_ 1 == 1) r1.pos H
     else if bv src (r1.at_ + 1) 2 = 1 then (.huff (bv src r1.at_ 1 == 1) { r1 with at_ := r1.at_ + 3 } fixedTab none, H)
     else if bv src (r1.at_ + 1) 2 = 2 then
      match readHuff src { r1 with at_ := r1.at_ + 3 } with
      | .bad e r' => (.done e r'.pos, H)
      | .ok (T, D) r3 => (.huff (bv src r1.at_ 1 == 1) r3 T (some D), H)
     else (.done .corrupt r1.pos, H)) := by unfold nextStep; (rw [hf]) <;> rfl
    rw [e1, e1, E _ rfl, E0]; split
    · unfold storedStep
      by_cases hs : src.length < r1.pos + 4
      · right
        rw [if_pos hs]; refine ⟨src.length, [], by rw [List.append_nil], ?_⟩
        have := sstep_ok (H := H) hok rfl; rw [e1, E _ rfl, if_pos (by assumption)] at this
        obtain ⟨_, _, X, h4, _⟩ := this; unfold storedStep at h4; exact ⟨X, by rw [h4, List.append_nil]⟩
      · rw [if_neg hs, if_neg (show ¬ (src ++ m).length < r1.pos + 4 by rw [List.length_append]; omega), bv_append src m (8 * r1.pos) 16 (by omega), bv_append src m (8 * r1.pos + 16) 16 (by omega)]
        split
        · exact .inl rfl
        · unfold stRest
          by_cases hn : r1.pos + 4 + bv src (8 * r1.pos) 16 ≤ src.length
          · left
            rw [if_pos hn, if_pos (by rw [List.length_append]; omega), drop_append_le (by omega), List.take_append_of_le_length (by rw [List.length_drop]; omega)]
          · right
            rw [if_neg hn]; refine ⟨src.length, src.drop (r1.pos + 4), rfl, ?_⟩; split
            · refine ⟨m.take (bv src (8 * r1.pos) 16 - (src.length - (r1.pos + 4))), ?_⟩; rw [drop_append_le (by omega), List.take_append, List.take_of_length_le (by rw [List.length_drop]; omega), List.length_drop, List.append_assoc]
            · exact ⟨m, by rw [drop_append_le (by omega), List.append_assoc]⟩
    · split
      · exact .inl rfl
      · split
        · rcases (readHuff_ext (m := m) b1 (by rw [b2]; omega)).cases with ⟨q, hq⟩ | hq
          · right
            have := sstep_ok (H := H) hok rfl; rw [e1, E _ rfl, if_neg (by assumption), if_neg (by assumption), if_pos (by assumption)] at this
            obtain ⟨_, _, X, h4, _⟩ := this; rw [hq]; exact ⟨q.pos, [], by rw [List.append_nil], X, by rw [h4, List.append_nil]⟩
          · left; rw [hq]
        · exact .inl rfl
 | huff last r T D =>
  obtain ⟨hr, hnb, hT, hD⟩ := h; have hok : CfgOK (src ++ m) (.huff last r T D) := ⟨ok_ext hr, hnb, hT, hD⟩; have e1 : ∀ s, sstep s (.huff last r T D, H) = huffStep s last r T D H := fun _ => rfl
  have g1 := symbol_good hT hr hnb; rcases (symbol_ext (m := m) (T := T) hr).cases with ⟨q, hq⟩ | hq
  · right; exact cutq (p := q.pos) (by rw [e1]; unfold huffStep; rw [hq]) hok rfl
  cases h1 : symbol src T r with
  | bad e q => left; rw [e1, e1]; unfold huffStep; rw [hq, h1]
  | ok v r1 =>
   rw [h1] at g1; obtain ⟨b1, b2, b3, b4⟩ := g1
   by_cases hv : v < 256
   · left; rw [e1, e1]; unfold huffStep; rw [hq, h1]; simp only; rw [if_pos hv, if_pos hv]
   by_cases hv2 : v = 256
   · left; rw [e1, e1]; unfold huffStep; rw [hq, h1]; simp only; rw [if_neg hv, if_pos hv2, if_neg hv, if_pos hv2]
   rcases (pair_ext (m := m) (D := D) (v := v) hD b2 b4).cases with ⟨q, hq2⟩ | hq2
   · right; exact cutq (p := q.pos) (by rw [e1]; unfold huffStep; rw [h1]; simp only; rw [if_neg hv, if_neg hv2, hq2]) hok rfl
   · left; rw [e1, e1]; unfold huffStep; rw [hq, h1]; simp only; rw [if_neg hv, if_neg hv2, if_neg hv, if_neg hv2, hq2]
theorem reach_ext {src m : List UInt8} {x : Cfg × List UInt8} {e e2 : Err} {p p2 : Nat} {H1 H2 : List UInt8} (h : Reach src x (.done e p, H1)) (hx : CfgOK src x.1) (k : Reach (src ++ m) x (.done e2 p2, H2)) :
 (e ≠ .cut → e2 = e ∧ p2 = p ∧ H2 = H1) ∧ (e = .cut → ∃ X, H2 = H1 ++ X) := by
 generalize hy : (Cfg.done e p, H1) = y at h
 induction h with
 | refl c =>
  subst hy; have := k.done; simp only [Prod.mk.injEq, Cfg.done.injEq] at this; exact ⟨fun _ => ⟨this.1.1, this.1.2, this.2⟩, fun _ => ⟨[], by rw [List.append_nil]; exact this.2⟩⟩
 | @step c d hs ih =>
  by_cases hd : c.1.isDone = false
  · obtain ⟨c1, H⟩ := c; have ok1 := sstep_ok (H := H) hx hd; have hok2 : ∀ {c : Cfg}, CfgOK src c → CfgOK (src ++ m) c := by
     intro c hc
     cases c with
     | next r => exact ⟨ok_ext hc.1, hc.2⟩
     | huff last r T D => exact ⟨ok_ext hc.1, hc.2⟩
     | done e p => exact Nat.le_trans hc (by rw [List.length_append]; omega)
    rcases sstep_ext (m := m) (H := H) hx hd with hq | ⟨q, X, hq, Y, hY⟩
    · exact ih ok1.1 (by rw [← hq]; exact k.back (Reach.one _ _)) hy
    · rw [hq] at hs; have h1 := hs.done; rw [← hy] at h1; simp only [Prod.mk.injEq, Cfg.done.injEq] at h1; obtain ⟨⟨h2, h3⟩, h4⟩ := h1; refine ⟨fun hne => absurd h2 hne, fun _ => ?_⟩
      have k2 := k.back (Reach.one _ _); obtain ⟨_, Z, hZ⟩ := k2.ok (sstep_ok (H := H) (hok2 hx) hd).1; simp only at hZ; rw [hZ, hY, h4]; exact ⟨Y ++ Z, by rw [List.append_assoc]⟩
  · obtain ⟨c1, H⟩ := c
    cases c1 with
    | next r => simp [Cfg.isDone] at hd
    | huff last r T D => simp [Cfg.isDone] at hd
    | done e' p' => exact ih hx (by exact k) hy
def Br.sh (P : Nat) (r : Br) : Br := ⟨r.at_ + 8 * P, r.pos + P⟩
def Rd.sh {α : Type} (P : Nat) : Rd α → Rd α
 | .ok v r => .ok v (r.sh P)
 | .bad e r => .bad e (r.sh P)
section
variable (pre src : List UInt8)
def Cfg.sh (P : Nat) : Cfg → Cfg
 | .next r => .next (r.sh P)
 | .huff l r T D => .huff l (r.sh P) T D
 | .done e p => .done e (p + P)
end
def lastOf (dict : List UInt8) : List UInt8 := dict.drop (dict.length - 32768)
def start (H : List UInt8) : Cfg × List UInt8 := (.next ⟨0, 0⟩, H)
theorem start_ok (src H : List UInt8) : CfgOK src (start H).1 := ⟨⟨Nat.le_refl _, Nat.zero_le _⟩, by decide⟩
theorem bv_low (c : UInt8) (l : List UInt8) (a n : Nat) (h : a + n ≤ 8) : bv (c :: l) a n = c.toNat / 2 ^ a % 2 ^ n := by
 have e : num (c :: l) = c.toNat + 2 ^ a * (2 ^ n * (2 ^ (8 - a - n) * num l)) := by
  rw [num, ← Nat.mul_assoc, ← Nat.mul_assoc, ← Nat.pow_add, ← Nat.pow_add, show a + n + (8 - a - n) = 8 by omega]
 unfold bv
 rw [e, Nat.add_mul_div_left _ _ (Nat.two_pow_pos a), Nat.add_mul_mod_self_left]
theorem bv_two (src : List UInt8) (i : Nat) (h : i + 1 < src.length) : bv src (8 * i) 16 = src[i].toNat + 256 * src[i + 1].toNat := by
 rw [show (16 : Nat) = 8 + 8 from rfl, bv_add, bv_byte src i (by omega), show 8 * i + 8 = 8 * (i + 1) by omega, bv_byte src (i + 1) h]
theorem first_step (c : UInt8) (l H : List UInt8) : sstep (c :: l) (start H) =
 if c.toNat / 2 % 4 = 0 then storedStep (c :: l) (c.toNat % 2 == 1) 1 H
 else if c.toNat / 2 % 4 = 1 then (.huff (c.toNat % 2 == 1) ⟨3, 1⟩ fixedTab none, H)
 else if c.toNat / 2 % 4 = 2 then
  match readHuff (c :: l) ⟨3, 1⟩ with
  | .bad e r' => (.done e r'.pos, H)
  | .ok (T, D) r3 => (.huff (c.toNat % 2 == 1) r3 T (some D), H)
 else (.done .corrupt 1, H) := by
 have hf : fill (c :: l).length 3 ⟨0, 0⟩ = (true, ⟨0, 1⟩) := by
  unfold fill Br.nb; rw [if_neg (by decide), if_pos (by simp only [List.length_cons]; omega)]
  rfl
 show nextStep (c :: l) ⟨0, 0⟩ H = _
 unfold nextStep
 rw [hf]
 simp only
 rw [bv_low c l 0 1 (by omega), bv_low c l (0 + 1) 2 (by omega)]
 (simp only [Nat.pow_zero, Nat.div_one, Nat.zero_add, Nat.pow_one, Nat.reducePow]) <;> rfl
theorem stored_first (last : Bool) (a b c d : UInt8) (l H : List UInt8) :
 sstep ((if last then 1 else 0) :: a :: b :: c :: d :: l) (start H) =
  if a.toNat + 256 * b.toNat + (c.toNat + 256 * d.toNat) ≠ 65535 then (.done .corrupt 5, H)
  else stRest ((if last then 1 else 0) :: a :: b :: c :: d :: l) last 5 (a.toNat + 256 * b.toNat) H := by
 have h1 : ((if last then 1 else 0 : UInt8)).toNat / 2 % 4 = 0 := by cases last <;> rfl
 have h2 : (((if last then 1 else 0 : UInt8)).toNat % 2 == 1) = last := by cases last <;> rfl
 rw [first_step, if_pos h1, h2]
 unfold storedStep
 rw [if_neg (by simp only [List.length_cons]; omega)]
 have e1 := bv_two ((if last then 1 else 0 : UInt8) :: a :: b :: c :: d :: l) 1 (by simp only [List.length_cons]; omega)
 have e2 := bv_two ((if last then 1 else 0 : UInt8) :: a :: b :: c :: d :: l) 3 (by simp only [List.length_cons]; omega)
 simp only [List.getElem_cons_succ, List.getElem_cons_zero, Nat.reduceMul, Nat.reduceAdd] at e1 e2 ⊢
 rw [e1, e2]
def Infl (src dict : List UInt8) (e : Err) (p : Nat) (X : List UInt8) : Prop := Reach src (start (lastOf dict)) (.done e p, lastOf dict ++ X)
theorem infl_ex (src dict : List UInt8) : ∃ e p X, Infl src dict e p X ∧ p ≤ src.length ∧ X.length ≤ 258 * (8 * src.length + 1) := by
 obtain ⟨e, p, X, h, hp, hX⟩ := Reach.ends _ (Nat.le_refl _) (H := lastOf dict) (start_ok src (lastOf dict))
 exact ⟨e, p, X, h, hp, hX⟩
theorem Infl.unique {src dict : List UInt8} {e e' : Err} {p p' : Nat} {X X' : List UInt8} (h : Infl src dict e p X) (k : Infl src dict e' p' X') : e' = e ∧ p' = p ∧ X' = X := by
 obtain ⟨h1, h2, h3⟩ := Reach.end_unique h k
 exact ⟨h1.symm, h2.symm, (List.append_cancel_left h3).symm⟩
theorem Infl.le {src dict : List UInt8} {e : Err} {p : Nat} {X : List UInt8} (h : Infl src dict e p X) : p ≤ src.length ∧ X.length ≤ 258 * (8 * src.length + 1) := by
 obtain ⟨e', p', X', k, h1, h2⟩ := infl_ex src dict
 obtain ⟨_, rfl, rfl⟩ := h.unique k
 exact ⟨h1, h2⟩
theorem infl_ahead {b m : List UInt8} {e e' : Err} {p p' : Nat} {X X' : List UInt8} (h : Infl b [] e p X) (k : Infl (b ++ m) [] e' p' X') : (e ≠ .cut → e' = e ∧ p' = p ∧ X' = X) ∧ (e = .cut → ∃ Y, X' = X ++ Y) := by
 obtain ⟨h1, h2⟩ := reach_ext h (start_ok b _) k
 exact ⟨fun q => by obtain ⟨a, b, c⟩ := h1 q; exact ⟨a, b, List.append_cancel_left c⟩, h2⟩
def Rd.CutAt {α : Type} (src : List UInt8) : Rd α → Prop
 | .bad .cut r => r.pos = src.length
 | _ => True
theorem fill_cut {len n : Nat} {r r' : Br} (h : fill len n r = (false, r')) : r'.pos = len := by
 unfold fill at h
 split at h
 · simp at h
 · split at h
   · simp at h
   · obtain ⟨_, rfl⟩ := Prod.mk.injEq .. ▸ h; rfl
theorem Rd.CutAt.bad {α β : Type} {src : List UInt8} {e : Err} {r : Br} (h : (Rd.bad e r : Rd α).CutAt src) : (Rd.bad e r : Rd β).CutAt src := by
 cases e <;> exact h
theorem getBits_cutAt (src : List UInt8) (n : Nat) (r : Br) : (getBits src n r).CutAt src := by
 unfold getBits
 cases hf : fill src.length n r with
 | mk t r' =>
  cases t with
  | false => exact fill_cut hf
  | true => trivial
theorem sym_cutAt (src : List UInt8) (T : Tab) (f : Nat) : ∀ n r, (sym src T f n r).CutAt src := by
 induction f with
 | zero => intro n r; trivial
 | succ f ih =>
  intro n r; rw [sym]
  cases hf : fill src.length n r with
  | mk t r' =>
   cases t with
   | false => exact fill_cut hf
   | true =>
    simp only; split
    · split <;> trivial
    · exact ih _ _
theorem symbol_cutAt (src : List UInt8) (T : Tab) (r : Br) : (symbol src T r).CutAt src := sym_cutAt src T 20 _ _
theorem distSym_cutAt (src : List UInt8) (D : Option Tab) (r : Br) : (distSym src D r).CutAt src := by
 unfold distSym
 cases D with
 | some T => exact symbol_cutAt src T r
 | none =>
  have := getBits_cutAt src 5 r
  cases hg : getBits src 5 r with
  | bad e q => rw [hg] at this; exact this.bad
  | ok v q => trivial
theorem pair_cutAt (src : List UInt8) (D : Option Tab) (v : Nat) (r : Br) : (pair src D v r).CutAt src := by
 unfold pair
 cases lenOf v with
 | none => trivial
 | some lp =>
  obtain ⟨lb, lx⟩ := lp; simp only; have h1 := getBits_cutAt src lx r
  cases hg : getBits src lx r with
  | bad e q => rw [hg] at h1; exact h1.bad
  | ok x r2 =>
   simp only; have h2 := distSym_cutAt src D r2
   cases hd : distSym src D r2 with
   | bad e q => rw [hd] at h2; exact h2.bad
   | ok ds r3 =>
    simp only
    cases distOf ds with
    | none => trivial
    | some dp =>
     obtain ⟨db, dx⟩ := dp; simp only; have h3 := getBits_cutAt src dx r3
     cases hg3 : getBits src dx r3 with
     | bad e q => rw [hg3] at h3; exact h3.bad
     | ok y r4 => trivial
theorem clRead_cutAt (src : List UInt8) (k : Nat) : ∀ acc r, (clRead src k acc r).CutAt src := by
 induction k with
 | zero => intro acc r; trivial
 | succ k ih =>
  intro acc r; rw [clRead]; have h1 := getBits_cutAt src 3 r
  cases hg : getBits src 3 r with
  | bad e q => rw [hg] at h1; exact h1.bad
  | ok x r2 => exact ih _ _
theorem lenStep_cutAt (src : List UInt8) (T : Tab) (n : Nat) (acc : List Nat) (r : Br) : (lenStep src T n acc r).CutAt src := by
 unfold lenStep
 have h1 := symbol_cutAt src T r
 cases hs : symbol src T r with
 | bad e q => rw [hs] at h1; exact h1.bad
 | ok x r1 =>
  simp only; split
  · trivial
  · split
    · trivial
    · have h2 := getBits_cutAt src (repOf x acc).2.1 r1
      cases hg : getBits src (repOf x acc).2.1 r1 with
      | bad e q => rw [hg] at h2; exact h2.bad
      | ok y r2 => simp only; split <;> trivial
theorem lenRead_cutAt (src : List UInt8) (T : Tab) (n f : Nat) : ∀ acc r, (lenRead src T n f acc r).CutAt src := by
 induction f with
 | zero => intro acc r; trivial
 | succ f ih =>
  intro acc r; rw [lenRead]; split
  · trivial
  · have h1 := lenStep_cutAt src T n acc r
    cases hs : lenStep src T n acc r with
    | bad e q => rw [hs] at h1; exact h1.bad
    | ok x r1 => exact ih _ _
theorem twoTabs_cutAt (src : List UInt8) (ls : List Nat) (n : Nat) (r : Br) : (twoTabs ls n r).CutAt src := by
 unfold twoTabs
 split
 · trivial
 · trivial
 · split <;> trivial
theorem readHuff_cutAt (src : List UInt8) (r : Br) : (readHuff src r).CutAt src := by
 unfold readHuff
 cases hf : fill src.length 14 r with
 | mk t r' =>
  cases t with
  | false => exact fill_cut hf
  | true =>
   simp only; split
   · trivial
   · split
     · trivial
     · have h1 := clRead_cutAt src (bv src (r'.at_ + 10) 4 + 4) [] { r' with at_ := r'.at_ + 14 }
       cases hc : clRead src (bv src (r'.at_ + 10) 4 + 4) [] { r' with at_ := r'.at_ + 14 } with
       | bad e q => rw [hc] at h1; exact h1.bad
       | ok vs r2 =>
        simp only; split
        · trivial
        · trivial
        · rename_i TC _; have h2 := lenRead_cutAt src TC (bv src r'.at_ 5 + 257 + (bv src (r'.at_ + 5) 5 + 1)) 400 [] r2
          cases hl : lenRead src TC (bv src r'.at_ 5 + 257 + (bv src (r'.at_ + 5) 5 + 1)) 400 [] r2 with
          | bad e q => rw [hl] at h2; exact h2.bad
          | ok ls r3 => exact twoTabs_cutAt src _ _ _
def Cfg.CutAt (src : List UInt8) : Cfg → Prop
 | .done .cut p => p = src.length
 | _ => True
theorem Rd.CutAt.done {α : Type} {src : List UInt8} {e : Err} {r : Br} (h : (Rd.bad e r : Rd α).CutAt src) : (Cfg.done e r.pos).CutAt src := by
 cases e <;> exact h
theorem more_cutAt (src : List UInt8) (last : Bool) (r : Br) : (more last r).CutAt src := by
 unfold more; split <;> trivial
theorem sstep_cutAt {src : List UInt8} {c : Cfg × List UInt8} (h : c.1.CutAt src) : (sstep src c).1.CutAt src := by
 obtain ⟨c, H⟩ := c
 cases c with
 | done e p => exact h
 | huff last r T D =>
  show (huffStep src last r T D H).1.CutAt src
  unfold huffStep; have h1 := symbol_cutAt src T r
  cases hs : symbol src T r with
  | bad e q => rw [hs] at h1; exact h1.done
  | ok v r1 =>
   simp only; split
   · trivial
   · split
     · exact more_cutAt _ _ _
     · have h2 := pair_cutAt src D v r1
       cases hp : pair src D v r1 with
       | bad e q => rw [hp] at h2; exact h2.done
       | ok nd r2 =>
        obtain ⟨n, d⟩ := nd; simp only; split <;> trivial
 | next r =>
  show (nextStep src r H).1.CutAt src
  unfold nextStep
  cases hf : fill src.length 3 r with
  | mk t r' =>
   cases t with
   | false =>
    show r'.pos = src.length
    exact fill_cut hf
   | true =>
    simp only; split
    · unfold storedStep; split
      · rfl
      · split
        · trivial
        · unfold stRest; split
          · exact more_cutAt _ _ _
          · rfl
    · split
      · trivial
      · split
        · have h1 := readHuff_cutAt src { r' with at_ := r'.at_ + 3 }
          cases hh : readHuff src { r' with at_ := r'.at_ + 3 } with
          | bad e q => rw [hh] at h1; exact h1.done
          | ok p r3 => trivial
        · trivial
theorem reach_cutAt {src : List UInt8} {x y : Cfg × List UInt8} (h : Reach src x y) (hx : x.1.CutAt src) : y.1.CutAt src := by
 induction h with
 | refl => exact hx
 | step _ ih => exact ih (sstep_cutAt hx)
theorem infl_cut_end {src dict : List UInt8} {p : Nat} {X : List UInt8} (h : Infl src dict .cut p X) : p = src.length := reach_cutAt h trivial
theorem infl_prefix {b : List UInt8} {X : List UInt8} (h : Infl b [] .eof b.length X) {k : Nat} (hk : k < b.length) : ∃ Y Z, Infl (b.take k) [] .cut k Y ∧ X = Y ++ Z := by
 obtain ⟨e, p, Y, h1, h2, _⟩ := infl_ex (b.take k) []
 rw [List.length_take] at h2
 have h' := h
 rw [← List.take_append_drop k b] at h'
 obtain ⟨a1, a2⟩ := infl_ahead h1 h'
 by_cases hc : e = .cut
 · subst hc; obtain ⟨Z, hZ⟩ := a2 rfl; have hp := infl_cut_end h1; rw [List.length_take, Nat.min_eq_left (by omega)] at hp
   subst hp; exact ⟨Y, Z, h1, hZ⟩
 · obtain ⟨_, q, _⟩ := a1 hc; simp only [List.take_append_drop] at q; omega
section
variable {n : Nat} {S : List UInt8} (hS : n < S.length)
include hS
omit hS in
end
section
variable {src m : List UInt8} (hm : m ≠ [])
include hm
omit hm in
end
end Flate
