/-
  THE DECOMPRESSOR IN MEMORY: its fields, the source behind it, the window; a law for each store. Printed by wip/gen/dec.py.
-/
import Derived.Test.YthfncdfcklbigaaDoorSrc
set_option linter.unusedVariables false
set_option linter.unusedSimpArgs false
namespace Go.Proofs.YthfncdfcklbigaaDoor
open Go.RowKit Flate

set_option maxRecDepth 100000

/-- What the decompressor in block F holds. -/
structure DS where
  R : Nat
  base : Option Addr
  src : List UInt8
  pos : Nat
  BB : Nat
  CB : Nat
  HB : Nat
  g : Nat → UInt8
  roff : Nat
  b : Nat
  nb : Nat
  wr : Nat
  rd : Nat
  full : Bool
  u0 : UInt8
  u1 : UInt8
  u2 : UInt8
  u3 : UInt8
  step : Value
  ss : Int
  fin : Bool
  err : Value
  toRead : Value
  hl : Value
  hd : Value
  cl : Int
  cd : Int

structure Dec (w : World) (F : Nat) (d : DS) : Prop where
  r : w.cell? ⟨F, 0, none⟩ = some (.iface 55 (.pointer (some ⟨d.R, 0, none⟩)))
  rBuf : w.cell? ⟨F, 1, none⟩ = some (.pointer none)
  roff : w.cell? ⟨F, 2, none⟩ = some (.int .i64 (d.roff : Int))
  b : w.cell? ⟨F, 3, none⟩ = some (.int .u32 (d.b : Int))
  nb : w.cell? ⟨F, 4, none⟩ = some (.int .u64 (d.nb : Int))
  bits : w.cell? ⟨F, 1035, none⟩ = some (.pointer (some ⟨d.BB, 0, none⟩))
  cbits : w.cell? ⟨F, 1036, none⟩ = some (.pointer (some ⟨d.CB, 0, none⟩))
  hist : w.cell? ⟨F, 1037, none⟩ = some (.slice (some ⟨d.HB, 0, none⟩) 32768 32768)
  wr : w.cell? ⟨F, 1038, none⟩ = some (.int .i64 (d.wr : Int))
  rd : w.cell? ⟨F, 1039, none⟩ = some (.int .i64 (d.rd : Int))
  full : w.cell? ⟨F, 1040, none⟩ = some (.bool d.full)
  u0 : w.cell? ⟨F, 1041, none⟩ = some (.int .u8 (d.u0.toNat : Int))
  u1 : w.cell? ⟨F, 1042, none⟩ = some (.int .u8 (d.u1.toNat : Int))
  u2 : w.cell? ⟨F, 1043, none⟩ = some (.int .u8 (d.u2.toNat : Int))
  u3 : w.cell? ⟨F, 1044, none⟩ = some (.int .u8 (d.u3.toNat : Int))
  step : w.cell? ⟨F, 1045, none⟩ = some (d.step)
  ss : w.cell? ⟨F, 1046, none⟩ = some (.int .i64 d.ss)
  fin : w.cell? ⟨F, 1047, none⟩ = some (.bool d.fin)
  err : w.cell? ⟨F, 1048, none⟩ = some (d.err)
  toRead : w.cell? ⟨F, 1049, none⟩ = some (d.toRead)
  hl : w.cell? ⟨F, 1050, none⟩ = some (d.hl)
  hd : w.cell? ⟨F, 1051, none⟩ = some (d.hd)
  cl : w.cell? ⟨F, 1052, none⟩ = some (.int .i64 d.cl)
  cd : w.cell? ⟨F, 1053, none⟩ = some (.int .i64 d.cd)
  tl : ∀ o, 5 ≤ o → o < 1035 → (w.cell? ⟨F, o, none⟩).isSome = true
  fr : ∀ o, w.frozen? ⟨F, o, none⟩ = false
  so : Src w d.R d.base d.src d.pos
  win : ∀ i, i < 32768 → w.cell? ⟨d.HB, i, none⟩ = some (.int .u8 ((d.g i).toNat : Int))
  frH : ∀ o, w.frozen? ⟨d.HB, o, none⟩ = false
  bb : ∀ i, i < 316 → (w.cell? ⟨d.BB, i, none⟩).isSome = true
  cb : ∀ i, i < 19 → (w.cell? ⟨d.CB, i, none⟩).isSome = true
  frB : ∀ o, w.frozen? ⟨d.BB, o, none⟩ = false
  frC : ∀ o, w.frozen? ⟨d.CB, o, none⟩ = false
  dist : [F, d.R, d.HB, d.BB, d.CB].Nodup
  far : ∀ a, d.base = some a → a.block ∉ [F, d.R, d.HB, d.BB, d.CB]

section
variable {w w' : World} {F : Nat} {d : DS}

theorem Dec.drewN (h : Dec w F d) (n : Nat) : Dec (w.drewN n) F d := ⟨h.r, h.rBuf, h.roff, h.b, h.nb, h.bits, h.cbits, h.hist, h.wr, h.rd, h.full, h.u0, h.u1, h.u2, h.u3, h.step, h.ss, h.fin, h.err, h.toRead, h.hl, h.hd, h.cl, h.cd, h.tl, h.fr, ⟨h.so.s, h.so.p, h.so.fr, h.so.le, h.so.few, h.so.ne⟩, h.win, h.frH, h.bb, h.cb, h.frB, h.frC, h.dist, h.far⟩
theorem Dec.drew (h : Dec w F d) : Dec w.drew F d := ⟨h.r, h.rBuf, h.roff, h.b, h.nb, h.bits, h.cbits, h.hist, h.wr, h.rd, h.full, h.u0, h.u1, h.u2, h.u3, h.step, h.ss, h.fin, h.err, h.toRead, h.hl, h.hd, h.cl, h.cd, h.tl, h.fr, ⟨h.so.s, h.so.p, h.so.fr, h.so.le, h.so.few, h.so.ne⟩, h.win, h.frH, h.bb, h.cb, h.frB, h.frC, h.dist, h.far⟩

theorem Dec.lt (h : Dec w F d) : F < w.heap.size := cell_lt h.r
theorem Dec.neRF (h : Dec w F d) : d.R ≠ F := by have := h.dist; simp at this; omega
theorem Dec.neHF (h : Dec w F d) : d.HB ≠ F := by have := h.dist; simp at this; omega
theorem Dec.neBF (h : Dec w F d) : d.BB ≠ F := by have := h.dist; simp at this; omega
theorem Dec.neCF (h : Dec w F d) : d.CB ≠ F := by have := h.dist; simp at this; omega
theorem Dec.neRH (h : Dec w F d) : d.R ≠ d.HB := by have := h.dist; simp at this; omega
theorem Dec.neRB (h : Dec w F d) : d.R ≠ d.BB := by have := h.dist; simp at this; omega
theorem Dec.neRC (h : Dec w F d) : d.R ≠ d.CB := by have := h.dist; simp at this; omega
theorem Dec.neHB (h : Dec w F d) : d.HB ≠ d.BB := by have := h.dist; simp at this; omega
theorem Dec.neHC (h : Dec w F d) : d.HB ≠ d.CB := by have := h.dist; simp at this; omega
theorem Dec.neBC (h : Dec w F d) : d.BB ≠ d.CB := by have := h.dist; simp at this; omega

/-- What a call that may turn S alone leaves of it: all, if S keeps away from it. -/
theorem Dec.keep {S : Nat → Nat → Prop} (h : Dec w F d) (hf : Frm S w w') (hF : ∀ o, S F o → 5 ≤ o ∧ o < 1035) (hR : ∀ o, ¬ S d.R o) (hH : ∀ o, ¬ S d.HB o)
    (hs : ∀ a, d.base = some a → ∀ j : Nat, 0 ≤ j → ¬ S a.block (a.off + j)) : Dec w' F d := by
  have k : ∀ {o : Nat} {v : Value}, w.cell? ⟨F, o, none⟩ = some v → (o < 5 ∨ 1035 ≤ o) → w'.cell? ⟨F, o, none⟩ = some v := fun hc ho => hf.keep hc (fun x => by have := hF _ x; omega)
  have hlt := h.lt
  have hH0 := cell_lt (h.win 0 (by omega))
  have hB0 : d.BB < w.heap.size := by obtain ⟨v, hv⟩ := Option.isSome_iff_exists.1 (h.bb 0 (by omega)); exact cell_lt hv
  have hC0 : d.CB < w.heap.size := by obtain ⟨v, hv⟩ := Option.isSome_iff_exists.1 (h.cb 0 (by omega)); exact cell_lt hv
  exact ⟨k h.r (by omega), k h.rBuf (by omega), k h.roff (by omega), k h.b (by omega), k h.nb (by omega), k h.bits (by omega), k h.cbits (by omega), k h.hist (by omega), k h.wr (by omega), k h.rd (by omega), k h.full (by omega), k h.u0 (by omega), k h.u1 (by omega), k h.u2 (by omega), k h.u3 (by omega), k h.step (by omega), k h.ss (by omega), k h.fin (by omega), k h.err (by omega), k h.toRead (by omega), k h.hl (by omega), k h.hd (by omega), k h.cl (by omega), k h.cd (by omega), fun o h1 h2 => (hf.live F o hlt).trans (h.tl o h1 h2), fun o => (hf.froz F o hlt).trans (h.fr o), h.so.keep hf hR hs, fun i hi => hf.keep (h.win i hi) (hH i), fun o => (hf.froz _ o hH0).trans (h.frH o), fun i hi => (hf.live _ i hB0).trans (h.bb i hi), fun i hi => (hf.live _ i hC0).trans (h.cb i hi), fun o => (hf.froz _ o hB0).trans (h.frB o), fun o => (hf.froz _ o hC0).trans (h.frC o), h.dist, h.far⟩

theorem Dec.away (h : Dec w F d) {k : Nat} {v : Value} : Src (w.setCell ⟨F, k, none⟩ v) d.R d.base d.src d.pos :=
  h.so.keep (S := fun b _ => b = F) ((Frm.refl _ _).setCell (.inl rfl) _) (fun _ e => h.neRF e) (fun a ha j _ e => h.far a ha (by rw [e]; simp))

theorem Dec.set_roff (h : Dec w F d) (x : Nat) : Dec (w.setCell ⟨F, 2, none⟩ (.int .i64 (x : Int))) F { d with roff := x } :=
  ⟨(cell_set_off (by decide)).trans h.r,
   (cell_set_off (by decide)).trans h.rBuf,
   set_get h.roff,
   (cell_set_off (by decide)).trans h.b,
   (cell_set_off (by decide)).trans h.nb,
   (cell_set_off (by decide)).trans h.bits,
   (cell_set_off (by decide)).trans h.cbits,
   (cell_set_off (by decide)).trans h.hist,
   (cell_set_off (by decide)).trans h.wr,
   (cell_set_off (by decide)).trans h.rd,
   (cell_set_off (by decide)).trans h.full,
   (cell_set_off (by decide)).trans h.u0,
   (cell_set_off (by decide)).trans h.u1,
   (cell_set_off (by decide)).trans h.u2,
   (cell_set_off (by decide)).trans h.u3,
   (cell_set_off (by decide)).trans h.step,
   (cell_set_off (by decide)).trans h.ss,
   (cell_set_off (by decide)).trans h.fin,
   (cell_set_off (by decide)).trans h.err,
   (cell_set_off (by decide)).trans h.toRead,
   (cell_set_off (by decide)).trans h.hl,
   (cell_set_off (by decide)).trans h.hd,
   (cell_set_off (by decide)).trans h.cl,
   (cell_set_off (by decide)).trans h.cd,
   fun o h1 h2 => (live_setCell _ _ _ _).trans (h.tl o h1 h2),
   fun o => (World.frozen?_setCell _ _ _ _).trans (h.fr o),
   h.away,
   fun i hi => (cell_set_ne (.inl h.neHF)).trans (h.win i hi),
   fun o => (World.frozen?_setCell _ _ _ _).trans (h.frH o),
   fun i hi => (live_setCell _ _ _ _).trans (h.bb i hi),
   fun i hi => (live_setCell _ _ _ _).trans (h.cb i hi),
   fun o => (World.frozen?_setCell _ _ _ _).trans (h.frB o),
   fun o => (World.frozen?_setCell _ _ _ _).trans (h.frC o),
   h.dist,
   h.far⟩
theorem Dec.set_b (h : Dec w F d) (x : Nat) : Dec (w.setCell ⟨F, 3, none⟩ (.int .u32 (x : Int))) F { d with b := x } :=
  ⟨(cell_set_off (by decide)).trans h.r,
   (cell_set_off (by decide)).trans h.rBuf,
   (cell_set_off (by decide)).trans h.roff,
   set_get h.b,
   (cell_set_off (by decide)).trans h.nb,
   (cell_set_off (by decide)).trans h.bits,
   (cell_set_off (by decide)).trans h.cbits,
   (cell_set_off (by decide)).trans h.hist,
   (cell_set_off (by decide)).trans h.wr,
   (cell_set_off (by decide)).trans h.rd,
   (cell_set_off (by decide)).trans h.full,
   (cell_set_off (by decide)).trans h.u0,
   (cell_set_off (by decide)).trans h.u1,
   (cell_set_off (by decide)).trans h.u2,
   (cell_set_off (by decide)).trans h.u3,
   (cell_set_off (by decide)).trans h.step,
   (cell_set_off (by decide)).trans h.ss,
   (cell_set_off (by decide)).trans h.fin,
   (cell_set_off (by decide)).trans h.err,
   (cell_set_off (by decide)).trans h.toRead,
   (cell_set_off (by decide)).trans h.hl,
   (cell_set_off (by decide)).trans h.hd,
   (cell_set_off (by decide)).trans h.cl,
   (cell_set_off (by decide)).trans h.cd,
   fun o h1 h2 => (live_setCell _ _ _ _).trans (h.tl o h1 h2),
   fun o => (World.frozen?_setCell _ _ _ _).trans (h.fr o),
   h.away,
   fun i hi => (cell_set_ne (.inl h.neHF)).trans (h.win i hi),
   fun o => (World.frozen?_setCell _ _ _ _).trans (h.frH o),
   fun i hi => (live_setCell _ _ _ _).trans (h.bb i hi),
   fun i hi => (live_setCell _ _ _ _).trans (h.cb i hi),
   fun o => (World.frozen?_setCell _ _ _ _).trans (h.frB o),
   fun o => (World.frozen?_setCell _ _ _ _).trans (h.frC o),
   h.dist,
   h.far⟩
theorem Dec.set_nb (h : Dec w F d) (x : Nat) : Dec (w.setCell ⟨F, 4, none⟩ (.int .u64 (x : Int))) F { d with nb := x } :=
  ⟨(cell_set_off (by decide)).trans h.r,
   (cell_set_off (by decide)).trans h.rBuf,
   (cell_set_off (by decide)).trans h.roff,
   (cell_set_off (by decide)).trans h.b,
   set_get h.nb,
   (cell_set_off (by decide)).trans h.bits,
   (cell_set_off (by decide)).trans h.cbits,
   (cell_set_off (by decide)).trans h.hist,
   (cell_set_off (by decide)).trans h.wr,
   (cell_set_off (by decide)).trans h.rd,
   (cell_set_off (by decide)).trans h.full,
   (cell_set_off (by decide)).trans h.u0,
   (cell_set_off (by decide)).trans h.u1,
   (cell_set_off (by decide)).trans h.u2,
   (cell_set_off (by decide)).trans h.u3,
   (cell_set_off (by decide)).trans h.step,
   (cell_set_off (by decide)).trans h.ss,
   (cell_set_off (by decide)).trans h.fin,
   (cell_set_off (by decide)).trans h.err,
   (cell_set_off (by decide)).trans h.toRead,
   (cell_set_off (by decide)).trans h.hl,
   (cell_set_off (by decide)).trans h.hd,
   (cell_set_off (by decide)).trans h.cl,
   (cell_set_off (by decide)).trans h.cd,
   fun o h1 h2 => (live_setCell _ _ _ _).trans (h.tl o h1 h2),
   fun o => (World.frozen?_setCell _ _ _ _).trans (h.fr o),
   h.away,
   fun i hi => (cell_set_ne (.inl h.neHF)).trans (h.win i hi),
   fun o => (World.frozen?_setCell _ _ _ _).trans (h.frH o),
   fun i hi => (live_setCell _ _ _ _).trans (h.bb i hi),
   fun i hi => (live_setCell _ _ _ _).trans (h.cb i hi),
   fun o => (World.frozen?_setCell _ _ _ _).trans (h.frB o),
   fun o => (World.frozen?_setCell _ _ _ _).trans (h.frC o),
   h.dist,
   h.far⟩
theorem Dec.set_wr (h : Dec w F d) (x : Nat) : Dec (w.setCell ⟨F, 1038, none⟩ (.int .i64 (x : Int))) F { d with wr := x } :=
  ⟨(cell_set_off (by decide)).trans h.r,
   (cell_set_off (by decide)).trans h.rBuf,
   (cell_set_off (by decide)).trans h.roff,
   (cell_set_off (by decide)).trans h.b,
   (cell_set_off (by decide)).trans h.nb,
   (cell_set_off (by decide)).trans h.bits,
   (cell_set_off (by decide)).trans h.cbits,
   (cell_set_off (by decide)).trans h.hist,
   set_get h.wr,
   (cell_set_off (by decide)).trans h.rd,
   (cell_set_off (by decide)).trans h.full,
   (cell_set_off (by decide)).trans h.u0,
   (cell_set_off (by decide)).trans h.u1,
   (cell_set_off (by decide)).trans h.u2,
   (cell_set_off (by decide)).trans h.u3,
   (cell_set_off (by decide)).trans h.step,
   (cell_set_off (by decide)).trans h.ss,
   (cell_set_off (by decide)).trans h.fin,
   (cell_set_off (by decide)).trans h.err,
   (cell_set_off (by decide)).trans h.toRead,
   (cell_set_off (by decide)).trans h.hl,
   (cell_set_off (by decide)).trans h.hd,
   (cell_set_off (by decide)).trans h.cl,
   (cell_set_off (by decide)).trans h.cd,
   fun o h1 h2 => (live_setCell _ _ _ _).trans (h.tl o h1 h2),
   fun o => (World.frozen?_setCell _ _ _ _).trans (h.fr o),
   h.away,
   fun i hi => (cell_set_ne (.inl h.neHF)).trans (h.win i hi),
   fun o => (World.frozen?_setCell _ _ _ _).trans (h.frH o),
   fun i hi => (live_setCell _ _ _ _).trans (h.bb i hi),
   fun i hi => (live_setCell _ _ _ _).trans (h.cb i hi),
   fun o => (World.frozen?_setCell _ _ _ _).trans (h.frB o),
   fun o => (World.frozen?_setCell _ _ _ _).trans (h.frC o),
   h.dist,
   h.far⟩
theorem Dec.set_rd (h : Dec w F d) (x : Nat) : Dec (w.setCell ⟨F, 1039, none⟩ (.int .i64 (x : Int))) F { d with rd := x } :=
  ⟨(cell_set_off (by decide)).trans h.r,
   (cell_set_off (by decide)).trans h.rBuf,
   (cell_set_off (by decide)).trans h.roff,
   (cell_set_off (by decide)).trans h.b,
   (cell_set_off (by decide)).trans h.nb,
   (cell_set_off (by decide)).trans h.bits,
   (cell_set_off (by decide)).trans h.cbits,
   (cell_set_off (by decide)).trans h.hist,
   (cell_set_off (by decide)).trans h.wr,
   set_get h.rd,
   (cell_set_off (by decide)).trans h.full,
   (cell_set_off (by decide)).trans h.u0,
   (cell_set_off (by decide)).trans h.u1,
   (cell_set_off (by decide)).trans h.u2,
   (cell_set_off (by decide)).trans h.u3,
   (cell_set_off (by decide)).trans h.step,
   (cell_set_off (by decide)).trans h.ss,
   (cell_set_off (by decide)).trans h.fin,
   (cell_set_off (by decide)).trans h.err,
   (cell_set_off (by decide)).trans h.toRead,
   (cell_set_off (by decide)).trans h.hl,
   (cell_set_off (by decide)).trans h.hd,
   (cell_set_off (by decide)).trans h.cl,
   (cell_set_off (by decide)).trans h.cd,
   fun o h1 h2 => (live_setCell _ _ _ _).trans (h.tl o h1 h2),
   fun o => (World.frozen?_setCell _ _ _ _).trans (h.fr o),
   h.away,
   fun i hi => (cell_set_ne (.inl h.neHF)).trans (h.win i hi),
   fun o => (World.frozen?_setCell _ _ _ _).trans (h.frH o),
   fun i hi => (live_setCell _ _ _ _).trans (h.bb i hi),
   fun i hi => (live_setCell _ _ _ _).trans (h.cb i hi),
   fun o => (World.frozen?_setCell _ _ _ _).trans (h.frB o),
   fun o => (World.frozen?_setCell _ _ _ _).trans (h.frC o),
   h.dist,
   h.far⟩
theorem Dec.set_full (h : Dec w F d) (x : Bool) : Dec (w.setCell ⟨F, 1040, none⟩ (.bool x)) F { d with full := x } :=
  ⟨(cell_set_off (by decide)).trans h.r,
   (cell_set_off (by decide)).trans h.rBuf,
   (cell_set_off (by decide)).trans h.roff,
   (cell_set_off (by decide)).trans h.b,
   (cell_set_off (by decide)).trans h.nb,
   (cell_set_off (by decide)).trans h.bits,
   (cell_set_off (by decide)).trans h.cbits,
   (cell_set_off (by decide)).trans h.hist,
   (cell_set_off (by decide)).trans h.wr,
   (cell_set_off (by decide)).trans h.rd,
   set_get h.full,
   (cell_set_off (by decide)).trans h.u0,
   (cell_set_off (by decide)).trans h.u1,
   (cell_set_off (by decide)).trans h.u2,
   (cell_set_off (by decide)).trans h.u3,
   (cell_set_off (by decide)).trans h.step,
   (cell_set_off (by decide)).trans h.ss,
   (cell_set_off (by decide)).trans h.fin,
   (cell_set_off (by decide)).trans h.err,
   (cell_set_off (by decide)).trans h.toRead,
   (cell_set_off (by decide)).trans h.hl,
   (cell_set_off (by decide)).trans h.hd,
   (cell_set_off (by decide)).trans h.cl,
   (cell_set_off (by decide)).trans h.cd,
   fun o h1 h2 => (live_setCell _ _ _ _).trans (h.tl o h1 h2),
   fun o => (World.frozen?_setCell _ _ _ _).trans (h.fr o),
   h.away,
   fun i hi => (cell_set_ne (.inl h.neHF)).trans (h.win i hi),
   fun o => (World.frozen?_setCell _ _ _ _).trans (h.frH o),
   fun i hi => (live_setCell _ _ _ _).trans (h.bb i hi),
   fun i hi => (live_setCell _ _ _ _).trans (h.cb i hi),
   fun o => (World.frozen?_setCell _ _ _ _).trans (h.frB o),
   fun o => (World.frozen?_setCell _ _ _ _).trans (h.frC o),
   h.dist,
   h.far⟩
theorem Dec.set_u0 (h : Dec w F d) (x : UInt8) : Dec (w.setCell ⟨F, 1041, none⟩ (.int .u8 (x.toNat : Int))) F { d with u0 := x } :=
  ⟨(cell_set_off (by decide)).trans h.r,
   (cell_set_off (by decide)).trans h.rBuf,
   (cell_set_off (by decide)).trans h.roff,
   (cell_set_off (by decide)).trans h.b,
   (cell_set_off (by decide)).trans h.nb,
   (cell_set_off (by decide)).trans h.bits,
   (cell_set_off (by decide)).trans h.cbits,
   (cell_set_off (by decide)).trans h.hist,
   (cell_set_off (by decide)).trans h.wr,
   (cell_set_off (by decide)).trans h.rd,
   (cell_set_off (by decide)).trans h.full,
   set_get h.u0,
   (cell_set_off (by decide)).trans h.u1,
   (cell_set_off (by decide)).trans h.u2,
   (cell_set_off (by decide)).trans h.u3,
   (cell_set_off (by decide)).trans h.step,
   (cell_set_off (by decide)).trans h.ss,
   (cell_set_off (by decide)).trans h.fin,
   (cell_set_off (by decide)).trans h.err,
   (cell_set_off (by decide)).trans h.toRead,
   (cell_set_off (by decide)).trans h.hl,
   (cell_set_off (by decide)).trans h.hd,
   (cell_set_off (by decide)).trans h.cl,
   (cell_set_off (by decide)).trans h.cd,
   fun o h1 h2 => (live_setCell _ _ _ _).trans (h.tl o h1 h2),
   fun o => (World.frozen?_setCell _ _ _ _).trans (h.fr o),
   h.away,
   fun i hi => (cell_set_ne (.inl h.neHF)).trans (h.win i hi),
   fun o => (World.frozen?_setCell _ _ _ _).trans (h.frH o),
   fun i hi => (live_setCell _ _ _ _).trans (h.bb i hi),
   fun i hi => (live_setCell _ _ _ _).trans (h.cb i hi),
   fun o => (World.frozen?_setCell _ _ _ _).trans (h.frB o),
   fun o => (World.frozen?_setCell _ _ _ _).trans (h.frC o),
   h.dist,
   h.far⟩
theorem Dec.set_u1 (h : Dec w F d) (x : UInt8) : Dec (w.setCell ⟨F, 1042, none⟩ (.int .u8 (x.toNat : Int))) F { d with u1 := x } :=
  ⟨(cell_set_off (by decide)).trans h.r,
   (cell_set_off (by decide)).trans h.rBuf,
   (cell_set_off (by decide)).trans h.roff,
   (cell_set_off (by decide)).trans h.b,
   (cell_set_off (by decide)).trans h.nb,
   (cell_set_off (by decide)).trans h.bits,
   (cell_set_off (by decide)).trans h.cbits,
   (cell_set_off (by decide)).trans h.hist,
   (cell_set_off (by decide)).trans h.wr,
   (cell_set_off (by decide)).trans h.rd,
   (cell_set_off (by decide)).trans h.full,
   (cell_set_off (by decide)).trans h.u0,
   set_get h.u1,
   (cell_set_off (by decide)).trans h.u2,
   (cell_set_off (by decide)).trans h.u3,
   (cell_set_off (by decide)).trans h.step,
   (cell_set_off (by decide)).trans h.ss,
   (cell_set_off (by decide)).trans h.fin,
   (cell_set_off (by decide)).trans h.err,
   (cell_set_off (by decide)).trans h.toRead,
   (cell_set_off (by decide)).trans h.hl,
   (cell_set_off (by decide)).trans h.hd,
   (cell_set_off (by decide)).trans h.cl,
   (cell_set_off (by decide)).trans h.cd,
   fun o h1 h2 => (live_setCell _ _ _ _).trans (h.tl o h1 h2),
   fun o => (World.frozen?_setCell _ _ _ _).trans (h.fr o),
   h.away,
   fun i hi => (cell_set_ne (.inl h.neHF)).trans (h.win i hi),
   fun o => (World.frozen?_setCell _ _ _ _).trans (h.frH o),
   fun i hi => (live_setCell _ _ _ _).trans (h.bb i hi),
   fun i hi => (live_setCell _ _ _ _).trans (h.cb i hi),
   fun o => (World.frozen?_setCell _ _ _ _).trans (h.frB o),
   fun o => (World.frozen?_setCell _ _ _ _).trans (h.frC o),
   h.dist,
   h.far⟩
theorem Dec.set_u2 (h : Dec w F d) (x : UInt8) : Dec (w.setCell ⟨F, 1043, none⟩ (.int .u8 (x.toNat : Int))) F { d with u2 := x } :=
  ⟨(cell_set_off (by decide)).trans h.r,
   (cell_set_off (by decide)).trans h.rBuf,
   (cell_set_off (by decide)).trans h.roff,
   (cell_set_off (by decide)).trans h.b,
   (cell_set_off (by decide)).trans h.nb,
   (cell_set_off (by decide)).trans h.bits,
   (cell_set_off (by decide)).trans h.cbits,
   (cell_set_off (by decide)).trans h.hist,
   (cell_set_off (by decide)).trans h.wr,
   (cell_set_off (by decide)).trans h.rd,
   (cell_set_off (by decide)).trans h.full,
   (cell_set_off (by decide)).trans h.u0,
   (cell_set_off (by decide)).trans h.u1,
   set_get h.u2,
   (cell_set_off (by decide)).trans h.u3,
   (cell_set_off (by decide)).trans h.step,
   (cell_set_off (by decide)).trans h.ss,
   (cell_set_off (by decide)).trans h.fin,
   (cell_set_off (by decide)).trans h.err,
   (cell_set_off (by decide)).trans h.toRead,
   (cell_set_off (by decide)).trans h.hl,
   (cell_set_off (by decide)).trans h.hd,
   (cell_set_off (by decide)).trans h.cl,
   (cell_set_off (by decide)).trans h.cd,
   fun o h1 h2 => (live_setCell _ _ _ _).trans (h.tl o h1 h2),
   fun o => (World.frozen?_setCell _ _ _ _).trans (h.fr o),
   h.away,
   fun i hi => (cell_set_ne (.inl h.neHF)).trans (h.win i hi),
   fun o => (World.frozen?_setCell _ _ _ _).trans (h.frH o),
   fun i hi => (live_setCell _ _ _ _).trans (h.bb i hi),
   fun i hi => (live_setCell _ _ _ _).trans (h.cb i hi),
   fun o => (World.frozen?_setCell _ _ _ _).trans (h.frB o),
   fun o => (World.frozen?_setCell _ _ _ _).trans (h.frC o),
   h.dist,
   h.far⟩
theorem Dec.set_u3 (h : Dec w F d) (x : UInt8) : Dec (w.setCell ⟨F, 1044, none⟩ (.int .u8 (x.toNat : Int))) F { d with u3 := x } :=
  ⟨(cell_set_off (by decide)).trans h.r,
   (cell_set_off (by decide)).trans h.rBuf,
   (cell_set_off (by decide)).trans h.roff,
   (cell_set_off (by decide)).trans h.b,
   (cell_set_off (by decide)).trans h.nb,
   (cell_set_off (by decide)).trans h.bits,
   (cell_set_off (by decide)).trans h.cbits,
   (cell_set_off (by decide)).trans h.hist,
   (cell_set_off (by decide)).trans h.wr,
   (cell_set_off (by decide)).trans h.rd,
   (cell_set_off (by decide)).trans h.full,
   (cell_set_off (by decide)).trans h.u0,
   (cell_set_off (by decide)).trans h.u1,
   (cell_set_off (by decide)).trans h.u2,
   set_get h.u3,
   (cell_set_off (by decide)).trans h.step,
   (cell_set_off (by decide)).trans h.ss,
   (cell_set_off (by decide)).trans h.fin,
   (cell_set_off (by decide)).trans h.err,
   (cell_set_off (by decide)).trans h.toRead,
   (cell_set_off (by decide)).trans h.hl,
   (cell_set_off (by decide)).trans h.hd,
   (cell_set_off (by decide)).trans h.cl,
   (cell_set_off (by decide)).trans h.cd,
   fun o h1 h2 => (live_setCell _ _ _ _).trans (h.tl o h1 h2),
   fun o => (World.frozen?_setCell _ _ _ _).trans (h.fr o),
   h.away,
   fun i hi => (cell_set_ne (.inl h.neHF)).trans (h.win i hi),
   fun o => (World.frozen?_setCell _ _ _ _).trans (h.frH o),
   fun i hi => (live_setCell _ _ _ _).trans (h.bb i hi),
   fun i hi => (live_setCell _ _ _ _).trans (h.cb i hi),
   fun o => (World.frozen?_setCell _ _ _ _).trans (h.frB o),
   fun o => (World.frozen?_setCell _ _ _ _).trans (h.frC o),
   h.dist,
   h.far⟩
theorem Dec.set_step (h : Dec w F d) (x : Value) : Dec (w.setCell ⟨F, 1045, none⟩ (x)) F { d with step := x } :=
  ⟨(cell_set_off (by decide)).trans h.r,
   (cell_set_off (by decide)).trans h.rBuf,
   (cell_set_off (by decide)).trans h.roff,
   (cell_set_off (by decide)).trans h.b,
   (cell_set_off (by decide)).trans h.nb,
   (cell_set_off (by decide)).trans h.bits,
   (cell_set_off (by decide)).trans h.cbits,
   (cell_set_off (by decide)).trans h.hist,
   (cell_set_off (by decide)).trans h.wr,
   (cell_set_off (by decide)).trans h.rd,
   (cell_set_off (by decide)).trans h.full,
   (cell_set_off (by decide)).trans h.u0,
   (cell_set_off (by decide)).trans h.u1,
   (cell_set_off (by decide)).trans h.u2,
   (cell_set_off (by decide)).trans h.u3,
   set_get h.step,
   (cell_set_off (by decide)).trans h.ss,
   (cell_set_off (by decide)).trans h.fin,
   (cell_set_off (by decide)).trans h.err,
   (cell_set_off (by decide)).trans h.toRead,
   (cell_set_off (by decide)).trans h.hl,
   (cell_set_off (by decide)).trans h.hd,
   (cell_set_off (by decide)).trans h.cl,
   (cell_set_off (by decide)).trans h.cd,
   fun o h1 h2 => (live_setCell _ _ _ _).trans (h.tl o h1 h2),
   fun o => (World.frozen?_setCell _ _ _ _).trans (h.fr o),
   h.away,
   fun i hi => (cell_set_ne (.inl h.neHF)).trans (h.win i hi),
   fun o => (World.frozen?_setCell _ _ _ _).trans (h.frH o),
   fun i hi => (live_setCell _ _ _ _).trans (h.bb i hi),
   fun i hi => (live_setCell _ _ _ _).trans (h.cb i hi),
   fun o => (World.frozen?_setCell _ _ _ _).trans (h.frB o),
   fun o => (World.frozen?_setCell _ _ _ _).trans (h.frC o),
   h.dist,
   h.far⟩
theorem Dec.set_ss (h : Dec w F d) (x : Int) : Dec (w.setCell ⟨F, 1046, none⟩ (.int .i64 x)) F { d with ss := x } :=
  ⟨(cell_set_off (by decide)).trans h.r,
   (cell_set_off (by decide)).trans h.rBuf,
   (cell_set_off (by decide)).trans h.roff,
   (cell_set_off (by decide)).trans h.b,
   (cell_set_off (by decide)).trans h.nb,
   (cell_set_off (by decide)).trans h.bits,
   (cell_set_off (by decide)).trans h.cbits,
   (cell_set_off (by decide)).trans h.hist,
   (cell_set_off (by decide)).trans h.wr,
   (cell_set_off (by decide)).trans h.rd,
   (cell_set_off (by decide)).trans h.full,
   (cell_set_off (by decide)).trans h.u0,
   (cell_set_off (by decide)).trans h.u1,
   (cell_set_off (by decide)).trans h.u2,
   (cell_set_off (by decide)).trans h.u3,
   (cell_set_off (by decide)).trans h.step,
   set_get h.ss,
   (cell_set_off (by decide)).trans h.fin,
   (cell_set_off (by decide)).trans h.err,
   (cell_set_off (by decide)).trans h.toRead,
   (cell_set_off (by decide)).trans h.hl,
   (cell_set_off (by decide)).trans h.hd,
   (cell_set_off (by decide)).trans h.cl,
   (cell_set_off (by decide)).trans h.cd,
   fun o h1 h2 => (live_setCell _ _ _ _).trans (h.tl o h1 h2),
   fun o => (World.frozen?_setCell _ _ _ _).trans (h.fr o),
   h.away,
   fun i hi => (cell_set_ne (.inl h.neHF)).trans (h.win i hi),
   fun o => (World.frozen?_setCell _ _ _ _).trans (h.frH o),
   fun i hi => (live_setCell _ _ _ _).trans (h.bb i hi),
   fun i hi => (live_setCell _ _ _ _).trans (h.cb i hi),
   fun o => (World.frozen?_setCell _ _ _ _).trans (h.frB o),
   fun o => (World.frozen?_setCell _ _ _ _).trans (h.frC o),
   h.dist,
   h.far⟩
theorem Dec.set_fin (h : Dec w F d) (x : Bool) : Dec (w.setCell ⟨F, 1047, none⟩ (.bool x)) F { d with fin := x } :=
  ⟨(cell_set_off (by decide)).trans h.r,
   (cell_set_off (by decide)).trans h.rBuf,
   (cell_set_off (by decide)).trans h.roff,
   (cell_set_off (by decide)).trans h.b,
   (cell_set_off (by decide)).trans h.nb,
   (cell_set_off (by decide)).trans h.bits,
   (cell_set_off (by decide)).trans h.cbits,
   (cell_set_off (by decide)).trans h.hist,
   (cell_set_off (by decide)).trans h.wr,
   (cell_set_off (by decide)).trans h.rd,
   (cell_set_off (by decide)).trans h.full,
   (cell_set_off (by decide)).trans h.u0,
   (cell_set_off (by decide)).trans h.u1,
   (cell_set_off (by decide)).trans h.u2,
   (cell_set_off (by decide)).trans h.u3,
   (cell_set_off (by decide)).trans h.step,
   (cell_set_off (by decide)).trans h.ss,
   set_get h.fin,
   (cell_set_off (by decide)).trans h.err,
   (cell_set_off (by decide)).trans h.toRead,
   (cell_set_off (by decide)).trans h.hl,
   (cell_set_off (by decide)).trans h.hd,
   (cell_set_off (by decide)).trans h.cl,
   (cell_set_off (by decide)).trans h.cd,
   fun o h1 h2 => (live_setCell _ _ _ _).trans (h.tl o h1 h2),
   fun o => (World.frozen?_setCell _ _ _ _).trans (h.fr o),
   h.away,
   fun i hi => (cell_set_ne (.inl h.neHF)).trans (h.win i hi),
   fun o => (World.frozen?_setCell _ _ _ _).trans (h.frH o),
   fun i hi => (live_setCell _ _ _ _).trans (h.bb i hi),
   fun i hi => (live_setCell _ _ _ _).trans (h.cb i hi),
   fun o => (World.frozen?_setCell _ _ _ _).trans (h.frB o),
   fun o => (World.frozen?_setCell _ _ _ _).trans (h.frC o),
   h.dist,
   h.far⟩
theorem Dec.set_err (h : Dec w F d) (x : Value) : Dec (w.setCell ⟨F, 1048, none⟩ (x)) F { d with err := x } :=
  ⟨(cell_set_off (by decide)).trans h.r,
   (cell_set_off (by decide)).trans h.rBuf,
   (cell_set_off (by decide)).trans h.roff,
   (cell_set_off (by decide)).trans h.b,
   (cell_set_off (by decide)).trans h.nb,
   (cell_set_off (by decide)).trans h.bits,
   (cell_set_off (by decide)).trans h.cbits,
   (cell_set_off (by decide)).trans h.hist,
   (cell_set_off (by decide)).trans h.wr,
   (cell_set_off (by decide)).trans h.rd,
   (cell_set_off (by decide)).trans h.full,
   (cell_set_off (by decide)).trans h.u0,
   (cell_set_off (by decide)).trans h.u1,
   (cell_set_off (by decide)).trans h.u2,
   (cell_set_off (by decide)).trans h.u3,
   (cell_set_off (by decide)).trans h.step,
   (cell_set_off (by decide)).trans h.ss,
   (cell_set_off (by decide)).trans h.fin,
   set_get h.err,
   (cell_set_off (by decide)).trans h.toRead,
   (cell_set_off (by decide)).trans h.hl,
   (cell_set_off (by decide)).trans h.hd,
   (cell_set_off (by decide)).trans h.cl,
   (cell_set_off (by decide)).trans h.cd,
   fun o h1 h2 => (live_setCell _ _ _ _).trans (h.tl o h1 h2),
   fun o => (World.frozen?_setCell _ _ _ _).trans (h.fr o),
   h.away,
   fun i hi => (cell_set_ne (.inl h.neHF)).trans (h.win i hi),
   fun o => (World.frozen?_setCell _ _ _ _).trans (h.frH o),
   fun i hi => (live_setCell _ _ _ _).trans (h.bb i hi),
   fun i hi => (live_setCell _ _ _ _).trans (h.cb i hi),
   fun o => (World.frozen?_setCell _ _ _ _).trans (h.frB o),
   fun o => (World.frozen?_setCell _ _ _ _).trans (h.frC o),
   h.dist,
   h.far⟩
theorem Dec.set_toRead (h : Dec w F d) (x : Value) : Dec (w.setCell ⟨F, 1049, none⟩ (x)) F { d with toRead := x } :=
  ⟨(cell_set_off (by decide)).trans h.r,
   (cell_set_off (by decide)).trans h.rBuf,
   (cell_set_off (by decide)).trans h.roff,
   (cell_set_off (by decide)).trans h.b,
   (cell_set_off (by decide)).trans h.nb,
   (cell_set_off (by decide)).trans h.bits,
   (cell_set_off (by decide)).trans h.cbits,
   (cell_set_off (by decide)).trans h.hist,
   (cell_set_off (by decide)).trans h.wr,
   (cell_set_off (by decide)).trans h.rd,
   (cell_set_off (by decide)).trans h.full,
   (cell_set_off (by decide)).trans h.u0,
   (cell_set_off (by decide)).trans h.u1,
   (cell_set_off (by decide)).trans h.u2,
   (cell_set_off (by decide)).trans h.u3,
   (cell_set_off (by decide)).trans h.step,
   (cell_set_off (by decide)).trans h.ss,
   (cell_set_off (by decide)).trans h.fin,
   (cell_set_off (by decide)).trans h.err,
   set_get h.toRead,
   (cell_set_off (by decide)).trans h.hl,
   (cell_set_off (by decide)).trans h.hd,
   (cell_set_off (by decide)).trans h.cl,
   (cell_set_off (by decide)).trans h.cd,
   fun o h1 h2 => (live_setCell _ _ _ _).trans (h.tl o h1 h2),
   fun o => (World.frozen?_setCell _ _ _ _).trans (h.fr o),
   h.away,
   fun i hi => (cell_set_ne (.inl h.neHF)).trans (h.win i hi),
   fun o => (World.frozen?_setCell _ _ _ _).trans (h.frH o),
   fun i hi => (live_setCell _ _ _ _).trans (h.bb i hi),
   fun i hi => (live_setCell _ _ _ _).trans (h.cb i hi),
   fun o => (World.frozen?_setCell _ _ _ _).trans (h.frB o),
   fun o => (World.frozen?_setCell _ _ _ _).trans (h.frC o),
   h.dist,
   h.far⟩
theorem Dec.set_hl (h : Dec w F d) (x : Value) : Dec (w.setCell ⟨F, 1050, none⟩ (x)) F { d with hl := x } :=
  ⟨(cell_set_off (by decide)).trans h.r,
   (cell_set_off (by decide)).trans h.rBuf,
   (cell_set_off (by decide)).trans h.roff,
   (cell_set_off (by decide)).trans h.b,
   (cell_set_off (by decide)).trans h.nb,
   (cell_set_off (by decide)).trans h.bits,
   (cell_set_off (by decide)).trans h.cbits,
   (cell_set_off (by decide)).trans h.hist,
   (cell_set_off (by decide)).trans h.wr,
   (cell_set_off (by decide)).trans h.rd,
   (cell_set_off (by decide)).trans h.full,
   (cell_set_off (by decide)).trans h.u0,
   (cell_set_off (by decide)).trans h.u1,
   (cell_set_off (by decide)).trans h.u2,
   (cell_set_off (by decide)).trans h.u3,
   (cell_set_off (by decide)).trans h.step,
   (cell_set_off (by decide)).trans h.ss,
   (cell_set_off (by decide)).trans h.fin,
   (cell_set_off (by decide)).trans h.err,
   (cell_set_off (by decide)).trans h.toRead,
   set_get h.hl,
   (cell_set_off (by decide)).trans h.hd,
   (cell_set_off (by decide)).trans h.cl,
   (cell_set_off (by decide)).trans h.cd,
   fun o h1 h2 => (live_setCell _ _ _ _).trans (h.tl o h1 h2),
   fun o => (World.frozen?_setCell _ _ _ _).trans (h.fr o),
   h.away,
   fun i hi => (cell_set_ne (.inl h.neHF)).trans (h.win i hi),
   fun o => (World.frozen?_setCell _ _ _ _).trans (h.frH o),
   fun i hi => (live_setCell _ _ _ _).trans (h.bb i hi),
   fun i hi => (live_setCell _ _ _ _).trans (h.cb i hi),
   fun o => (World.frozen?_setCell _ _ _ _).trans (h.frB o),
   fun o => (World.frozen?_setCell _ _ _ _).trans (h.frC o),
   h.dist,
   h.far⟩
theorem Dec.set_hd (h : Dec w F d) (x : Value) : Dec (w.setCell ⟨F, 1051, none⟩ (x)) F { d with hd := x } :=
  ⟨(cell_set_off (by decide)).trans h.r,
   (cell_set_off (by decide)).trans h.rBuf,
   (cell_set_off (by decide)).trans h.roff,
   (cell_set_off (by decide)).trans h.b,
   (cell_set_off (by decide)).trans h.nb,
   (cell_set_off (by decide)).trans h.bits,
   (cell_set_off (by decide)).trans h.cbits,
   (cell_set_off (by decide)).trans h.hist,
   (cell_set_off (by decide)).trans h.wr,
   (cell_set_off (by decide)).trans h.rd,
   (cell_set_off (by decide)).trans h.full,
   (cell_set_off (by decide)).trans h.u0,
   (cell_set_off (by decide)).trans h.u1,
   (cell_set_off (by decide)).trans h.u2,
   (cell_set_off (by decide)).trans h.u3,
   (cell_set_off (by decide)).trans h.step,
   (cell_set_off (by decide)).trans h.ss,
   (cell_set_off (by decide)).trans h.fin,
   (cell_set_off (by decide)).trans h.err,
   (cell_set_off (by decide)).trans h.toRead,
   (cell_set_off (by decide)).trans h.hl,
   set_get h.hd,
   (cell_set_off (by decide)).trans h.cl,
   (cell_set_off (by decide)).trans h.cd,
   fun o h1 h2 => (live_setCell _ _ _ _).trans (h.tl o h1 h2),
   fun o => (World.frozen?_setCell _ _ _ _).trans (h.fr o),
   h.away,
   fun i hi => (cell_set_ne (.inl h.neHF)).trans (h.win i hi),
   fun o => (World.frozen?_setCell _ _ _ _).trans (h.frH o),
   fun i hi => (live_setCell _ _ _ _).trans (h.bb i hi),
   fun i hi => (live_setCell _ _ _ _).trans (h.cb i hi),
   fun o => (World.frozen?_setCell _ _ _ _).trans (h.frB o),
   fun o => (World.frozen?_setCell _ _ _ _).trans (h.frC o),
   h.dist,
   h.far⟩
theorem Dec.set_cl (h : Dec w F d) (x : Int) : Dec (w.setCell ⟨F, 1052, none⟩ (.int .i64 x)) F { d with cl := x } :=
  ⟨(cell_set_off (by decide)).trans h.r,
   (cell_set_off (by decide)).trans h.rBuf,
   (cell_set_off (by decide)).trans h.roff,
   (cell_set_off (by decide)).trans h.b,
   (cell_set_off (by decide)).trans h.nb,
   (cell_set_off (by decide)).trans h.bits,
   (cell_set_off (by decide)).trans h.cbits,
   (cell_set_off (by decide)).trans h.hist,
   (cell_set_off (by decide)).trans h.wr,
   (cell_set_off (by decide)).trans h.rd,
   (cell_set_off (by decide)).trans h.full,
   (cell_set_off (by decide)).trans h.u0,
   (cell_set_off (by decide)).trans h.u1,
   (cell_set_off (by decide)).trans h.u2,
   (cell_set_off (by decide)).trans h.u3,
   (cell_set_off (by decide)).trans h.step,
   (cell_set_off (by decide)).trans h.ss,
   (cell_set_off (by decide)).trans h.fin,
   (cell_set_off (by decide)).trans h.err,
   (cell_set_off (by decide)).trans h.toRead,
   (cell_set_off (by decide)).trans h.hl,
   (cell_set_off (by decide)).trans h.hd,
   set_get h.cl,
   (cell_set_off (by decide)).trans h.cd,
   fun o h1 h2 => (live_setCell _ _ _ _).trans (h.tl o h1 h2),
   fun o => (World.frozen?_setCell _ _ _ _).trans (h.fr o),
   h.away,
   fun i hi => (cell_set_ne (.inl h.neHF)).trans (h.win i hi),
   fun o => (World.frozen?_setCell _ _ _ _).trans (h.frH o),
   fun i hi => (live_setCell _ _ _ _).trans (h.bb i hi),
   fun i hi => (live_setCell _ _ _ _).trans (h.cb i hi),
   fun o => (World.frozen?_setCell _ _ _ _).trans (h.frB o),
   fun o => (World.frozen?_setCell _ _ _ _).trans (h.frC o),
   h.dist,
   h.far⟩
theorem Dec.set_cd (h : Dec w F d) (x : Int) : Dec (w.setCell ⟨F, 1053, none⟩ (.int .i64 x)) F { d with cd := x } :=
  ⟨(cell_set_off (by decide)).trans h.r,
   (cell_set_off (by decide)).trans h.rBuf,
   (cell_set_off (by decide)).trans h.roff,
   (cell_set_off (by decide)).trans h.b,
   (cell_set_off (by decide)).trans h.nb,
   (cell_set_off (by decide)).trans h.bits,
   (cell_set_off (by decide)).trans h.cbits,
   (cell_set_off (by decide)).trans h.hist,
   (cell_set_off (by decide)).trans h.wr,
   (cell_set_off (by decide)).trans h.rd,
   (cell_set_off (by decide)).trans h.full,
   (cell_set_off (by decide)).trans h.u0,
   (cell_set_off (by decide)).trans h.u1,
   (cell_set_off (by decide)).trans h.u2,
   (cell_set_off (by decide)).trans h.u3,
   (cell_set_off (by decide)).trans h.step,
   (cell_set_off (by decide)).trans h.ss,
   (cell_set_off (by decide)).trans h.fin,
   (cell_set_off (by decide)).trans h.err,
   (cell_set_off (by decide)).trans h.toRead,
   (cell_set_off (by decide)).trans h.hl,
   (cell_set_off (by decide)).trans h.hd,
   (cell_set_off (by decide)).trans h.cl,
   set_get h.cd,
   fun o h1 h2 => (live_setCell _ _ _ _).trans (h.tl o h1 h2),
   fun o => (World.frozen?_setCell _ _ _ _).trans (h.fr o),
   h.away,
   fun i hi => (cell_set_ne (.inl h.neHF)).trans (h.win i hi),
   fun o => (World.frozen?_setCell _ _ _ _).trans (h.frH o),
   fun i hi => (live_setCell _ _ _ _).trans (h.bb i hi),
   fun i hi => (live_setCell _ _ _ _).trans (h.cb i hi),
   fun o => (World.frozen?_setCell _ _ _ _).trans (h.frB o),
   fun o => (World.frozen?_setCell _ _ _ _).trans (h.frC o),
   h.dist,
   h.far⟩

/-- Behind a call that has turned the source alone. -/
theorem Dec.set_src (h : Dec w F d) (hf : Frm (fun b _ => b = d.R) w w') {q : Nat} (hs : Src w' d.R d.base d.src q) : Dec w' F { d with pos := q } := by
  have k : ∀ {b o : Nat} {v : Value}, w.cell? ⟨b, o, none⟩ = some v → b ≠ d.R → w'.cell? ⟨b, o, none⟩ = some v := fun hc hn => hf.keep hc hn
  have hRF := h.neRF
  have hRH := h.neRH
  have hlt := h.lt
  have hH0 := cell_lt (h.win 0 (by omega))
  have hB0 : d.BB < w.heap.size := by obtain ⟨v, hv⟩ := Option.isSome_iff_exists.1 (h.bb 0 (by omega)); exact cell_lt hv
  have hC0 : d.CB < w.heap.size := by obtain ⟨v, hv⟩ := Option.isSome_iff_exists.1 (h.cb 0 (by omega)); exact cell_lt hv
  exact ⟨k h.r (Ne.symm hRF), k h.rBuf (Ne.symm hRF), k h.roff (Ne.symm hRF), k h.b (Ne.symm hRF), k h.nb (Ne.symm hRF), k h.bits (Ne.symm hRF), k h.cbits (Ne.symm hRF), k h.hist (Ne.symm hRF), k h.wr (Ne.symm hRF), k h.rd (Ne.symm hRF), k h.full (Ne.symm hRF), k h.u0 (Ne.symm hRF), k h.u1 (Ne.symm hRF), k h.u2 (Ne.symm hRF), k h.u3 (Ne.symm hRF), k h.step (Ne.symm hRF), k h.ss (Ne.symm hRF), k h.fin (Ne.symm hRF), k h.err (Ne.symm hRF), k h.toRead (Ne.symm hRF), k h.hl (Ne.symm hRF), k h.hd (Ne.symm hRF), k h.cl (Ne.symm hRF), k h.cd (Ne.symm hRF), fun o h1 h2 => (hf.live F o hlt).trans (h.tl o h1 h2), fun o => (hf.froz F o hlt).trans (h.fr o), hs, fun i hi => k (h.win i hi) (Ne.symm hRH), fun o => (hf.froz _ o hH0).trans (h.frH o), fun i hi => (hf.live _ i hB0).trans (h.bb i hi), fun i hi => (hf.live _ i hC0).trans (h.cb i hi), fun o => (hf.froz _ o hB0).trans (h.frB o), fun o => (hf.froz _ o hC0).trans (h.frC o), h.dist, h.far⟩


/-- Behind a call that has turned the window alone. -/
theorem Dec.set_win (h : Dec w F d) (hf : Frm (fun b _ => b = d.HB) w w') (g : Nat → UInt8) (hw : ∀ i, i < 32768 → w'.cell? ⟨d.HB, i, none⟩ = some (.int .u8 ((g i).toNat : Int))) : Dec w' F { d with g := g } := by
  have k : ∀ {b o : Nat} {v : Value}, w.cell? ⟨b, o, none⟩ = some v → b ≠ d.HB → w'.cell? ⟨b, o, none⟩ = some v := fun hc hn => hf.keep hc hn
  have hHF := h.neHF
  have hRH := h.neRH
  have hlt := h.lt
  have hH0 := cell_lt (h.win 0 (by omega))
  have hB0 : d.BB < w.heap.size := by obtain ⟨v, hv⟩ := Option.isSome_iff_exists.1 (h.bb 0 (by omega)); exact cell_lt hv
  have hC0 : d.CB < w.heap.size := by obtain ⟨v, hv⟩ := Option.isSome_iff_exists.1 (h.cb 0 (by omega)); exact cell_lt hv
  exact ⟨k h.r (Ne.symm hHF), k h.rBuf (Ne.symm hHF), k h.roff (Ne.symm hHF), k h.b (Ne.symm hHF), k h.nb (Ne.symm hHF), k h.bits (Ne.symm hHF), k h.cbits (Ne.symm hHF), k h.hist (Ne.symm hHF), k h.wr (Ne.symm hHF), k h.rd (Ne.symm hHF), k h.full (Ne.symm hHF), k h.u0 (Ne.symm hHF), k h.u1 (Ne.symm hHF), k h.u2 (Ne.symm hHF), k h.u3 (Ne.symm hHF), k h.step (Ne.symm hHF), k h.ss (Ne.symm hHF), k h.fin (Ne.symm hHF), k h.err (Ne.symm hHF), k h.toRead (Ne.symm hHF), k h.hl (Ne.symm hHF), k h.hd (Ne.symm hHF), k h.cl (Ne.symm hHF), k h.cd (Ne.symm hHF), fun o h1 h2 => (hf.live F o hlt).trans (h.tl o h1 h2), fun o => (hf.froz F o hlt).trans (h.fr o), h.so.keep hf (fun _ e => hRH e) (fun a ha j _ e => h.far a ha (by rw [e]; simp)), hw, fun o => (hf.froz _ o hH0).trans (h.frH o), fun i hi => (hf.live _ i hB0).trans (h.bb i hi), fun i hi => (hf.live _ i hC0).trans (h.cb i hi), fun o => (hf.froz _ o hB0).trans (h.frB o), fun o => (hf.froz _ o hC0).trans (h.frC o), h.dist, h.far⟩

end

end Go.Proofs.YthfncdfcklbigaaDoor
