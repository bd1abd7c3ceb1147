/-
  Several texts in one: Src Dec Bits Sym Win Copy Lay Own.
-/
import Derived.Test.YthfncdfcklbigaaGreatDoorPa
import Derived.Deep.DeepCutAuto
import Derived.Laws.IdiomCopy
import Derived.Deep.RegionHeld3
import Derived.Laws.AppendOwn
import Derived.Laws.OwnMore
set_option linter.unusedVariables false
set_option linter.unusedSimpArgs false
namespace Go.Proofs.YthfncdfcklbigaaGreatDoor
open Go.RowKit Flate
set_option maxRecDepth 100000
structure Ps where
 E : Addr
 U : Addr
 H : Addr
 D : Addr
 C : Addr
def Ps.all (p : Ps) : List Addr := [p.E, p.U, p.H, p.D, p.C]
abbrev errAt (p : Addr) : Value := .iface 194 (.pointer (some p))
def codeOrder : List Nat := [16, 17, 18, 0, 8, 7, 9, 6, 10, 5, 11, 4, 12, 3, 13, 2, 14, 1, 15]
structure Env (w : World) (B : Nat) (p : Ps) : Prop where
 le : B ≤ w.heap.size
 g : 8 ≤ B
 eof : w.cell? ⟨0, 0, none⟩ = some (errAt p.E)
 unx : w.cell? ⟨4, 0, none⟩ = some (errAt p.U)
 hdr : w.cell? ⟨1, 0, none⟩ = some (errAt p.H)
 dic : w.cell? ⟨2, 0, none⟩ = some (errAt p.D)
 sum : w.cell? ⟨3, 0, none⟩ = some (errAt p.C)
 ord : ∀ i, i < 19 → w.cell? ⟨7, i, none⟩ = some (.int .i64 (codeOrder.getD i 0 : Nat))
 lt : ∀ x ∈ p.all, x.block < B
 blk : ∀ x ∈ p.all, ∃ c t, w.heap[x.block]? = some (.cells c t (0, 0))
 nodup : p.all.Nodup
theorem Env.keep {S : Nat → Nat → Prop} {w w' : World} {B : Nat} {p : Ps} (h : Env w B p) (hf : Frm S w w') (hS : ∀ b o, S b o → B ≤ b) : Env w' B p := by
 have hg := h.g
 have hle := h.le
 have k : ∀ {b o : Nat} {v : Value}, b < 8 → w.cell? ⟨b, o, none⟩ = some v → w'.cell? ⟨b, o, none⟩ = some v := fun hb hc => hf.keep hc (fun x => by have := hS _ _ x; omega)
 exact ⟨Nat.le_trans h.le hf.size, h.g, k (by omega) h.eof, k (by omega) h.unx, k (by omega) h.hdr, k (by omega) h.dic, k (by omega) h.sum, fun i hi => k (by omega) (h.ord i hi), h.lt,
  fun x hx => by
   have hl := h.lt x hx; obtain ⟨c, t, hc⟩ := h.blk x hx; exact ⟨c, t, (hf.obj x.block (by omega) (fun o q => by have := hS _ _ q; omega)).trans hc⟩, h.nodup⟩
theorem underlyingError : ∃ ms, Tryz.prog.underlying 53 = some (.interface ms) := ⟨_, Tryz.underlying53⟩
theorem infoErr : (Tryz.prog.info? 194).map (·.comparable) = some true := by kernel_rfl
theorem infoErrS : (Tryz.prog.info? 220).map (·.size) = some 1 := by kernel_rfl
theorem eql_same (p : Addr) (w : World) : (binOp .eql 53 (errAt p) (errAt p)).run Tryz.prog w = .ok (.bool true) w := by
 obtain ⟨ms, hi⟩ := underlyingError
 obtain ⟨i, hinfo, hc⟩ := Option.map_eq_some_iff.1 infoErr
 obtain ⟨j, hj, _⟩ := Option.map_eq_some_iff.1 infoErrS
 exact run_eql_iface_ptr_same w _ hi Tryz.underlying194 hinfo hc hj
theorem eql_other {w : World} {B : Nat} {p : Ps} (he : Env w B p) {x y : Addr} (hx : x ∈ p.all) (hy : y ∈ p.all) (hne : x ≠ y) :
 (binOp .eql 53 (errAt x) (errAt y)).run Tryz.prog w = .ok (.bool false) w := by
 obtain ⟨ms, hi⟩ := underlyingError
 obtain ⟨i, hinfo, hc⟩ := Option.map_eq_some_iff.1 infoErr
 obtain ⟨j, hj, hs⟩ := Option.map_eq_some_iff.1 infoErrS
 obtain ⟨cx, tx, hcx⟩ := he.blk x hx
 obtain ⟨cy, ty, hcy⟩ := he.blk y hy
 exact run_eql_iface_ptr_other w hi Tryz.underlying194 hinfo hc hj (by omega) hne hcx hcy
set_option maxHeartbeats 400000 in
theorem readByte_more (w : World) (R sb so : Nat) (src : List UInt8) (pos : Nat) (h : Src w R (some ⟨sb, so, none⟩) src pos) (hlt : pos < src.length) :
 Calls Tryz.prog 116 #[.pointer (some ⟨R, 0, none⟩)] w fun e w' =>
  e = .returned (.tuple #[.int .u8 (src[pos].toNat : Int), .nilIface]) ∧ Src w' R (some ⟨sb, so, none⟩) src (pos + 1) ∧ Frm (fun b _ => b = R) w w' := by
 obtain ⟨⟨cap, off, N, Q, hNN, hQQ, hs, hcap, hi, hB, hN2⟩, ⟨v, hp⟩, hfr, hle, hfew, hne⟩ := h
 have hb := hB.2 pos hlt
 have hn := hne _ rfl
 rw [← hQQ] at hb
 simp only at hb hn
 have HB := zHi hB
 have HN := zHi hne
 have f1 := hfr 1
 have f2 := hfr 2
 clear hle hB hne
 have h1 : (Q : Int) < (N : Int) := by omega
 have hd : decide (N ≤ Q) = false := by simp; omega
 have HQ := zHi (zAi hNN (zAi hQQ hN2))
 have h2 : (N : Int) ≤ 1099511627776 := by omega
 clear hNN hQQ hN2
 go_enter Tryz.func116, Tryz.ntmps116
 go_wp2
 (go_quiet (fail))
 go_wp2
 (go_quiet (fail))
 go_wp2
 go_ret2
 obtain ⟨hNN, hQQ, hN2⟩ := HQ.out
 refine ⟨rfl, and_frm (by (repeat (first | exact Frm.refl _ _ | refine Frm.drewN ?_ _ | refine Frm.drew ?_ | refine Frm.alloc ?_ _ | refine Frm.setCell ?_ (by simp) _))) (fun hF => ⟨⟨cap, off, N, Q + 1, hNN, by omega, by go_simp, hcap, by go_simp, HB.out.keep hF (fun a ha _ _ x => HN.out a ha x), hN2⟩, ⟨.int .i64 (-1), by go_simp⟩, by go_simp, by omega, hfew, HN.out⟩)⟩
theorem Src.at_some {w : World} {R : Nat} {base : Option Addr} {src : List UInt8} {pos : Nat} (h : Src w R base src pos) (hlt : pos < src.length) : ∃ sb so, base = some ⟨sb, so, none⟩ := by
 obtain ⟨_, _, _, _, _, _, _, _, _, hb, _⟩ := h.s
 cases base with
 | none => have : src = [] := hb.1; subst this; simp at hlt
 | some a => obtain ⟨b, o, s⟩ := a; have : s = none := hb.1; subst this; exact ⟨_, _, rfl⟩
theorem readByte_any (w : World) (R : Nat) (base : Option Addr) (src : List UInt8) (pos : Nat) (h : Src w R base src pos) (hlt : pos < src.length) :
 Calls Tryz.prog 116 #[.pointer (some ⟨R, 0, none⟩)] w fun e w' =>
  e = .returned (.tuple #[.int .u8 (src[pos].toNat : Int), .nilIface]) ∧ Src w' R base src (pos + 1) ∧ Frm (fun b _ => b = R) w w' := by
 obtain ⟨sb, so, rfl⟩ := h.at_some hlt
 exact readByte_more w R sb so src pos h hlt
set_option maxHeartbeats 400000 in
theorem readByte_end (w : World) (R : Nat) (base : Option Addr) (src : List UInt8) (B : Nat) (p : Ps) (h : Src w R base src src.length) (he : Env w B p) (hRB : B ≤ R) :
 Calls Tryz.prog 116 #[.pointer (some ⟨R, 0, none⟩)] w fun e w' =>
  e = .returned (.tuple #[.int .u8 0, errAt p.E]) ∧ Src w' R base src src.length ∧ Frm (fun b _ => b = R) w w' := by
 obtain ⟨⟨cap, off, N, Q, hNN, hQQ, hs, hcap, hi, hB, hN2⟩, ⟨v, hv⟩, hfr, hle, hfew, hne⟩ := h
 have hNQ : Q = N := by omega
 subst hNQ
 have HB := zHi hB
 have HN := zHi hne
 have f2 := hfr 2
 clear hle hB hne
 have hg := he.eof
 have h0 : R ≠ 0 := by have := he.g; omega
 have h0' : 0 ≠ R := by omega
 clear he
 have hd : decide (Q ≤ Q) = true := by simp
 have HQ := zHi (zAi hNN (zAi hQQ hN2))
 have h2 : (Q : Int) ≤ 1099511627776 := by omega
 clear hNN hQQ hN2
 go_enter Tryz.func116, Tryz.ntmps116
 go_wp2
 (go_quiet (fail))
 go_wp2
 (go_quiet (fail))
 go_wp2
 go_ret2
 obtain ⟨hNN, hQQ, hN2⟩ := HQ.out
 refine ⟨rfl, and_frm (by (repeat (first | exact Frm.refl _ _ | refine Frm.drewN ?_ _ | refine Frm.drew ?_ | refine Frm.alloc ?_ _ | refine Frm.setCell ?_ (by simp) _))) (fun hF => ⟨⟨cap, off, Q, Q, hNN, hQQ, by go_simp, hcap, by go_simp, HB.out.keep hF (fun a ha _ _ x => HN.out a ha x), hN2⟩, ⟨.int .i64 (-1), by go_simp⟩, by go_simp, by omega, hfew, HN.out⟩)⟩
theorem noEOF_any (w : World) (B : Nat) (p : Ps) (he : Env w B p) (x : Addr) (hx : x = p.E ∨ x = p.U) :
 Calls Tryz.prog 84 #[errAt x] w fun e w' => e = .returned (errAt p.U) ∧ w = w' := by
 have h0 := he.eof
 have h1 := he.unx
 have hn := he.nodup
 rcases hx with rfl | rfl
 · have hq := eql_same p.E w
   go_enter Tryz.func84, Tryz.ntmps84
   go_wp2
   go_ret
   exact ⟨rfl, rfl⟩
 · have hq := eql_other he (x := p.U) (y := p.E) (by simp [Ps.all]) (by simp [Ps.all]) (by intro e; simp [Ps.all, e] at hn)
   go_enter Tryz.func84, Tryz.ntmps84
   go_wp2
   go_ret
   exact ⟨rfl, rfl⟩
theorem meth_ReadByte (n : Nat) (a : Addr) (w : World) : (method (n + 1) 48 (.pointer (some a)) "ReadByte").run Tryz.prog w = .ok (116, .pointer (some a)) w := by kernel_rfl
theorem meth_Read (n : Nat) (a : Addr) (w : World) : (method (n + 1) 48 (.pointer (some a)) "Read").run Tryz.prog w = .ok (115, .pointer (some a)) w := by kernel_rfl
structure DS where
 R : Nat
 base : Option Addr
 src : List UInt8
 pos : Nat
 BB : Nat
 CB : Nat
 HB : Nat
 g : Nat → UInt8
 roff : Nat
 b : Nat
 nb : Nat
 wr : Nat
 rd : Nat
 full : Bool
 u0 : UInt8
 u1 : UInt8
 u2 : UInt8
 u3 : UInt8
 step : Value
 ss : Int
 fin : Bool
 err : Value
 toRead : Value
 hl : Value
 hd : Value
 cl : Int
 cd : Int
structure Dec (w : World) (F : Nat) (d : DS) : Prop where
 r : w.cell? ⟨F, 0, none⟩ = some (.iface 48 (.pointer (some ⟨d.R, 0, none⟩)))
 rBuf : w.cell? ⟨F, 1, none⟩ = some (.pointer none)
 roff : w.cell? ⟨F, 2, none⟩ = some (.int .i64 (d.roff : Int))
 b : w.cell? ⟨F, 3, none⟩ = some (.int .u32 (d.b : Int))
 nb : w.cell? ⟨F, 4, none⟩ = some (.int .u64 (d.nb : Int))
 bits : w.cell? ⟨F, 1035, none⟩ = some (.pointer (some ⟨d.BB, 0, none⟩))
 cbits : w.cell? ⟨F, 1036, none⟩ = some (.pointer (some ⟨d.CB, 0, none⟩))
 hist : w.cell? ⟨F, 1037, none⟩ = some (.slice (some ⟨d.HB, 0, none⟩) 32768 32768)
 wr : w.cell? ⟨F, 1038, none⟩ = some (.int .i64 (d.wr : Int))
 rd : w.cell? ⟨F, 1039, none⟩ = some (.int .i64 (d.rd : Int))
 full : w.cell? ⟨F, 1040, none⟩ = some (.bool d.full)
 u0 : w.cell? ⟨F, 1041, none⟩ = some (.int .u8 (d.u0.toNat : Int))
 u1 : w.cell? ⟨F, 1042, none⟩ = some (.int .u8 (d.u1.toNat : Int))
 u2 : w.cell? ⟨F, 1043, none⟩ = some (.int .u8 (d.u2.toNat : Int))
 u3 : w.cell? ⟨F, 1044, none⟩ = some (.int .u8 (d.u3.toNat : Int))
 step : w.cell? ⟨F, 1045, none⟩ = some (d.step)
 ss : w.cell? ⟨F, 1046, none⟩ = some (.int .i64 d.ss)
 fin : w.cell? ⟨F, 1047, none⟩ = some (.bool d.fin)
 err : w.cell? ⟨F, 1048, none⟩ = some (d.err)
 toRead : w.cell? ⟨F, 1049, none⟩ = some (d.toRead)
 hl : w.cell? ⟨F, 1050, none⟩ = some (d.hl)
 hd : w.cell? ⟨F, 1051, none⟩ = some (d.hd)
 cl : w.cell? ⟨F, 1052, none⟩ = some (.int .i64 d.cl)
 cd : w.cell? ⟨F, 1053, none⟩ = some (.int .i64 d.cd)
 tl : ∀ o, 5 ≤ o → o < 1035 → (w.cell? ⟨F, o, none⟩).isSome = true
 fr : ∀ o, w.frozen? ⟨F, o, none⟩ = false
 so : Src w d.R d.base d.src d.pos
 win : ∀ i, i < 32768 → w.cell? ⟨d.HB, i, none⟩ = some (.int .u8 ((d.g i).toNat : Int))
 frH : ∀ o, w.frozen? ⟨d.HB, o, none⟩ = false
 bb : ∀ i, i < 316 → (w.cell? ⟨d.BB, i, none⟩).isSome = true
 cb : ∀ i, i < 19 → (w.cell? ⟨d.CB, i, none⟩).isSome = true
 frB : ∀ o, w.frozen? ⟨d.BB, o, none⟩ = false
 frC : ∀ o, w.frozen? ⟨d.CB, o, none⟩ = false
 dist : [F, d.R, d.HB, d.BB, d.CB].Nodup
 far : ∀ a, d.base = some a → a.block ∉ [F, d.R, d.HB, d.BB, d.CB]
section
variable {w w' : World} {F : Nat} {d : DS}
theorem Dec.drewN (h : Dec w F d) (n : Nat) : Dec (w.drewN n) F d := ⟨h.r, h.rBuf, h.roff, h.b, h.nb, h.bits, h.cbits, h.hist, h.wr, h.rd, h.full, h.u0, h.u1, h.u2, h.u3, h.step, h.ss, h.fin, h.err, h.toRead, h.hl, h.hd, h.cl, h.cd, h.tl, h.fr, ⟨h.so.s, h.so.p, h.so.fr, h.so.le, h.so.few, h.so.ne⟩, h.win, h.frH, h.bb, h.cb, h.frB, h.frC, h.dist, h.far⟩
theorem Dec.drew (h : Dec w F d) : Dec w.drew F d := ⟨h.r, h.rBuf, h.roff, h.b, h.nb, h.bits, h.cbits, h.hist, h.wr, h.rd, h.full, h.u0, h.u1, h.u2, h.u3, h.step, h.ss, h.fin, h.err, h.toRead, h.hl, h.hd, h.cl, h.cd, h.tl, h.fr, ⟨h.so.s, h.so.p, h.so.fr, h.so.le, h.so.few, h.so.ne⟩, h.win, h.frH, h.bb, h.cb, h.frB, h.frC, h.dist, h.far⟩
theorem Dec.lt (h : Dec w F d) : F < w.heap.size := cell_lt h.r
theorem Dec.neRF (h : Dec w F d) : d.R ≠ F := by have := h.dist; simp at this; omega
theorem Dec.neHF (h : Dec w F d) : d.HB ≠ F := by have := h.dist; simp at this; omega
theorem Dec.neBF (h : Dec w F d) : d.BB ≠ F := by have := h.dist; simp at this; omega
theorem Dec.neCF (h : Dec w F d) : d.CB ≠ F := by have := h.dist; simp at this; omega
theorem Dec.neRH (h : Dec w F d) : d.R ≠ d.HB := by have := h.dist; simp at this; omega
theorem Dec.neRB (h : Dec w F d) : d.R ≠ d.BB := by have := h.dist; simp at this; omega
theorem Dec.neRC (h : Dec w F d) : d.R ≠ d.CB := by have := h.dist; simp at this; omega
theorem Dec.neHB (h : Dec w F d) : d.HB ≠ d.BB := by have := h.dist; simp at this; omega
theorem Dec.neHC (h : Dec w F d) : d.HB ≠ d.CB := by have := h.dist; simp at this; omega
theorem Dec.keep {S : Nat → Nat → Prop} (h : Dec w F d) (hf : Frm S w w') (hF : ∀ o, S F o → 5 ≤ o ∧ o < 1035) (hR : ∀ o, ¬ S d.R o) (hH : ∀ o, ¬ S d.HB o)
 (hs : ∀ a, d.base = some a → ∀ j : Nat, 0 ≤ j → ¬ S a.block (a.off + j)) : Dec w' F d := by
 have k : ∀ {o : Nat} {v : Value}, w.cell? ⟨F, o, none⟩ = some v → (o < 5 ∨ 1035 ≤ o) → w'.cell? ⟨F, o, none⟩ = some v := fun hc ho => hf.keep hc (fun x => by have := hF _ x; omega)
 have hlt := h.lt
 have hH0 := cell_lt (h.win 0 (by omega))
 have hB0 : d.BB < w.heap.size := by obtain ⟨v, hv⟩ := Option.isSome_iff_exists.1 (h.bb 0 (by omega)); exact cell_lt hv
 have hC0 : d.CB < w.heap.size := by obtain ⟨v, hv⟩ := Option.isSome_iff_exists.1 (h.cb 0 (by omega)); exact cell_lt hv
 exact ⟨k h.r (by omega), k h.rBuf (by omega), k h.roff (by omega), k h.b (by omega), k h.nb (by omega), k h.bits (by omega), k h.cbits (by omega), k h.hist (by omega), k h.wr (by omega), k h.rd (by omega), k h.full (by omega), k h.u0 (by omega), k h.u1 (by omega), k h.u2 (by omega), k h.u3 (by omega), k h.step (by omega), k h.ss (by omega), k h.fin (by omega), k h.err (by omega), k h.toRead (by omega), k h.hl (by omega), k h.hd (by omega), k h.cl (by omega), k h.cd (by omega), fun o h1 h2 => (hf.live F o hlt).trans (h.tl o h1 h2), fun o => (hf.froz F o hlt).trans (h.fr o), h.so.keep hf hR hs, fun i hi => hf.keep (h.win i hi) (hH i), fun o => (hf.froz _ o hH0).trans (h.frH o), fun i hi => (hf.live _ i hB0).trans (h.bb i hi), fun i hi => (hf.live _ i hC0).trans (h.cb i hi), fun o => (hf.froz _ o hB0).trans (h.frB o), fun o => (hf.froz _ o hC0).trans (h.frC o), h.dist, h.far⟩
theorem Dec.away (h : Dec w F d) {k : Nat} {v : Value} : Src (w.setCell ⟨F, k, none⟩ v) d.R d.base d.src d.pos :=
 h.so.keep (S := fun b _ => b = F) ((Frm.refl _ _).setCell (.inl rfl) _) (fun _ e => h.neRF e) (fun a ha j _ e => h.far a ha (by rw [e]; simp))
theorem Dec.set_roff (h : Dec w F d) (x : Nat) : Dec (w.setCell ⟨F, 2, none⟩ (.int .i64 (x : Int))) F { d with roff := x } :=
 ⟨(cell_set_off (by decide)).trans h.r,
  (cell_set_off (by decide)).trans h.rBuf,
  set_get h.roff,
  (cell_set_off (by decide)).trans h.b,
  (cell_set_off (by decide)).trans h.nb,
  (cell_set_off (by decide)).trans h.bits,
  (cell_set_off (by decide)).trans h.cbits,
  (cell_set_off (by decide)).trans h.hist,
  (cell_set_off (by decide)).trans h.wr,
  (cell_set_off (by decide)).trans h.rd,
  (cell_set_off (by decide)).trans h.full,
  (cell_set_off (by decide)).trans h.u0,
  (cell_set_off (by decide)).trans h.u1,
  (cell_set_off (by decide)).trans h.u2,
  (cell_set_off (by decide)).trans h.u3,
  (cell_set_off (by decide)).trans h.step,
  (cell_set_off (by decide)).trans h.ss,
  (cell_set_off (by decide)).trans h.fin,
  (cell_set_off (by decide)).trans h.err,
  (cell_set_off (by decide)).trans h.toRead,
  (cell_set_off (by decide)).trans h.hl,
  (cell_set_off (by decide)).trans h.hd,
  (cell_set_off (by decide)).trans h.cl,
  (cell_set_off (by decide)).trans h.cd,
  fun o h1 h2 => (live_setCell _ _ _ _).trans (h.tl o h1 h2),
  fun o => (World.frozen?_setCell _ _ _ _).trans (h.fr o),
  h.away,
  fun i hi => (cell_set_ne (.inl h.neHF)).trans (h.win i hi),
  fun o => (World.frozen?_setCell _ _ _ _).trans (h.frH o),
  fun i hi => (live_setCell _ _ _ _).trans (h.bb i hi),
  fun i hi => (live_setCell _ _ _ _).trans (h.cb i hi),
  fun o => (World.frozen?_setCell _ _ _ _).trans (h.frB o),
  fun o => (World.frozen?_setCell _ _ _ _).trans (h.frC o),
  h.dist,
  h.far⟩
theorem Dec.set_b (h : Dec w F d) (x : Nat) : Dec (w.setCell ⟨F, 3, none⟩ (.int .u32 (x : Int))) F { d with b := x } :=
 ⟨(cell_set_off (by decide)).trans h.r,
  (cell_set_off (by decide)).trans h.rBuf,
  (cell_set_off (by decide)).trans h.roff,
  set_get h.b,
  (cell_set_off (by decide)).trans h.nb,
  (cell_set_off (by decide)).trans h.bits,
  (cell_set_off (by decide)).trans h.cbits,
  (cell_set_off (by decide)).trans h.hist,
  (cell_set_off (by decide)).trans h.wr,
  (cell_set_off (by decide)).trans h.rd,
  (cell_set_off (by decide)).trans h.full,
  (cell_set_off (by decide)).trans h.u0,
  (cell_set_off (by decide)).trans h.u1,
  (cell_set_off (by decide)).trans h.u2,
  (cell_set_off (by decide)).trans h.u3,
  (cell_set_off (by decide)).trans h.step,
  (cell_set_off (by decide)).trans h.ss,
  (cell_set_off (by decide)).trans h.fin,
  (cell_set_off (by decide)).trans h.err,
  (cell_set_off (by decide)).trans h.toRead,
  (cell_set_off (by decide)).trans h.hl,
  (cell_set_off (by decide)).trans h.hd,
  (cell_set_off (by decide)).trans h.cl,
  (cell_set_off (by decide)).trans h.cd,
  fun o h1 h2 => (live_setCell _ _ _ _).trans (h.tl o h1 h2),
  fun o => (World.frozen?_setCell _ _ _ _).trans (h.fr o),
  h.away,
  fun i hi => (cell_set_ne (.inl h.neHF)).trans (h.win i hi),
  fun o => (World.frozen?_setCell _ _ _ _).trans (h.frH o),
  fun i hi => (live_setCell _ _ _ _).trans (h.bb i hi),
  fun i hi => (live_setCell _ _ _ _).trans (h.cb i hi),
  fun o => (World.frozen?_setCell _ _ _ _).trans (h.frB o),
  fun o => (World.frozen?_setCell _ _ _ _).trans (h.frC o),
  h.dist,
  h.far⟩
theorem Dec.set_nb (h : Dec w F d) (x : Nat) : Dec (w.setCell ⟨F, 4, none⟩ (.int .u64 (x : Int))) F { d with nb := x } :=
 ⟨(cell_set_off (by decide)).trans h.r,
  (cell_set_off (by decide)).trans h.rBuf,
  (cell_set_off (by decide)).trans h.roff,
  (cell_set_off (by decide)).trans h.b,
  set_get h.nb,
  (cell_set_off (by decide)).trans h.bits,
  (cell_set_off (by decide)).trans h.cbits,
  (cell_set_off (by decide)).trans h.hist,
  (cell_set_off (by decide)).trans h.wr,
  (cell_set_off (by decide)).trans h.rd,
  (cell_set_off (by decide)).trans h.full,
  (cell_set_off (by decide)).trans h.u0,
  (cell_set_off (by decide)).trans h.u1,
  (cell_set_off (by decide)).trans h.u2,
  (cell_set_off (by decide)).trans h.u3,
  (cell_set_off (by decide)).trans h.step,
  (cell_set_off (by decide)).trans h.ss,
  (cell_set_off (by decide)).trans h.fin,
  (cell_set_off (by decide)).trans h.err,
  (cell_set_off (by decide)).trans h.toRead,
  (cell_set_off (by decide)).trans h.hl,
  (cell_set_off (by decide)).trans h.hd,
  (cell_set_off (by decide)).trans h.cl,
  (cell_set_off (by decide)).trans h.cd,
  fun o h1 h2 => (live_setCell _ _ _ _).trans (h.tl o h1 h2),
  fun o => (World.frozen?_setCell _ _ _ _).trans (h.fr o),
  h.away,
  fun i hi => (cell_set_ne (.inl h.neHF)).trans (h.win i hi),
  fun o => (World.frozen?_setCell _ _ _ _).trans (h.frH o),
  fun i hi => (live_setCell _ _ _ _).trans (h.bb i hi),
  fun i hi => (live_setCell _ _ _ _).trans (h.cb i hi),
  fun o => (World.frozen?_setCell _ _ _ _).trans (h.frB o),
  fun o => (World.frozen?_setCell _ _ _ _).trans (h.frC o),
  h.dist,
  h.far⟩
theorem Dec.set_wr (h : Dec w F d) (x : Nat) : Dec (w.setCell ⟨F, 1038, none⟩ (.int .i64 (x : Int))) F { d with wr := x } :=
 ⟨(cell_set_off (by decide)).trans h.r,
  (cell_set_off (by decide)).trans h.rBuf,
  (cell_set_off (by decide)).trans h.roff,
  (cell_set_off (by decide)).trans h.b,
  (cell_set_off (by decide)).trans h.nb,
  (cell_set_off (by decide)).trans h.bits,
  (cell_set_off (by decide)).trans h.cbits,
  (cell_set_off (by decide)).trans h.hist,
  set_get h.wr,
  (cell_set_off (by decide)).trans h.rd,
  (cell_set_off (by decide)).trans h.full,
  (cell_set_off (by decide)).trans h.u0,
  (cell_set_off (by decide)).trans h.u1,
  (cell_set_off (by decide)).trans h.u2,
  (cell_set_off (by decide)).trans h.u3,
  (cell_set_off (by decide)).trans h.step,
  (cell_set_off (by decide)).trans h.ss,
  (cell_set_off (by decide)).trans h.fin,
  (cell_set_off (by decide)).trans h.err,
  (cell_set_off (by decide)).trans h.toRead,
  (cell_set_off (by decide)).trans h.hl,
  (cell_set_off (by decide)).trans h.hd,
  (cell_set_off (by decide)).trans h.cl,
  (cell_set_off (by decide)).trans h.cd,
  fun o h1 h2 => (live_setCell _ _ _ _).trans (h.tl o h1 h2),
  fun o => (World.frozen?_setCell _ _ _ _).trans (h.fr o),
  h.away,
  fun i hi => (cell_set_ne (.inl h.neHF)).trans (h.win i hi),
  fun o => (World.frozen?_setCell _ _ _ _).trans (h.frH o),
  fun i hi => (live_setCell _ _ _ _).trans (h.bb i hi),
  fun i hi => (live_setCell _ _ _ _).trans (h.cb i hi),
  fun o => (World.frozen?_setCell _ _ _ _).trans (h.frB o),
  fun o => (World.frozen?_setCell _ _ _ _).trans (h.frC o),
  h.dist,
  h.far⟩
theorem Dec.set_rd (h : Dec w F d) (x : Nat) : Dec (w.setCell ⟨F, 1039, none⟩ (.int .i64 (x : Int))) F { d with rd := x } :=
 ⟨(cell_set_off (by decide)).trans h.r,
  (cell_set_off (by decide)).trans h.rBuf,
  (cell_set_off (by decide)).trans h.roff,
  (cell_set_off (by decide)).trans h.b,
  (cell_set_off (by decide)).trans h.nb,
  (cell_set_off (by decide)).trans h.bits,
  (cell_set_off (by decide)).trans h.cbits,
  (cell_set_off (by decide)).trans h.hist,
  (cell_set_off (by decide)).trans h.wr,
  set_get h.rd,
  (cell_set_off (by decide)).trans h.full,
  (cell_set_off (by decide)).trans h.u0,
  (cell_set_off (by decide)).trans h.u1,
  (cell_set_off (by decide)).trans h.u2,
  (cell_set_off (by decide)).trans h.u3,
  (cell_set_off (by decide)).trans h.step,
  (cell_set_off (by decide)).trans h.ss,
  (cell_set_off (by decide)).trans h.fin,
  (cell_set_off (by decide)).trans h.err,
  (cell_set_off (by decide)).trans h.toRead,
  (cell_set_off (by decide)).trans h.hl,
  (cell_set_off (by decide)).trans h.hd,
  (cell_set_off (by decide)).trans h.cl,
  (cell_set_off (by decide)).trans h.cd,
  fun o h1 h2 => (live_setCell _ _ _ _).trans (h.tl o h1 h2),
  fun o => (World.frozen?_setCell _ _ _ _).trans (h.fr o),
  h.away,
  fun i hi => (cell_set_ne (.inl h.neHF)).trans (h.win i hi),
  fun o => (World.frozen?_setCell _ _ _ _).trans (h.frH o),
  fun i hi => (live_setCell _ _ _ _).trans (h.bb i hi),
  fun i hi => (live_setCell _ _ _ _).trans (h.cb i hi),
  fun o => (World.frozen?_setCell _ _ _ _).trans (h.frB o),
  fun o => (World.frozen?_setCell _ _ _ _).trans (h.frC o),
  h.dist,
  h.far⟩
theorem Dec.set_full (h : Dec w F d) (x : Bool) : Dec (w.setCell ⟨F, 1040, none⟩ (.bool x)) F { d with full := x } :=
 ⟨(cell_set_off (by decide)).trans h.r,
  (cell_set_off (by decide)).trans h.rBuf,
  (cell_set_off (by decide)).trans h.roff,
  (cell_set_off (by decide)).trans h.b,
  (cell_set_off (by decide)).trans h.nb,
  (cell_set_off (by decide)).trans h.bits,
  (cell_set_off (by decide)).trans h.cbits,
  (cell_set_off (by decide)).trans h.hist,
  (cell_set_off (by decide)).trans h.wr,
  (cell_set_off (by decide)).trans h.rd,
  set_get h.full,
  (cell_set_off (by decide)).trans h.u0,
  (cell_set_off (by decide)).trans h.u1,
  (cell_set_off (by decide)).trans h.u2,
  (cell_set_off (by decide)).trans h.u3,
  (cell_set_off (by decide)).trans h.step,
  (cell_set_off (by decide)).trans h.ss,
  (cell_set_off (by decide)).trans h.fin,
  (cell_set_off (by decide)).trans h.err,
  (cell_set_off (by decide)).trans h.toRead,
  (cell_set_off (by decide)).trans h.hl,
  (cell_set_off (by decide)).trans h.hd,
  (cell_set_off (by decide)).trans h.cl,
  (cell_set_off (by decide)).trans h.cd,
  fun o h1 h2 => (live_setCell _ _ _ _).trans (h.tl o h1 h2),
  fun o => (World.frozen?_setCell _ _ _ _).trans (h.fr o),
  h.away,
  fun i hi => (cell_set_ne (.inl h.neHF)).trans (h.win i hi),
  fun o => (World.frozen?_setCell _ _ _ _).trans (h.frH o),
  fun i hi => (live_setCell _ _ _ _).trans (h.bb i hi),
  fun i hi => (live_setCell _ _ _ _).trans (h.cb i hi),
  fun o => (World.frozen?_setCell _ _ _ _).trans (h.frB o),
  fun o => (World.frozen?_setCell _ _ _ _).trans (h.frC o),
  h.dist,
  h.far⟩
theorem Dec.set_step (h : Dec w F d) (x : Value) : Dec (w.setCell ⟨F, 1045, none⟩ (x)) F { d with step := x } :=
 ⟨(cell_set_off (by decide)).trans h.r,
  (cell_set_off (by decide)).trans h.rBuf,
  (cell_set_off (by decide)).trans h.roff,
  (cell_set_off (by decide)).trans h.b,
  (cell_set_off (by decide)).trans h.nb,
  (cell_set_off (by decide)).trans h.bits,
  (cell_set_off (by decide)).trans h.cbits,
  (cell_set_off (by decide)).trans h.hist,
  (cell_set_off (by decide)).trans h.wr,
  (cell_set_off (by decide)).trans h.rd,
  (cell_set_off (by decide)).trans h.full,
  (cell_set_off (by decide)).trans h.u0,
  (cell_set_off (by decide)).trans h.u1,
  (cell_set_off (by decide)).trans h.u2,
  (cell_set_off (by decide)).trans h.u3,
  set_get h.step,
  (cell_set_off (by decide)).trans h.ss,
  (cell_set_off (by decide)).trans h.fin,
  (cell_set_off (by decide)).trans h.err,
  (cell_set_off (by decide)).trans h.toRead,
  (cell_set_off (by decide)).trans h.hl,
  (cell_set_off (by decide)).trans h.hd,
  (cell_set_off (by decide)).trans h.cl,
  (cell_set_off (by decide)).trans h.cd,
  fun o h1 h2 => (live_setCell _ _ _ _).trans (h.tl o h1 h2),
  fun o => (World.frozen?_setCell _ _ _ _).trans (h.fr o),
  h.away,
  fun i hi => (cell_set_ne (.inl h.neHF)).trans (h.win i hi),
  fun o => (World.frozen?_setCell _ _ _ _).trans (h.frH o),
  fun i hi => (live_setCell _ _ _ _).trans (h.bb i hi),
  fun i hi => (live_setCell _ _ _ _).trans (h.cb i hi),
  fun o => (World.frozen?_setCell _ _ _ _).trans (h.frB o),
  fun o => (World.frozen?_setCell _ _ _ _).trans (h.frC o),
  h.dist,
  h.far⟩
theorem Dec.set_ss (h : Dec w F d) (x : Int) : Dec (w.setCell ⟨F, 1046, none⟩ (.int .i64 x)) F { d with ss := x } :=
 ⟨(cell_set_off (by decide)).trans h.r,
  (cell_set_off (by decide)).trans h.rBuf,
  (cell_set_off (by decide)).trans h.roff,
  (cell_set_off (by decide)).trans h.b,
  (cell_set_off (by decide)).trans h.nb,
  (cell_set_off (by decide)).trans h.bits,
  (cell_set_off (by decide)).trans h.cbits,
  (cell_set_off (by decide)).trans h.hist,
  (cell_set_off (by decide)).trans h.wr,
  (cell_set_off (by decide)).trans h.rd,
  (cell_set_off (by decide)).trans h.full,
  (cell_set_off (by decide)).trans h.u0,
  (cell_set_off (by decide)).trans h.u1,
  (cell_set_off (by decide)).trans h.u2,
  (cell_set_off (by decide)).trans h.u3,
  (cell_set_off (by decide)).trans h.step,
  set_get h.ss,
  (cell_set_off (by decide)).trans h.fin,
  (cell_set_off (by decide)).trans h.err,
  (cell_set_off (by decide)).trans h.toRead,
  (cell_set_off (by decide)).trans h.hl,
  (cell_set_off (by decide)).trans h.hd,
  (cell_set_off (by decide)).trans h.cl,
  (cell_set_off (by decide)).trans h.cd,
  fun o h1 h2 => (live_setCell _ _ _ _).trans (h.tl o h1 h2),
  fun o => (World.frozen?_setCell _ _ _ _).trans (h.fr o),
  h.away,
  fun i hi => (cell_set_ne (.inl h.neHF)).trans (h.win i hi),
  fun o => (World.frozen?_setCell _ _ _ _).trans (h.frH o),
  fun i hi => (live_setCell _ _ _ _).trans (h.bb i hi),
  fun i hi => (live_setCell _ _ _ _).trans (h.cb i hi),
  fun o => (World.frozen?_setCell _ _ _ _).trans (h.frB o),
  fun o => (World.frozen?_setCell _ _ _ _).trans (h.frC o),
  h.dist,
  h.far⟩
theorem Dec.set_fin (h : Dec w F d) (x : Bool) : Dec (w.setCell ⟨F, 1047, none⟩ (.bool x)) F { d with fin := x } :=
 ⟨(cell_set_off (by decide)).trans h.r,
  (cell_set_off (by decide)).trans h.rBuf,
  (cell_set_off (by decide)).trans h.roff,
  (cell_set_off (by decide)).trans h.b,
  (cell_set_off (by decide)).trans h.nb,
  (cell_set_off (by decide)).trans h.bits,
  (cell_set_off (by decide)).trans h.cbits,
  (cell_set_off (by decide)).trans h.hist,
  (cell_set_off (by decide)).trans h.wr,
  (cell_set_off (by decide)).trans h.rd,
  (cell_set_off (by decide)).trans h.full,
  (cell_set_off (by decide)).trans h.u0,
  (cell_set_off (by decide)).trans h.u1,
  (cell_set_off (by decide)).trans h.u2,
  (cell_set_off (by decide)).trans h.u3,
  (cell_set_off (by decide)).trans h.step,
  (cell_set_off (by decide)).trans h.ss,
  set_get h.fin,
  (cell_set_off (by decide)).trans h.err,
  (cell_set_off (by decide)).trans h.toRead,
  (cell_set_off (by decide)).trans h.hl,
  (cell_set_off (by decide)).trans h.hd,
  (cell_set_off (by decide)).trans h.cl,
  (cell_set_off (by decide)).trans h.cd,
  fun o h1 h2 => (live_setCell _ _ _ _).trans (h.tl o h1 h2),
  fun o => (World.frozen?_setCell _ _ _ _).trans (h.fr o),
  h.away,
  fun i hi => (cell_set_ne (.inl h.neHF)).trans (h.win i hi),
  fun o => (World.frozen?_setCell _ _ _ _).trans (h.frH o),
  fun i hi => (live_setCell _ _ _ _).trans (h.bb i hi),
  fun i hi => (live_setCell _ _ _ _).trans (h.cb i hi),
  fun o => (World.frozen?_setCell _ _ _ _).trans (h.frB o),
  fun o => (World.frozen?_setCell _ _ _ _).trans (h.frC o),
  h.dist,
  h.far⟩
theorem Dec.set_err (h : Dec w F d) (x : Value) : Dec (w.setCell ⟨F, 1048, none⟩ (x)) F { d with err := x } :=
 ⟨(cell_set_off (by decide)).trans h.r,
  (cell_set_off (by decide)).trans h.rBuf,
  (cell_set_off (by decide)).trans h.roff,
  (cell_set_off (by decide)).trans h.b,
  (cell_set_off (by decide)).trans h.nb,
  (cell_set_off (by decide)).trans h.bits,
  (cell_set_off (by decide)).trans h.cbits,
  (cell_set_off (by decide)).trans h.hist,
  (cell_set_off (by decide)).trans h.wr,
  (cell_set_off (by decide)).trans h.rd,
  (cell_set_off (by decide)).trans h.full,
  (cell_set_off (by decide)).trans h.u0,
  (cell_set_off (by decide)).trans h.u1,
  (cell_set_off (by decide)).trans h.u2,
  (cell_set_off (by decide)).trans h.u3,
  (cell_set_off (by decide)).trans h.step,
  (cell_set_off (by decide)).trans h.ss,
  (cell_set_off (by decide)).trans h.fin,
  set_get h.err,
  (cell_set_off (by decide)).trans h.toRead,
  (cell_set_off (by decide)).trans h.hl,
  (cell_set_off (by decide)).trans h.hd,
  (cell_set_off (by decide)).trans h.cl,
  (cell_set_off (by decide)).trans h.cd,
  fun o h1 h2 => (live_setCell _ _ _ _).trans (h.tl o h1 h2),
  fun o => (World.frozen?_setCell _ _ _ _).trans (h.fr o),
  h.away,
  fun i hi => (cell_set_ne (.inl h.neHF)).trans (h.win i hi),
  fun o => (World.frozen?_setCell _ _ _ _).trans (h.frH o),
  fun i hi => (live_setCell _ _ _ _).trans (h.bb i hi),
  fun i hi => (live_setCell _ _ _ _).trans (h.cb i hi),
  fun o => (World.frozen?_setCell _ _ _ _).trans (h.frB o),
  fun o => (World.frozen?_setCell _ _ _ _).trans (h.frC o),
  h.dist,
  h.far⟩
theorem Dec.set_toRead (h : Dec w F d) (x : Value) : Dec (w.setCell ⟨F, 1049, none⟩ (x)) F { d with toRead := x } :=
 ⟨(cell_set_off (by decide)).trans h.r,
  (cell_set_off (by decide)).trans h.rBuf,
  (cell_set_off (by decide)).trans h.roff,
  (cell_set_off (by decide)).trans h.b,
  (cell_set_off (by decide)).trans h.nb,
  (cell_set_off (by decide)).trans h.bits,
  (cell_set_off (by decide)).trans h.cbits,
  (cell_set_off (by decide)).trans h.hist,
  (cell_set_off (by decide)).trans h.wr,
  (cell_set_off (by decide)).trans h.rd,
  (cell_set_off (by decide)).trans h.full,
  (cell_set_off (by decide)).trans h.u0,
  (cell_set_off (by decide)).trans h.u1,
  (cell_set_off (by decide)).trans h.u2,
  (cell_set_off (by decide)).trans h.u3,
  (cell_set_off (by decide)).trans h.step,
  (cell_set_off (by decide)).trans h.ss,
  (cell_set_off (by decide)).trans h.fin,
  (cell_set_off (by decide)).trans h.err,
  set_get h.toRead,
  (cell_set_off (by decide)).trans h.hl,
  (cell_set_off (by decide)).trans h.hd,
  (cell_set_off (by decide)).trans h.cl,
  (cell_set_off (by decide)).trans h.cd,
  fun o h1 h2 => (live_setCell _ _ _ _).trans (h.tl o h1 h2),
  fun o => (World.frozen?_setCell _ _ _ _).trans (h.fr o),
  h.away,
  fun i hi => (cell_set_ne (.inl h.neHF)).trans (h.win i hi),
  fun o => (World.frozen?_setCell _ _ _ _).trans (h.frH o),
  fun i hi => (live_setCell _ _ _ _).trans (h.bb i hi),
  fun i hi => (live_setCell _ _ _ _).trans (h.cb i hi),
  fun o => (World.frozen?_setCell _ _ _ _).trans (h.frB o),
  fun o => (World.frozen?_setCell _ _ _ _).trans (h.frC o),
  h.dist,
  h.far⟩
theorem Dec.set_hl (h : Dec w F d) (x : Value) : Dec (w.setCell ⟨F, 1050, none⟩ (x)) F { d with hl := x } :=
 ⟨(cell_set_off (by decide)).trans h.r,
  (cell_set_off (by decide)).trans h.rBuf,
  (cell_set_off (by decide)).trans h.roff,
  (cell_set_off (by decide)).trans h.b,
  (cell_set_off (by decide)).trans h.nb,
  (cell_set_off (by decide)).trans h.bits,
  (cell_set_off (by decide)).trans h.cbits,
  (cell_set_off (by decide)).trans h.hist,
  (cell_set_off (by decide)).trans h.wr,
  (cell_set_off (by decide)).trans h.rd,
  (cell_set_off (by decide)).trans h.full,
  (cell_set_off (by decide)).trans h.u0,
  (cell_set_off (by decide)).trans h.u1,
  (cell_set_off (by decide)).trans h.u2,
  (cell_set_off (by decide)).trans h.u3,
  (cell_set_off (by decide)).trans h.step,
  (cell_set_off (by decide)).trans h.ss,
  (cell_set_off (by decide)).trans h.fin,
  (cell_set_off (by decide)).trans h.err,
  (cell_set_off (by decide)).trans h.toRead,
  set_get h.hl,
  (cell_set_off (by decide)).trans h.hd,
  (cell_set_off (by decide)).trans h.cl,
  (cell_set_off (by decide)).trans h.cd,
  fun o h1 h2 => (live_setCell _ _ _ _).trans (h.tl o h1 h2),
  fun o => (World.frozen?_setCell _ _ _ _).trans (h.fr o),
  h.away,
  fun i hi => (cell_set_ne (.inl h.neHF)).trans (h.win i hi),
  fun o => (World.frozen?_setCell _ _ _ _).trans (h.frH o),
  fun i hi => (live_setCell _ _ _ _).trans (h.bb i hi),
  fun i hi => (live_setCell _ _ _ _).trans (h.cb i hi),
  fun o => (World.frozen?_setCell _ _ _ _).trans (h.frB o),
  fun o => (World.frozen?_setCell _ _ _ _).trans (h.frC o),
  h.dist,
  h.far⟩
theorem Dec.set_hd (h : Dec w F d) (x : Value) : Dec (w.setCell ⟨F, 1051, none⟩ (x)) F { d with hd := x } :=
 ⟨(cell_set_off (by decide)).trans h.r,
  (cell_set_off (by decide)).trans h.rBuf,
  (cell_set_off (by decide)).trans h.roff,
  (cell_set_off (by decide)).trans h.b,
  (cell_set_off (by decide)).trans h.nb,
  (cell_set_off (by decide)).trans h.bits,
  (cell_set_off (by decide)).trans h.cbits,
  (cell_set_off (by decide)).trans h.hist,
  (cell_set_off (by decide)).trans h.wr,
  (cell_set_off (by decide)).trans h.rd,
  (cell_set_off (by decide)).trans h.full,
  (cell_set_off (by decide)).trans h.u0,
  (cell_set_off (by decide)).trans h.u1,
  (cell_set_off (by decide)).trans h.u2,
  (cell_set_off (by decide)).trans h.u3,
  (cell_set_off (by decide)).trans h.step,
  (cell_set_off (by decide)).trans h.ss,
  (cell_set_off (by decide)).trans h.fin,
  (cell_set_off (by decide)).trans h.err,
  (cell_set_off (by decide)).trans h.toRead,
  (cell_set_off (by decide)).trans h.hl,
  set_get h.hd,
  (cell_set_off (by decide)).trans h.cl,
  (cell_set_off (by decide)).trans h.cd,
  fun o h1 h2 => (live_setCell _ _ _ _).trans (h.tl o h1 h2),
  fun o => (World.frozen?_setCell _ _ _ _).trans (h.fr o),
  h.away,
  fun i hi => (cell_set_ne (.inl h.neHF)).trans (h.win i hi),
  fun o => (World.frozen?_setCell _ _ _ _).trans (h.frH o),
  fun i hi => (live_setCell _ _ _ _).trans (h.bb i hi),
  fun i hi => (live_setCell _ _ _ _).trans (h.cb i hi),
  fun o => (World.frozen?_setCell _ _ _ _).trans (h.frB o),
  fun o => (World.frozen?_setCell _ _ _ _).trans (h.frC o),
  h.dist,
  h.far⟩
theorem Dec.set_cl (h : Dec w F d) (x : Int) : Dec (w.setCell ⟨F, 1052, none⟩ (.int .i64 x)) F { d with cl := x } :=
 ⟨(cell_set_off (by decide)).trans h.r,
  (cell_set_off (by decide)).trans h.rBuf,
  (cell_set_off (by decide)).trans h.roff,
  (cell_set_off (by decide)).trans h.b,
  (cell_set_off (by decide)).trans h.nb,
  (cell_set_off (by decide)).trans h.bits,
  (cell_set_off (by decide)).trans h.cbits,
  (cell_set_off (by decide)).trans h.hist,
  (cell_set_off (by decide)).trans h.wr,
  (cell_set_off (by decide)).trans h.rd,
  (cell_set_off (by decide)).trans h.full,
  (cell_set_off (by decide)).trans h.u0,
  (cell_set_off (by decide)).trans h.u1,
  (cell_set_off (by decide)).trans h.u2,
  (cell_set_off (by decide)).trans h.u3,
  (cell_set_off (by decide)).trans h.step,
  (cell_set_off (by decide)).trans h.ss,
  (cell_set_off (by decide)).trans h.fin,
  (cell_set_off (by decide)).trans h.err,
  (cell_set_off (by decide)).trans h.toRead,
  (cell_set_off (by decide)).trans h.hl,
  (cell_set_off (by decide)).trans h.hd,
  set_get h.cl,
  (cell_set_off (by decide)).trans h.cd,
  fun o h1 h2 => (live_setCell _ _ _ _).trans (h.tl o h1 h2),
  fun o => (World.frozen?_setCell _ _ _ _).trans (h.fr o),
  h.away,
  fun i hi => (cell_set_ne (.inl h.neHF)).trans (h.win i hi),
  fun o => (World.frozen?_setCell _ _ _ _).trans (h.frH o),
  fun i hi => (live_setCell _ _ _ _).trans (h.bb i hi),
  fun i hi => (live_setCell _ _ _ _).trans (h.cb i hi),
  fun o => (World.frozen?_setCell _ _ _ _).trans (h.frB o),
  fun o => (World.frozen?_setCell _ _ _ _).trans (h.frC o),
  h.dist,
  h.far⟩
theorem Dec.set_cd (h : Dec w F d) (x : Int) : Dec (w.setCell ⟨F, 1053, none⟩ (.int .i64 x)) F { d with cd := x } :=
 ⟨(cell_set_off (by decide)).trans h.r,
  (cell_set_off (by decide)).trans h.rBuf,
  (cell_set_off (by decide)).trans h.roff,
  (cell_set_off (by decide)).trans h.b,
  (cell_set_off (by decide)).trans h.nb,
  (cell_set_off (by decide)).trans h.bits,
  (cell_set_off (by decide)).trans h.cbits,
  (cell_set_off (by decide)).trans h.hist,
  (cell_set_off (by decide)).trans h.wr,
  (cell_set_off (by decide)).trans h.rd,
  (cell_set_off (by decide)).trans h.full,
  (cell_set_off (by decide)).trans h.u0,
  (cell_set_off (by decide)).trans h.u1,
  (cell_set_off (by decide)).trans h.u2,
  (cell_set_off (by decide)).trans h.u3,
  (cell_set_off (by decide)).trans h.step,
  (cell_set_off (by decide)).trans h.ss,
  (cell_set_off (by decide)).trans h.fin,
  (cell_set_off (by decide)).trans h.err,
  (cell_set_off (by decide)).trans h.toRead,
  (cell_set_off (by decide)).trans h.hl,
  (cell_set_off (by decide)).trans h.hd,
  (cell_set_off (by decide)).trans h.cl,
  set_get h.cd,
  fun o h1 h2 => (live_setCell _ _ _ _).trans (h.tl o h1 h2),
  fun o => (World.frozen?_setCell _ _ _ _).trans (h.fr o),
  h.away,
  fun i hi => (cell_set_ne (.inl h.neHF)).trans (h.win i hi),
  fun o => (World.frozen?_setCell _ _ _ _).trans (h.frH o),
  fun i hi => (live_setCell _ _ _ _).trans (h.bb i hi),
  fun i hi => (live_setCell _ _ _ _).trans (h.cb i hi),
  fun o => (World.frozen?_setCell _ _ _ _).trans (h.frB o),
  fun o => (World.frozen?_setCell _ _ _ _).trans (h.frC o),
  h.dist,
  h.far⟩
theorem Dec.set_src (h : Dec w F d) (hf : Frm (fun b _ => b = d.R) w w') {q : Nat} (hs : Src w' d.R d.base d.src q) : Dec w' F { d with pos := q } := by
 have k : ∀ {b o : Nat} {v : Value}, w.cell? ⟨b, o, none⟩ = some v → b ≠ d.R → w'.cell? ⟨b, o, none⟩ = some v := fun hc hn => hf.keep hc hn
 have hRF := h.neRF
 have hRH := h.neRH
 have hlt := h.lt
 have hH0 := cell_lt (h.win 0 (by omega))
 have hB0 : d.BB < w.heap.size := by obtain ⟨v, hv⟩ := Option.isSome_iff_exists.1 (h.bb 0 (by omega)); exact cell_lt hv
 have hC0 : d.CB < w.heap.size := by obtain ⟨v, hv⟩ := Option.isSome_iff_exists.1 (h.cb 0 (by omega)); exact cell_lt hv
 exact ⟨k h.r (Ne.symm hRF), k h.rBuf (Ne.symm hRF), k h.roff (Ne.symm hRF), k h.b (Ne.symm hRF), k h.nb (Ne.symm hRF), k h.bits (Ne.symm hRF), k h.cbits (Ne.symm hRF), k h.hist (Ne.symm hRF), k h.wr (Ne.symm hRF), k h.rd (Ne.symm hRF), k h.full (Ne.symm hRF), k h.u0 (Ne.symm hRF), k h.u1 (Ne.symm hRF), k h.u2 (Ne.symm hRF), k h.u3 (Ne.symm hRF), k h.step (Ne.symm hRF), k h.ss (Ne.symm hRF), k h.fin (Ne.symm hRF), k h.err (Ne.symm hRF), k h.toRead (Ne.symm hRF), k h.hl (Ne.symm hRF), k h.hd (Ne.symm hRF), k h.cl (Ne.symm hRF), k h.cd (Ne.symm hRF), fun o h1 h2 => (hf.live F o hlt).trans (h.tl o h1 h2), fun o => (hf.froz F o hlt).trans (h.fr o), hs, fun i hi => k (h.win i hi) (Ne.symm hRH), fun o => (hf.froz _ o hH0).trans (h.frH o), fun i hi => (hf.live _ i hB0).trans (h.bb i hi), fun i hi => (hf.live _ i hC0).trans (h.cb i hi), fun o => (hf.froz _ o hB0).trans (h.frB o), fun o => (hf.froz _ o hC0).trans (h.frC o), h.dist, h.far⟩
theorem Dec.set_win (h : Dec w F d) (hf : Frm (fun b _ => b = d.HB) w w') (g : Nat → UInt8) (hw : ∀ i, i < 32768 → w'.cell? ⟨d.HB, i, none⟩ = some (.int .u8 ((g i).toNat : Int))) : Dec w' F { d with g := g } := by
 have k : ∀ {b o : Nat} {v : Value}, w.cell? ⟨b, o, none⟩ = some v → b ≠ d.HB → w'.cell? ⟨b, o, none⟩ = some v := fun hc hn => hf.keep hc hn
 have hHF := h.neHF
 have hRH := h.neRH
 have hlt := h.lt
 have hH0 := cell_lt (h.win 0 (by omega))
 have hB0 : d.BB < w.heap.size := by obtain ⟨v, hv⟩ := Option.isSome_iff_exists.1 (h.bb 0 (by omega)); exact cell_lt hv
 have hC0 : d.CB < w.heap.size := by obtain ⟨v, hv⟩ := Option.isSome_iff_exists.1 (h.cb 0 (by omega)); exact cell_lt hv
 exact ⟨k h.r (Ne.symm hHF), k h.rBuf (Ne.symm hHF), k h.roff (Ne.symm hHF), k h.b (Ne.symm hHF), k h.nb (Ne.symm hHF), k h.bits (Ne.symm hHF), k h.cbits (Ne.symm hHF), k h.hist (Ne.symm hHF), k h.wr (Ne.symm hHF), k h.rd (Ne.symm hHF), k h.full (Ne.symm hHF), k h.u0 (Ne.symm hHF), k h.u1 (Ne.symm hHF), k h.u2 (Ne.symm hHF), k h.u3 (Ne.symm hHF), k h.step (Ne.symm hHF), k h.ss (Ne.symm hHF), k h.fin (Ne.symm hHF), k h.err (Ne.symm hHF), k h.toRead (Ne.symm hHF), k h.hl (Ne.symm hHF), k h.hd (Ne.symm hHF), k h.cl (Ne.symm hHF), k h.cd (Ne.symm hHF), fun o h1 h2 => (hf.live F o hlt).trans (h.tl o h1 h2), fun o => (hf.froz F o hlt).trans (h.fr o), h.so.keep hf (fun _ e => hRH e) (fun a ha j _ e => h.far a ha (by rw [e]; simp)), hw, fun o => (hf.froz _ o hH0).trans (h.frH o), fun i hi => (hf.live _ i hB0).trans (h.bb i hi), fun i hi => (hf.live _ i hC0).trans (h.cb i hi), fun o => (hf.froz _ o hB0).trans (h.frB o), fun o => (hf.froz _ o hC0).trans (h.frC o), h.dist, h.far⟩
end
attribute [local go_sem] meth_ReadByte
def DS.put (d : DS) (r : Br) : DS := { d with b := r.b d.src, nb := r.nb, roff := r.pos, pos := r.pos }
def SB (F R : Nat) (b o : Nat) : Prop := b = F ∧ (o = 2 ∨ o = 3 ∨ o = 4) ∨ b = R
theorem more_bits {src : List UInt8} {r : Br} (hr : r.ok src) (hnb : r.nb ≤ 24) (hlt : r.pos < src.length) :
 bits .or .u32 (r.b src : Int) ((src[r.pos].toNat : Int) % 4294967296 * 2 ^ r.nb % 4294967296) = (({ r with pos := r.pos + 1 } : Br).b src : Int) := by
 have hc := src[r.pos].toNat_lt
 have hb := bv_lt src r.at_ r.nb
 have hp : (2 : Nat) ^ r.nb ≤ 2 ^ 24 := Nat.pow_le_pow_right (by omega) hnb
 have e1 : ((src[r.pos].toNat : Int) % 4294967296 * 2 ^ r.nb % 4294967296) = ((src[r.pos].toNat <<< r.nb : Nat) : Int) := by
  rw [Nat.shiftLeft_eq]; have h1 : src[r.pos].toNat * 2 ^ r.nb < 4294967296 := by
   have : src[r.pos].toNat * 2 ^ r.nb ≤ 255 * 2 ^ 24 := Nat.mul_le_mul (by omega) hp
   omega
  have h2 : ((src[r.pos].toNat : Int) % 4294967296) = (src[r.pos].toNat : Int) := by omega
  rw [h2]; have h3 : ((src[r.pos].toNat * 2 ^ r.nb : Nat) : Int) = (src[r.pos].toNat : Int) * 2 ^ r.nb := by push_cast; rfl
  rw [← h3]; omega
 have e2 : r.at_ + r.nb = 8 * r.pos := by have := hr.1; unfold Br.nb; omega
 have e3 : ({ r with pos := r.pos + 1 } : Br).nb = r.nb + 8 := by have := hr.1; unfold Br.nb; simp only; omega
 have h4 : src[r.pos].toNat <<< r.nb < 4294967296 := by
  rw [Nat.shiftLeft_eq]; have : src[r.pos].toNat * 2 ^ r.nb ≤ 255 * 2 ^ 24 := Nat.mul_le_mul (by omega) hp
  omega
 rw [e1, u32_or_nat _ _ (by unfold Br.b; omega) h4]
 unfold Br.b
 rw [e3, ← bv_or, e2, bv_byte src r.pos hlt]
theorem nb_more {src : List UInt8} {r : Br} (hr : r.ok src) : ((r.nb : Int) + 8) = (({ r with pos := r.pos + 1 } : Br).nb : Int) := by
 have := hr.1; unfold Br.nb; simp only; omega
set_option maxHeartbeats 400000 in
theorem moreBits_ok (w : World) (F : Nat) (d : DS) (r : Br) (hD : Dec w F (d.put r)) (hr : r.ok d.src) (hnb : r.nb ≤ 24) (hlt : r.pos < d.src.length) :
 Calls Tryz.prog 79 #[.pointer (some ⟨F, 0, none⟩)] w fun e w' =>
  e = .returned .nilIface ∧ Dec w' F (d.put { r with pos := r.pos + 1 }) ∧ Frm (SB F d.R) w w' := by
 have h0 : w.cell? ⟨F, 0, none⟩ = some (.iface 48 (.pointer (some ⟨d.R, 0, none⟩))) := hD.r
 go_enter Tryz.func79, Tryz.ntmps79
 go_wp2_with fail
 refine (readByte_any w d.R d.base d.src r.pos hD.so hlt).mono ?_
 rintro e w1 ⟨rfl, hS, hf⟩
 have hD1 : Dec w1 F { d.put r with pos := r.pos + 1 } := hD.set_src hf hS
 have h2 : w1.cell? ⟨F, 2, none⟩ = some (.int .i64 (r.pos : Int)) := hD1.roff
 have h3 : w1.cell? ⟨F, 3, none⟩ = some (.int .u32 (r.b d.src : Int)) := hD1.b
 have h4 : w1.cell? ⟨F, 4, none⟩ = some (.int .u64 (r.nb : Int)) := hD1.nb
 have f2 := hD1.fr 2
 have f3 := hD1.fr 3
 have f4 := hD1.fr 4
 have hfew := hD.so.few
 have b1 : (r.pos : Int) < 1099511627776 := by have : d.src.length ≤ 1099511627776 := hfew; omega
 have b2 : (r.nb : Int) ≤ 24 := by omega
 clear h0 hfew
 go_wp2_with fail
 (refine region_tail 14 (by kernel_rfl) (by kernel_rfl) ?_; simp only [List.take_succ_cons, List.take_zero, List.drop_succ_cons, List.drop_zero]; (repeat still_step); refine wpStill_nil ?_)
 go_wp2
 go_ret
 refine ⟨rfl, ?_, ?_⟩
 · rw [more_bits hr hnb hlt, nb_more hr]; exact (((hD1.set_roff (r.pos + 1)).set_b _).set_nb _).drew
 · have hf' : Frm (SB F d.R) w w1 := hf.mono fun b o e => .inr e
   exact (((hf'.setCell (.inl (.inl ⟨rfl, .inl rfl⟩)) _).setCell (.inl (.inl ⟨rfl, .inr (.inl rfl)⟩)) _).setCell (.inl (.inl ⟨rfl, .inr (.inr rfl)⟩)) _).drew
set_option maxHeartbeats 400000 in
theorem moreBits_end (w : World) (F B : Nat) (p : Ps) (d : DS) (r : Br) (he : Env w B p) (hRB : B ≤ d.R) (hD : Dec w F (d.put r)) (hlt : r.pos = d.src.length) :
 Calls Tryz.prog 79 #[.pointer (some ⟨F, 0, none⟩)] w fun e w' =>
  e = .returned (errAt p.U) ∧ Dec w' F (d.put r) ∧ Frm (fun b _ => b = d.R) w w' := by
 have h0 : w.cell? ⟨F, 0, none⟩ = some (.iface 48 (.pointer (some ⟨d.R, 0, none⟩))) := hD.r
 have hS0 : Src w d.R d.base d.src d.src.length := by have := hD.so; rw [show (d.put r).pos = r.pos from rfl, hlt] at this; exact this
 go_enter Tryz.func79, Tryz.ntmps79
 go_wp2_with fail
 refine (readByte_end w d.R d.base d.src B p hS0 he hRB).mono ?_
 rintro e w1 ⟨rfl, hS, hf⟩
 clear h0
 have he1 := he.keep hf (fun b _ e => by omega)
 go_wp2_with fail
 refine (noEOF_any w1 B p he1 p.E (.inl rfl)).mono ?_
 rintro e w2 ⟨rfl, rfl⟩
 go_wp2_with fail
 go_ret
 refine ⟨rfl, ?_, hf⟩
 have := hD.set_src hf (q := r.pos) (by rw [hlt]; exact hS)
 exact this
structure TabAt (w : World) (B o : Nat) (T : Tab) (N : Nat → Prop) : Prop where
 min : w.cell? ⟨B, o, none⟩ = some (.int .i64 (T.min : Int))
 ch : ∀ i, i < 512 → w.cell? ⟨B, o + 1 + i, none⟩ = some (.int .u32 (T.chunks.getD i 0 : Nat))
 mask : w.cell? ⟨B, o + 514, none⟩ = some (.int .u32 (T.mask : Int))
 none_ : T.links = [] → w.cell? ⟨B, o + 513, none⟩ = some (.slice none 0 0)
 some_ : T.links ≠ [] → ∃ L, N L ∧ w.cell? ⟨B, o + 513, none⟩ = some (.slice (some ⟨L, 0, none⟩) T.links.length T.links.length) ∧
  ∀ k, k < T.links.length → ∃ b, N b ∧ w.cell? ⟨L, k, none⟩ = some (.slice (some ⟨b, 0, none⟩) (T.mask + 1) (T.mask + 1)) ∧
   ∀ j, j < T.mask + 1 → w.cell? ⟨b, j, none⟩ = some (.int .u32 (((T.links.getD k []).getD j 0 : Nat) : Int))
theorem TabAt.keep {S : Nat → Nat → Prop} {w w' : World} {B o : Nat} {T : Tab} {N : Nat → Prop} (h : TabAt w B o T N) (hf : Frm S w w') (hB : ∀ k, o ≤ k → k < o + 515 → ¬ S B k) (hN : ∀ b, N b → ∀ k, ¬ S b k) : TabAt w' B o T N := by
 refine ⟨hf.keep h.min (hB _ (by omega) (by omega)), fun i hi => hf.keep (h.ch i hi) (hB _ (by omega) (by omega)), hf.keep h.mask (hB _ (by omega) (by omega)),
  fun e => hf.keep (h.none_ e) (hB _ (by omega) (by omega)), fun e => ?_⟩
 obtain ⟨L, hL, h1, h2⟩ := h.some_ e
 refine ⟨L, hL, hf.keep h1 (hB _ (by omega) (by omega)), fun k hk => ?_⟩
 obtain ⟨b, hb, h3, h4⟩ := h2 k hk
 exact ⟨b, hb, hf.keep h3 (hN L hL _), fun j hj => hf.keep (h4 j hj) (hN b hb _)⟩
end Go.Proofs.YthfncdfcklbigaaGreatDoor
namespace Go.Proofs.YthfncdfcklbigaaGreatDoor
open Go.RowKit Flate
set_option maxRecDepth 100000
attribute [local go_sem] meth_ReadByte
abbrev corruptAt (n : Nat) : Value := .iface 88 (.int .i64 (n : Int))
def SymPost (p : Ps) (d : DS) (F : Nat) (w : World) (s : Rd Nat) (e : Ending) (w' : World) : Prop :=
 match s with
 | .ok v r' => e = .returned (.tuple #[.int .i64 (v : Int), .nilIface]) ∧ Dec w' F (d.put r') ∧ Frm (SB F d.R) w w'
 | .bad .cut r' => e = .returned (.tuple #[.int .i64 0, errAt p.U]) ∧ Dec w' F (d.put r') ∧ Frm (SB F d.R) w w'
 | .bad _ r' => e = .returned (.tuple #[.int .i64 0, corruptAt r'.pos]) ∧ Dec w' F { d.put r' with err := corruptAt r'.pos } ∧ Frm (fun b o => SB F d.R b o ∨ b = F ∧ o = 1048) w w'
theorem TabAt.keepSB {w w' : World} {B o F R : Nat} {T : Tab} {N : Nat → Prop} (h : TabAt w B o T N) (hf : Frm (SB F R) w w') (hN : ∀ b, N b → b ≠ F ∧ b ≠ R) (hB : B ≠ R) (hBF : B = F → 5 ≤ o ∧ o + 515 ≤ 1035) : TabAt w' B o T N := by
 refine h.keep hf (fun k a b e => ?_) (fun b hb k e => ?_)
 · rcases e with ⟨e, _⟩ | e
   · have := hBF e; omega
   · exact hB e
 · have := hN b hb; rcases e with ⟨e, _⟩ | e
   · exact this.1 e
   · exact this.2 e
theorem and511 {x : Nat} (h : x < 4294967296) : bits .and .u32 (x : Int) 511 = ((x % 512 : Nat) : Int) := by rw [show (511 : Int) = ((511 : Nat) : Int) from rfl, u32_and_nat _ _ h (by omega), nat_mask9]
theorem and15 {x : Nat} (h : x < 4294967296) : bits .and .u32 (x : Int) 15 = ((x % 16 : Nat) : Int) := by rw [show (15 : Int) = ((15 : Nat) : Int) from rfl, u32_and_nat _ _ h (by omega), nat_mask4]
theorem look_small {T : Tab} {x c : Nat} (h : c = T.chunks.getD (x % 512) 0) (h9 : ¬ 9 < c % 16) : c = T.look x := by
 subst h; unfold Tab.look; simp only; rw [if_neg h9]
theorem look_big {T : Tab} {x c : Nat} (h : c = T.chunks.getD (x % 512) 0) (h9 : 9 < c % 16) : (T.links.getD (c / 16) []).getD ((x / 512) &&& T.mask) 0 = T.look x := by
 subst h; unfold Tab.look; simp only; rw [if_pos h9]
theorem b_lt {src : List UInt8} {r : Br} (h : r.nb ≤ 24) : r.b src < 4294967296 := by
 have := bv_lt src r.at_ r.nb
 have h2 : (2 : Nat) ^ r.nb ≤ 2 ^ 24 := Nat.pow_le_pow_right (by omega) h
 unfold Br.b; omega
def SymInv (w : World) (F : Nat) (d : DS) (r : Br) (T : Tab) (n nb b : Value) (wr : World) : Prop :=
 ∃ (f n' : Nat) (rc : Br), n = .int .u64 (n' : Int) ∧ nb = .int .u64 (rc.nb : Int) ∧ b = .int .u32 (rc.b d.src : Int) ∧ rc.at_ = r.at_ ∧ rc.ok d.src ∧ rc.nb ≤ 24 ∧ n' ≤ 15 ∧ (f = 20 ∨ 16 ≤ f + rc.nb ∧ rc.nb < n') ∧
  sym d.src T f n' rc = symbol d.src T r ∧ Dec wr F { d.put r with roff := rc.pos, pos := rc.pos } ∧ Frm (SB F d.R) w wr
def FillInv (w : World) (F : Nat) (d : DS) (r : Br) (n' : Nat) (rc : Br) (nb b : Value) (wr : World) : Prop :=
 ∃ rd : Br, nb = .int .u64 (rd.nb : Int) ∧ b = .int .u32 (rd.b d.src : Int) ∧ rd.at_ = r.at_ ∧ rd.ok d.src ∧ rd.nb ≤ 24 ∧ rc.nb ≤ rd.nb ∧
  fill d.src.length n' rd = fill d.src.length n' rc ∧ Dec wr F { d.put r with roff := rd.pos, pos := rd.pos } ∧ Frm (SB F d.R) w wr
def symMu (n nb : Int) : Nat := 2 * (40 - nb.toNat) + (if n ≤ nb then 1 else 0)
theorem symMu_step {k : Int} {rb n rc : Nat} (h1 : ¬ k ≤ rb) (h2 : rc ≤ rb) (h3 : n ≤ rb) (h4 : rb ≤ 24) : symMu k rb < symMu n rc := by
 unfold symMu
 rw [if_neg h1]
 by_cases h : (n : Int) ≤ (rc : Int)
 · rw [if_pos h]; simp; omega
 · rw [if_neg h]; simp; omega
set_option maxHeartbeats 1000000 in
theorem huffSym_any (w : World) (F B o : Nat) (p : Ps) (C : Nat) (N : Nat → Prop) (d : DS) (r : Br) (T : Tab) (he : Env w C p) (hRB : C ≤ d.R) (hFB : C ≤ F) (hD : Dec w F (d.put r)) (hr : r.ok d.src) (hnb : r.nb ≤ 24)
 (hT : TabAt w B o T N) (hOK : T.OK) (hN : ∀ b, N b → b ≠ F ∧ b ≠ d.R) (hB : B ≠ d.R) (hBF : B = F → 5 ≤ o ∧ o + 515 ≤ 1035) :
 Calls Tryz.prog 89 #[.pointer (some ⟨F, 0, none⟩), .pointer (some ⟨B, o, none⟩)] w (SymPost p d F w (symbol d.src T r)) := by
 have hm := hT.min
 have h3 : w.cell? ⟨F, 3, none⟩ = some (.int .u32 (r.b d.src : Int)) := hD.b
 have h4 : w.cell? ⟨F, 4, none⟩ = some (.int .u64 (r.nb : Int)) := hD.nb
 have m15 : (T.min : Int) ≤ 15 := by have := hOK.min; omega
 go_enter Tryz.func89, Tryz.ntmps89
 go_wp2_with fail
 (go_quiet (fail))
 go_wp2_with fail
 go_loopw [6, 7, 8] (fun n nb b wr => SymInv w F d r T n nb b wr) (fun n nb _ _ => symMu (intOf n) (intOf nb))
 case atStart =>
  exact ⟨20, T.min, r, by go_num, rfl, rfl, rfl, hr, hnb, by omega, .inl rfl, rfl, hD.drewN nq, (Frm.refl _ _).drewN nq⟩
 case round =>
  obtain ⟨f, n', rc, rfl, rfl, rfl, h1, h2, h3', h5, h6, h7, hD1, hF1⟩ := hrel; have HS := zHi h7; have HA := zHi h1; clear h7 h1 h3 h4 hm; go_wp2_with fail
  go_loopw [7, 8] (fun nb b wq => FillInv w F d r n' rc nb b wq) (fun nb _ _ => 64 - (intOf nb).toNat)
  case atStart => exact ⟨rc, rfl, rfl, HA.out, h2, h3', Nat.le_refl _, rfl, hD1, hF1⟩
  case round =>
   obtain ⟨rd, rfl, rfl, k1, k2, k3, k4, k5, hD2, hF2⟩ := hrel; have HB := zHi k1; have HC := zHi k5; clear k1 k5
   by_cases hlt : rd.nb < n'
   · have c0 : wr.cell? ⟨F, 0, none⟩ = some (.iface 48 (.pointer (some ⟨d.R, 0, none⟩))) := hD2.r; have hlt' : (rd.nb : Int) < (n' : Int) := by omega
     by_cases hp : rd.pos < d.src.length
     · go_wp2_with fail
       refine (readByte_any wr d.R d.base d.src rd.pos hD2.so hp).mono ?_; rintro e w1 ⟨rfl, hS, hf⟩; have hD3 : Dec w1 F { d.put r with roff := rd.pos, pos := rd.pos + 1 } := hD2.set_src hf hS; have c2 : w1.cell? ⟨F, 2, none⟩ = some (.int .i64 (rd.pos : Int)) := hD3.roff; have g2 := hD3.fr 2; have b1 : (rd.pos : Int) < 1099511627776 := by have : d.src.length ≤ 1099511627776 := hD.so.few; omega
       have h31 : bits .and .u64 (rd.nb : Int) 31 = (rd.nb : Int) := by
        rw [show (31 : Int) = ((31 : Nat) : Int) from rfl, u64_and_nat _ _ (by omega) (by omega), nat_mask5]; omega
       clear c0; go_wp2_with fail
       go_roundw
       case rel =>
        refine ⟨{ rd with pos := rd.pos + 1 }, by rw [nb_more k2], by rw [more_bits k2 k3 hp], HB.out, ⟨by have := k2.1; simp only; omega, hp⟩, by have := nb_more k2; omega, by have := nb_more k2; omega, ?_, ?_, ?_⟩
        · rw [fill_more (by omega) hp k2.1]; exact HC.out
        · exact hD3.set_roff (rd.pos + 1)
        · have hF3 : Frm (SB F d.R) w w1 := hF2.trans (hf.mono fun b o e => .inr e)
          (repeat (first | exact hF3 | refine Frm.drewN ?_ _ | refine Frm.drew ?_ | refine Frm.alloc ?_ _ | refine Frm.setCell ?_ (by simp [SB]) _))
       case measure => simp [intOf]; omega
     · have hpe : rd.pos = d.src.length := by have := k2.2; omega
       have HPE := zHi hpe; have hS0 : Src wr d.R d.base d.src d.src.length := by have := hD2.so; rw [← hpe]; exact this
       clear hpe; go_wp2_with fail
       refine (readByte_end wr d.R d.base d.src C p hS0 (he.keep hF2 (fun b o e => by unfold SB at e; omega)) hRB).mono ?_
       rintro e w1 ⟨rfl, hS, hf⟩; have hD3 : Dec w1 F { d.put r with roff := rd.pos, pos := rd.pos } := hD2.set_src hf (by rw [HPE.out]; exact hS)
       have he1 : Env w1 C p := (he.keep hF2 (fun b o e => by unfold SB at e; omega)).keep hf (fun b o e => by omega)
       have c3 := hD3.b; have c4 := hD3.nb; have g3 := hD3.fr 3; have g4 := hD3.fr 4; clear c0; go_wp2_with fail
       refine (noEOF_any _ C p ?_ p.E (.inl rfl)).mono ?_
       · exact he1.keep (S := fun b _ => b = F) (by (repeat (first | exact Frm.refl _ _ | refine Frm.drewN ?_ _ | refine Frm.drew ?_ | refine Frm.alloc ?_ _ | refine Frm.setCell ?_ (by simp) _))) (fun b o e => by omega)
       rintro e w2 ⟨rfl, rfl⟩; go_wp2_with fail
       go_ret2
       have hf0 : ∃ f', f = f' + 1 := ⟨f - 1, by omega⟩
       obtain ⟨f', hf1⟩ := hf0; have hs : symbol d.src T r = .bad .cut rd := by rw [← HS.out, hf1]; exact sym_cut (by rw [← HC.out]; exact fill_end (by omega) HPE.out k2.1)
       rw [hs]; refine ⟨rfl, ?_, ?_⟩
       · exact (hD3.set_b _).set_nb _
       · have hF3 : Frm (SB F d.R) w w1 := hF2.trans (hf.mono fun b o e => .inr e)
         (repeat (first | exact hF3 | refine Frm.drewN ?_ _ | refine Frm.drew ?_ | refine Frm.alloc ?_ _ | refine Frm.setCell ?_ (by simp [SB]) _))
   · obtain ⟨x, hx⟩ : ∃ x, x = rd.b d.src := ⟨_, rfl⟩; have hxl : x < 4294967296 := by rw [hx]; exact b_lt k3
     have HX := zHi hx; obtain ⟨c, hcx⟩ : ∃ c, c = T.chunks.getD (x % 512) 0 := ⟨_, rfl⟩; have hcl : c < 4294967296 := by have := hOK.chunk (x % 512); rw [hcx]; omega
     have hT2 : TabAt wr B o T N := hT.keepSB hF2 hN hB hBF; have hc : wr.cell? ⟨B, o + 1 + x % 512, none⟩ = some (.int .u32 (c : Int)) := by rw [hcx]; exact hT2.ch _ (by omega)
     have e1 := and511 hxl; have e2 := and15 hcl; have HCX := zHi hcx; rw [← hx]; clear hx hcx; have hlt' : ¬ ((rd.nb : Int) < (n' : Int)) := by omega
     have i1 : ((x % 512 : Nat) : Int) < 512 := by omega
     go_upto_if 75 with (fail)
     go_cut [6, 11] (fun n c' wq => ∃ k : Nat, Hid (k = T.look x) ∧ k < 4294967296 ∧ n = .int .u64 ((k : Int) % 16) ∧ c' = .int .u32 (k : Int) ∧ ∃ nq, wq = wr.drewN nq)
     case first =>
      by_cases h9 : 9 < c % 16
      · have hlk := hOK.link (x % 512); rw [← HCX.out] at hlk; have hlk := hlk h9; have hne : T.links ≠ [] := by intro e; rw [e] at hlk; simp at hlk
        obtain ⟨L, hL, l1, l2⟩ := hT2.some_ hne; obtain ⟨b, hb, l3, l4⟩ := l2 _ hlk; have hmk := hOK.mask; have l5 := hT2.mask; have e3 : bits .and .u32 ((x : Int) / 512) (T.mask : Int) = (((x / 512) &&& T.mask : Nat) : Int) := by
         rw [show ((x : Int) / 512) = ((x / 512 : Nat) : Int) from rfl, u32_and_nat _ _ (by omega) hmk]
        have hand : (x / 512) &&& T.mask ≤ T.mask := Nat.and_le_right; have l6 := l4 ((x / 512) &&& T.mask) (by omega)
        have hfew := hOK.few; have i2 : ((c / 16 : Nat) : Int) < (T.links.length : Int) := by omega
        have i3 : (((x / 512) &&& T.mask : Nat) : Int) < ((T.mask + 1 : Nat) : Int) := by omega
        have h9' : (9 : Int) < (c : Int) % 16 := by omega
        clear l4 l2; have H6 : wr.cell? ⟨b, (x / 512) &&& T.mask, none⟩ = some (.int .u32 ((T.look x : Nat) : Int)) := by rw [← look_big HCX.out h9]; exact l6
        have hlb : T.look x < 4294967296 := by
         rw [← look_big HCX.out h9]; refine hOK.entry _ ?_ _; rw [List.getD_eq_getElem?_getD, List.getElem?_eq_getElem hlk]; exact List.getElem_mem _
        obtain ⟨k, hk⟩ : ∃ k, k = T.look x := ⟨_, rfl⟩; rw [← hk] at H6 hlb; have HK := zHi hk; have e5 := and15 hlb; clear l6 hk; go_upto_region 15 with (fail)
        (go_quiet (fail))
        go_wp2_with fail
        go_meet
        case rel => exact ⟨k, HK.out, hlb, rfl, rfl, nq, rfl⟩
      · have h9' : ¬ (9 : Int) < (c : Int) % 16 := by omega
        go_wp2_with fail
        go_meet
        case rel => exact ⟨c, look_small HCX.out h9, hcl, rfl, rfl, 0, rfl⟩
     case rest =>
      obtain ⟨k, hk, hkl, rfl, rfl, nq, rfl⟩ := hcut; clear e1 e2 hc HCX hlt'; have h31 : bits .and .u64 ((k : Int) % 16) 31 = (k : Int) % 16 := by
       rw [show ((k : Int) % 16) = ((k % 16 : Nat) : Int) from rfl, show (31 : Int) = ((31 : Nat) : Int) from rfl, u64_and_nat _ _ (by omega) (by omega), nat_mask5]; omega
      obtain ⟨f', hf1⟩ : ∃ f', f = f' + 1 := ⟨f - 1, by omega⟩
      have hfl : fill d.src.length n' rc = (true, rd) := by rw [← HC.out]; exact fill_has (by omega)
      have hf1 := zHi hf1; have hfl := zHi hfl; have g2 := hD2.fr 2; have g3 := hD2.fr 3; have g4 := hD2.fr 4; have g5 := hD2.fr 1048; have c2 := hD2.roff; have c3 := hD2.b; have c4 := hD2.nb; have c5 := hD2.err
      by_cases hle : k % 16 ≤ rd.nb
      · have hle' : (k : Int) % 16 ≤ (rd.nb : Int) := by omega
        by_cases h0 : k % 16 = 0
        · have h0' : ((k : Int) % 16 == 0) = true := by simp; omega
          go_wp2_with fail
          (go_quiet (fail))
          go_wp2_with fail
          go_ret2
          have hs : symbol d.src T r = .bad .corrupt rd := by rw [← HS.out, hf1.out, sym_step hfl.out, ← HX.out, ← hk.out, if_pos hle, if_pos h0]
          rw [hs]; refine ⟨rfl, ?_, ?_⟩
          · rw [HX.out]; exact ((((hD2.drewN _).set_b _).set_nb _).set_err _).drewN _
          · have hF3 : Frm (fun b o => SB F d.R b o ∨ b = F ∧ o = 1048) w wr := hF2.mono fun _ _ e => .inl e
            (repeat (first | exact hF3 | refine Frm.drewN ?_ _ | refine Frm.drew ?_ | refine Frm.alloc ?_ _ | refine Frm.setCell ?_ (by simp [SB]) _))
        · have h0' : ((k : Int) % 16 == 0) = false := by simp; omega
          go_wp2_with fail
          go_ret2
          have hs : symbol d.src T r = .ok (k / 16) { rd with at_ := rd.at_ + k % 16 } := by rw [← HS.out, hf1.out, sym_step hfl.out, ← HX.out, ← hk.out, if_pos hle, if_neg h0]
          rw [hs]; refine ⟨by simp only [Ending.returned.injEq, Value.tuple.injEq]; go_num, ?_, ?_⟩
          · have hb' : ((x : Int) / 2 ^ (k % 16)) = ((({ rd with at_ := rd.at_ + k % 16 } : Br).b d.src : Nat) : Int) := by
             rw [HX.out, ← b_skip hle]; push_cast; rfl
            have hn' : ((rd.nb : Int) - (k : Int) % 16) = ((({ rd with at_ := rd.at_ + k % 16 } : Br).nb : Nat) : Int) := by
             unfold Br.nb at hle ⊢; simp only; omega
            rw [hb', hn']; exact (((hD2.drewN _).set_b _).set_nb _)
          · (repeat (first | exact hF2 | refine Frm.drewN ?_ _ | refine Frm.drew ?_ | refine Frm.alloc ?_ _ | refine Frm.setCell ?_ (by simp [SB]) _))
      · have hle' : ¬ (k : Int) % 16 ≤ (rd.nb : Int) := by omega
        go_wp2_with fail
        go_roundw
        case rel =>
         have hf2 := hf1.out; refine ⟨f', k % 16, rd, by go_num, rfl, by rw [HX.out], HB.out, k2, k3, by omega, .inr ⟨by omega, by omega⟩, ?_, hD2.drewN _, hF2.drewN _⟩
         rw [← HS.out, hf1.out, sym_step hfl.out, ← HX.out, ← hk.out, if_neg hle]
        case measure =>
         show symMu ((k : Int) % 16) (rd.nb : Int) < symMu (n' : Int) (rc.nb : Int)
         exact symMu_step (by omega) k4 (by omega) k3
end Go.Proofs.YthfncdfcklbigaaGreatDoor
namespace Go.Proofs.YthfncdfcklbigaaGreatDoor
open Go.RowKit Flate
set_option maxRecDepth 100000
theorem setCells_drewN (b : Nat) : ∀ (vs : List Value) (o : Nat) (w : World) (m : Nat), (w.drewN m).setCells b o vs = (w.setCells b o vs).drewN m
 | [], _, _, _ => rfl
 | v :: r, o, w, m => by rw [World.setCells, World.setCells, ← setCells_drewN b r (o + 1) (w.setCell ⟨b, o, none⟩ v) m]; rfl
theorem Frm.setCells {S : Nat → Nat → Prop} {a : World} (b : Nat) : ∀ (vs : List Value) (o : Nat) (w : World), Frm S a w → (∀ j, j < vs.length → S b (o + j) ∨ a.heap.size ≤ b) → Frm S a (w.setCells b o vs)
 | [], _, _, h, _ => h
 | v :: r, o, w, h, hs => by
  rw [World.setCells]; exact Frm.setCells b r (o + 1) _ (h.setCell (hs 0 (by simp)) v) (fun j hj => by have := hs (j + 1) (by simp; omega); rwa [show o + (j + 1) = o + 1 + j by omega] at this)
theorem copy_bytes (w : World) (b o dLen dCap : Nat) (a : Addr) (sLen sCap n : Nat) (v : Nat → UInt8) (hn : n = Nat.min sLen dLen)
 (hsrc : ∀ j, j < n → w.cell? (a.add j) = some (.int .u8 ((v j).toNat : Int))) (hc : ∀ j, j < n → (w.cell? ⟨b, o + j, none⟩).isSome = true) (hf : ∀ j, j < n → w.frozen? ⟨b, o + j, none⟩ = false) :
 ∃ w', (∀ m ty, (Builtin.copy_ #[22, 22] ty #[.slice (some ⟨b, o, none⟩) dLen dCap, .slice (some a) sLen sCap]).run Tryz.prog (w.drewN m) = .ok (goInt n) (w'.drewN m)) ∧
  Frm (fun x y => x = b ∧ o ≤ y ∧ y < o + n) w w' ∧ ∀ j, j < n → w'.cell? ⟨b, o + j, none⟩ = some (.int .u8 ((v j).toNat : Int)) := by
 have hl : ((List.range n).map fun j => Value.int .u8 ((v j).toNat : Int)).length = n := by simp
 refine ⟨w.setCells b o ((List.range n).map fun j => Value.int .u8 ((v j).toNat : Int)), fun m ty => ?_, ?_, fun j hj => ?_⟩
 · have := run_copy_cells (P := Tryz.prog) (w.drewN m) 22 22 ty 5 b o dLen dCap a sLen sCap ((List.range n).map fun j => Value.int .u8 ((v j).toNat : Int)) Tryz.underlying22 (by kernel_rfl) (by rw [hl]; exact hn)
    (fun j x hx => by
     obtain ⟨hj, rfl⟩ := List.getElem?_eq_some_iff.1 hx; simp at hj ⊢; exact hsrc j hj) (by rw [hl]; exact hc) (by rw [hl]; exact hf) (fun x hx => by obtain ⟨j, _, rfl⟩ := List.mem_map.1 hx; rfl)
   rw [hl, setCells_drewN] at this; exact this
 · exact Frm.setCells b _ o w (Frm.refl _ _) (fun j hj => .inl ⟨rfl, by omega, by rw [hl] at hj; omega⟩)
 · have := World.cell?_setCells_in b ((List.range n).map fun j => Value.int .u8 ((v j).toNat : Int)) o w (by rw [hl]; exact hc) j (by rw [hl]; exact hj)
   rw [this]; simp
theorem step_copy_run {P : Program} {ops : Array Oper} {o : Oper} {a : Act} {w : World} {K : Act → World → Prop} {Q : Exit → Act → World → Prop} {E : Prop} (hgd : o.guard = none) (x y : Operand) (dT sT : TypeId)
 (ho : o.op = .call { callee := .builtin .copy, args := #[x, y], argTypes := #[dT, sT] }) {dv sv v : Value} {w' : World} (hd : a.eval x = dv) (hs : a.eval y = sv)
 (hrun : ∀ ty, (Builtin.copy_ #[dT, sT] ty #[dv, sv]).run P w = .ok v w') (h : K (a.put o.dst v) w') :
 if Region.wanted o (yielded ops a.tmps) = true then Oper.wp P o a w K Q else E := by
 have hw : Region.wanted o (yielded ops a.tmps) = true := by simp [Region.wanted, hgd]
 rw [if_pos hw]
 have hrun := hrun o.type
 unfold Oper.wp
 simp [execOp, ho, resolve, invoke, builtin, hd, hs, hrun, Result.andThen]
 exact h
theorem wpList_copy_run {P : Program} {ops : Array Oper} {rest : List Oper} {o : Oper} {a : Act} {w : World} {Q : Exit → Act → World → Prop} (hgd : o.guard = none) (x y : Operand) (dT sT : TypeId)
 (ho : o.op = .call { callee := .builtin .copy, args := #[x, y], argTypes := #[dT, sT] }) {dv sv v : Value} {w' : World} (hd : a.eval x = dv) (hs : a.eval y = sv)
 (hrun : ∀ ty, (Builtin.copy_ #[dT, sT] ty #[dv, sv]).run P w = .ok v w') (h : wpList P ops Q rest (a.put o.dst v) w') : wpList P ops Q (o :: rest) a w := by
 refine wpList_plain hgd fun K hK => ?_
 have hrun := hrun o.type
 unfold Oper.wp
 simp [execOp, ho, resolve, invoke, builtin, hd, hs, hrun, Result.andThen]
 exact hK _ _ h
section
variable (w : World) (F : Nat) (d : DS)
set_option maxHeartbeats 400000 in
theorem availWrite_any (hD : Dec w F d) (hw : d.wr ≤ 32768) :
 Calls Tryz.prog 91 #[.pointer (some ⟨F, 1037, none⟩)] w fun e w' => e = .returned (.int .i64 (32768 - (d.wr : Int))) ∧ ∃ n, w' = w.drewN n := by
 have h0 := hD.hist
 have h1 := hD.wr
 have b1 : (d.wr : Int) ≤ 32768 := by omega
 go_enter Tryz.func91, Tryz.ntmps91
 go_wp2
 (go_quiet (fail))
 go_wp2
 go_ret
 exact ⟨rfl, nq, rfl⟩
set_option maxHeartbeats 400000 in
theorem availRead_any (hD : Dec w F d) (hw : d.wr ≤ 32768) (hr : d.rd ≤ d.wr) :
 Calls Tryz.prog 96 #[.pointer (some ⟨F, 1037, none⟩)] w fun e w' => e = .returned (.int .i64 ((d.wr : Int) - (d.rd : Int))) ∧ ∃ n, w' = w.drewN n := by
 have h0 := hD.rd
 have h1 := hD.wr
 have b1 : (d.wr : Int) ≤ 32768 := by omega
 have b2 : (d.rd : Int) ≤ (d.wr : Int) := by omega
 go_enter Tryz.func96, Tryz.ntmps96
 go_wp2
 (go_quiet (fail))
 go_wp2
 go_ret
 exact ⟨rfl, nq, rfl⟩
set_option maxHeartbeats 400000 in
theorem writeSlice_any (hD : Dec w F d) (hw : d.wr < 32768) :
 Calls Tryz.prog 97 #[.pointer (some ⟨F, 1037, none⟩)] w fun e w' => e = .returned (.slice (some ⟨d.HB, d.wr, none⟩) (32768 - d.wr) (32768 - d.wr)) ∧ ∃ n, w' = w.drewN n := by
 have h0 := hD.hist
 have h1 := hD.wr
 have b1 : (d.wr : Int) ≤ 32768 := by omega
 have b2 : d.wr ≤ 32768 := by omega
 have b3 : ¬ 32768 = d.wr := by omega
 go_enter Tryz.func97, Tryz.ntmps97
 go_wp2
 (go_quiet (fail))
 go_wp2
 go_ret
 exact ⟨rfl, nq, rfl⟩
set_option maxHeartbeats 400000 in
theorem histSize_any (hD : Dec w F d) :
 Calls Tryz.prog 93 #[.pointer (some ⟨F, 1037, none⟩)] w fun e w' => e = .returned (.int .i64 (if d.full then 32768 else (d.wr : Int))) ∧ w = w' := by
 have h0 := hD.hist
 have h1 := hD.wr
 have h2 := hD.full
 cases hf : d.full <;> rw [hf] at h2
 · go_enter Tryz.func93, Tryz.ntmps93
   clear hf
   go_wp2
   go_ret
   exact ⟨rfl, rfl⟩
 · go_enter Tryz.func93, Tryz.ntmps93
   clear hf
   go_wp2
   go_ret
   exact ⟨rfl, rfl⟩
set_option maxHeartbeats 400000 in
theorem writeMark_any (hD : Dec w F d) (hw : d.wr ≤ 32768) (c : Nat) (hc : c ≤ 32768) :
 Calls Tryz.prog 98 #[.pointer (some ⟨F, 1037, none⟩), .int .i64 (c : Int)] w fun e w' =>
  e = .returned (.tuple #[]) ∧ Dec w' F { d with wr := d.wr + c } ∧ Frm (fun b o => b = F ∧ o = 1038) w w' := by
 have h1 := hD.wr
 have f1 := hD.fr 1038
 have b1 : (d.wr : Int) ≤ 32768 := by omega
 have b2 : (c : Int) ≤ 32768 := by omega
 go_enter Tryz.func98, Tryz.ntmps98
 go_wp2
 go_end0
 refine ⟨rfl, ?_, by (repeat (first | exact Frm.refl _ _ | refine Frm.drewN ?_ _ | refine Frm.drew ?_ | refine Frm.alloc ?_ _ | refine Frm.setCell ?_ (by simp) _))⟩
 exact hD.set_wr (d.wr + c)
set_option maxHeartbeats 400000 in
theorem writeByte_any (hD : Dec w F d) (hw : d.wr < 32768) (c : UInt8) :
 Calls Tryz.prog 90 #[.pointer (some ⟨F, 1037, none⟩), .int .u8 (c.toNat : Int)] w fun e w' =>
  e = .returned (.tuple #[]) ∧ Dec w' F { d with wr := d.wr + 1, g := upd d.g d.wr c } ∧ Frm (fun b o => b = F ∧ o = 1038 ∨ b = d.HB) w w' := by
 obtain ⟨L, hL, h0⟩ : ∃ L : Nat, (d.wr : Int) < (L : Int) ∧ w.cell? ⟨F, 1037, none⟩ = some (.slice (some ⟨d.HB, 0, none⟩) L 32768) := ⟨32768, by omega, hD.hist⟩
 have h1 := hD.wr
 have h2 := hD.win d.wr hw
 have f1 := hD.fr 1038
 have f2 := hD.frH d.wr
 have hne := hD.neHF
 have b1 : (d.wr : Int) < 32768 := by omega
 go_enter Tryz.func90, Tryz.ntmps90
 go_wp2
 (refine region_tail 10 (by kernel_rfl) (by kernel_rfl) ?_; simp only [List.take_succ_cons, List.take_zero, List.drop_succ_cons, List.drop_zero]; (repeat still_step); refine wpStill_nil ?_)
 go_wp2
 go_end0
 refine ⟨rfl, ?_, by (repeat (first | exact Frm.refl _ _ | refine Frm.drewN ?_ _ | refine Frm.drew ?_ | refine Frm.alloc ?_ _ | refine Frm.setCell ?_ (by simp) _))⟩
 have hF : Frm (fun b _ => b = d.HB) w (w.setCell ⟨d.HB, d.wr, none⟩ (.int .u8 (c.toNat : Int))) := by (repeat (first | exact Frm.refl _ _ | refine Frm.drewN ?_ _ | refine Frm.drew ?_ | refine Frm.alloc ?_ _ | refine Frm.setCell ?_ (by simp) _))
 have hW : ∀ i, i < 32768 → (w.setCell ⟨d.HB, d.wr, none⟩ (.int .u8 (c.toNat : Int))).cell? ⟨d.HB, i, none⟩ = some (.int .u8 ((upd d.g d.wr c i).toNat : Int)) := by
  intro i hi
  by_cases e : i = d.wr
  · rw [e, upd_same]; exact set_get h2
  · rw [upd_other _ _ e, cell_set_off e]; exact hD.win i hi
 exact ((hD.set_win hF _ hW).set_wr (d.wr + 1)).drew
set_option maxHeartbeats 1000000 in
theorem readFlush_any (hD : Dec w F d) (hw : d.wr ≤ 32768) (hr : d.rd ≤ d.wr) (hr2 : d.rd < 32768) :
 Calls Tryz.prog 85 #[.pointer (some ⟨F, 1037, none⟩)] w fun e w' =>
  e = .returned (.slice (some ⟨d.HB, d.rd, none⟩) (d.wr - d.rd) (32768 - d.rd)) ∧
  Dec w' F (if d.wr = 32768 then { d with wr := 0, rd := 0, full := true } else { d with rd := d.wr }) ∧ Frm (fun b o => b = F ∧ (o = 1038 ∨ o = 1039 ∨ o = 1040)) w w' := by
 have h0 := hD.hist
 have h1 := hD.wr
 have h2 := hD.rd
 have h3 := hD.full
 have f1 := hD.fr 1038
 have f2 := hD.fr 1039
 have f3 := hD.fr 1040
 have b1 : (d.wr : Int) ≤ 32768 := by omega
 have b2 : (d.rd : Int) ≤ (d.wr : Int) := by omega
 have b3 : d.wr ≤ 32768 := hw
 have b4 : ¬ 32768 = d.rd := by omega
 go_enter Tryz.func85, Tryz.ntmps85
 by_cases hq : d.wr = 32768
 · rw [if_pos hq]; rw [hq] at h1; have e1 : d.wr - d.rd = 32768 - d.rd := by omega
   rw [e1]; clear hq b1 b2 b3 e1; have b5 : (d.rd : Int) ≤ 32768 := by omega
   have b6 : d.rd ≤ 32768 := by omega
   go_wp2
   (go_quiet (fail))
   go_wp2
   (go_quiet (fail))
   go_wp2
   go_ret
   refine ⟨rfl, ?_, by (repeat (first | exact Frm.refl _ _ | refine Frm.drewN ?_ _ | refine Frm.drew ?_ | refine Frm.alloc ?_ _ | refine Frm.setCell ?_ (by simp) _))⟩
   exact ((((((hD.drewN _).set_rd 32768).drewN _).set_wr 0).set_rd 0).set_full true)
 · rw [if_neg hq]; have hq' : ((d.wr : Int) == 32768) = false := by simp; omega
   have hq := zHi hq
   go_wp2
   (go_quiet (fail))
   go_wp2
   (go_quiet (fail))
   go_wp2
   go_ret
   refine ⟨rfl, ?_, by (repeat (first | exact Frm.refl _ _ | refine Frm.drewN ?_ _ | refine Frm.drew ?_ | refine Frm.alloc ?_ _ | refine Frm.setCell ?_ (by simp) _))⟩
   exact ((hD.drewN _).set_rd _).drewN _
end
def SW (F HB : Nat) (b o : Nat) : Prop := b = F ∧ o = 1038 ∨ b = HB
def CopyInv (w : World) (F : Nat) (d : DS) (H : List UInt8) (D n m0 : Nat) (dp : Value) (wr : World) : Prop :=
 ∃ (m P : Nat) (g : Nat → UInt8), P = d.wr + m ∧ dp = .int .i64 (P : Int) ∧ m0 ≤ m ∧ m ≤ n ∧ ((m - m0) % D = 0 ∨ m = n) ∧ Dec wr F { d with g := g } ∧ WinB g P (lz H D m) ∧ Frm (SW F d.HB) w wr
def CopyPost (w : World) (F : Nat) (d : DS) (H : List UInt8) (D : Nat) (ok : Nat → Prop) (e : Ending) (w' : World) : Prop :=
 ∃ (n : Nat) (g : Nat → UInt8), ok n ∧ e = .returned (.int .i64 (n : Int)) ∧ Dec w' F { d with g := g, wr := d.wr + n } ∧ WinB g (d.wr + n) (lz H D n) ∧ Frm (SW F d.HB) w w'
theorem copy_round {w : World} {F : Nat} {d : DS} {H : List UInt8} {D n m0 m P S E : Nat} {g : Nat → UInt8} {wr : World} (hD : Dec wr F { d with g := g }) (hB : WinB g P (lz H D m)) (hF : Frm (SW F d.HB) w wr)
 (h1 : 1 ≤ D) (h2 : D ≤ H.length) (hP : P = d.wr + m) (hE : E = d.wr + n) (hE2 : E ≤ 32768) (hS : S + D = d.wr + m0) (h0 : m0 ≤ m) (hm : m < n) (hdiv : (m - m0) % D = 0) :
 ∃ (k : Nat) (w' : World), 1 ≤ k ∧ P + k ≤ E ∧ (∀ ty, (Builtin.copy_ #[22, 22] ty #[.slice (some ⟨d.HB, P, none⟩) (E - P) (32768 - P), .slice (some ⟨d.HB, S, none⟩) (P - S) (32768 - S)]).run Tryz.prog wr.drew = .ok (.int .i64 (k : Int)) w') ∧ w'.cell? ⟨F, 1037, none⟩ = some (.slice (some ⟨d.HB, 0, none⟩) 32768 32768) ∧
  CopyInv w F d H D n m0 (.int .i64 ((P + k : Nat) : Int)) w' := by
 obtain ⟨k, hk⟩ : ∃ k, k = Nat.min (P - S) (E - P) := ⟨_, rfl⟩
 have hk1 : k ≤ P - S ∧ k ≤ E - P ∧ (k = P - S ∨ k = E - P) := by
  rw [hk]; rcases Nat.le_total (P - S) (E - P) with h | h
  · rw [show Nat.min (P - S) (E - P) = P - S from Nat.min_eq_left h]; omega
  · rw [show Nat.min (P - S) (E - P) = E - P from Nat.min_eq_right h]; omega
 have hHB := hD.win
 obtain ⟨w', hrun, hfr, hc⟩ := copy_bytes wr d.HB P (E - P) (32768 - P) ⟨d.HB, S, none⟩ (P - S) (32768 - S) k (fun j => g (S + j)) hk
  (fun j hj => by
   have : (⟨d.HB, S, none⟩ : Addr).add j = ⟨d.HB, S + j, none⟩ := by unfold Addr.add; split <;> simp_all
   rw [this]; exact hHB _ (by omega))
  (fun j hj => by have := hHB (P + j) (by omega); rw [show d.HB = ({ d with g := g } : DS).HB from rfl, this]; rfl)
  (fun j hj => hD.frH _)
 refine ⟨k, w'.drew, by omega, by omega, fun ty => hrun 1 ty, hfr.keep hD.hist (fun e => hD.neHF e.1.symm), m + k, P + k, fun i => if P ≤ i ∧ i < P + k then g (S + (i - P)) else g i, by omega, rfl, by omega, by omega, ?_, ?_, ?_, ?_⟩
 · rcases hk1.2.2 with e | e
   · left
     rw [show m + k - m0 = (m - m0) + ((m - m0) + D) by omega, Nat.add_mod, Nat.add_mod_right, hdiv]; simp
   · right; omega
 · refine (hD.set_win (hfr.mono fun b o e => e.1) _ (fun i hi => ?_)).drew
   by_cases hi2 : P ≤ i ∧ i < P + k
   · rw [if_pos hi2]; have := hc (i - P) (by omega)
     rw [show P + (i - P) = i by omega] at this
     exact this
   · rw [if_neg hi2]; exact hfr.keep (hHB i hi) (fun e => hi2 e.2)
 · rw [show P + k = d.wr + m + k by omega]
   refine WinB.copy (g := g) (m0 := m0) (by rw [← hP]; exact hB) h1 h2 h0 hdiv (by omega) (by omega) (by omega) (fun j hj => ?_) (fun i hi ho => ?_)
   · rw [if_pos (by omega)]; congr 1; omega
   · rw [if_neg (by omega)]
 · exact (hF.trans (hfr.mono fun b o e => .inr e.1)).drew
set_option maxHeartbeats 1000000 in
theorem tryWriteCopy_any (w : World) (F : Nat) (d : DS) (H : List UInt8) (D n : Nat) (hD : Dec w F d) (hB : WinB d.g d.wr H) (h1 : 1 ≤ D) (h2 : D ≤ H.length) (h3 : D ≤ 32768) (hn2 : n ≤ 258) :
 Calls Tryz.prog 94 #[.pointer (some ⟨F, 1037, none⟩), .int .i64 (D : Int), .int .i64 (n : Int)] w (CopyPost w F d H D (fun k => k = 0 ∨ k = n)) := by
 have c0 := hD.hist
 have c1 := hD.wr
 have f1 := hD.fr 1038
 have b0 : (d.wr : Int) ≤ 32768 := by have := hB.le; omega
 have b2 : (D : Int) ≤ 32768 := by omega
 have b3 : (n : Int) ≤ 258 := by omega
 by_cases hq : d.wr < D
 · have hq' : (d.wr : Int) < (D : Int) := by omega
   go_enter Tryz.func94, Tryz.ntmps94
   go_wp2
   go_ret
   exact ⟨0, d.g, .inl rfl, rfl, hD, by rw [lz_zero]; exact hB, Frm.refl _ _⟩
 · have hq' : ¬ (d.wr : Int) < (D : Int) := by omega
   by_cases hr : d.wr + n ≤ 32768
   · have hr' : ¬ (32768 : Int) < (d.wr : Int) + (n : Int) := by omega
     have hq2 : (D : Int) ≤ (d.wr : Int) := by omega
     go_enter Tryz.func94, Tryz.ntmps94
     go_wp2
     go_loopw [7] (fun dp wq => CopyInv w F d H D n 0 dp wq) (fun dp _ => 70000 - (intOf dp).toNat)
     case atStart => exact ⟨0, d.wr, d.g, rfl, rfl, Nat.le_refl _, by omega, .inl (by simp), hD, by rw [lz_zero]; exact hB, Frm.refl _ _⟩
     case round =>
      obtain ⟨m, P, g, hP, rfl, h0, hm, hdiv, hD1, hB1, hF1⟩ := hrel; have HP := zHi hP; have HV := zHi hdiv; clear c0 c1 f1 hdiv; have c0 := hD1.hist
      by_cases hlt : m < n
      · obtain ⟨k, w', hk1, hk2, hrun, hk0, hinv⟩ := copy_round (S := d.wr - D) (E := d.wr + n) hD1 hB1 hF1 h1 h2 hP rfl hr (by omega) h0 hlt (HV.out.resolve_right (by omega))
        have hP1 : (P : Int) < (d.wr : Int) + (n : Int) := by omega
        have hP2 : (d.wr : Int) - (D : Int) ≤ (P : Int) := by omega
        have hP3 : (P : Int) ≤ 32768 := by omega
        have hk3 : (k : Int) ≤ 32768 := by omega
        have n1 : P ≤ d.wr + n := by omega
        have n2 : d.wr + n ≤ 32768 := hr; have n3 : d.wr - D ≤ P := by omega
        have n4 : P ≤ 32768 := by omega
        have HI := zHi hinv; clear hP hinv; go_wp2_with fail
        have t1 : (0 : Int) ≤ (d.wr : Int) + (n : Int) := by omega
        have t2 : ((d.wr : Int) + (n : Int)).toNat = d.wr + n := by omega
        have t3 : (0 : Int) ≤ (d.wr : Int) - (D : Int) := by omega
        have t4 : ((d.wr : Int) - (D : Int)).toNat = d.wr - D := by omega
        have t5 : ¬ 32768 = P := by omega
        have t6 : ¬ 32768 = d.wr - D := by omega
        have t7 : IntKind.i64.wrap ((P : Int) + (k : Int)) = (P : Int) + (k : Int) := IntWalk.i64_in _ (by omega)
        have kp : w'.cell? ⟨F, 1037, none⟩ = some (.slice (some ⟨d.HB, 0, none⟩) 32768 32768) := hk0
        go_region_held3 (fun w' => w'.cell? ⟨F, 1037, none⟩ = some (.slice (some ⟨d.HB, 0, none⟩) 32768 32768)) (first | exact kp | go_keep) (first | (refine step_copy_run (by rfl) _ _ _ _ (by rfl) (by rfl) (by rfl) hrun ?_))
        clear t1 t2 t3 t4 t5 t6 t7; go_wp2_with fail
        go_roundw
        case rel => exact HI.out
        case measure => simp [intOf]; omega
      · have hlt' : ¬ (P : Int) < (d.wr : Int) + (n : Int) := by omega
        have f1 := hD1.fr 1038; have c1 := hD1.wr; have hP3 : (P : Int) ≤ 32768 := by omega
        have hP2 : (d.wr : Int) ≤ (P : Int) := by omega
        clear hP; go_wp2_with fail
        go_ret
        obtain rfl : m = n := by omega
        have hP := HP.out; refine ⟨m, g, .inr rfl, ?_, ?_, by rw [← hP]; exact hB1, ?_⟩
        · show Ending.returned (.int .i64 ((P : Int) - (d.wr : Int))) = _
          rw [hP]; congr 2; omega
        · rw [← hP]; exact hD1.set_wr P
        · refine hF1.setCell (.inl (.inl ⟨rfl, rfl⟩)) _
   · have hr' : (32768 : Int) < (d.wr : Int) + (n : Int) := by omega
     go_enter Tryz.func94, Tryz.ntmps94
     go_wp2
     go_ret
     exact ⟨0, d.g, .inl rfl, rfl, hD, by rw [lz_zero]; exact hB, Frm.refl _ _⟩
def MidInv (w : World) (F : Nat) (d : DS) (H : List UInt8) (D E : Nat) (dp sp : Value) (wr : World) : Prop :=
 ∃ (m P S : Nat) (g : Nat → UInt8), P = d.wr + m ∧ P ≤ E ∧ dp = .int .i64 (P : Int) ∧ sp = .int .i64 (S : Int) ∧ (S + D = P ∨ P = E) ∧ S ≤ P ∧ Dec wr F { d with g := g } ∧ WinB g P (lz H D m) ∧ Frm (SW F d.HB) w wr
theorem copy_first {w : World} {F : Nat} {d : DS} {H : List UInt8} {D S E L : Nat} (hD : Dec w F d) (hB : WinB d.g d.wr H)
 (h1 : 1 ≤ D) (h2 : D ≤ H.length) (h3 : D ≤ 32768) (hw : d.wr < D) (_hE : d.wr ≤ E) (_hE2 : E ≤ 32768) (hS : S + D = d.wr + 32768) (hL : L = 32768) :
 ∃ (k : Nat) (w' : World), d.wr + k ≤ E ∧ (∀ ty, (Builtin.copy_ #[22, 22] ty #[.slice (some ⟨d.HB, d.wr, none⟩) (E - d.wr) (32768 - d.wr), .slice (some ⟨d.HB, S, none⟩) (L - S) (32768 - S)]).run Tryz.prog w.drew = .ok (.int .i64 (k : Int)) w') ∧
  w'.cell? ⟨F, 1037, none⟩ = some (.slice (some ⟨d.HB, 0, none⟩) L 32768) ∧ MidInv w F d H D E (.int .i64 ((d.wr + k : Nat) : Int)) (.int .i64 0) w' := by
 subst hL
 obtain ⟨k, hk⟩ : ∃ k, k = Nat.min (32768 - S) (E - d.wr) := ⟨_, rfl⟩
 have hk1 : k ≤ 32768 - S ∧ k ≤ E - d.wr ∧ (k = 32768 - S ∨ k = E - d.wr) := by
  rw [hk]; rcases Nat.le_total (32768 - S) (E - d.wr) with h | h
  · rw [show Nat.min (32768 - S) (E - d.wr) = 32768 - S from Nat.min_eq_left h]; omega
  · rw [show Nat.min (32768 - S) (E - d.wr) = E - d.wr from Nat.min_eq_right h]; omega
 have hHB := hD.win
 obtain ⟨w', hrun, hfr, hc⟩ := copy_bytes w d.HB d.wr (E - d.wr) (32768 - d.wr) ⟨d.HB, S, none⟩ (32768 - S) (32768 - S) k (fun j => d.g (S + j)) hk
  (fun j hj => by
   have : (⟨d.HB, S, none⟩ : Addr).add j = ⟨d.HB, S + j, none⟩ := by unfold Addr.add; split <;> simp_all
   rw [this]; exact hHB _ (by omega))
  (fun j hj => by have := hHB (d.wr + j) (by omega); rw [this]; rfl)
  (fun j hj => hD.frH _)
 refine ⟨k, w'.drew, by omega, fun ty => hrun 1 ty, hfr.keep hD.hist (fun e => hD.neHF e.1.symm), k, d.wr + k, 0, fun i => if d.wr ≤ i ∧ i < d.wr + k then d.g (S + (i - d.wr)) else d.g i, rfl, by omega, rfl, rfl, by omega, by omega, ?_, ?_, ?_⟩
 · refine (hD.set_win (hfr.mono fun b o e => e.1) _ (fun i hi => ?_)).drew
   by_cases hi2 : d.wr ≤ i ∧ i < d.wr + k
   · rw [if_pos hi2]; have := hc (i - d.wr) (by omega)
     rw [show d.wr + (i - d.wr) = i by omega] at this
     exact this
   · rw [if_neg hi2]; exact hfr.keep (hHB i hi) (fun e => hi2 e.2)
 · refine WinB.wrap (g := d.g) hB h1 h2 h3 hw (by omega) (by omega) (fun j hj => ?_) (fun i hi ho => ?_)
   · rw [if_pos (by omega)]; congr 1; omega
   · rw [if_neg (by omega)]
 · exact (hfr.mono fun b o e => .inr e.1).drew
set_option maxHeartbeats 1000000 in
theorem writeCopy_any (w : World) (F : Nat) (d : DS) (H : List UInt8) (D n : Nat) (hD : Dec w F d) (hB : WinB d.g d.wr H) (hw : d.wr < 32768) (h1 : 1 ≤ D) (h2 : D ≤ H.length) (h3 : D ≤ 32768) (hn2 : n ≤ 258) :
 Calls Tryz.prog 95 #[.pointer (some ⟨F, 1037, none⟩), .int .i64 (D : Int), .int .i64 (n : Int)] w (CopyPost w F d H D (fun k => k ≤ n ∧ (k = n ∨ d.wr + k = 32768))) := by
 obtain ⟨L, hL1, hL2, c0⟩ : ∃ L : Nat, (L : Int) ≤ 32768 ∧ 32768 ≤ (L : Int) ∧ w.cell? ⟨F, 1037, none⟩ = some (.slice (some ⟨d.HB, 0, none⟩) L 32768) := ⟨32768, by omega, by omega, hD.hist⟩
 have c1 := hD.wr
 have b0 : (d.wr : Int) ≤ 32767 := by omega
 have b2 : (D : Int) ≤ 32768 := by omega
 have b3 : (n : Int) ≤ 258 := by omega
 obtain ⟨E, hE⟩ : ∃ E, E = Nat.min (d.wr + n) 32768 := ⟨_, rfl⟩
 have hE1 : E ≤ d.wr + n ∧ E ≤ 32768 ∧ (E = d.wr + n ∨ E = 32768) := by
  rw [hE]; rcases Nat.le_total (d.wr + n) 32768 with h | h
  · rw [show Nat.min (d.wr + n) 32768 = d.wr + n from Nat.min_eq_left h]; omega
  · rw [show Nat.min (d.wr + n) 32768 = 32768 from Nat.min_eq_right h]; omega
 clear hE
 have hE2 : d.wr ≤ E := by omega
 have hE3 : E ≤ 32768 := hE1.2.1
 have HE := zHi hE1
 have HW := zHi hw
 have hmin : (if (L : Int) < (d.wr : Int) + (n : Int) then (L : Int) else (d.wr : Int) + (n : Int)) = (E : Int) := by split <;> omega
 clear hE1 hw
 go_enter Tryz.func95, Tryz.ntmps95
 go_upto_if 29 with (fail)
 go_cut [8, 9] (fun dp sp wq => MidInv w F d H D E dp sp wq)
 case first =>
  by_cases hq : d.wr < D
  · have hq' : (d.wr : Int) - (D : Int) < 0 := by omega
    obtain ⟨S, hS⟩ : ∃ S, S + D = d.wr + 32768 := ⟨d.wr + 32768 - D, by omega⟩
    obtain ⟨k, w', hk2, hrun, hk0, hinv⟩ := copy_first (L := L) hD hB h1 h2 h3 hq hE2 hE3 hS (by omega)
    have hSL : (d.wr : Int) - (D : Int) + (L : Int) = (S : Int) := by omega
    have HI := zHi hinv; have s1 : (S : Int) ≤ (L : Int) := by omega
    have s2 : S ≤ L := by omega
    have s3 : S ≤ 32768 := by omega
    have e1 : (d.wr : Int) ≤ (E : Int) := by omega
    have e2 : d.wr ≤ E := by omega
    have e3 : (E : Int) ≤ 32768 := by omega
    have t5 : ¬ 32768 = d.wr := by have := HW.out; omega
    have t6 : ¬ 32768 = S := by omega
    have t7 : IntKind.i64.wrap ((d.wr : Int) + (k : Int)) = (d.wr : Int) + (k : Int) := IntWalk.i64_in _ (by omega)
    clear hinv hS; go_upto_region 7 with (fail)
    go_region_held3 (fun w' => w'.cell? ⟨F, 1037, none⟩ = some (.slice (some ⟨d.HB, 0, none⟩) L 32768)) (first | exact hk0 | go_keep) (first | (refine step_copy_run (by rfl) _ _ _ _ (by rfl) (by rfl) (by rfl) hrun ?_))
    go_wp2_with fail
    go_meet
    case rel => exact HI.out
  · have hq' : ¬ (d.wr : Int) - (D : Int) < 0 := by omega
    go_wp2_with fail
    go_meet
    case rel => exact ⟨0, d.wr, d.wr - D, d.g, rfl, by omega, rfl, by congr 1; omega, .inl (by omega), by omega, hD, by rw [lz_zero]; exact hB, Frm.refl _ _⟩
 case rest =>
  obtain ⟨m0, P0, S, g0, hP0, hPE0, rfl, rfl, hS, hSP0, hD0, hB0, hF0⟩ := hcut; have HL : Hid (L = 32768) := show L = 32768 by omega
  have HS := zHi hS; have HP0 := zHi hP0; clear hmin c0 c1 hS hP0; go_wp2_with fail
  go_loopw [8] (fun dp wq => CopyInv w F d H D (E - d.wr) m0 dp wq) (fun dp _ => 70000 - (intOf dp).toNat)
  case atStart => exact ⟨m0, P0, g0, HP0.out, rfl, Nat.le_refl _, by have := HP0.out; omega, .inl (by simp), hD0, hB0, hF0⟩
  case round =>
   obtain ⟨m, P, g, hP, rfl, h0, hm, hdiv, hD1, hB1, hF1⟩ := hrel; have HP := zHi hP; have HV := zHi hdiv; clear hdiv
   by_cases hlt : m < E - d.wr
   · have c0 : wr.cell? ⟨F, 1037, none⟩ = some (.slice (some ⟨d.HB, 0, none⟩) L 32768) := by rw [HL.out]; exact hD1.hist
     obtain ⟨k, w', hk1, hk2, hrun, hk0, hinv⟩ := copy_round (S := S) (E := E) hD1 hB1 hF1 h1 h2 hP (by omega) hE3 (by have := HP0.out; have := HS.out; omega) h0 hlt (HV.out.resolve_right (by omega))
     have kp : w'.cell? ⟨F, 1037, none⟩ = some (.slice (some ⟨d.HB, 0, none⟩) L 32768) := by rw [HL.out]; exact hk0
     have hP1 : (P : Int) < (E : Int) := by omega
     have hSP : S ≤ P := by have := HP0.out; omega
     have s1 : (S : Int) ≤ (P : Int) := by omega
     have s3 : (P : Int) ≤ (L : Int) := by omega
     have s4 : (E : Int) ≤ (L : Int) := by omega
     have s5 : P ≤ E := by omega
     have s6 : E ≤ L := by omega
     have s7 : P ≤ L := by omega
     have e3 : (E : Int) ≤ 32768 := by omega
     have p3 : (P : Int) ≤ 32768 := by omega
     have p4 : P ≤ 32768 := by omega
     have t5 : ¬ 32768 = P := by omega
     have t6 : ¬ 32768 = S := by omega
     have t7 : IntKind.i64.wrap ((P : Int) + (k : Int)) = (P : Int) + (k : Int) := IntWalk.i64_in _ (by omega)
     have HI := zHi hinv; clear hP hinv; go_wp2_with fail
     go_region_held3 (fun w' => w'.cell? ⟨F, 1037, none⟩ = some (.slice (some ⟨d.HB, 0, none⟩) L 32768)) (first | exact kp | go_keep) (first | (refine step_copy_run (by rfl) _ _ _ _ (by rfl) (by rfl) (by rfl) hrun ?_))
     clear t7; go_wp2_with fail
     go_roundw
     case rel => exact HI.out
     case measure => simp [intOf]; omega
   · have hlt' : ¬ (P : Int) < (E : Int) := by omega
     have f1 := hD1.fr 1038; have c1 := hD1.wr; have hP3 : (P : Int) ≤ 32768 := by omega
     have hP2 : (d.wr : Int) ≤ (P : Int) := by omega
     clear hP; go_wp2_with fail
     go_ret
     have hP := HP.out; refine ⟨m, g, ?_, ?_, ?_, by rw [← hP]; exact hB1, ?_⟩
     · have := HE.out; omega
     · show Ending.returned (.int .i64 ((P : Int) - (d.wr : Int))) = _
       rw [hP]; congr 2; omega
     · rw [← hP]; exact hD1.set_wr P
     · exact hF1.setCell (.inl (.inl ⟨rfl, rfl⟩)) _
theorem wpList_run {P : Program} {ops : Array Oper} {rest : List Oper} {o : Oper} {a : Act} {w w' : World} {v : Value} {Q : Exit → Act → World → Prop} (hgd : o.guard = none)
 (hrun : (execOp a.eval o).run P w = .ok (.value v) w') (h : wpList P ops Q rest (a.put o.dst v) w') : wpList P ops Q (o :: rest) a w := by
 refine wpList_plain hgd fun K hK => ?_
 unfold Oper.wp
 rw [hrun]
 exact hK _ _ h
theorem wpList_skip_run {P : Program} {ops : Array Oper} {rest : List Oper} {o : Oper} {a : Act} {w w' : World} {Q : Exit → Act → World → Prop} (hgd : o.guard = none)
 (hrun : (execOp a.eval o).run P w = .ok .skip w') (h : wpList P ops Q rest (a.put o.dst undef) w') : wpList P ops Q (o :: rest) a w := by
 refine wpList_plain hgd fun K hK => ?_
 unfold Oper.wp
 rw [hrun]
 exact hK _ _ h
theorem run_store_agg {P : Program} {o : Oper} {ρ : Operand → Value} {w : World} (t : TypeId) (x y : Operand) (ho : o.op = .store t x y) (b k n : Nat) (cs : Array Value) (hx : ρ x = .pointer (some ⟨b, k, none⟩)) (hy : ρ y = .agg cs)
 (hs : (P.info? t).map (·.size) = some n) (hn : cs.size = n) (hc : ∀ j, j < n → (w.cell? ⟨b, k + j, none⟩).isSome = true) (hf : ∀ j, j < n → w.frozen? ⟨b, k + j, none⟩ = false) (h1 : ∀ v ∈ cs.toList, v.oneCell' = true) :
 (execOp ρ o).run P w = .ok .skip (w.setCells b k cs.toList) := by
 obtain ⟨i, hi, hsz⟩ := Option.map_eq_some_iff.1 hs
 have hst := run_storeCells_cells (P := P) b k cs.toList 0 w (by intro j hj; rw [Nat.add_zero]; exact hc j (by simp at hj; omega)) (by intro j hj; rw [Nat.add_zero]; exact hf j (by simp at hj; omega)) h1
 rw [Nat.add_zero] at hst
 simp [execOp, ho, hx, hy, Instr.storeAt, Instr.sureAddr, storeVar, sizeOf, typeInfo, hi, hsz, Value.cells, hn, hst]
def zeroTab : Array Value := (([.int .i64 0] ++ List.replicate 512 (.int .u32 0) ++ [.slice none 0 0, .int .u32 0] : List Value)).toArray
theorem run_build_tab (ρ : Operand → Value) (w : World) (dst : Option Tmp) (ty : TypeId) (pos : String) (after : Array Edge) : (execOp ρ ⟨dst, .build 149 #[], ty, pos, after, none⟩).run Tryz.prog w = .ok (.value (.agg zeroTab)) w := by kernel_rfl
theorem zt_mid {α : Type} (n : Nat) (a x : α) (c : List α) (i : Nat) (h : i < n) : ([a] ++ List.replicate n x ++ c)[1 + i]? = some x := by
 rw [List.getElem?_append_left (by simp; omega), List.getElem?_append_right (by simp)]
 simp [h]
theorem zt_end {α : Type} (n : Nat) (a x : α) (c : List α) (i : Nat) : ([a] ++ List.replicate n x ++ c)[1 + n + i]? = c[i]? := by
 rw [List.getElem?_append_right (by simp; omega)]
 congr 1; simp; omega
theorem rep_getD (n i : Nat) : (List.replicate n 0).getD i 0 = 0 := by
 rw [List.getD_eq_getElem?_getD, List.getElem?_replicate]; split <;> rfl
theorem zeroTab_len : zeroTab.toList.length = 515 := by kernel_rfl
theorem zeroTab_one : ∀ v ∈ zeroTab.toList, v.oneCell' = true := by
 intro v hv
 simp only [zeroTab, List.mem_append, List.mem_replicate] at hv
 rcases hv with (hv | hv) | hv
 · simp at hv; subst hv; rfl
 · rw [hv.2]; rfl
 · simp at hv; rcases hv with rfl | rfl <;> rfl
theorem zeroTab_at (w : World) (B o : Nat) (N : Nat → Prop) (hc : ∀ j, j < 515 → (w.cell? ⟨B, o + j, none⟩).isSome = true) : TabAt (w.setCells B o zeroTab.toList) B o emptyTab N := by
 have key : ∀ j v, j < 515 → zeroTab.toList[j]? = some v → (w.setCells B o zeroTab.toList).cell? ⟨B, o + j, none⟩ = some v := by
  intro j v hj hv; rw [World.cell?_setCells_in B zeroTab.toList o w (by rw [zeroTab_len]; exact hc) j (by rw [zeroTab_len]; exact hj)]
  rw [← hv, List.getElem?_eq_getElem]
 refine ⟨key 0 _ (by omega) rfl, fun i hi => ?_, ?_, fun _ => ?_, fun h => absurd rfl h⟩
 · have e : emptyTab.chunks.getD i 0 = 0 := rep_getD 512 i; rw [e, Nat.add_assoc]; exact key (1 + i) _ (by omega) (zt_mid 512 _ _ _ i hi)
 · exact key 514 _ (by omega) (zt_end 512 _ _ _ 1)
 · exact key 513 _ (by omega) (zt_end 512 _ _ _ 0)
def Lens (w : World) (X xo : Nat) (lens : List Nat) : Prop := ∀ j, j < lens.length → w.cell? ⟨X, xo + j, none⟩ = some (.int .i64 ((lens.getD j 0 : Nat) : Int))
def Ints (w : World) (X : Nat) (l : List Nat) : Prop := (∀ j, j < l.length → w.cell? ⟨X, j, none⟩ = some (.int .i64 ((l.getD j 0 : Nat) : Int))) ∧ ∀ o, w.frozen? ⟨X, o, none⟩ = false
theorem Ints.set {w : World} {X j : Nat} {l : List Nat} (h : Ints w X l) (hj : j < l.length) (v : Nat) : Ints (w.setCell ⟨X, j, none⟩ (.int .i64 (v : Int))) X (l.set j v) := by
 refine ⟨fun i hi => ?_, fun o => by rw [World.frozen?_setCell]; exact h.2 o⟩
 rw [List.length_set] at hi
 rw [getD_set]
 by_cases e : j = i
 · subst e; rw [if_pos ⟨rfl, hj⟩]; exact set_get (h.1 j hj)
 · rw [if_neg (fun q => e q.1), cell_set_off (fun q => e q.symm)]; exact h.1 i hi
theorem Ints.drewN {w : World} {X : Nat} {l : List Nat} (h : Ints w X l) (n : Nat) : Ints (w.drewN n) X l := ⟨h.1, h.2⟩
theorem Ints.keep {S : Nat → Nat → Prop} {w w' : World} {X : Nat} {l : List Nat} (h : Ints w X l) (hf : Frm S w w') (hS : ∀ o, ¬ S X o) (h0 : 0 < l.length) : Ints w' X l :=
 ⟨fun j hj => hf.keep (h.1 j hj) (hS j), fun o => (hf.froz X o (cell_lt (h.1 0 h0))).trans (h.2 o)⟩
theorem TabAt.keep_empty {S : Nat → Nat → Prop} {w w' : World} {B o : Nat} {N N' : Nat → Prop} (h : TabAt w B o emptyTab N) (hf : Frm S w w') (hB : ∀ k, o ≤ k → k < o + 515 → ¬ S B k) : TabAt w' B o emptyTab N' :=
 ⟨hf.keep h.min (hB _ (by omega) (by omega)), fun i hi => hf.keep (h.ch i hi) (hB _ (by omega) (by omega)), hf.keep h.mask (hB _ (by omega) (by omega)), fun e => hf.keep (h.none_ e) (hB _ (by omega) (by omega)), fun e => absurd rfl e⟩
theorem Ints.new (w : World) (t : TypeId) : Ints (w.alloc (.cells #[.int .i64 0, .int .i64 0, .int .i64 0, .int .i64 0, .int .i64 0, .int .i64 0, .int .i64 0, .int .i64 0, .int .i64 0, .int .i64 0, .int .i64 0, .int .i64 0, .int .i64 0, .int .i64 0, .int .i64 0, .int .i64 0] t)) w.heap.size (List.replicate 16 0) := by
 refine ⟨fun j hj => ?_, fun o => by rw [World.frozen?_alloc_new]⟩
 rw [World.cell?_alloc_new]
 simp only [List.length_replicate] at hj
 match j, hj with
 | 0, _ | 1, _ | 2, _ | 3, _ | 4, _ | 5, _ | 6, _ | 7, _ | 8, _ | 9, _ | 10, _ | 11, _ | 12, _ | 13, _ | 14, _ | 15, _ => rfl
 | n + 16, h => exact absurd h (by omega)
def ST (B o : Nat) (b k : Nat) : Prop := b = B ∧ o ≤ k ∧ k < o + 515
def TabPre (w : World) (B o : Nat) (N : Nat → Prop) : Prop := (∃ m : Int, m ≠ 0 ∧ w.cell? ⟨B, o, none⟩ = some (.int .i64 m)) ∨ TabAt w B o emptyTab N
def InitPost (w : World) (B o : Nat) (lens : List Nat) (e : Ending) (w' : World) : Prop :=
 match initTab lens with
 | none => False
 | some none => e = .returned (.bool false) ∧ TabAt w' B o emptyTab (fun b => w.heap.size ≤ b) ∧ Frm (ST B o) w w'
 | some (some T) => e = .returned (.bool true) ∧ TabAt w' B o T (fun b => w.heap.size ≤ b) ∧ Frm (ST B o) w w'
def CntInv (w : World) (B o : Nat) (lens : List Nat) (cb : Nat) (mn mx i : Value) (wr : World) : Prop :=
 ∃ k : Nat, k ≤ lens.length ∧ i = .int .i64 (k : Int) ∧ mn = .int .i64 (((lens.take k).foldl cntStep cnt0).min : Nat) ∧ mx = .int .i64 (((lens.take k).foldl cntStep cnt0).max : Nat) ∧
  Ints wr cb ((lens.take k).foldl cntStep cnt0).count ∧ TabAt wr B o emptyTab (fun b => w.heap.size ≤ b) ∧ Frm (ST B o) w wr
def NxInv (w : World) (B o : Nat) (c : Cnt) (cb nb : Nat) (code i : Value) (wr : World) : Prop :=
 ∃ (x k : Nat) (nx : List Nat), code = .int .i64 (x : Int) ∧ i = .int .i64 (k : Int) ∧ nextFrom c.count (c.max + 1 - k) k x nx = nextAll c ∧ x + 320 ≤ 320 * 2 ^ k ∧ nx.length = 16 ∧ k ≤ 16 ∧ (∀ j, nx.getD j 0 ≤ 20971520) ∧
  Ints wr nb nx ∧ Ints wr cb c.count ∧ TabAt wr B o emptyTab (fun b => w.heap.size ≤ b) ∧ Frm (ST B o) w wr
structure BA (w : World) (B o base mn mk m L : Nat) (b : Bld) : Prop where
 min : w.cell? ⟨B, o, none⟩ = some (.int .i64 (mn : Int))
 ch : ∀ i, i < 512 → w.cell? ⟨B, o + 1 + i, none⟩ = some (.int .u32 (b.chunks.getD i 0 : Nat))
 clen : b.chunks.length = 512
 mask : w.cell? ⟨B, o + 514, none⟩ = some (.int .u32 (mk : Int))
 none_ : b.links = [] → w.cell? ⟨B, o + 513, none⟩ = some (.slice none 0 0)
 some_ : b.links ≠ [] → base ≤ L ∧ w.cell? ⟨B, o + 513, none⟩ = some (.slice (some ⟨L, 0, none⟩) b.links.length b.links.length)
 row : ∀ k, k < b.links.length → w.cell? ⟨L, k, none⟩ = some (.slice (some ⟨L + 1 + k, 0, none⟩) m m) ∧ (b.links.getD k []).length = m ∧
  ∀ j, j < m → w.cell? ⟨L + 1 + k, j, none⟩ = some (.int .u32 (((b.links.getD k []).getD j 0 : Nat) : Int))
 frz : ∀ k o, b.links ≠ [] → k ≤ b.links.length → w.frozen? ⟨L + k, o, none⟩ = false
def LkInv (w : World) (B o nb : Nat) (nx : List Nat) (mn mk m L q : Nat) (j : Value) (wr : World) : Prop :=
 ∃ k : Nat, q + k ≤ 512 ∧ j = .int .u64 ((q + k : Nat) : Int) ∧ wr.heap.size = L + 1 + k ∧ wr.cell? ⟨B, o, none⟩ = some (.int .i64 (mn : Int)) ∧ wr.cell? ⟨B, o + 514, none⟩ = some (.int .u32 (mk : Int)) ∧
  wr.cell? ⟨B, o + 513, none⟩ = some (.slice (some ⟨L, 0, none⟩) (512 - q) (512 - q)) ∧
  (∀ i, i < 512 → wr.cell? ⟨B, o + 1 + i, none⟩ = some (.int .u32 ((linkTo q (List.replicate 512 0) k).getD i 0 : Nat))) ∧
  (∀ i, i < 512 - q → wr.cell? ⟨L, i, none⟩ = some (if i < k then .slice (some ⟨L + 1 + i, 0, none⟩) m m else .slice none 0 0)) ∧
  (∀ i j, i < k → j < m → wr.cell? ⟨L + 1 + i, j, none⟩ = some (.int .u32 0)) ∧ (∀ i o, i ≤ k → wr.frozen? ⟨L + i, o, none⟩ = false) ∧
  Ints wr nb nx ∧ Frm (ST B o) w wr
def SyInv (w : World) (B o nb : Nat) (lens : List Nat) (mn mk m L : Nat) (tot : Option Bld) (i : Value) (wr : World) : Prop :=
 ∃ (k : Nat) (b : Bld), k ≤ lens.length ∧ i = .int .i64 (k : Int) ∧ symAll b k (lens.drop k) = tot ∧ BA wr B o w.heap.size mn mk m L b ∧ Ints wr nb b.next ∧ b.next.length = 16 ∧ (∀ n, b.next.getD n 0 ≤ 20971520 + k) ∧ Frm (ST B o) w wr
theorem wpList_make {P : Program} {ops : Array Oper} {rest : List Oper} {o : Oper} {a : Act} {w : World} {Q : Exit → Act → World → Prop} (hgd : o.guard = none) (t : TypeId) (l c : Operand) (ho : o.op = .makeSlice t l c)
 (e : TypeId) (i : TypeInfo) (z : Value) (ht : P.underlying t = some (.slice e)) (hi : P.info? e = some i) (hz : i.zero = some z) (k k2 : IntKind) (n : Nat) (hl : a.eval l = .int k (n : Int)) (hc : a.eval c = .int k2 (n : Int))
 (hb : i.bytes * n ≤ 281474976710656) (hn : n ≤ 4294967296)
 (h : wpList P ops Q rest (a.put o.dst (.slice (some ⟨w.heap.size, 0, none⟩) n n)) (w.alloc (.cells (madeCells z.cells (n * i.size)) e))) : wpList P ops Q (o :: rest) a w := by
 have hr := run_make (P := P) w t e i z ht hi hz k k2 n n (by omega) (by omega) (by rw [← Int.natCast_mul]; omega) (by omega)
 rw [Int.toNat_natCast] at hr
 refine wpList_plain hgd fun K hK => ?_
 unfold Oper.wp
 simp [execOp, ho, hl, hc, hr, Result.andThen]
 exact hK _ _ h
theorem made_get (z : Value) (n j : Nat) (hj : j < n) : (madeCells #[z] n)[j]? = some z := by
 simp [madeCells, hj, Nat.mod_one]
theorem new_row (w : World) (z : Value) (e : TypeId) (n j : Nat) (hj : j < n) : (w.alloc (.cells (madeCells #[z] n) e)).cell? ⟨w.heap.size, j, none⟩ = some z := by
 rw [World.cell?_alloc_new]
 exact made_get z n j hj
theorem linkTo_len (q : Nat) (l : List Nat) (k : Nat) : (linkTo q l k).length = l.length := by
 induction k with
 | zero => rfl
 | succ k ih => rw [linkTo, List.length_set, ih]
theorem lk_next {w wr : World} {B o nb : Nat} {nx : List Nat} {mn mk m L q k : Nat} (ty : TypeId) (n2 : Nat) (h : LkInv w B o nb nx mn mk m L q (.int .u64 ((q + k : Nat) : Int)) wr) (hlt : q + k < 512) (HB : B < w.heap.size) (hL : w.heap.size ≤ L) (hnb : nb < L) (hnB : nb ≠ B) (hnx : 0 < nx.length) :
 LkInv w B o nb nx mn mk m L q (.int .u64 ((q + (k + 1) : Nat) : Int))
  (((((wr.drewN n2).setCell ⟨B, o + 1 + revB 9 (q + k), none⟩ (.int .u32 ((k : Int) * 16 + 10))).alloc (.cells (madeCells #[.int .u32 0] m) ty)).setCell ⟨L, k, none⟩ (.slice (some ⟨L + 1 + k, 0, none⟩) m m)).drew) := by
 obtain ⟨k', hk, e, hsz, d0, dM, d3, dch, dl, dr, df, dI, dF⟩ := h
 obtain rfl : k' = k := by
  have := congrArg intOf e; simp [intOf] at this; omega
 have r9 : revB 9 (q + k') < 512 := revB_lt 9 _
 obtain ⟨r, hr⟩ : ∃ r, r = revB 9 (q + k') := ⟨_, rfl⟩
 rw [← hr] at r9 ⊢
 have LB : L ≠ B := by omega
 obtain ⟨w3, hw3⟩ : ∃ w3, w3 = (wr.drewN n2).setCell ⟨B, o + 1 + r, none⟩ (.int .u32 ((k' : Int) * 16 + 10)) := ⟨_, rfl⟩
 have s3 : w3.heap.size = L + 1 + k' := by rw [hw3]; simp [World.setCell, hsz]
 have f3 : Frm (fun b x => b = B ∧ x = o + 1 + r) wr w3 := by rw [hw3]; (repeat (first | exact Frm.refl _ _ | refine Frm.drewN ?_ _ | refine Frm.drew ?_ | refine Frm.alloc ?_ _ | refine Frm.setCell ?_ (by simp) _))
 obtain ⟨w4, hw4⟩ : ∃ w4, w4 = w3.alloc (.cells (madeCells #[.int .u32 0] m) ty) := ⟨_, rfl⟩
 have s4 : w4.heap.size = L + 1 + (k' + 1) := by rw [hw4]; simp [s3]; omega
 have f4 : Frm (fun _ _ => False) w3 w4 := by rw [hw4]; (repeat (first | exact Frm.refl _ _ | refine Frm.drewN ?_ _ | refine Frm.drew ?_ | refine Frm.alloc ?_ _ | refine Frm.setCell ?_ (by simp) _))
 have n4 : ∀ j, j < m → w4.cell? ⟨L + 1 + k', j, none⟩ = some (.int .u32 0) := by
  intro j hj; rw [hw4, ← s3]; exact new_row w3 _ ty m j hj
 have z4 : ∀ o, w4.frozen? ⟨L + 1 + k', o, none⟩ = false := by intro o; rw [hw4, ← s3]; exact World.frozen?_alloc_new ..
 have f34 : Frm (fun b x => b = B ∧ x = o + 1 + r) wr w4 := f3.trans (f4.mono fun _ _ e => e.elim)
 rw [← hw3, ← hw4]
 obtain ⟨w5, hw5⟩ : ∃ w5, w5 = (w4.setCell ⟨L, k', none⟩ (.slice (some ⟨L + 1 + k', 0, none⟩) m m)).drew := ⟨_, rfl⟩
 rw [← hw5]
 have s5 : w5.heap.size = L + 1 + (k' + 1) := by rw [hw5]; show (w4.setCell _ _).heap.size = _; simp [World.setCell, s4]
 have f5 : Frm (fun b x => b = L ∧ x = k') w4 w5 := by rw [hw5]; (repeat (first | exact Frm.refl _ _ | refine Frm.drewN ?_ _ | refine Frm.drew ?_ | refine Frm.alloc ?_ _ | refine Frm.setCell ?_ (by simp) _))
 have g2 := dl k' (by omega)
 rw [if_neg (by omega)] at g2
 have c5 : w5.cell? ⟨L, k', none⟩ = some (.slice (some ⟨L + 1 + k', 0, none⟩) m m) := by
  rw [hw5]; exact set_get (f34.keep g2 (fun e => LB e.1))
 have both : ∀ {b x v}, wr.cell? ⟨b, x, none⟩ = some v → ¬ (b = B ∧ x = o + 1 + r) → ¬ (b = L ∧ x = k') → w5.cell? ⟨b, x, none⟩ = some v := fun hc h1 h2 => f5.keep (f34.keep hc h1) h2
 refine ⟨k' + 1, by omega, rfl, s5, both d0 (by omega) (by omega), both dM (by omega) (by omega), both d3 (by omega) (by omega), fun i hi => ?_, fun i hi => ?_, fun i j hi hj => ?_, fun i x hi => ?_, ?_, ?_⟩
 · rw [linkTo, getD_set, ← hr, linkTo_len, List.length_replicate]
   by_cases e : r = i
   · subst e; rw [if_pos ⟨rfl, hi⟩]; refine f5.keep (f4.keep ?_ (fun e => e)) (fun e => LB e.1.symm)
     rw [hw3]; exact set_get (dch r hi)
   · rw [if_neg (fun q => e q.1)]
     exact both (dch i hi) (by omega) (by omega)
 · by_cases e : i = k'
   · subst e; rw [if_pos (by omega)]; exact c5
   · have := dl i hi
     by_cases e2 : i < k'
     · rw [if_pos e2] at this; rw [if_pos (by omega)]; exact both this (fun e => LB e.1) (fun q => e q.2)
     · rw [if_neg e2] at this; rw [if_neg (by omega)]; exact both this (fun e => LB e.1) (fun q => e q.2)
 · by_cases e : i = k'
   · subst e; exact f5.keep (n4 j hj) (by omega)
   · exact both (dr i j (by omega) hj) (by omega) (by omega)
 · by_cases e : i = k' + 1
   · subst e; rw [show L + (k' + 1) = L + 1 + k' by omega]
     exact (f5.froz _ _ (by omega)).trans (z4 x)
   · have h1 := df i x (by omega)
     exact (f5.froz _ _ (by omega)).trans ((f34.froz _ _ (by omega)).trans h1)
 · exact (dI.keep f34 (fun _ e => hnB e.1) hnx).keep f5 (fun _ e => by omega) hnx
 · refine (dF.trans' f34 (S' := fun b x => b = B ∧ x = o + 1 + r) (fun b x _ e => ⟨e.1, by omega, by omega⟩)).trans' f5 (fun b x hb e => by omega)
theorem lk_start {w wc : World} {B o nb : Nat} {nx : List Nat} {mn mk m L q : Nat} {N : Nat → Prop} (ty : TypeId) (hT : TabAt wc B o emptyTab N) (hF : Frm (ST B o) w wc) (hI : Ints wc nb nx) (hL : wc.heap.size = L) (hq : q < 512) (hnB : nb ≠ B) (hnx : 0 < nx.length) :
 LkInv w B o nb nx mn mk m L q (.int .u64 (q : Int))
  ((((wc.setCell ⟨B, o, none⟩ (.int .i64 (mn : Int))).setCell ⟨B, o + 514, none⟩ (.int .u32 (mk : Int))).alloc (.cells (madeCells #[.slice none 0 0] (512 - q)) ty)).setCell ⟨B, o + 513, none⟩ (.slice (some ⟨L, 0, none⟩) (512 - q) (512 - q))) := by
 have HB := cell_lt hT.min
 obtain ⟨w2, hw2⟩ : ∃ w2, w2 = (wc.setCell ⟨B, o, none⟩ (.int .i64 (mn : Int))).setCell ⟨B, o + 514, none⟩ (.int .u32 (mk : Int)) := ⟨_, rfl⟩
 have f2 : Frm (fun b x => b = B ∧ (x = o ∨ x = o + 514)) wc w2 := by rw [hw2]; (repeat (first | exact Frm.refl _ _ | refine Frm.drewN ?_ _ | refine Frm.drew ?_ | refine Frm.alloc ?_ _ | refine Frm.setCell ?_ (by simp) _))
 have s2 : w2.heap.size = L := by rw [hw2]; simp [World.setCell, hL]
 have c0 : w2.cell? ⟨B, o, none⟩ = some (.int .i64 (mn : Int)) := by rw [hw2, cell_set_off (by omega)]; exact set_get hT.min
 have c1 : w2.cell? ⟨B, o + 514, none⟩ = some (.int .u32 (mk : Int)) := by
  rw [hw2]; exact set_get (u := .int .u32 ((emptyTab.mask : Nat) : Int)) (by rw [cell_set_off (by omega)]; exact hT.mask)
 rw [← hw2]
 obtain ⟨w3, hw3⟩ : ∃ w3, w3 = w2.alloc (.cells (madeCells #[.slice none 0 0] (512 - q)) ty) := ⟨_, rfl⟩
 have f3 : Frm (fun _ _ => False) w2 w3 := by rw [hw3]; (repeat (first | exact Frm.refl _ _ | refine Frm.drewN ?_ _ | refine Frm.drew ?_ | refine Frm.alloc ?_ _ | refine Frm.setCell ?_ (by simp) _))
 have n3 : ∀ j, j < 512 - q → w3.cell? ⟨L, j, none⟩ = some (.slice none 0 0) := by
  intro j hj; rw [hw3, ← s2]; exact new_row w2 _ ty _ j hj
 have z3 : ∀ x, w3.frozen? ⟨L, x, none⟩ = false := by intro x; rw [hw3, ← s2]; exact World.frozen?_alloc_new ..
 have s3 : w3.heap.size = L + 1 := by rw [hw3]; simp [s2]
 rw [← hw3]
 obtain ⟨w4, hw4⟩ : ∃ w4, w4 = w3.setCell ⟨B, o + 513, none⟩ (.slice (some ⟨L, 0, none⟩) (512 - q) (512 - q)) := ⟨_, rfl⟩
 have f4 : Frm (fun b x => b = B ∧ x = o + 513) w3 w4 := by rw [hw4]; (repeat (first | exact Frm.refl _ _ | refine Frm.drewN ?_ _ | refine Frm.drew ?_ | refine Frm.alloc ?_ _ | refine Frm.setCell ?_ (by simp) _))
 have s4 : w4.heap.size = L + 1 := by rw [hw4]; simp [World.setCell, s3]
 have h3 : w3.cell? ⟨B, o + 513, none⟩ = some (.slice none 0 0) := f3.keep (f2.keep (hT.none_ rfl) (by omega)) (fun e => e)
 have c4 : w4.cell? ⟨B, o + 513, none⟩ = some (.slice (some ⟨L, 0, none⟩) (512 - q) (512 - q)) := by rw [hw4]; exact set_get h3
 rw [← hw4]
 refine ⟨0, by omega, rfl, s4, f4.keep (f3.keep c0 (fun e => e)) (by omega), f4.keep (f3.keep c1 (fun e => e)) (by omega), c4, fun i hi => ?_, fun i hi => ?_, fun i j hi _ => by omega, fun i x hi => ?_, ?_, ?_⟩
 · exact f4.keep (f3.keep (f2.keep (hT.ch i hi) (by omega)) (fun e => e)) (by omega)
 · rw [if_neg (by omega)]; exact f4.keep (n3 i hi) (by omega)
 · obtain rfl : i = 0 := by omega
   exact (f4.froz _ _ (by omega)).trans (z3 x)
 · exact ((hI.keep f2 (fun _ e => hnB e.1) hnx).keep f3 (fun _ e => e) hnx).keep f4 (fun _ e => hnB e.1) hnx
 · refine ((hF.trans (f2.mono fun b x e => ?_)).trans (f3.mono fun _ _ e => e.elim)).trans (f4.mono fun b x e => ?_)
   · exact ⟨e.1, by omega, by omega⟩
   · exact ⟨e.1, by omega, by omega⟩
theorem lk_done {w wr : World} {B o nb : Nat} {nx : List Nat} {mn mk m L q k mx : Nat} (h : LkInv w B o nb nx mn mk m L q (.int .u64 ((q + k : Nat) : Int)) wr) (hk : q + k = 512) (h9 : 9 < mx) (hq : nx.getD 10 0 / 2 = q) (hq2 : q < 512)
 (hm : m = 2 ^ (mx - 9)) (hL : w.heap.size ≤ L) : BA wr B o w.heap.size mn mk m L (bld0 mx nx) ∧ Ints wr nb nx ∧ Frm (ST B o) w wr := by
 obtain ⟨k', hk', e, hsz, d0, dM, d3, dch, dl, dr, df, dI, dF⟩ := h
 obtain rfl : k' = k := by
  have := congrArg intOf e; simp [intOf] at this; omega
 obtain rfl : k' = 512 - q := by omega
 have hb : bld0 mx nx = { next := nx, chunks := linkTo q (List.replicate 512 0) (512 - q), links := List.replicate (512 - q) (List.replicate m 0) } := by
  unfold bld0; rw [if_pos h9, hq, hm]
 rw [hb]
 have gd : ∀ i, i < 512 - q → (List.replicate (512 - q) (List.replicate m 0)).getD i [] = List.replicate m 0 := by
  intro i hi; rw [List.getD_eq_getElem?_getD, List.getElem?_replicate, if_pos hi]; rfl
 refine ⟨⟨d0, dch, by simp [linkTo_len], dM, fun e => ?_, fun _ => ?_, fun i hi => ?_, fun i x _ hi => ?_⟩, dI, dF⟩
 · have := congrArg List.length e; simp at this; omega
 · refine ⟨hL, ?_⟩; simp only [List.length_replicate]; exact d3
 · simp only [List.length_replicate] at hi; have := dl i hi; rw [if_pos hi] at this; refine ⟨this, ?_, fun j hj => ?_⟩
   · rw [gd i hi]; simp
   · rw [gd i hi, rep_getD]; exact dr i j hi hj
 · simp only [List.length_replicate] at hi; exact df i x hi
theorem or16 (k n : Nat) (hn : n < 16) : (k * 16) ||| n = k * 16 + n := nat_join 4 (k * 16) n (by omega) (by omega)
theorem or_ten (k : Nat) (hk : k < 65536) : bits .or .u64 ((k : Int) * 16) 10 = ((k * 16 + 10 : Nat) : Int) := by
 rw [show (k : Int) * 16 = ((k * 16 : Nat) : Int) by omega, show (10 : Int) = ((10 : Nat) : Int) from rfl, u64_or_nat _ _ (by omega) (by omega), or16 k 10 (by omega)]
theorem bld0_next (mx : Nat) (nx : List Nat) : (bld0 mx nx).next = nx := by unfold bld0; split <;> rfl
theorem ba_short {w wc : World} {B o : Nat} {nx : List Nat} {mn m L mx : Nat} {N : Nat → Prop} (hT : TabAt wc B o emptyTab N) (h9 : ¬ 9 < mx) (base : Nat) (hF : Frm (ST B o) w wc) :
 BA (wc.setCell ⟨B, o, none⟩ (.int .i64 (mn : Int))) B o base mn 0 m L (bld0 mx nx) ∧ Frm (ST B o) w (wc.setCell ⟨B, o, none⟩ (.int .i64 (mn : Int))) := by
 have hb : bld0 mx nx = { next := nx, chunks := List.replicate 512 0, links := [] } := by unfold bld0; rw [if_neg h9]
 have f : Frm (fun b x => b = B ∧ x = o) wc (wc.setCell ⟨B, o, none⟩ (.int .i64 (mn : Int))) := by (repeat (first | exact Frm.refl _ _ | refine Frm.drewN ?_ _ | refine Frm.drew ?_ | refine Frm.alloc ?_ _ | refine Frm.setCell ?_ (by simp) _))
 rw [hb]
 refine ⟨⟨set_get hT.min, fun i hi => f.keep (hT.ch i hi) (by omega), by simp, f.keep hT.mask (by omega), fun _ => f.keep (hT.none_ rfl) (by omega), fun e => absurd rfl e, fun k hk => absurd hk (by simp), fun k o e => absurd rfl e⟩, ?_⟩
 exact hF.setCell (.inl ⟨rfl, by simp, by simp⟩) _
theorem infoOf {P : Program} {t : TypeId} {x : Option Value × Nat × Nat} (h : ((P.info? t).map fun i => (i.zero, i.size, i.bytes)) = some x) : ∃ i : TypeInfo, P.info? t = some i ∧ i.zero = x.1 ∧ i.size = x.2.1 ∧ i.bytes = x.2.2 := by
 obtain ⟨i, h1, h2⟩ := Option.map_eq_some_iff.1 h
 subst h2
 exact ⟨i, h1, rfl, rfl, rfl⟩
theorem infoRow : ((Tryz.prog.info? 193).map fun i => (i.zero, i.size, i.bytes)) = some (some (.slice none 0 0), 1, 24) := by kernel_rfl
theorem infoU : ((Tryz.prog.info? 27).map fun i => (i.zero, i.size, i.bytes)) = some (some (.int .u32 0), 1, 4) := by kernel_rfl
theorem wpList_rows {ops : Array Oper} {rest : List Oper} {o : Oper} {a : Act} {w : World} {Q : Exit → Act → World → Prop} (hgd : o.guard = none) (l c : Operand) (ho : o.op = .makeSlice 147 l c)
 (k k2 : IntKind) (n : Nat) (hl : a.eval l = .int k (n : Int)) (hc : a.eval c = .int k2 (n : Int)) (hn : n ≤ 65536)
 (h : ∀ w', w' = w.alloc (.cells (madeCells #[.slice none 0 0] n) 193) → wpList Tryz.prog ops Q rest (a.put o.dst (.slice (some ⟨w.heap.size, 0, none⟩) n n)) w') : wpList Tryz.prog ops Q (o :: rest) a w := by
 obtain ⟨i, h1, h2, h3, h4⟩ := infoOf infoRow
 refine wpList_make hgd _ l c ho _ i _ Tryz.underlying147 h1 h2 k k2 n hl hc (by rw [h4]; simp only; omega) (by omega) ?_
 rw [h3, Nat.mul_one]; exact h _ rfl
theorem run_row (w : World) (n : Nat) (hn : n ≤ 65536) :
 (Instr.makeSlice 193 (.int .i64 (n : Int)) (.int .i64 (n : Int))).run Tryz.prog w = .ok (.slice (some ⟨w.heap.size, 0, none⟩) n n) (w.alloc (.cells (madeCells #[.int .u32 0] n) 27)) := by
 obtain ⟨i, h1, h2, h3, h4⟩ := infoOf infoU
 have hr := run_make (P := Tryz.prog) w 193 _ i _ Tryz.underlying193 h1 h2 .i64 .i64 n n (by omega) (by omega) (by rw [h4]; simp only; omega) (by omega)
 rw [Int.toNat_natCast, h3, Nat.mul_one] at hr
 exact hr
theorem frm_setRow {w : World} {g : Nat} {cur cs : Array Value} {e : TypeId} (hg : w.heap[g]? = some (.cells cur e (0, 0))) (hs : cs.size = cur.size) : Frm (fun b _ => b = g) w (w.setRow g cs) := by
 have hh := setRow_heap w g cur cs e (0, 0) hg
 refine ⟨rfl, rfl, rfl, by simp [World.setRow], fun b o hb hn => World.cell?_of_block (setRow_other w g b cs hn), fun b o hb => ?_, fun b o hb => ?_, fun b hb hn => setRow_other w g b cs (hn 0)⟩
 · by_cases h : b = g
   · subst h; simp [World.frozen?, hg, hh]
   · exact World.frozen?_of_block (setRow_other w g b cs h)
 · by_cases h : b = g
   · subst h; simp only [World.cell?, hg, hh]
     by_cases ho : o < cur.size
     · rw [Array.getElem?_eq_getElem ho, Array.getElem?_eq_getElem (by omega)]; rfl
     · rw [Array.getElem?_eq_none (by omega), Array.getElem?_eq_none (by omega)]
   · rw [World.cell?_of_block (a := ⟨b, o, none⟩) (setRow_other w g b cs h)]
structure Row (K : Value → Prop) (w : World) (base : Nat) (e : TypeId) (size : Nat) (v : Value) (n : Nat) (xs : List Value) : Prop where
 own : w.ownsRow base e size v n xs
 kind : ∀ g, v.ownBlock = some g → ∀ o u, w.cell? ⟨g, o, none⟩ = some u → K u
 froz : ∀ g, v.ownBlock = some g → ∀ o, w.frozen? ⟨g, o, none⟩ = false
theorem Row.nil (K : Value → Prop) (w : World) (base : Nat) (e : TypeId) (size : Nat) : Row K w base e size (.slice none 0 0) 0 [] :=
 ⟨World.ownsRow_nil w base e size, fun g h => by simp [Value.ownBlock] at h, fun g h => by simp [Value.ownBlock] at h⟩
theorem Row.len {K : Value → Prop} {w : World} {base : Nat} {e : TypeId} {size : Nat} {v : Value} {n : Nat} {xs : List Value} (h : Row K w base e size v n xs) : xs.length = n * size := h.own.1
theorem Row.lt {K : Value → Prop} {w : World} {base : Nat} {e : TypeId} {size : Nat} {v : Value} {n : Nat} {xs : List Value} (h : Row K w base e size v n xs) : ∀ g, v.ownBlock = some g → base ≤ g ∧ g < w.heap.size := h.own.lt
theorem Row.keep {K : Value → Prop} {w w' : World} {base : Nat} {e : TypeId} {size : Nat} {v : Value} {n : Nat} {xs : List Value} {S : Nat → Nat → Prop} (h : Row K w base e size v n xs) (hf : Frm S w w') (hS : ∀ g o, v.ownBlock = some g → ¬ S g o) : Row K w' base e size v n xs := by
 have hobj : ∀ g, v.ownBlock = some g → w'.heap[g]? = w.heap[g]? := fun g hg => hf.obj g (h.lt g hg).2 (fun o => hS g o hg)
 refine ⟨⟨h.own.1, ?_⟩, fun g hg o u hu => ?_, fun g hg o => ?_⟩
 · rcases h.own.2 with q | ⟨g, cap, cur, q1, q2, q3, q4, q5, q6, q7⟩
   · exact .inl q
   · exact .inr ⟨g, cap, cur, q1, q2, (hobj g (by rw [q1]; rfl)).trans q3, q4, q5, q6, q7⟩
 · exact h.kind g hg o u ((World.cell?_of_block (hobj g hg)).symm.trans hu)
 · exact (World.frozen?_of_block (hobj g hg)).trans (h.froz g hg o)
theorem Row.lower {K : Value → Prop} {w : World} {base b' : Nat} {e : TypeId} {size : Nat} {v : Value} {n : Nat} {xs : List Value} (h : Row K w base e size v n xs) (hb : b' ≤ base) : Row K w b' e size v n xs := by
 refine ⟨⟨h.own.1, ?_⟩, h.kind, h.froz⟩
 rcases h.own.2 with q | ⟨g, cap, cur, q1, q2, q3⟩
 · exact .inl q
 · exact .inr ⟨g, cap, cur, q1, Nat.le_trans hb q2, q3⟩
theorem Row.drewN {K : Value → Prop} {w : World} {base : Nat} {e : TypeId} {size : Nat} {v : Value} {n : Nat} {xs : List Value} (h : Row K w base e size v n xs) (q : Nat) : Row K (w.drewN q) base e size v n xs := ⟨h.own, h.kind, h.froz⟩
theorem Row.cells {K : Value → Prop} {w : World} {base : Nat} {e : TypeId} {size : Nat} {v : Value} {n : Nat} {xs : List Value} (h : Row K w base e size v n xs) :
 (v = .slice none 0 0 ∧ n = 0) ∨ ∃ g cap, v = .slice (some ⟨g, 0, none⟩) n cap ∧ base ≤ g ∧ g < w.heap.size ∧ n ≤ cap ∧ ∀ j u, xs[j]? = some u → w.cell? ⟨g, j, none⟩ = some u := by
 rcases h.own.2 with q | ⟨g, cap, cur, q1, q2, q3, q4, q5, q6, q7⟩
 · exact .inl q
 · refine .inr ⟨g, cap, q1, q2, (h.lt g (by rw [q1]; rfl)).2, q4, fun j u hu => ?_⟩
   have := h.own.cells (g := g) (by rw [q1]; rfl) j u hu
   rw [Addr.add_lit] at this
   simpa using this
theorem cells_at {w : World} {g o : Nat} {cs : Array Value} {t : TypeId} {f : Nat × Nat} (h : w.heap[g]? = some (.cells cs t f)) : w.cell? ⟨g, o, none⟩ = cs[o]? := by
 simp [World.cell?, h]
theorem append_row {P : Program} (K : Value → Prop) (w : World) (base : Nat) (t e : TypeId) (i : TypeInfo) (z : Value) (size bytes : Nat) (ht : P.underlying t = some (.slice e)) (hi : P.info? e = some i) (hz : i.zero = some z)
 (hsize : i.size = size) (hby : i.bytes = bytes) (hzs : z.cells.size = size) (hzK : ∀ u ∈ z.cells.toList, K u)
 (v : Value) (n : Nat) (xs : List Value) (hrow : Row K w base e size v n xs)
 (a : Addr) (m c : Nat) (news : List Value) (hl : news.length = m * size) (hnews : ∀ j u, news[j]? = some u → w.cell? (a.add j) = some u) (h1 : ∀ u ∈ news, u.oneCell' = true) (hK : ∀ u ∈ news, K u)
 (h63 : n + m ≤ maxLen) (hbytes : (n + m) * bytes ≤ 140737488355328) (hbase : base ≤ w.heap.size) :
 ∃ v' w', (∀ ty, (Builtin.append_ #[t, t] ty #[v, .slice (some a) m c]).run P w = .ok v' w') ∧ Row K w' base e size v' (n + m) (xs ++ news) ∧ Frm (fun b _ => v.ownBlock = some b) w w' ∧ (v'.ownBlock = v.ownBlock ∨ v'.ownBlock = some w.heap.size) := by
 subst hsize
 subst hby
 have hsmall : n + m ≤ 9223372036854775807 := by simp only [maxLen] at h63; omega
 have hlen : (xs ++ news).length = (n + m) * i.size := by rw [List.length_append, hrow.len, hl, Nat.add_mul]
 have hzc : ∀ k, ∀ u ∈ (Builtin.zeroCells z.cells k).toList, K u := fun k u hu => by
  unfold Builtin.zeroCells at hu; rw [Array.mem_toList_iff, Array.mem_map] at hu; obtain ⟨j, hj, rfl⟩ := hu; have hpos : 0 < z.cells.size := by
   rcases Nat.eq_zero_or_pos z.cells.size with h0 | h0
   · rw [h0] at hj; simp at hj
   · exact h0
  have hlt := Nat.mod_lt j hpos; rw [getElem!_pos z.cells _ hlt]; exact hzK _ (by simp)
 have kindOf : ∀ {W : World} {g : Nat} {cs : Array Value} {t : TypeId} {f : Nat × Nat}, W.heap[g]? = some (.cells cs t f) → (∀ u ∈ cs.toList, K u) → ∀ o u, W.cell? ⟨g, o, none⟩ = some u → K u := fun hg hk o u hu => by
  rw [cells_at hg] at hu; exact hk u (Array.mem_toList_iff.2 (Array.mem_of_getElem? hu))
 have grown : ∀ (old : Nat), old < n + m → ∀ S : Nat → Nat → Prop, (∀ u ∈ xs, K u) →
  Row K (w.drew.alloc (.cells (xs.toArray ++ news.toArray ++ Builtin.zeroCells z.cells (grownCap w (n + m) old e - (n + m))) e)) base e i.size
   (.slice (some ⟨w.heap.size, 0, none⟩) (n + m) (grownCap w (n + m) old e)) (n + m) (xs ++ news) ∧
  Frm S w (w.drew.alloc (.cells (xs.toArray ++ news.toArray ++ Builtin.zeroCells z.cells (grownCap w (n + m) old e - (n + m))) e)) := by
  intro old ho S hxK; have hge := grownCap_ge w (n + m) old e; have hcm : grownCap w (n + m) old e ≤ maxLen := grownCap_le_maxLen w (n + m) old e h63; refine ⟨⟨⟨hlen, .inr ⟨w.heap.size, _, _, rfl, hbase, heap_alloc_new w.drew _, hge, hcm, ?_, ?_⟩⟩, fun g hg => ?_, fun g hg o => ?_⟩, ((Frm.refl _ _).drew).alloc _⟩
  · simp only [Array.size_append, List.size_toArray, size_zeroCells, hzs, hrow.len, hl, ← Nat.add_mul]
    congr 1
    omega
  · simp only [Array.toList_append, List.append_assoc]; rw [← List.append_assoc, ← hlen]; exact List.take_left
  · have hg : w.heap.size = g := Option.some.inj hg; subst hg; refine kindOf (heap_alloc_new w.drew _) fun u hu => ?_
    simp only [Array.toList_append, List.mem_append] at hu; rcases hu with (hu | hu) | hu
    · exact hxK u hu
    · exact hK u hu
    · exact hzc _ u hu
  · have hg : w.heap.size = g := Option.some.inj hg; subst hg; exact World.frozen?_alloc_new (w := w.drew) ..
 rcases hrow.own.2 with ⟨rfl, rfl⟩ | ⟨g, cap, cur, rfl, hbg, hg, hnc, hcm, hcs, htake⟩
 · have hx : xs = [] := List.eq_nil_of_length_eq_zero (by simpa using hrow.len)
   subst hx
   by_cases hm : m = 0
   · subst hm; have hn : news = [] := List.eq_nil_of_length_eq_zero (by simpa using hl)
     subst hn; refine ⟨.slice none 0 0, w, fun ty => ?_, Row.nil K w base e i.size, Frm.refl _ _, .inl rfl⟩
     simp [Builtin.append_, run_underlying ht, sizeOf, typeInfo, hi, Builtin.lenOf, Builtin.firstCells, loadCells, loadCellsFrom]
   · have hr := fun ty => run_append_nil (P := P) w t ty e i z ht hi hz a m c news hl hnews (by omega) (by omega) (by have hb := hbytes; simp only [Nat.zero_add] at hb; omega)
     have hgr := grown 0 (by omega) (fun b _ => (Value.slice none 0 0).ownBlock = some b) (by simp)
     simp only [Nat.zero_add, List.nil_append, Array.empty_append] at hgr ⊢; exact ⟨_, _, hr, hgr.1, hgr.2, .inr rfl⟩
 · have hxK : ∀ u ∈ xs, K u := fun u hu => by
    obtain ⟨j, hj⟩ := List.mem_iff_getElem?.1 hu; refine hrow.kind g rfl j u ?_; rw [cells_at hg]; have hj2 : j < n * i.size := by rw [← hrow.len]; exact (List.getElem?_eq_some_iff.1 hj).1
    rw [← htake, List.getElem?_take_of_lt hj2] at hj
    simpa using hj
   by_cases hroom : n + m ≤ cap
   · have hfit : n * i.size + news.length ≤ cur.size := by rw [hl, hcs, ← Nat.add_mul]; exact Nat.mul_le_mul_right _ hroom
     have hr := fun ty => run_append_room (P := P) w t ty e i ht hi g n cap cur hg a m c news hl hnews h1 hroom hfit
     have hsz : (cur.toList.take (n * i.size) ++ news ++ cur.toList.drop (n * i.size + news.length)).toArray.size = cur.size := by
      simp only [List.size_toArray, List.length_append, List.length_take, List.length_drop, Array.length_toList]; omega
     have hf := frm_setRow hg hsz; have hnew := setRow_heap w g cur (cur.toList.take (n * i.size) ++ news ++ cur.toList.drop (n * i.size + news.length)).toArray e (0, 0) hg; refine ⟨_, _, hr, ⟨⟨hlen, .inr ⟨g, cap, _, rfl, hbg, hnew, hroom, hcm, by rw [hsz, hcs], ?_⟩⟩, fun g' hg' => ?_, fun g' hg' o => ?_⟩, hf.mono fun b o h => by rw [h]; rfl, .inl rfl⟩
     · rw [htake, ← hlen]; exact List.take_left
     · have hg' : g = g' := Option.some.inj hg'; subst hg'; refine kindOf hnew fun u hu => ?_
       simp only [List.mem_append] at hu; have hcur : ∀ u ∈ cur.toList, K u := fun u hu => by
        obtain ⟨j, hj⟩ := List.mem_iff_getElem?.1 hu; exact hrow.kind g rfl j u (by rw [cells_at hg]; simpa using hj)
       rcases hu with (hu | hu) | hu
       · exact hcur u (List.mem_of_mem_take hu)
       · exact hK u hu
       · exact hcur u (List.mem_of_mem_drop hu)
     · have hg' : g = g' := Option.some.inj hg'; subst hg'; rw [hf.froz g o (Array.getElem?_eq_some_iff.1 hg).1]; exact hrow.froz g rfl o
   · have holds : ∀ j u, xs[j]? = some u → w.cell? ((⟨g, 0, none⟩ : Addr).add j) = some u := hrow.own.cells (g := g) rfl; have hr := fun ty => run_append_grow (P := P) w t ty e i z ht hi hz ⟨g, 0, none⟩ n cap xs hrow.len holds a m c news hl hnews (by omega) (by omega) (growslice_fits (by omega) hbytes)
     have hgr := grown cap (by omega) (fun b _ => (Value.slice (some ⟨g, 0, none⟩) n cap).ownBlock = some b) hxK
     exact ⟨_, _, hr, hgr.1, hgr.2, .inr rfl⟩
theorem wpList_append_by {P : Program} {ops : Array Oper} {rest : List Oper} {o : Oper} {a : Act} {w w' : World} {v : Value} {Q : Exit → Act → World → Prop} (hgd : o.guard = none) (s x : Operand) (t : TypeId)
 (ho : o.op = .call { callee := .builtin .append, args := #[s, x], argTypes := #[t, t] }) (vs vx : Value) (hs : a.eval s = vs) (hx : a.eval x = vx)
 (hrun : (Builtin.append_ #[t, t] o.type #[vs, vx]).run P w = .ok v w') (h : wpList P ops Q rest (a.put o.dst v) w') : wpList P ops Q (o :: rest) a w := by
 refine wpList_plain hgd fun K hK => ?_
 unfold Oper.wp execOp
 simp only [ho, resolve, invoke, builtin, Sem.run_bind, Sem.run_pure, Result.andThen_ok, List.map_toArray, List.map_cons, List.map_nil, hs, hx, hrun]
 exact hK _ _ h
abbrev byteV (c : UInt8) : Value := .int .u8 (c.toNat : Int)
def ByteBlock (w : World) (b : Nat) : Prop := ∀ o v, w.cell? ⟨b, o, none⟩ = some v → ∃ u : Int, v = .int .u8 u
abbrev Own (w : World) (base : Nat) (v : Value) (l : List UInt8) : Prop := Row (fun v => ∃ u : Int, v = .int .u8 u) w base 5 1 v l.length (l.map byteV)
theorem infoBytes : ((Tryz.prog.info? 5).map fun i => (i.zero, i.size, i.bytes)) = some (some (.int .u8 0), 1, 1) := by kernel_rfl
theorem append_bytes (w : World) (base : Nat) (v : Value) (l : List UInt8) (hrow : Own w base v l) (a : Addr) (hspot : a.spot = none) (c : Nat) (news : List UInt8) (hnews : ∀ j (h : j < news.length), w.cell? ⟨a.block, a.off + j, none⟩ = some (byteV news[j]))
 (hle : l.length + news.length ≤ 140737488355328) (hbase : base ≤ w.heap.size) :
 ∃ v' w', (∀ ty, (Builtin.append_ #[22, 22] ty #[v, .slice (some a) news.length c]).run Tryz.prog w = .ok v' w') ∧ Own w' base v' (l ++ news) ∧ Frm (fun b _ => v.ownBlock = some b) w w' ∧ (v'.ownBlock = v.ownBlock ∨ v'.ownBlock = some w.heap.size) := by
 obtain ⟨i, hi, hiq⟩ := Option.map_eq_some_iff.1 infoBytes
 simp only [Prod.mk.injEq] at hiq
 obtain ⟨h1, h2, h3⟩ := hiq
 have := append_row (P := Tryz.prog) (fun v => ∃ u : Int, v = .int .u8 u) w base 22 5 i _ 1 1 Tryz.underlying22 hi h1 h2 h3 (by rfl) (by intro u hu; simp [Value.cells] at hu; exact ⟨0, hu⟩) v l.length _ hrow a news.length c (news.map byteV) (by simp) (fun j u hu => by
  obtain ⟨ab, ao, asp⟩ := a; simp only at hspot; subst hspot; rw [List.getElem?_map] at hu; obtain ⟨x, hx, rfl⟩ := Option.map_eq_some_iff.1 hu; obtain ⟨hj, rfl⟩ := List.getElem?_eq_some_iff.1 hx; rw [Addr.add_lit]; exact hnews j hj) (fun u hu => by obtain ⟨x, _, rfl⟩ := List.mem_map.1 hu; rfl) (fun u hu => by obtain ⟨x, _, rfl⟩ := List.mem_map.1 hu; exact ⟨_, rfl⟩) (by simp only [maxLen]; omega) (by omega) hbase
 rw [← List.map_append, ← List.length_append] at this
 exact this
theorem Own.bytes {w : World} {base : Nat} {v : Value} {l : List UInt8} (h : Own w base v l) : ∃ b cap, v = .slice b l.length cap ∧ l.length ≤ cap ∧ Bytes w b l ∧ (∀ a, b = some a → a.spot = none ∧ a.off = 0 ∧ base ≤ a.block ∧ a.block < w.heap.size) := by
 rcases h.cells with ⟨rfl, h0⟩ | ⟨g, cap, rfl, h1, h2, h3, h4⟩
 · refine ⟨none, 0, by rw [h0], by omega, List.eq_nil_of_length_eq_zero h0, fun a ha => by simp at ha⟩
 · refine ⟨_, cap, rfl, h3, ⟨rfl, fun j hj => ?_⟩, fun a ha => by obtain rfl := Option.some.inj ha; exact ⟨rfl, rfl, h1, h2⟩⟩
   have := h4 j (byteV l[j]) (by rw [List.getElem?_map, List.getElem?_eq_getElem hj]; rfl)
   simpa using this
structure Bt (w : World) (base : Option Addr) (l : List UInt8) (cap : Nat) : Prop where
 bytes : Bytes w base l
 hcap : l.length ≤ cap
 lt : ∀ a, base = some a → a.block < w.heap.size
 nilc : base = none → cap = 0
theorem Bt.keep {w w' : World} {base : Option Addr} {l : List UInt8} {cap : Nat} (h : Bt w base l cap) (hf : Frm (fun _ _ => False) w w') : Bt w' base l cap :=
 ⟨h.bytes.keep hf (fun a _ j _ e => e), h.hcap, fun a ha => Nat.lt_of_lt_of_le (h.lt a ha) hf.size, h.nilc⟩
theorem Bt.drewN {w : World} {base : Option Addr} {l : List UInt8} {cap : Nat} (h : Bt w base l cap) (q : Nat) : Bt (w.drewN q) base l cap := h.keep ((Frm.refl _ _).drewN q)
theorem bt_nil (w : World) : Bt w none [] 0 := ⟨rfl, Nat.le_refl _, fun a ha => by simp at ha, fun _ => rfl⟩
theorem Own.bt {w : World} {base : Nat} {v : Value} {l : List UInt8} (h : Own w base v l) : ∃ b cap, v = .slice b l.length cap ∧ Bt w b l cap := by
 rcases h.cells with ⟨rfl, h0⟩ | ⟨g, cap, rfl, _, _, _, _⟩
 · have hl : l = [] := List.eq_nil_of_length_eq_zero h0; subst hl; exact ⟨none, 0, rfl, bt_nil w⟩
 · obtain ⟨b, cap', h1, h2, h3, h4⟩ := h.bytes; exact ⟨b, cap', h1, h3, h2, fun a ha => (h4 a ha).2.2.2, fun hb => by subst hb; simp at h1⟩
theorem append_bw (w : World) (base : Nat) (v : Value) (l : List UInt8) (hrow : Own w base v l) (b : Option Addr) (news : List UInt8) (cap : Nat) (hn : news = [] ∨ Bytes w b news) (hnil : b = none → cap = 0)
 (hle : l.length + news.length ≤ 140737488355328) (hbase : base ≤ w.heap.size) :
 ∃ v' w', (∀ ty, (Builtin.append_ #[22, 22] ty #[v, .slice b news.length cap]).run Tryz.prog w = .ok v' w') ∧ Own w' base v' (l ++ news) ∧ Frm (fun b _ => v.ownBlock = some b) w w' ∧ (v'.ownBlock = v.ownBlock ∨ v'.ownBlock = some w.heap.size) := by
 cases b with
 | some a =>
  rcases hn with rfl | hn
  · obtain ⟨i, hi, hiq⟩ := Option.map_eq_some_iff.1 infoBytes; simp only [Prod.mk.injEq] at hiq; obtain ⟨h1, h2, h3⟩ := hiq; have := append_row (P := Tryz.prog) (fun v => ∃ u : Int, v = .int .u8 u) w base 22 5 i _ 1 1 Tryz.underlying22 hi h1 h2 h3 (by rfl) (by intro u hu; simp [Value.cells] at hu; exact ⟨0, hu⟩) v l.length _ hrow a 0 cap [] (by simp) (fun j u hu => by simp at hu) (fun u hu => by simp at hu) (fun u hu => by simp at hu) (by simp only [maxLen]; omega) (by omega) hbase
    rw [List.append_nil] at this ⊢; exact this
  · obtain ⟨hs, hc⟩ := hn; exact append_bytes w base v l hrow a hs cap news hc hle hbase
 | none =>
  have hl : news = [] := by
   rcases hn with h | h
   · exact h
   · exact h
  subst hl; obtain rfl := hnil rfl; obtain ⟨i, hi, _⟩ := Option.map_eq_some_iff.1 infoBytes; refine ⟨v, w, fun ty => ?_, by rw [List.append_nil]; exact hrow, Frm.refl _ _, .inl rfl⟩
  exact run_append_owned_none (P := Tryz.prog) (w := w) base 22 ty 5 i 1 Tryz.underlying22 hi v l.length _ hrow.own
theorem append_bt (w : World) (base : Nat) (v : Value) (l : List UInt8) (hrow : Own w base v l) (b : Option Addr) (news : List UInt8) (cap : Nat) (hn : Bt w b news cap)
 (hle : l.length + news.length ≤ 140737488355328) (hbase : base ≤ w.heap.size) :
 ∃ v' w', (∀ ty, (Builtin.append_ #[22, 22] ty #[v, .slice b news.length cap]).run Tryz.prog w = .ok v' w') ∧ Own w' base v' (l ++ news) ∧ Frm (fun b _ => v.ownBlock = some b) w w' ∧ (v'.ownBlock = v.ownBlock ∨ v'.ownBlock = some w.heap.size) :=
 append_bw w base v l hrow b news cap (.inr hn.bytes) hn.nilc hle hbase
theorem own_new (w : World) (l : List UInt8) (hm : l.length ≤ maxLen) : Own (w.alloc (.cells (l.map byteV).toArray 5)) w.heap.size (.slice (some ⟨w.heap.size, 0, none⟩) l.length l.length) l := by
 have hh := heap_alloc_new w (.cells (l.map byteV).toArray 5)
 refine ⟨⟨by simp, .inr ⟨w.heap.size, l.length, _, rfl, Nat.le_refl _, hh, Nat.le_refl _, hm, by simp, ?_⟩⟩, fun g hg o u hu => ?_, fun g hg o => ?_⟩
 · rw [List.take_of_length_le (by simp)]
 · obtain rfl := Option.some.inj hg; rw [cells_at hh] at hu; obtain ⟨x, _, rfl⟩ := List.mem_map.1 (List.mem_of_getElem? (by simpa using hu : (l.map byteV)[o]? = some u))
   exact ⟨_, rfl⟩
 · obtain rfl := Option.some.inj hg; exact World.frozen?_alloc_new (w := w) ..
theorem Own.fresh {w w' : World} {base : Nat} {v : Value} {l : List UInt8} (h : Own w base v l) {w0 : World} (h0 : Frm (fun _ _ => False) w0 w) (hb : w0.heap.size ≤ base) (hf : Frm (fun b _ => v.ownBlock = some b) w w') : Frm (fun _ _ => False) w0 w' :=
 h0.trans' hf (fun x o hx q => by have := (h.lt x q).1; omega)
end Go.Proofs.YthfncdfcklbigaaGreatDoor
