/-
  THE WALKS OF THE SOURCE: '(*bytes.Reader).ReadByte', 'noEOF', 'Len'.
-/
import Derived.Test.YthfncdfcklbigaaDoorKit
set_option linter.unusedVariables false
set_option linter.unusedSimpArgs false
namespace Go.Proofs.YthfncdfcklbigaaDoor
open Go.RowKit Flate

set_option maxRecDepth 100000

/-- Where the errors of the library and of the packages lie. -/
structure Ps where
  E : Addr
  U : Addr
  H : Addr
  D : Addr
  C : Addr

def Ps.all (p : Ps) : List Addr := [p.E, p.U, p.H, p.D, p.C]

abbrev errAt (p : Addr) : Value := .iface 197 (.pointer (some p))

/-- The order in which the lengths of the code for lengths stand. -/
def codeOrder : List Nat := [16, 17, 18, 0, 8, 7, 9, 6, 10, 5, 11, 4, 12, 3, 13, 2, 14, 1, 15]

/-- What the package-level variables hold. All of it lies below block B. -/
structure Env (w : World) (B : Nat) (p : Ps) : Prop where
  le : B ≤ w.heap.size
  g : 8 ≤ B
  eof : w.cell? ⟨0, 0, none⟩ = some (errAt p.E)
  unx : w.cell? ⟨4, 0, none⟩ = some (errAt p.U)
  hdr : w.cell? ⟨1, 0, none⟩ = some (errAt p.H)
  dic : w.cell? ⟨2, 0, none⟩ = some (errAt p.D)
  sum : w.cell? ⟨3, 0, none⟩ = some (errAt p.C)
  ord : ∀ i, i < 19 → w.cell? ⟨6, i, none⟩ = some (.int .i64 (codeOrder.getD i 0 : Nat))
  lt : ∀ x ∈ p.all, x.block < B
  blk : ∀ x ∈ p.all, ∃ c t, w.heap[x.block]? = some (.cells c t (0, 0))
  nodup : p.all.Nodup

theorem Env.keep {S : Nat → Nat → Prop} {w w' : World} {B : Nat} {p : Ps} (h : Env w B p) (hf : Frm S w w') (hS : ∀ b o, S b o → B ≤ b) : Env w' B p := by
  have hg := h.g
  have hle := h.le
  have k : ∀ {b o : Nat} {v : Value}, b < 8 → w.cell? ⟨b, o, none⟩ = some v → w'.cell? ⟨b, o, none⟩ = some v := fun hb hc => hf.keep hc (fun x => by have := hS _ _ x; omega)
  exact ⟨Nat.le_trans h.le hf.size, h.g, k (by omega) h.eof, k (by omega) h.unx, k (by omega) h.hdr, k (by omega) h.dic, k (by omega) h.sum, fun i hi => k (by omega) (h.ord i hi), h.lt,
    fun x hx => by
      have hl := h.lt x hx
      obtain ⟨c, t, hc⟩ := h.blk x hx
      exact ⟨c, t, (hf.obj x.block (by omega) (fun o q => by have := hS _ _ q; omega)).trans hc⟩, h.nodup⟩

theorem underlyingError : ∃ ms, Tryd.prog.underlying 62 = some (.interface ms) := ⟨_, Tryd.underlying62⟩
theorem infoErr : (Tryd.prog.info? 197).map (·.comparable) = some true := by kernel_rfl
theorem infoErrS : (Tryd.prog.info? 223).map (·.size) = some 1 := by kernel_rfl

/-- 'x == x' of one of the errors. -/
theorem eql_same (p : Addr) (w : World) : (binOp .eql 62 (errAt p) (errAt p)).run Tryd.prog w = .ok (.bool true) w := by
  obtain ⟨ms, hi⟩ := underlyingError
  obtain ⟨i, hinfo, hc⟩ := Option.map_eq_some_iff.1 infoErr
  obtain ⟨j, hj, _⟩ := Option.map_eq_some_iff.1 infoErrS
  exact run_eql_iface_ptr_same w _ hi Tryd.underlying197 hinfo hc hj

theorem eql_other {w : World} {B : Nat} {p : Ps} (he : Env w B p) {x y : Addr} (hx : x ∈ p.all) (hy : y ∈ p.all) (hne : x ≠ y) :
    (binOp .eql 62 (errAt x) (errAt y)).run Tryd.prog w = .ok (.bool false) w := by
  obtain ⟨ms, hi⟩ := underlyingError
  obtain ⟨i, hinfo, hc⟩ := Option.map_eq_some_iff.1 infoErr
  obtain ⟨j, hj, hs⟩ := Option.map_eq_some_iff.1 infoErrS
  obtain ⟨cx, tx, hcx⟩ := he.blk x hx
  obtain ⟨cy, ty, hcy⟩ := he.blk y hy
  exact run_eql_iface_ptr_other w hi Tryd.underlying197 hinfo hc hj (by omega) hne hcx hcy

set_option maxHeartbeats 400000 in
theorem readByte_more (w : World) (R sb so : Nat) (src : List UInt8) (pos : Nat) (h : Src w R (some ⟨sb, so, none⟩) src pos) (hlt : pos < src.length) :
    Calls Tryd.prog 122 #[.pointer (some ⟨R, 0, none⟩)] w fun e w' =>
      e = .returned (.tuple #[.int .u8 (src[pos].toNat : Int), .nilIface]) ∧ Src w' R (some ⟨sb, so, none⟩) src (pos + 1) ∧ Frm (fun b _ => b = R) w w' := by
  obtain ⟨⟨cap, off, N, Q, hNN, hQQ, hs, hcap, hi, hB, hN2⟩, ⟨v, hp⟩, hfr, hle, hfew, hne⟩ := h
  have hb := hB.2 pos hlt
  have hn := hne _ rfl
  rw [← hQQ] at hb
  simp only at hb hn
  have HB := Lib.hid hB
  have HN := Lib.hid hne
  have f1 := hfr 1
  have f2 := hfr 2
  clear hle hB hne
  have h1 : (Q : Int) < (N : Int) := by omega
  have hd : decide (N ≤ Q) = false := by simp; omega
  have HQ := Lib.hid (And.intro hNN (And.intro hQQ hN2))
  have h2 : (N : Int) ≤ 1099511627776 := by omega
  clear hNN hQQ hN2
  go_enter Tryd.func122, Tryd.ntmps122
  go_wp2
  (go_quiet (fail))
  go_wp2
  (go_quiet (fail))
  go_wp2
  go_ret2
  obtain ⟨hNN, hQQ, hN2⟩ := HQ.out
  refine ⟨rfl, and_frm (by (repeat (first | exact Frm.refl _ _ | refine Frm.drewN ?_ _ | refine Frm.drew ?_ | refine Frm.alloc ?_ _ | refine Frm.setCell ?_ (by simp) _))) (fun hF => ⟨⟨cap, off, N, Q + 1, hNN, by omega, by go_simp, hcap, by go_simp, HB.out.keep hF (fun a ha _ _ x => HN.out a ha x), hN2⟩, ⟨.int .i64 (-1), by go_simp⟩, by go_simp, by omega, hfew, HN.out⟩)⟩

theorem Src.at_some {w : World} {R : Nat} {base : Option Addr} {src : List UInt8} {pos : Nat} (h : Src w R base src pos) (hlt : pos < src.length) : ∃ sb so, base = some ⟨sb, so, none⟩ := by
  obtain ⟨_, _, _, _, _, _, _, _, _, hb, _⟩ := h.s
  cases base with
  | none => have : src = [] := hb.1; subst this; simp at hlt
  | some a => obtain ⟨b, o, s⟩ := a; have : s = none := hb.1; subst this; exact ⟨_, _, rfl⟩

theorem readByte_any (w : World) (R : Nat) (base : Option Addr) (src : List UInt8) (pos : Nat) (h : Src w R base src pos) (hlt : pos < src.length) :
    Calls Tryd.prog 122 #[.pointer (some ⟨R, 0, none⟩)] w fun e w' =>
      e = .returned (.tuple #[.int .u8 (src[pos].toNat : Int), .nilIface]) ∧ Src w' R base src (pos + 1) ∧ Frm (fun b _ => b = R) w w' := by
  obtain ⟨sb, so, rfl⟩ := h.at_some hlt
  exact readByte_more w R sb so src pos h hlt

set_option maxHeartbeats 400000 in
theorem readByte_end (w : World) (R : Nat) (base : Option Addr) (src : List UInt8) (B : Nat) (p : Ps) (h : Src w R base src src.length) (he : Env w B p) (hRB : B ≤ R) :
    Calls Tryd.prog 122 #[.pointer (some ⟨R, 0, none⟩)] w fun e w' =>
      e = .returned (.tuple #[.int .u8 0, errAt p.E]) ∧ Src w' R base src src.length ∧ Frm (fun b _ => b = R) w w' := by
  obtain ⟨⟨cap, off, N, Q, hNN, hQQ, hs, hcap, hi, hB, hN2⟩, ⟨v, hv⟩, hfr, hle, hfew, hne⟩ := h
  have hNQ : Q = N := by omega
  subst hNQ
  have HB := Lib.hid hB
  have HN := Lib.hid hne
  have f2 := hfr 2
  clear hle hB hne
  have hg := he.eof
  have h0 : R ≠ 0 := by have := he.g; omega
  have h0' : 0 ≠ R := by omega
  clear he
  have hd : decide (Q ≤ Q) = true := by simp
  have HQ := Lib.hid (And.intro hNN (And.intro hQQ hN2))
  have h2 : (Q : Int) ≤ 1099511627776 := by omega
  clear hNN hQQ hN2
  go_enter Tryd.func122, Tryd.ntmps122
  go_wp2
  (go_quiet (fail))
  go_wp2
  (go_quiet (fail))
  go_wp2
  go_ret2
  obtain ⟨hNN, hQQ, hN2⟩ := HQ.out
  refine ⟨rfl, and_frm (by (repeat (first | exact Frm.refl _ _ | refine Frm.drewN ?_ _ | refine Frm.drew ?_ | refine Frm.alloc ?_ _ | refine Frm.setCell ?_ (by simp) _))) (fun hF => ⟨⟨cap, off, Q, Q, hNN, hQQ, by go_simp, hcap, by go_simp, HB.out.keep hF (fun a ha _ _ x => HN.out a ha x), hN2⟩, ⟨.int .i64 (-1), by go_simp⟩, by go_simp, by omega, hfew, HN.out⟩)⟩

/-- 'noEOF': io.EOF becomes io.ErrUnexpectedEOF. -/
theorem noEOF_any (w : World) (B : Nat) (p : Ps) (he : Env w B p) (x : Addr) (hx : x = p.E ∨ x = p.U) :
    Calls Tryd.prog 87 #[errAt x] w fun e w' => e = .returned (errAt p.U) ∧ w = w' := by
  have h0 := he.eof
  have h1 := he.unx
  have hn := he.nodup
  rcases hx with rfl | rfl
  · have hq := eql_same p.E w
    go_enter Tryd.func87, Tryd.ntmps87
    go_wp2
    go_ret
    exact ⟨rfl, rfl⟩
  · have hq := eql_other he (x := p.U) (y := p.E) (by simp [Ps.all]) (by simp [Ps.all]) (by intro e; simp [Ps.all, e] at hn)
    go_enter Tryd.func87, Tryd.ntmps87
    go_wp2
    go_ret
    exact ⟨rfl, rfl⟩

theorem meth_ReadByte (n : Nat) (a : Addr) (w : World) : (method (n + 1) 55 (.pointer (some a)) "ReadByte").run Tryd.prog w = .ok (122, .pointer (some a)) w := by kernel_rfl
theorem meth_Read (n : Nat) (a : Addr) (w : World) : (method (n + 1) 55 (.pointer (some a)) "Read").run Tryd.prog w = .ok (121, .pointer (some a)) w := by kernel_rfl

end Go.Proofs.YthfncdfcklbigaaDoor
