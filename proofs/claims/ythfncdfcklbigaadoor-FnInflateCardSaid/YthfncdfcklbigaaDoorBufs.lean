/-
  THE STATE OF THE DECOMPRESSOR beside rows of bytes that it does not know: what these turn is no matter to it; its reads as the contract that 'drain' asks for.
-/
import Derived.Test.YthfncdfcklbigaaDoorDrain
import Derived.Test.YthfncdfcklbigaaDoorRdr
import Derived.Test.YthfncdfcklbigaaDoorInfl
set_option linter.unusedVariables false
set_option linter.unusedSimpArgs false
namespace Go.Proofs.YthfncdfcklbigaaDoor
open Go.RowKit Flate
set_option maxRecDepth 100000

/-- Only bytes in blocks from N0 on are turned. -/
def SBy (w : World) (N0 : Nat) (b _ : Nat) : Prop := N0 ≤ b ∧ ByteBlock w b

theorem TabAt.by_ {w w' : World} {B o : Nat} {T : Tab} {N : Nat → Prop} {N0 : Nat} (h : TabAt w B o T N) (hf : Frm (SBy w N0) w w') : TabAt w' B o T N := by
  have key : ∀ {b o : Nat} {v : Value}, w.cell? ⟨b, o, none⟩ = some v → (∀ u : Int, v ≠ .int .u8 u) → w'.cell? ⟨b, o, none⟩ = some v := fun hc hv => hf.keep hc (fun q => by
    obtain ⟨u, hu⟩ := q.2 _ _ hc
    exact hv u hu)
  refine ⟨key h.min (by simp), fun i hi => key (h.ch i hi) (by simp), key h.mask (by simp), fun e => key (h.none_ e) (by simp), fun e => ?_⟩
  obtain ⟨L, hL, h1, h2⟩ := h.some_ e
  refine ⟨L, hL, key h1 (by simp), fun k hk => ?_⟩
  obtain ⟨b, hb, h3, h4⟩ := h2 k hk
  exact ⟨b, hb, key h3 (by simp), fun j hj => key (h4 j hj) (by simp)⟩

theorem TabV.by_ {w w' : World} {F : Nat} {d : DS} {v : Value} {T : Tab} {N0 : Nat} (h : TabV w F d v T) (hf : Frm (SBy w N0) w w') : TabV w' F d v T := by
  obtain ⟨B, o, h1, h2, h3⟩ := h
  exact ⟨B, o, h1, h2.by_ hf, h3⟩

theorem Tabs.by_ {w w' : World} {F : Nat} {d : DS} {T : Tab} {D : Option Tab} {N0 : Nat} (h : Tabs w F d T D) (hf : Frm (SBy w N0) w w') : Tabs w' F d T D := by
  cases D with
  | none => exact ⟨h.1.by_ hf, h.2⟩
  | some D => exact ⟨h.1.by_ hf, h.2.by_ hf⟩

/-- The blocks of a decompressor lie below N0. -/
structure LowD (F : Nat) (d : DS) (N0 : Nat) : Prop where
  F : F < N0
  R : d.R < N0
  H : d.HB < N0
  B : d.BB < N0
  C : d.CB < N0
  S : ∀ a, d.base = some a → a.block < N0

theorem LowD.same {F : Nat} {d d' : DS} {N0 : Nat} (h : LowD F d N0) (hs : Same d d') : LowD F d' N0 :=
  ⟨h.F, by rw [hs.R]; exact h.R, by rw [hs.HB]; exact h.H, by rw [hs.BB]; exact h.B, by rw [hs.CB]; exact h.C, by rw [hs.base]; exact h.S⟩

theorem RS.by_ {F C : Nat} {p : Ps} {d0 : DS} {x0 : Cfg × List UInt8} {k : Nat} {w w' : World} {d : DS} {H : List UInt8} {n : Nat} {x : Cfg × List UInt8} {N0 : Nat} (h : RS F C p d0 x0 k w d H n x) (hl : LowD F d N0) (hC : C ≤ N0) (hf : Frm (SBy w N0) w w') : RS F C p d0 x0 k w' d H n x := by
  have hlt : ∀ {b o : Nat}, b < N0 → ¬ SBy w N0 b o := fun hb q => by have := q.1; omega
  have hdec : Dec w' F d := h.st.dec.keep hf (fun o q => (hlt hl.F q).elim) (fun o q => (hlt hl.R q).elim) (fun o q => (hlt hl.H q).elim) (fun a ha j _ q => (hlt (hl.S a ha) q).elim)
  refine ⟨h.st.of hdec hf (fun b o q => ⟨by have := q.1; omega, fun e => by subst e; exact absurd q (hlt hl.F)⟩) (Same.refl _) ⟨rfl, rfl, rfl, rfl, rfl⟩, h.mode.of (Same.refl _) ⟨rfl, rfl, rfl, rfl, rfl, rfl, rfl, rfl, rfl, rfl⟩ (fun T D hT => hT.by_ hf), h.reach, h.same, h.wr, h.fl⟩

/-- What the window shows is a beginning of what will have been read. -/
theorem Mode.pre {w : World} {F : Nat} {p : Ps} {d : DS} {H : List UInt8} {x : Cfg × List UInt8} (h : Mode w F p d H x) : ∃ Y, x.2 = H ++ Y := by
  have hst : ∀ (n : Nat) {y : Cfg × List UInt8}, stRest d.src d.fin d.pos n H = y → ∃ Y, y.2 = H ++ Y := fun n y hy => by
    rw [← hy]; unfold stRest
    split
    · exact ⟨_, rfl⟩
    · exact ⟨_, rfl⟩
  obtain ⟨c, H'⟩ := x
  cases c with
  | next r =>
    obtain ⟨_, ⟨_, rfl, _⟩ | ⟨_, _, n, _, _, _, hs⟩⟩ := h
    · exact ⟨[], by simp⟩
    · exact hst n hs
  | huff last r T D =>
    obtain ⟨_, _, _, _, _, _, _, ⟨_, rfl⟩ | ⟨_, n, D', _, _, _, _, _, _, rfl⟩⟩ := h
    · exact ⟨[], by simp⟩
    · exact ⟨_, rfl⟩
  | done e q =>
    rcases h with ⟨_, rfl, _⟩ | ⟨_, _, _, n, _, _, _, hs⟩
    · exact ⟨[], by simp⟩
    · exact hst n hs

/-- The blocks that a decompressor turns. -/
def MD (F : Nat) (d : DS) (b : Nat) : Prop := b = F ∨ b = d.R ∨ b = d.HB ∨ b = d.BB ∨ b = d.CB

def IFl (F C : Nat) (p : Ps) (d0 : DS) (x0 : Cfg × List UInt8) (k : Nat) (w : World) : Prop := ∃ d H n x, RS F C p d0 x0 k w d H n x
def JFl (F C : Nat) (p : Ps) (d0 : DS) (x0 : Cfg × List UInt8) (er : Err) (P : Nat) (FH : List UInt8) (v : Value) (w : World) : Prop := ErrV p er v ∧ ∃ d n, RS F C p d0 x0 FH.length w d FH n (.done er P, FH) ∧ d.pos = P ∧ d.err = v

theorem flate_meth (n : Nat) (a : Addr) (w : World) : (method (n + 1) 121 (.pointer (some a)) "Read").run Tryd.prog w = .ok (130, .pointer (some a)) w := by kernel_rfl
theorem flate_enter (args : Array Value) (w : World) : (callFunc 130 args).run Tryd.prog w = .ok (.enter 130 args) w := by kernel_rfl

/-- The decompressor as a reader. -/
theorem flate_reader {F C : Nat} {p : Ps} {d0 : DS} {x0 : Cfg × List UInt8} {er : Err} {P N0 : Nat} {FH : List UInt8} (hfin : Flate.Reach d0.src x0 (.done er P, FH)) (hx0 : CfgOK d0.src x0.1) (hl : LowD F d0 N0) (hC : C ≤ N0) :
    Reader 121 130 F N0 (MD F d0) FH (IFl F C p d0 x0) (JFl F C p d0 x0 er P FH) where
  meth := flate_meth
  enter := flate_enter
  low := by
    rintro b (rfl | rfl | rfl | rfl | rfl)
    · exact hl.F
    · exact hl.R
    · exact hl.H
    · exact hl.B
    · exact hl.C
  read := by
    rintro k w BX L cap ⟨d, H, n, x, h⟩ hb h1 h2
    have hld := hl.same h.same
    have hlo := hb.lo
    have hbuf : Buf w F C d BX L := ⟨by omega, hb.cell, hb.all, hb.froz, by have := hld.F; omega, by have := hld.R; omega, by have := hld.H; omega, by have := hld.B; omega, by have := hld.C; omega, fun a ha => by have := hld.S a ha; omega⟩
    refine (read_any w F C p d x k n H d0 x0 h BX L cap hbuf h1 h2).mono ?_
    rintro e w' ⟨m, errv, rfl, d', H', n', x', hm, hRS, hf, hbuf', hcells, hend⟩
    have hback := hfin.back hRS.reach
    have hok := (hRS.reach.ok hx0).1
    obtain ⟨_, Z, hZ⟩ := hback.ok hok
    obtain ⟨Y, hY⟩ := hRS.mode.pre
    have hsum := hRS.st.out.sum
    have hFH : FH = H' ++ (Y ++ Z) := by rw [← List.append_assoc, ← hY]; exact hZ
    have hHle : H'.length ≤ FH.length := by rw [hFH, List.length_append]; omega
    refine ⟨m, errv, rfl, hm, hf, fun j hj => ?_, ?_⟩
    · rw [hcells j hj, hFH]
      have hlt : k + j < H'.length := by omega
      rw [List.getD_eq_getElem?_getD, List.getD_eq_getElem?_getD, List.getElem?_append_left hlt]
    · rcases hend with ⟨h1, h2⟩ | ⟨er', q, h1, h2, h3, h4, h5⟩
      · exact .inl ⟨h1, h2, by omega, d', H', n', x', hRS⟩
      · subst h1
        have hd := hback.done
        simp only [Prod.mk.injEq, Cfg.done.injEq] at hd
        obtain ⟨⟨rfl, rfl⟩, rfl⟩ := hd
        refine .inr ⟨(errV_ne h2).2, h3, h2, d', n', ?_, h4, h5⟩
        rw [← h3]; exact hRS
  keep := by
    rintro k w w' ⟨d, H, n, x, h⟩ hf
    exact ⟨d, H, n, x, h.by_ (hl.same h.same) hC hf⟩
  keepJ := by
    rintro v w w' ⟨h1, d, n, h, h2, h3⟩ hf
    exact ⟨h1, d, n, h.by_ (hl.same h.same) hC hf, h2, h3⟩

end Go.Proofs.YthfncdfcklbigaaDoor
