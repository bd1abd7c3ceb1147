/-
  THE WALKS OF 'Read' and 'Close' of the decompressor.
-/
import Derived.Test.YthfncdfcklbigaaDoorNext
set_option linter.unusedVariables false
set_option linter.unusedSimpArgs false
namespace Go.Proofs.YthfncdfcklbigaaDoor
open Go.RowKit Flate
set_option maxRecDepth 100000

/-- Between the reads: k bytes of what the window shows are gone, n are to be handed out. -/
structure RS (F C : Nat) (p : Ps) (d0 : DS) (x0 : Cfg × List UInt8) (k : Nat) (w : World) (d : DS) (H : List UInt8) (n : Nat) (x : Cfg × List UInt8) : Prop where
  st : St w F C p d H k n
  mode : Mode w F p d H x
  reach : Flate.Reach d0.src x0 x
  same : Same d0 d
  wr : d.wr < 32768
  fl : (0 < n ∨ d.err ≠ .nilIface) → d.rd = d.wr

theorem errV_ne {p : Ps} {e : Err} {v : Value} (h : ErrV p e v) : v ≠ .nilIface ∧ ((∃ q, v = errAt q) ∨ ∃ x : Nat, v = corruptAt x) := by
  cases e with
  | eof => rw [h]; exact ⟨by simp, .inl ⟨_, rfl⟩⟩
  | cut => rw [h]; exact ⟨by simp, .inl ⟨_, rfl⟩⟩
  | corrupt => obtain ⟨y, rfl⟩ := h; exact ⟨by simp, .inr ⟨y, rfl⟩⟩

/-- What 'err' holds. -/
theorem Mode.err {w : World} {F : Nat} {p : Ps} {d : DS} {H : List UInt8} {x : Cfg × List UInt8} (h : Mode w F p d H x) :
    d.err = .nilIface ∨ ∃ e q, x = (.done e q, H) ∧ ErrV p e d.err ∧ d.pos = q := by
  obtain ⟨c, H'⟩ := x
  cases c with
  | next r => exact .inl h.1
  | huff last r T D => exact .inl h.1
  | done e q =>
    rcases h with ⟨h1, h2, h3⟩ | h
    · exact .inr ⟨e, q, by rw [h2], h1, h3⟩
    · exact .inl h.1

/-- A function that a step may be. -/
def StepFn (fn : Nat) : Prop := ∀ (a : Addr) (W : World), (callFunc fn #[.pointer (some a)]).run Tryd.prog W = .ok (.enter fn #[.pointer (some a)]) W
theorem step_copy : StepFn 90 := fun a W => by kernel_rfl
theorem step_next : StepFn 56 := fun a W => by kernel_rfl
theorem step_huff : StepFn 76 := fun a W => by kernel_rfl

/-- The next step. -/
theorem step_any {F C : Nat} {p : Ps} {d0 : DS} {x0 : Cfg × List UInt8} {k : Nat} {w : World} {d : DS} {H : List UInt8} {x : Cfg × List UInt8} (h : RS F C p d0 x0 k w d H 0 x) (he : d.err = .nilIface) :
    ∃ fn, d.step = fnV fn ∧ StepFn fn ∧ Calls Tryd.prog fn #[.pointer (some ⟨F, 0, none⟩)] w (StepPost w F C p d k (dmu d) x) := by
  have hcp : ∀ (n : Nat) (y : Cfg × List UInt8), d.step = fnV 90 → SS1 d H → d.cl = n → n ≤ 65535 → d = d.put ⟨8 * d.pos, d.pos⟩ → stRest d.src d.fin d.pos n H = y →
      ∃ fn, d.step = fnV fn ∧ StepFn fn ∧ Calls Tryd.prog fn #[.pointer (some ⟨F, 0, none⟩)] w (StepPost w F C p d k (dmu d) y) := by
    intro n y hstep hs1 hcl hn hd hst
    have hnb : d.nb = 0 := by have := congrArg DS.nb hd; rw [this]; unfold DS.put Br.nb; simp only; omega
    have hmu := dmu_nil he
    have hN : stepN d.step = 1 := by rw [hstep]; rfl
    have hle := h.st.dec.so.le
    exact ⟨_, hstep, step_copy, copyData_any w F C p d H k n (dmu d) y h.st he hd hcl hn h.wr hs1 hst (fun hl => by rw [hmu, hN, hnb]; omega) (by rw [hmu]; omega)⟩
  obtain ⟨c, H'⟩ := x
  have hm := h.mode
  cases c with
  | next r =>
    obtain ⟨_, ⟨hstep, rfl, hr, hnb, hd, hs0⟩ | ⟨hstep, hs1, n, hcl, hn, hd, hst⟩⟩ := hm
    · refine ⟨_, hstep, step_next, nextBlock_any w F C p d H' k (dmu d) r h.st he h.wr hd hr hnb hs0 ?_⟩
      rw [dmu_nil he]
      have h1 : d.pos = r.pos := congrArg DS.pos hd
      have h2 : d.nb = r.nb := congrArg DS.nb hd
      have h3 := hr.1
      rw [h1, h2]; unfold Br.nb; omega
    · exact hcp n _ hstep hs1 hcl hn hd hst
  | huff last r T D =>
    obtain ⟨_, hstep, hfin, hr, hnb, hd, hT, hs⟩ := hm
    refine ⟨_, hstep, step_huff, huffmanBlock_any w F C p d H k (dmu d) last r T D H' h.st he h.wr hfin hr hnb hd hT hs ?_⟩
    rw [dmu_nil he]
    have h1 : d.pos = r.pos := congrArg DS.pos hd
    have h2 : d.nb = r.nb := congrArg DS.nb hd
    have h3 := hr.1
    rw [h1, h2]; unfold Br.nb; omega
  | done e q =>
    rcases hm with ⟨h1, _⟩ | ⟨_, hstep, hs1, n, hcl, hn, hd, hst⟩
    · exact absurd he (errV_ne h1).1
    · exact hcp n _ hstep hs1 hcl hn hd hst

/-- A table keeps away from a row of bytes. -/
theorem TabAt.buf {w w' : World} {B o : Nat} {T : Tab} {N : Nat → Prop} {BX : Nat} {u : Int} (h : TabAt w B o T N) (hu : w.cell? ⟨BX, 0, none⟩ = some (.int .u8 u)) (hf : Frm (fun b _ => b = BX) w w') (hB : B ≠ BX) : TabAt w' B o T N := by
  have ne : ∀ {b : Nat} {v : Value}, w.cell? ⟨b, 0, none⟩ = some v → v ≠ .int .u8 u → b ≠ BX := fun hc hv e => by
    rw [e, hu] at hc; exact hv (Option.some.inj hc).symm
  refine ⟨hf.keep h.min hB, fun i hi => hf.keep (h.ch i hi) hB, hf.keep h.mask hB, fun e => hf.keep (h.none_ e) hB, fun e => ?_⟩
  obtain ⟨L, hL, h1, h2⟩ := h.some_ e
  have hlen : 0 < T.links.length := List.length_pos_iff.2 e
  obtain ⟨b0, _, h30, _⟩ := h2 0 hlen
  have hLne : L ≠ BX := ne h30 (by simp)
  refine ⟨L, hL, hf.keep h1 hB, fun k hk => ?_⟩
  obtain ⟨b, hb, h3, h4⟩ := h2 k hk
  have hbne : b ≠ BX := ne (h4 0 (by omega)) (by simp)
  exact ⟨b, hb, hf.keep h3 hLne, fun j hj => hf.keep (h4 j hj) hbne⟩

/-- A buffer of L bytes that the reader does not know. -/
structure Buf (w : World) (F C : Nat) (d : DS) (BX L : Nat) : Prop where
  lo : C ≤ BX
  cell : ∀ j, j < L → ∃ u : UInt8, w.cell? ⟨BX, j, none⟩ = some (.int .u8 (u.toNat : Int))
  all : ∀ o v, w.cell? ⟨BX, o, none⟩ = some v → ∃ u : Int, v = .int .u8 u
  froz : ∀ j, w.frozen? ⟨BX, j, none⟩ = false
  nF : BX ≠ F
  nR : BX ≠ d.R
  nH : BX ≠ d.HB
  nB : BX ≠ d.BB
  nC : BX ≠ d.CB
  nS : ∀ a, d.base = some a → a.block ≠ BX

theorem Buf.keep {w w' : World} {F C : Nat} {d d' : DS} {BX L : Nat} (h : Buf w F C d BX L) (hL : 0 < L) (hf : Frm (SA F d) w w') (hs : Same d d') : Buf w' F C d' BX L := by
  have hn : ∀ o, ¬ SA F d BX o := fun o e => by
    rcases e with e | e | e | e | e
    · exact h.nF e
    · exact h.nR e
    · exact h.nH e
    · exact h.nB e
    · exact h.nC e
  obtain ⟨u, hu⟩ := h.cell 0 hL
  have hlt := cell_lt hu
  exact ⟨h.lo, fun j hj => by obtain ⟨u, hu⟩ := h.cell j hj; exact ⟨u, hf.keep hu (hn j)⟩, fun o v hv => h.all o v ((hf.cell BX o hlt (hn o)).symm.trans hv), fun j => (hf.froz BX j hlt).trans (h.froz j), h.nF, by rw [hs.R]; exact h.nR, by rw [hs.HB]; exact h.nH, by rw [hs.BB]; exact h.nB, by rw [hs.CB]; exact h.nC, by rw [hs.base]; exact h.nS⟩

/-- Behind bytes laid into a buffer. -/
theorem St.buf {w w' : World} {F C : Nat} {p : Ps} {d : DS} {H : List UInt8} {k n BX L : Nat} (h : St w F C p d H k n) (hb : Buf w F C d BX L) (hf : Frm (fun b _ => b = BX) w w') : St w' F C p d H k n := by
  refine h.of (h.dec.keep hf (fun o e => absurd e.symm hb.nF) (fun o e => hb.nR e.symm) (fun o e => hb.nH e.symm) (fun a ha j _ e => hb.nS a ha e)) hf (fun b o e => ?_) (Same.refl _) ⟨rfl, rfl, rfl, rfl, rfl⟩
  subst e; exact ⟨hb.lo, fun e => absurd e hb.nF⟩

theorem TabV.buf {w w' : World} {F C : Nat} {d d' : DS} {BX L : Nat} {v : Value} {T : Tab} (h : TabV w F d v T) (hb : Buf w F C d BX L) (hL : 0 < L) (hf : Frm (fun b _ => b = BX) w w') (hs : Same d d') : TabV w' F d' v T := by
  obtain ⟨B, o, h1, h2, h3, h4, h5, h6, h7, h8⟩ := h
  obtain ⟨u, hu⟩ := hb.cell 0 hL
  have hN : LinkB F d' = LinkB F d := by funext b; unfold LinkB; rw [hs.R, hs.HB, hs.BB, hs.CB]
  have hB : B ≠ BX := by
    intro e
    have hm := h2.min
    rw [e] at hm
    obtain ⟨u', hu'⟩ := hb.all _ _ hm
    simp at hu'
  exact ⟨B, o, h1, by rw [hN]; exact h2.buf hu hf hB, h3, by rw [hs.R]; exact h4, by rw [hs.HB]; exact h5, by rw [hs.BB]; exact h6, by rw [hs.CB]; exact h7, h8⟩

theorem Tabs.buf {w w' : World} {F C : Nat} {d d' : DS} {BX L : Nat} {T : Tab} {D : Option Tab} (h : Tabs w F d T D) (hb : Buf w F C d BX L) (hL : 0 < L) (hf : Frm (fun b _ => b = BX) w w') (hs : Same d d') (h1 : d'.hl = d.hl) (h2 : d'.hd = d.hd) : Tabs w' F d' T D := by
  cases D with
  | none => exact ⟨by rw [h1]; exact h.1.buf hb hL hf hs, h2.trans h.2⟩
  | some D => exact ⟨by rw [h1]; exact h.1.buf hb hL hf hs, by rw [h2]; exact h.2.buf hb hL hf hs⟩

/-- What is asked of the fields that 'Mode' names. -/
structure MSame (d d' : DS) : Prop where
  err : d'.err = d.err
  step : d'.step = d.step
  fin : d'.fin = d.fin
  ss : d'.ss = d.ss
  cl : d'.cl = d.cl
  cd : d'.cd = d.cd
  pos : d'.pos = d.pos
  b : d'.b = d.b
  nb : d'.nb = d.nb
  roff : d'.roff = d.roff

theorem MSame.put {d d' : DS} (h : MSame d d') (hs : Same d d') {r : Br} (hd : d = d.put r) : d' = d'.put r := by
  have e1 : d'.b = r.b d'.src := by rw [h.b, hs.src]; exact congrArg DS.b hd
  have e2 : d'.nb = r.nb := h.nb.trans (congrArg DS.nb hd)
  have e3 : d'.roff = r.pos := h.roff.trans (congrArg DS.roff hd)
  have e4 : d'.pos = r.pos := h.pos.trans (congrArg DS.pos hd)
  clear h hs hd
  cases d'
  simp only at e1 e2 e3 e4
  subst e3 e4
  unfold DS.put
  simp only
  rw [← e1, ← e2]

/-- The mode, where tables stay what they are and what it names is not turned. -/
theorem Mode.of {w w' : World} {F : Nat} {p : Ps} {d d' : DS} {H : List UInt8} {x : Cfg × List UInt8} (h : Mode w F p d H x) (hs : Same d d') (hm : MSame d d') (hT : ∀ T D, Tabs w F d T D → Tabs w' F d' T D) : Mode w' F p d' H x := by
  have hput0 : d = d.put ⟨8 * d.pos, d.pos⟩ → d' = d'.put ⟨8 * d'.pos, d'.pos⟩ := fun hd => by
    have := hm.put hs hd
    rw [hm.pos]; exact this
  obtain ⟨c, H'⟩ := x
  cases c with
  | next r =>
    obtain ⟨he, ⟨hstep, h1, hr, hnb, hd, hs0⟩ | ⟨hstep, hs1, n, hcl, hn, hd, hst⟩⟩ := h
    · exact ⟨hm.err.trans he, .inl ⟨hm.step.trans hstep, h1, by rw [hs.src]; exact hr, hnb, hm.put hs hd, hs0.same hm.ss hm.cd hm.cl (Nat.le_refl _)⟩⟩
    · exact ⟨hm.err.trans he, .inr ⟨hm.step.trans hstep, hs1.same hm.ss hm.cd (Nat.le_refl _), n, hm.cl.trans hcl, hn, hput0 hd, by rw [hs.src, hm.fin, hm.pos]; exact hst⟩⟩
  | huff last r T D =>
    obtain ⟨he, hstep, hfin, hr, hnb, hd, hTT, hss⟩ := h
    refine ⟨hm.err.trans he, hm.step.trans hstep, hm.fin.trans hfin, by rw [hs.src]; exact hr, hnb, hm.put hs hd, hT _ _ hTT, ?_⟩
    rcases hss with ⟨e1, e2⟩ | ⟨e1, n, D', e2, e3, e4⟩
    · exact .inl ⟨hm.ss.trans e1, e2⟩
    · exact .inr ⟨hm.ss.trans e1, n, D', hm.cl.trans e2, hm.cd.trans e3, e4⟩
  | done e q =>
    rcases h with ⟨h1, h2, h3⟩ | ⟨he, hstep, hs1, n, hcl, hn, hd, hst⟩
    · exact .inl ⟨by rw [hm.err]; exact h1, h2, hm.pos.trans h3⟩
    · exact .inr ⟨hm.err.trans he, hm.step.trans hstep, hs1.same hm.ss hm.cd (Nat.le_refl _), n, hm.cl.trans hcl, hn, hput0 hd, by rw [hs.src, hm.fin, hm.pos]; exact hst⟩

/-- What is left of a slice. -/
theorem run_rest (HB off n cap m : Nat) (hm : m ≤ n) (hc : n ≤ cap) :
    ∃ base, (∀ w : World, (Instr.sliceAt 22 (.slice (some ⟨HB, off, none⟩) n cap) (some (.int .i64 (m : Int))) none none).run Tryd.prog w = .ok (.slice base (n - m) (cap - m)) w) ∧ (m < n → base = some ⟨HB, off + m, none⟩) := by
  have hsz : ∀ w : World, (sizeOf (Tryd.prog.elem 22)).run Tryd.prog w = .ok 1 w := fun w => by kernel_rfl
  have hu : Tryd.prog.underlying 22 = some (.slice (Tryd.prog.elem 22)) := by kernel_rfl
  refine ⟨if cap = m then some ⟨HB, off, none⟩ else some (Addr.add ⟨HB, off, none⟩ m), fun w => ?_, fun h => ?_⟩
  · rw [run_sliceAt_slice w _ _ _ _ _ hu, run_slice_l w _ _ _ _ hu _ _ (by omega) (by omega), hsz]
    simp [Result.andThen, sliced]
  · rw [if_neg (by omega)]
    unfold Addr.add
    split
    · rename_i e; subst e; rfl
    · rfl

/-- What 'Read' gives. -/
def ReadDone (F C : Nat) (p : Ps) (d0 : DS) (x0 : Cfg × List UInt8) (k L BX : Nat) (w : World) (e : Ending) (w' : World) : Prop :=
  ∃ (m : Nat) (errv : Value), e = .returned (.tuple #[.int .i64 (m : Int), errv]) ∧ ∃ d H n x, m ≤ L ∧ RS F C p d0 x0 (k + m) w' d H n x ∧ Frm (fun b o => SA F d0 b o ∨ b = BX) w w' ∧ Buf w' F C d BX L ∧
    (∀ j, j < m → w'.cell? ⟨BX, j, none⟩ = some (.int .u8 ((H.getD (k + j) 0).toNat : Int))) ∧
    (errv = .nilIface ∧ 1 ≤ m ∨ ∃ er q, x = (.done er q, H) ∧ ErrV p er errv ∧ k + m = H.length ∧ d.pos = q ∧ d.err = errv)

/-- Bytes handed out. -/
theorem RS.taken {F C : Nat} {p : Ps} {d0 : DS} {x0 : Cfg × List UInt8} {k : Nat} {wr w2 : World} {d : DS} {H : List UInt8} {n : Nat} {x : Cfg × List UInt8} (h : RS F C p d0 x0 k wr d H n x) {BX L : Nat} (hb : Buf wr F C d BX L) (hL : 0 < L) (hf : Frm (fun b _ => b = BX) wr w2)
    (hall : ∀ o v, w2.cell? ⟨BX, o, none⟩ = some v → ∃ u : Int, v = .int .u8 u) (hcell : ∀ j, j < L → ∃ u : UInt8, w2.cell? ⟨BX, j, none⟩ = some (.int .u8 (u.toNat : Int))) {m nm off cap : Nat} {base' : Option Addr} (hm : m ≤ n) (hnm : nm = n - m) (hcap : n ≤ cap) (hoff : off + n ≤ 32768) (hval : ∀ j, j < n → d.g (off + j) = H.getD (k + j) 0) (hbase : m < n → base' = some ⟨d.HB, off + m, none⟩) (hn : 0 < n) :
    RS F C p d0 x0 (k + m) (w2.setCell ⟨F, 1049, none⟩ (.slice base' nm (cap - m))) { d with toRead := .slice base' nm (cap - m) } H nm x ∧ Buf (w2.setCell ⟨F, 1049, none⟩ (.slice base' nm (cap - m))) F C { d with toRead := .slice base' nm (cap - m) } BX L := by
  have hS2 := h.st.buf hb hf
  have hf3 : Frm (SX F d) w2 (w2.setCell ⟨F, 1049, none⟩ (.slice base' nm (cap - m))) := (Frm.refl _ _).setCell (.inl (.inr (.inr ⟨rfl, by simp⟩))) _
  have hD := hS2.dec.set_toRead (.slice base' nm (cap - m))
  have hbb : ∀ b o, SX F d b o → C ≤ b := fun b o x => ((SX.ok hS2) b o x).1
  have hp : ∀ x, 5 ≤ x → x < 1035 → ¬ SX F d F x := fun x h1 h2 e => by have := ((SX.ok hS2) F x e).2 rfl; omega
  have hsum := h.st.out.sum
  refine ⟨⟨⟨hS2.env.keep hf3 hbb, hS2.cF, hS2.cR, hS2.cH, hS2.cB, hS2.cC, hD, hS2.win, hS2.rd, hS2.rd2, hS2.ful, hS2.nful, ⟨by show k + m + nm + (d.wr - d.rd) = H.length; omega, base', cap - m, rfl, by omega, ?_⟩, hS2.pre1.keep hf3 (fun x a b => hp x a (by omega)), hS2.pre2.keep hf3 (fun x a b => hp x (by omega) (by omega))⟩, ?_, h.reach, ⟨h.same.R, h.same.base, h.same.src, h.same.BB, h.same.CB, h.same.HB⟩, h.wr, fun q => h.fl (.inl hn)⟩, ?_⟩
  · by_cases h0 : nm = 0
    · exact .inl h0
    · refine .inr ⟨off + m, hbase (by omega), by omega, fun j hj => ?_⟩
      have := hval (m + j) (by omega)
      rw [← Nat.add_assoc, ← Nat.add_assoc] at this
      exact this
  · refine h.mode.of ⟨rfl, rfl, rfl, rfl, rfl, rfl⟩ ⟨rfl, rfl, rfl, rfl, rfl, rfl, rfl, rfl, rfl, rfl⟩ (fun T D hT => ?_)
    have h1 := hT.buf hb hL hf (Same.refl d) rfl rfl
    exact h1.keep hf3 ⟨rfl, rfl, rfl, rfl, rfl, rfl⟩ rfl rfl
  · have hlt : BX < w2.heap.size := by obtain ⟨u, hu⟩ := hcell 0 hL; exact cell_lt hu
    obtain ⟨u0, hu0⟩ := hb.cell 0 hL
    exact ⟨hb.lo, fun j hj => by rw [cell_set_ne (.inl hb.nF)]; exact hcell j hj, fun o v hv => by rw [cell_set_ne (.inl hb.nF)] at hv; exact hall o v hv, fun j => by rw [World.frozen?_setCell]; exact (hf.froz BX j (cell_lt hu0)).trans (hb.froz j), hb.nF, hb.nR, hb.nH, hb.nB, hb.nC, hb.nS⟩

theorem RS.drewN {F C : Nat} {p : Ps} {d0 : DS} {x0 : Cfg × List UInt8} {k : Nat} {w : World} {d : DS} {H : List UInt8} {n : Nat} {x : Cfg × List UInt8} (h : RS F C p d0 x0 k w d H n x) (q : Nat) : RS F C p d0 x0 k (w.drewN q) d H n x := by
  have hf : Frm (SX F d) w (w.drewN q) := (Frm.refl _ _).drewN q
  exact ⟨h.st.of (h.st.dec.drewN q) hf (SX.ok h.st) (Same.refl _) ⟨rfl, rfl, rfl, rfl, rfl⟩, h.mode.of (Same.refl _) ⟨rfl, rfl, rfl, rfl, rfl, rfl, rfl, rfl, rfl, rfl⟩ (fun T D hT => hT.keep hf (Same.refl _) rfl rfl), h.reach, h.same, h.wr, h.fl⟩

theorem Buf.drewN {w : World} {F C : Nat} {d : DS} {BX L : Nat} (h : Buf w F C d BX L) (q : Nat) : Buf (w.drewN q) F C d BX L := ⟨h.lo, h.cell, h.all, h.froz, h.nF, h.nR, h.nH, h.nB, h.nC, h.nS⟩

/-- A round's head. -/
def RdInv (F C : Nat) (p : Ps) (d0 : DS) (x0 : Cfg × List UInt8) (k BX L : Nat) (w : World) (gk : Nat) (wr : World) : Prop :=
  ∃ d H n x, RS F C p d0 x0 k wr d H n x ∧ Frm (SA F d0) w wr ∧ Buf wr F C d BX L ∧ gk = if 0 < n then 0 else dmu d

set_option maxHeartbeats 4000000 in
theorem read_any (w : World) (F C : Nat) (p : Ps) (d : DS) (x : Cfg × List UInt8) (k n : Nat) (H : List UInt8) (d0 : DS) (x0 : Cfg × List UInt8) (h : RS F C p d0 x0 k w d H n x) (BX L cap : Nat) (hb : Buf w F C d BX L) (hL : 1 ≤ L) (hL2 : L ≤ 1048576) :
    Calls Tryd.prog 130 #[.pointer (some ⟨F, 0, none⟩), .slice (some ⟨BX, 0, none⟩) L cap] w (ReadDone F C p d0 x0 k L BX w) := by
  have HRS := Lib.hid h
  have HB := Lib.hid hb
  clear h hb
  go_enter Tryd.func130, Tryd.ntmps130
  go_wp2_with fail
  go_loopg [6] (if 0 < n then 0 else dmu d) (fun gk _ wr => RdInv F C p d0 x0 k BX L w gk wr)
  case atStart => exact ⟨d, H, n, x, HRS.out, Frm.refl _ _, HB.out, rfl⟩
  case round =>
    clear HRS HB
    obtain ⟨d, H, n, x, hRS, hF, hB, hgk⟩ := hrel
    obtain ⟨base, tcap, ht, hcap, hcells⟩ := hRS.st.out.at_
    have c49 := hRS.st.dec.toRead
    rw [ht] at c49
    have g49 := hRS.st.dec.fr 1049
    have c48 := hRS.st.dec.err
    have HRS := Lib.hid hRS
    have HF := Lib.hid hF
    have HB := Lib.hid hB
    by_cases hn : 0 < n
    · as_aux_lemma =>
      rcases hcells with e | ⟨off, rfl, hoff, hval⟩
      · omega
      obtain ⟨m, hm⟩ : ∃ m, m = Nat.min n L := ⟨_, rfl⟩
      obtain ⟨m1, m2, m3⟩ := min_cases n L
      rw [← hm] at m1 m2 m3
      have nHX : d.HB ≠ BX := fun e => hB.nH e.symm
      obtain ⟨w2, hrun, hf2, hc2⟩ := copy_bytes wr BX 0 L cap ⟨d.HB, off, none⟩ n tcap m (fun j => H.getD (k + j) 0) hm (fun j hj => by
          have e : (⟨d.HB, off, none⟩ : Addr).add j = ⟨d.HB, off + j, none⟩ := by unfold Addr.add; split <;> simp_all
          rw [e, hRS.st.dec.win (off + j) (by omega), hval j (by omega)]) (fun j hj => by
          obtain ⟨u, hu⟩ := hB.cell j (by omega)
          rw [Nat.zero_add, hu]; rfl) (fun j _ => by rw [Nat.zero_add]; exact hB.froz j)
      have hrun0 : ∀ ty, (Builtin.copy_ #[22, 22] ty #[.slice (some ⟨BX, 0, none⟩) L cap, .slice (some ⟨d.HB, off, none⟩) n tcap]).run Tryd.prog wr = .ok (.int .i64 (m : Int)) w2 := fun ty => hrun 0 ty
      obtain ⟨base', hsl, hbase⟩ := run_rest d.HB off n tcap m m1 hcap
      obtain ⟨nm, hnm⟩ : ∃ nm, nm = n - m := ⟨_, rfl⟩
      rw [← hnm] at hsl
      have hf2' : Frm (fun b _ => b = BX) wr w2 := hf2.mono fun b o e => e.1
      have hS2 := hRS.st.buf hB hf2'
      have e49 := hS2.dec.toRead
      rw [ht] at e49
      have k49 := hS2.dec.fr 1049
      have e48 := hS2.dec.err
      have b1 : (n : Int) ≤ 32768 := by omega
      have b2 : (m : Int) ≤ (n : Int) := by omega
      have b3 : 0 < m := by omega
      have hcell2 : ∀ j, j < L → ∃ u : UInt8, w2.cell? ⟨BX, j, none⟩ = some (.int .u8 (u.toNat : Int)) := fun j hj => by
        by_cases hjm : j < m
        · have := hc2 j hjm
          rw [Nat.zero_add] at this
          exact ⟨_, this⟩
        · obtain ⟨u, hu⟩ := hB.cell j hj
          exact ⟨u, hf2.keep hu (fun e => by omega)⟩
      have hall2 : ∀ o v, w2.cell? ⟨BX, o, none⟩ = some v → ∃ u : Int, v = .int .u8 u := fun o v hv => by
        by_cases hom : o < m
        · have := hc2 o hom
          rw [Nat.zero_add, hv] at this
          exact ⟨_, Option.some.inj this⟩
        · obtain ⟨u0, hu0⟩ := hB.cell 0 (by omega)
          exact hB.all o v ((hf2.cell BX o (cell_lt hu0) (fun e => by omega)).symm.trans hv)
      obtain ⟨hR3, hB3⟩ := hRS.taken hB (by omega) hf2' hall2 hcell2 m1 hnm hcap hoff hval hbase hn
      have hc3 : ∀ j, j < m → (w2.setCell ⟨F, 1049, none⟩ (.slice base' nm (tcap - m))).cell? ⟨BX, j, none⟩ = some (.int .u8 ((H.getD (k + j) 0).toNat : Int)) := fun j hj => by
        rw [cell_set_ne (.inl hB.nF)]
        have := hc2 j hj
        rw [Nat.zero_add] at this
        exact this
      have hF3 : Frm (fun b o => SA F d0 b o ∨ b = BX) w (w2.setCell ⟨F, 1049, none⟩ (.slice base' nm (tcap - m))) := ((hF.mono fun b o e => .inl e).trans (hf2'.mono fun b o e => .inr e)).setCell (.inl (.inl (.inl rfl))) _
      have HEND := Lib.hid (And.intro hR3 (And.intro hB3 (And.intro hc3 hF3)))
      have q48 : (w2.setCell ⟨F, 1049, none⟩ (.slice base' nm (tcap - m))).cell? ⟨F, 1048, none⟩ = some d.err := hR3.st.dec.err
      have HQ48 := Lib.hid q48
      clear hR3 hB3 hc3 hF3 hcell2 hall2 q48
      have HS2 := Lib.hid hS2
      have HF2 := Lib.hid hf2'
      have HC2 := Lib.hid hc2
      have HBASE := Lib.hid hbase
      have HVAL := Lib.hid hval
      have HT := Lib.hid ht
      have HM := Lib.hid (And.intro m1 (And.intro m2 m3))
      have HCAP := Lib.hid hcap
      have HOFF := Lib.hid hoff
      have HGK := Lib.hid hgk
      clear hRS hF hB hf2 hf2' hc2 hbase hval hrun hm m1 m2 m3 ht hgk hS2 hcap hoff
      have HNM := Lib.hid hnm
      clear hnm
      have KC := c49
      go_upto_region 3 with (with_reducible refine wpList_copy_run (by rfl) (.tmp 13) (.tmp 17) 22 22 (by rfl) (by rfl) (by rfl) hrun0 ?_)
      clear c49 g49 c48 hrun0 KC
      go_upto_region 4 with (fail)
      clear hsl
      generalize hw3 : w2.setCell ⟨F, 1049, none⟩ (.slice base' nm (tcap - m)) = w3 at HEND HQ48 ⊢
      have c49 : w3.cell? ⟨F, 1049, none⟩ = some (.slice base' nm (tcap - m)) := by rw [← hw3]; exact set_get e49
      clear hw3 e49 k49 e48
      have q48 := HQ48.out
      by_cases h0 : nm = 0
      · have e0 : ((nm : Int) == 0) = true := by simp; omega
        have H0 := Lib.hid h0
        clear h0
        go_wp2_with fail
        (go_quiet (fail))
        go_wp2_with fail
        go_ret2
        obtain ⟨hR3, hB3, hc3, hF3⟩ := HEND.out
        refine ⟨m, d.err, rfl, _, H, nm, x, HM.out.2.1, hR3.drewN nq, hF3.drewN nq, hB3.drewN nq, hc3, ?_⟩
        rcases HRS.out.mode.err with e | ⟨er, q, e1, e2, e3⟩
        · exact .inl ⟨e, b3⟩
        · refine .inr ⟨er, q, e1, e2, ?_, e3, rfl⟩
          have h1 := hR3.st.out.sum
          have h2 := HRS.out.fl (.inl hn)
          have h3 := H0.out
          simp only at h1
          omega
      · have e0 : ((nm : Int) == 0) = false := by simp; omega
        clear h0
        go_wp2_with fail
        go_ret2
        obtain ⟨hR3, hB3, hc3, hF3⟩ := HEND.out
        exact ⟨m, .nilIface, rfl, _, H, nm, x, HM.out.2.1, hR3, hF3, hB3, hc3, .inl ⟨rfl, b3⟩⟩
    · as_aux_lemma =>
      obtain rfl : n = 0 := by omega
      clear hn hcells
      rcases hRS.mode.err with he | ⟨er, q, e1, e2, e3⟩
      · obtain ⟨fn, hstep, hsf, hcall⟩ := step_any hRS he
        have hcf := fun W => hsf ⟨F, 0, none⟩ W
        clear hsf
        have c45 := hRS.st.dec.step
        rw [hstep] at c45
        rw [he] at c48
        have HC := Lib.hid hcall
        have HGK := Lib.hid hgk
        have HHE := Lib.hid he
        clear hRS hF hB ht hgk hcall hstep hcap he
        go_wp2_with fail
        refine HC.out.mono ?_
        intro e w2 hP
        obtain ⟨rfl, d', H', n', x', hS', hM', hr', hs', hw', hmu', hf'⟩ := hP
        have hpos : 0 < dmu d := by rw [dmu_nil HHE.out]; omega
        have hRS' : (0 < n' ∨ d'.err = .nilIface) → RS F C p d0 x0 k w2 d' H' n' x' := fun hq => ⟨hS', hM', HRS.out.reach.trans (by rw [← HRS.out.same.src]; exact hr'), HRS.out.same.trans hs', hw'.1, fun q => hw'.2 (by
          rcases q with q | q
          · exact q
          · rcases hq with z | z
            · exact z
            · exact absurd z q)⟩
        have hF2 : Frm (SA F d0) w w2 := HF.out.trans (hf'.mono fun b o e => HRS.out.same.SA e)
        have hB2 := HB.out.keep (by omega) hf' hs'
        have hgk' : (if 0 < n' then 0 else dmu d') < gk := by
          have hge : gk = dmu d := by rw [HGK.out, if_neg (Nat.lt_irrefl 0)]
          rw [hge]
          split
          · exact hpos
          · rcases hmu' with z | z <;> omega
        obtain ⟨base', tcap', ht', hcap', _⟩ := hS'.out.at_
        have k49 := hS'.dec.toRead
        rw [ht'] at k49
        have k48 := hS'.dec.err
        have l49 := hS'.dec.fr 1049
        have hs2 : d'.rd ≤ d'.wr := hS'.rd
        have hs3 : d'.rd < 32768 := hS'.rd2
        have HX := Lib.hid (And.intro hRS' (And.intro hF2 (And.intro hB2 (And.intro hgk' (And.intro hS' (And.intro hM' (And.intro hr' (And.intro hs' (And.intro hw' hf')))))))))
        clear hRS' hF2 hB2 hgk' hr' hs' hmu' hf' ht' hcap' hpos c45 c48 c49 g49 hcf
        rcases hM'.err with he' | ⟨er, q, e1, e2, e3⟩
        · rw [he'] at k48
          have HE' := Lib.hid he'
          clear hM' he' hS' hw'
          go_wp2_with fail
          go_roundg (if 0 < n' then 0 else dmu d')
          case measure => exact HX.out.2.2.2.1
          case rel => exact ⟨d', H', n', x', HX.out.1 (.inr HE'.out), HX.out.2.1, HX.out.2.2.1, rfl⟩
        · obtain ⟨hne, hev⟩ := errV_ne e2
          by_cases hn' : 0 < n'
          · have en : ((n' : Int) == 0) = false := by simp; omega
            have HN' := Lib.hid hn'
            clear hM' hS' hw' e1 e2 e3 hn' hne
            have HD := Lib.hid (rfl : d'.err = d'.err)
            generalize d'.err = ev at k48 hev
            clear HD
            rcases hev with ⟨q', rfl⟩ | ⟨y, rfl⟩
            all_goals
              go_wp2_with fail
              go_roundg (if 0 < n' then 0 else dmu d')
              case measure => exact HX.out.2.2.2.1
              case rel => exact ⟨d', H', n', x', HX.out.1 (.inl HN'.out), HX.out.2.1, HX.out.2.2.1, rfl⟩
          · obtain rfl : n' = 0 := by omega
            have HE := Lib.hid (And.intro e1 (And.intro e2 e3))
            have hwr := hw'.1
            clear hM' hw' e1 e2 e3 hn' hne
            have HDD := Lib.hid hS'.dec
            have HHS := Lib.hid hS'
            clear hS'
            obtain ⟨ev, hevd⟩ : ∃ ev, ev = d'.err := ⟨_, rfl⟩
            rw [← hevd] at k48 hev
            clear hevd
            rcases hev with ⟨q', rfl⟩ | ⟨y, rfl⟩
            all_goals
              go_wp2_with fail
              refine (readFlush_any _ F d' HDD.out (by omega) hs2 hs3).mono ?_
              rintro e w3 ⟨rfl, hD3, hf3⟩
              rw [show (if d'.wr = 32768 then { d' with wr := 0, rd := 0, full := true } else { d' with rd := d'.wr } : DS) = d'.flushed from rfl] at hD3
              have m49 := hD3.toRead
              have n49 := hD3.fr 1049
              have HD3 := Lib.hid hD3
              have HF3 := Lib.hid hf3
              clear hD3 hf3 k48 k49 l49
              go_wp2_with fail
              go_roundg 0
              case measure => exact Nat.lt_of_le_of_lt (Nat.zero_le _) HX.out.2.2.2.1
              case rel =>
                obtain ⟨_, hF2, hB2, _, hS', hM', hr', hs', hw', hf'⟩ := HX.out
                obtain ⟨e1, e2, e3⟩ := HE.out
                obtain ⟨fs, fp, fg⟩ := flushed_same d'
                obtain ⟨f1, _⟩ := flushed_more d'
                have hf4 : Frm (SX F d') w2 (w3.setCell ⟨F, 1049, none⟩ (.slice (some ⟨d'.HB, d'.rd, none⟩) (d'.wr - d'.rd) (32768 - d'.rd))) := (HF3.out.mono fun b o e => .inr (.inr ⟨e.1, by omega⟩)).setCell (.inl (.inr (.inr ⟨rfl, by simp⟩))) _
                obtain ⟨g1, g2, g3⟩ := hS'.flush (HD3.out.set_toRead (.slice (some ⟨d'.HB, d'.rd, none⟩) (d'.wr - d'.rd) (32768 - d'.rd))) hf4 (SX.ok hS') ⟨fs.R, fs.base, fs.src, fs.BB, fs.CB, fs.HB⟩ fg rfl rfl rfl rfl
                have hs4 : Same d' { d'.flushed with toRead := .slice (some ⟨d'.HB, d'.rd, none⟩) (d'.wr - d'.rd) (32768 - d'.rd) } := ⟨fs.R, fs.base, fs.src, fs.BB, fs.CB, fs.HB⟩
                refine ⟨_, H', _, x', ⟨g1, ?_, HRS.out.reach.trans (by rw [← HRS.out.same.src]; exact hr'), (HRS.out.same.trans hs').trans hs4, g2, fun _ => g3⟩, hF2.trans (hf4.mono fun b o e => (HRS.out.same.trans hs').SA (SX.sa e)), hB2.keep (by omega) (hf4.mono fun b o e => SX.sa e) hs4, ?_⟩
                · rw [e1]
                  exact .inl ⟨by show ErrV p er d'.flushed.err; rw [f1]; exact e2, rfl, by show d'.flushed.pos = q; rw [fp]; exact e3⟩
                · split
                  · rfl
                  · symm
                    show dmu _ = 0
                    have hne := (errV_ne e2).1
                    have : ({ d'.flushed with toRead := .slice (some ⟨d'.HB, d'.rd, none⟩) (d'.wr - d'.rd) (32768 - d'.rd) } : DS).err = d'.err := f1
                    unfold dmu
                    rw [this]
                    split
                    · rename_i z; exact absurd z hne
                    · rfl
      · have hev := (errV_ne e2).2
        have HE := Lib.hid (And.intro e1 (And.intro e2 e3))
        have HGK := Lib.hid hgk
        have HEV := Lib.hid (rfl : d.err = d.err)
        obtain ⟨ev, hevd⟩ : ∃ ev, ev = d.err := ⟨_, rfl⟩
        rw [← hevd] at c48 hev
        have HED := Lib.hid hevd
        clear hRS hF hB ht hgk hcap e1 e2 e3 hevd HEV
        rcases hev with ⟨q', rfl⟩ | ⟨y, rfl⟩
        all_goals
          go_wp2_with fail
          (go_quiet (fail))
          go_wp2_with fail
          go_ret2
          obtain ⟨e1, e2, e3⟩ := HE.out
          have hfl := HRS.out.fl (.inr (errV_ne e2).1)
          have hsum := HRS.out.st.out.sum
          refine ⟨0, d.err, by rw [← HED.out]; rfl, d, H, 0, x, Nat.zero_le _, HRS.out.drewN nq, (HF.out.mono fun b o e => .inl e).drewN nq, HB.out.drewN nq, fun j hj => absurd hj (by omega), .inr ⟨er, q, e1, e2, by omega, e3, rfl⟩⟩

end Go.Proofs.YthfncdfcklbigaaDoor
