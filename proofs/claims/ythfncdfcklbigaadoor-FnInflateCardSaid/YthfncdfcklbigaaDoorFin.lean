/-
  THE WALK OF 'finishBlock'; how the state is carried over a step.
-/
import Derived.Test.YthfncdfcklbigaaDoorState
set_option linter.unusedVariables false
set_option linter.unusedSimpArgs false
namespace Go.Proofs.YthfncdfcklbigaaDoor
open Go.RowKit Flate
set_option maxRecDepth 100000

/-- The window, and what is to be read, are the same. -/
structure WSame (d d' : DS) : Prop where
  g : d'.g = d.g
  wr : d'.wr = d.wr
  rd : d'.rd = d.rd
  full : d'.full = d.full
  toRead : d'.toRead = d.toRead

/-- What a step that leaves the window and the tables alone may turn. -/
def SW1 (F C : Nat) (S : Nat → Nat → Prop) : Prop := ∀ b o, S b o → C ≤ b ∧ (b = F → o < 5 ∨ 1035 ≤ o)

theorem St.of {S : Nat → Nat → Prop} {w w' : World} {F C : Nat} {p : Ps} {d d' : DS} {H : List UInt8} {k n : Nat} (h : St w F C p d H k n) (hD : Dec w' F d') (hf : Frm S w w') (hS : SW1 F C S) (hs : Same d d') (hw : WSame d d') : St w' F C p d' H k n := by
  have hb : ∀ b o, S b o → C ≤ b := fun b o x => (hS b o x).1
  have hp : ∀ x, 5 ≤ x → x < 1035 → ¬ S F x := fun x h1 h2 e => by have := (hS F x e).2 rfl; omega
  refine ⟨h.env.keep hf hb, h.cF, by rw [hs.R]; exact h.cR, by rw [hs.HB]; exact h.cH, by rw [hs.BB]; exact h.cB, by rw [hs.CB]; exact h.cC, hD, by rw [hw.g, hw.wr]; exact h.win, by rw [hw.rd, hw.wr]; exact h.rd, by rw [hw.rd]; exact h.rd2,
    by rw [hw.full]; exact h.ful, by rw [hw.full, hw.wr]; exact h.nful, ?_, h.pre1.keep hf (fun x a b => hp x a (by omega)), h.pre2.keep hf (fun x a b => hp x (by omega) (by omega))⟩
  obtain ⟨o1, base, cap, o2, o3, o4⟩ := h.out
  exact ⟨by rw [hw.wr, hw.rd]; exact o1, base, cap, by rw [hw.toRead]; exact o2, o3, by rw [hs.HB, hw.g]; exact o4⟩

/-- The window behind a flush. -/
def DS.flushed (d : DS) : DS := if d.wr = 32768 then { d with wr := 0, rd := 0, full := true } else { d with rd := d.wr }

theorem flushed_same (d : DS) : Same d d.flushed ∧ d.flushed.pos = d.pos ∧ d.flushed.g = d.g := by
  unfold DS.flushed; split <;> exact ⟨⟨rfl, rfl, rfl, rfl, rfl, rfl⟩, rfl, rfl⟩

theorem flushed_more (d : DS) : d.flushed.err = d.err ∧ d.flushed.fin = d.fin ∧ d.flushed.cl = d.cl ∧ d.flushed.b = d.b ∧ d.flushed.nb = d.nb ∧ d.flushed.roff = d.roff ∧ d.flushed.ss = d.ss ∧ d.flushed.cd = d.cd ∧ d.flushed.hl = d.hl ∧ d.flushed.hd = d.hd ∧ d.flushed.step = d.step := by
  unfold DS.flushed; split <;> exact ⟨rfl, rfl, rfl, rfl, rfl, rfl, rfl, rfl, rfl, rfl, rfl⟩

/-- At a byte's edge nothing is buffered. -/
theorem put_edge {d : DS} {q : Nat} (h1 : d.b = 0) (h2 : d.nb = 0) (h3 : d.roff = q) (h4 : d.pos = q) : d = d.put ⟨8 * q, q⟩ := by
  have e1 : (⟨8 * q, q⟩ : Br).nb = 0 := by unfold Br.nb; simp only; omega
  have e2 : (⟨8 * q, q⟩ : Br).b d.src = 0 := by unfold Br.b; rw [e1, bv_zero]
  unfold DS.put
  rw [e1, e2]
  cases d
  simp only at h1 h2 h3 h4
  subst h1 h2 h3 h4
  rfl

/-- Behind a flush what was written is to be read. -/
theorem St.flush {S : Nat → Nat → Prop} {w w' : World} {F C : Nat} {p : Ps} {d d' : DS} {H : List UInt8} {k : Nat} (h : St w F C p d H k 0) (hD : Dec w' F d') (hf : Frm S w w') (hS : SW1 F C S)
    (hs : Same d d') (hg : d'.g = d.g) (hw : d'.wr = d.flushed.wr) (hr : d'.rd = d.flushed.rd) (hfu : d'.full = d.flushed.full) (ht : d'.toRead = .slice (some ⟨d.HB, d.rd, none⟩) (d.wr - d.rd) (32768 - d.rd)) :
    St w' F C p d' H k (d.wr - d.rd) ∧ d'.wr < 32768 ∧ d'.rd = d'.wr := by
  have hb : ∀ b o, S b o → C ≤ b := fun b o x => (hS b o x).1
  have hp : ∀ x, 5 ≤ x → x < 1035 → ¬ S F x := fun x h1 h2 e => by have := (hS F x e).2 rfl; omega
  obtain ⟨o, w1, w2, w3, f1, f2⟩ := out_flush h.win h.rd h.out h.ful h.nful d.flushed rfl
  obtain ⟨o1, base, cap, o2, o3, o4⟩ := o
  have hg2 := (flushed_same d).2.2
  refine ⟨⟨h.env.keep hf hb, h.cF, by rw [hs.R]; exact h.cR, by rw [hs.HB]; exact h.cH, by rw [hs.BB]; exact h.cB, by rw [hs.CB]; exact h.cC, hD, by rw [hg, hw, ← hg2]; exact w1, by rw [hr, hw]; omega, by rw [hr]; omega,
    by rw [hfu]; exact f1, by rw [hfu, hw]; exact f2, ⟨by rw [hw, hr]; exact o1, base, cap, by rw [ht]; exact o2, o3, ?_⟩, h.pre1.keep hf (fun x a b => hp x a (by omega)), h.pre2.keep hf (fun x a b => hp x (by omega) (by omega))⟩, by rw [hw]; exact w2, by rw [hw, hr]; exact w3⟩
  rw [hs.HB, hg, ← hg2, ← (flushed_same d).1.HB]; exact o4

/-- What 'finishBlock' does. -/
def FinPost (w : World) (F C : Nat) (p : Ps) (d : DS) (H : List UInt8) (k : Nat) (r : Br) (e : Ending) (w' : World) : Prop :=
  e = .returned (.tuple #[]) ∧ ∃ d' n', St w' F C p d' H k n' ∧ Mode w' F p d' H (more d.fin r, H) ∧ Same d d' ∧ (d'.wr < 32768 ∧ (0 < n' → d'.rd = d'.wr)) ∧ dmu d' ≤ 2 * (8 * d.src.length + 1 - r.at_) + 1 ∧ Frm (fun b o => b = F ∧ 1037 ≤ o) w w'

set_option maxHeartbeats 1000000 in
theorem finishBlock_any (w : World) (F C : Nat) (p : Ps) (d : DS) (H : List UInt8) (k n : Nat) (r : Br) (h : St w F C p d H k n) (hd : d = d.put r) (hr : r.ok d.src) (hnb : r.nb ≤ 22) (he : d.err = .nilIface) (hw : d.wr < 32768)
    (hn : n = 0 ∨ d.wr = d.rd) (hs0 : SS0 d H) : Calls Tryd.prog 89 #[.pointer (some ⟨F, 0, none⟩)] w (FinPost w F C p d H k r) := by
  have c47 := h.dec.fin
  have f45 := h.dec.fr 1045
  have c45 := h.dec.step
  have hrd := h.rd
  have HH := Lib.hid h
  have HD := Lib.hid hd
  have HSS := Lib.hid hs0
  have HN := Lib.hid hn
  clear hs0
  cases hfin : d.fin with
  | false =>
    rw [hfin] at c47
    have HFI := Lib.hid hfin
    clear h hd hfin
    go_enter Tryd.func89, Tryd.ntmps89
    go_wp2_with fail
    go_end0
    have hf : Frm (fun b o => b = F ∧ 1037 ≤ o) w (w.setCell ⟨F, 1045, none⟩ (fnV 56)) := by (repeat (first | exact Frm.refl _ _ | refine Frm.drewN ?_ _ | refine Frm.drew ?_ | refine Frm.alloc ?_ _ | refine Frm.setCell ?_ (by simp) _))
    refine ⟨rfl, { d with step := fnV 56 }, n, HH.out.of (HH.out.dec.set_step _) hf ?_ ⟨rfl, rfl, rfl, rfl, rfl, rfl⟩ ⟨rfl, rfl, rfl, rfl, rfl⟩, ?_, ⟨rfl, rfl, rfl, rfl, rfl, rfl⟩, ⟨hw, fun q => HN.out.elim (fun e => by omega) (fun e => e.symm)⟩, ?_, hf⟩
    · rintro b o ⟨rfl, e⟩; exact ⟨HH.out.cF, fun _ => by omega⟩
    · rw [HFI.out]
      refine ⟨he, .inl ⟨rfl, rfl, hr, hnb, ?_, HSS.out⟩⟩
      have := HD.out
      conv => lhs; rw [this]
      rfl
    · refine Nat.le_trans (Nat.le_of_eq (dmu_nil he)) ?_
      have h1 : d.pos = r.pos := congrArg DS.pos HD.out
      have h2 : d.nb = r.nb := congrArg DS.nb HD.out
      have h3 := hr.1
      show 2 * (8 * d.src.length + 1 - (8 * d.pos - d.nb)) + 0 + 1 ≤ _
      rw [h1, h2]; unfold Br.nb; omega
  | true =>
    rw [hfin] at c47
    have HFI := Lib.hid hfin
    clear h hd hfin
    go_enter Tryd.func89, Tryd.ntmps89
    go_wp2_with fail
    refine (availRead_any w F d HH.out.dec (by omega) hrd).mono ?_
    rintro e w1 ⟨rfl, m, rfl⟩
    have cE := HH.out.env.eof
    have c48 := HH.out.dec.err
    have f48 := HH.out.dec.fr 1048
    by_cases hq : d.rd < d.wr
    · have e1 : (0 : Int) < (d.wr : Int) - (d.rd : Int) := by omega
      go_wp2_with fail
      refine (readFlush_any _ F d (HH.out.dec.drewN m) (by omega) hrd HH.out.rd2).mono ?_
      rintro e w2 ⟨rfl, hD2, hf2⟩
      rw [show (if d.wr = 32768 then { d with wr := 0, rd := 0, full := true } else { d with rd := d.wr } : DS) = d.flushed from rfl] at hD2
      have hf3 : Frm (fun b o => b = F ∧ 1037 ≤ o) w w2 := (((Frm.refl _ _).drewN m).trans (hf2.mono fun b o e => ⟨e.1, by omega⟩))
      have cE2 := hf3.keep cE (fun e => by have := HH.out.cF; have := HH.out.env.g; omega)
      have d49 := hD2.toRead
      have d48 := hD2.err
      have d45 := hD2.step
      have g49 := hD2.fr 1049
      have g48 := hD2.fr 1048
      have g45 := hD2.fr 1045
      have hF9 : ¬ F = 0 := by have := HH.out.cF; have := HH.out.env.g; omega
      clear c45 c47 c48 f45 f48 cE
      go_wp2_with fail
      go_end0
      obtain ⟨w3, hw3⟩ : ∃ w3, w3 = ((w2.setCell ⟨F, 1049, none⟩ (.slice (some ⟨d.HB, d.rd, none⟩) (d.wr - d.rd) (32768 - d.rd))).setCell ⟨F, 1048, none⟩ (errAt p.E)).setCell ⟨F, 1045, none⟩ (fnV 56) := ⟨_, rfl⟩
      have hf4 : Frm (fun b o => b = F ∧ 1037 ≤ o) w2 w3 := by rw [hw3]; (repeat (first | exact Frm.refl _ _ | refine Frm.drewN ?_ _ | refine Frm.drew ?_ | refine Frm.alloc ?_ _ | refine Frm.setCell ?_ (by simp) _))
      have hD4 := ((hD2.set_toRead (.slice (some ⟨d.HB, d.rd, none⟩) (d.wr - d.rd) (32768 - d.rd))).set_err (errAt p.E)).set_step (fnV 56)
      rw [← hw3] at hD4 ⊢
      have hn0 : n = 0 := by omega
      have h0 := HH.out
      rw [hn0] at h0
      obtain ⟨fs, fp, fg⟩ := flushed_same d
      obtain ⟨g1, g2, g3⟩ := h0.flush hD4 (hf3.trans hf4) (by rintro b o ⟨rfl, e⟩; exact ⟨HH.out.cF, fun _ => by omega⟩) ⟨fs.R, fs.base, fs.src, fs.BB, fs.CB, fs.HB⟩ fg rfl rfl rfl rfl
      refine ⟨rfl, _, _, g1, ?_, ⟨fs.R, fs.base, fs.src, fs.BB, fs.CB, fs.HB⟩, ⟨g2, fun _ => g3⟩, Nat.zero_le _, hf3.trans hf4⟩
      rw [HFI.out]
      refine .inl ⟨rfl, rfl, ?_⟩
      show d.flushed.pos = r.pos
      rw [fp, HD.out]; rfl
    · have e1 : ¬ (0 : Int) < (d.wr : Int) - (d.rd : Int) := by omega
      have hF9 : ¬ F = 0 := by have := HH.out.cF; have := HH.out.env.g; omega
      go_wp2_with fail
      go_end0
      obtain ⟨w3, hw3⟩ : ∃ w3, w3 = ((w.drewN m).setCell ⟨F, 1048, none⟩ (errAt p.E)).setCell ⟨F, 1045, none⟩ (fnV 56) := ⟨_, rfl⟩
      have hf4 : Frm (fun b o => b = F ∧ 1037 ≤ o) w w3 := by rw [hw3]; (repeat (first | exact Frm.refl _ _ | refine Frm.drewN ?_ _ | refine Frm.drew ?_ | refine Frm.alloc ?_ _ | refine Frm.setCell ?_ (by simp) _))
      have hD4 := ((HH.out.dec.drewN m).set_err (errAt p.E)).set_step (fnV 56)
      rw [← hw3] at hD4 ⊢
      refine ⟨rfl, _, n, HH.out.of hD4 hf4 (by rintro b o ⟨rfl, e⟩; exact ⟨HH.out.cF, fun _ => by omega⟩) ⟨rfl, rfl, rfl, rfl, rfl, rfl⟩ ⟨rfl, rfl, rfl, rfl, rfl⟩, ?_, ⟨rfl, rfl, rfl, rfl, rfl, rfl⟩, ⟨hw, fun _ => show d.rd = d.wr by omega⟩, Nat.zero_le _, hf4⟩
      rw [HFI.out]
      refine .inl ⟨rfl, rfl, ?_⟩
      show d.pos = r.pos
      rw [HD.out]; rfl

end Go.Proofs.YthfncdfcklbigaaDoor
