/-
  THE STATE OF THE DECOMPRESSOR between its steps, against the plain machine; 'finishBlock'.
-/
import Derived.Test.YthfncdfcklbigaaDoorCopy
import Derived.Test.YthfncdfcklbigaaDoorFlow
import Derived.Laws.EntriesVeiled
set_option linter.unusedVariables false
set_option linter.unusedSimpArgs false
namespace Go.Proofs.YthfncdfcklbigaaDoor
open Go.RowKit Flate
set_option maxRecDepth 100000

/-- A function as a value. -/
abbrev fnV (n : Nat) : Value := .func (.func n) #[] #[]

/-- What 'toRead' holds: n bytes of the history, from byte k on; what follows them has not been handed out. -/
structure Out (d : DS) (H : List UInt8) (k n : Nat) : Prop where
  sum : k + n + (d.wr - d.rd) = H.length
  at_ : ∃ base cap, d.toRead = .slice base n cap ∧ n ≤ cap ∧ (n = 0 ∨ ∃ off, base = some ⟨d.HB, off, none⟩ ∧ off + n ≤ 32768 ∧ ∀ j, j < n → d.g (off + j) = H.getD (k + j) 0)

/-- A table that is empty, or says that it is not. -/
def Pre (w : World) (F o : Nat) : Prop := (∃ m : Int, m ≠ 0 ∧ w.cell? ⟨F, o, none⟩ = some (.int .i64 m)) ∨ TabAt w F o emptyTab (fun _ => False)

theorem Pre.keep {S : Nat → Nat → Prop} {w w' : World} {F o : Nat} (h : Pre w F o) (hf : Frm S w w') (hS : ∀ x, o ≤ x → x < o + 515 → ¬ S F x) : Pre w' F o := by
  rcases h with ⟨m, h0, h⟩ | h
  · exact .inl ⟨m, h0, hf.keep h (hS _ (by omega) (by omega))⟩
  · exact .inr ⟨hf.keep h.min (hS _ (by omega) (by omega)), fun i hi => hf.keep (h.ch i hi) (hS _ (by omega) (by omega)), hf.keep h.mask (hS _ (by omega) (by omega)), fun e => hf.keep (h.none_ e) (hS _ (by omega) (by omega)), fun e => absurd rfl e⟩

/-- Between the steps and within them: the window shows the history H; of it k bytes are gone, n are to be read. -/
structure St (w : World) (F C : Nat) (p : Ps) (d : DS) (H : List UInt8) (k n : Nat) : Prop where
  env : Env w C p
  cF : C ≤ F
  cR : C ≤ d.R
  cH : C ≤ d.HB
  cB : C ≤ d.BB
  cC : C ≤ d.CB
  dec : Dec w F d
  win : WinB d.g d.wr H
  rd : d.rd ≤ d.wr
  rd2 : d.rd < 32768
  ful : d.full = true → 32768 ≤ H.length
  nful : d.full = false → H.length = d.wr
  out : Out d H k n
  pre1 : Pre w F 5
  pre2 : Pre w F 520

/-- What a step may turn. -/
def SA (F : Nat) (d : DS) (b _ : Nat) : Prop := b = F ∨ b = d.R ∨ b = d.HB ∨ b = d.BB ∨ b = d.CB

/-- The blocks stay the same ones. -/
structure Same (d d' : DS) : Prop where
  R : d'.R = d.R
  base : d'.base = d.base
  src : d'.src = d.src
  BB : d'.BB = d.BB
  CB : d'.CB = d.CB
  HB : d'.HB = d.HB

theorem Same.refl (d : DS) : Same d d := ⟨rfl, rfl, rfl, rfl, rfl, rfl⟩
theorem Same.trans {a b c : DS} (h : Same a b) (k : Same b c) : Same a c := ⟨k.R.trans h.R, k.base.trans h.base, k.src.trans h.src, k.BB.trans h.BB, k.CB.trans h.CB, k.HB.trans h.HB⟩
theorem Same.SA {F : Nat} {d d' : DS} (h : Same d d') {b o : Nat} (x : SA F d' b o) : SA F d b o := by
  unfold Proofs.YthfncdfcklbigaaDoor.SA at *; rw [← h.R, ← h.HB, ← h.BB, ← h.CB]; exact x

/-- An error's value. -/
def ErrV (p : Ps) : Err → Value → Prop
  | .eof, v => v = errAt p.E
  | .cut, v => v = errAt p.U
  | .corrupt, v => ∃ x : Nat, v = corruptAt x

/-- The blocks that no store of a step goes to but those of the tables themselves. -/
def LinkB (F : Nat) (d : DS) (b : Nat) : Prop := b ≠ F ∧ b ≠ d.R ∧ b ≠ d.HB ∧ b ≠ d.BB ∧ b ≠ d.CB

/-- A pointer to a table. -/
def TabV (w : World) (F : Nat) (d : DS) (v : Value) (T : Tab) : Prop :=
  ∃ B o : Nat, v = .pointer (some ⟨B, o, none⟩) ∧ TabAt w B o T (LinkB F d) ∧ T.OK ∧ B ≠ d.R ∧ B ≠ d.HB ∧ B ≠ d.BB ∧ B ≠ d.CB ∧ (B = F → 5 ≤ o ∧ o + 515 ≤ 1035)

def Tabs (w : World) (F : Nat) (d : DS) (T : Tab) : Option Tab → Prop
  | none => TabV w F d d.hl T ∧ d.hd = .pointer none
  | some D => TabV w F d d.hl T ∧ TabV w F d d.hd D

/-- What 'stepState' says is no lie: a copy that is carried on has a distance that fits; and nothing of it is left. -/
def SS1 (d : DS) (H : List UInt8) : Prop := d.ss = 0 ∨ d.ss = 1 ∧ ∃ D' : Nat, d.cd = D' ∧ 1 ≤ D' ∧ D' ≤ H.length ∧ D' ≤ 32768
def SS0 (d : DS) (H : List UInt8) : Prop := d.ss = 0 ∨ d.ss = 1 ∧ d.cl = 0 ∧ ∃ D' : Nat, d.cd = D' ∧ 1 ≤ D' ∧ D' ≤ H.length ∧ D' ≤ 32768

theorem SS0.one {d : DS} {H : List UInt8} (h : SS0 d H) : SS1 d H := h.imp id fun h => ⟨h.1, h.2.2⟩
theorem SS1.zero {d : DS} {H : List UInt8} (h : SS1 d H) (hc : d.cl = 0) : SS0 d H := h.imp id fun h => ⟨h.1, hc, h.2⟩
theorem SS1.same {d d' : DS} {H H' : List UInt8} (h : SS1 d H) (h1 : d'.ss = d.ss) (h2 : d'.cd = d.cd) (hl : H.length ≤ H'.length) : SS1 d' H' := by
  rcases h with h | ⟨h, D', e1, e2, e3, e4⟩
  · exact .inl (h1.trans h)
  · exact .inr ⟨h1.trans h, D', h2.trans e1, e2, Nat.le_trans e3 hl, e4⟩
theorem SS0.same {d d' : DS} {H H' : List UInt8} (h : SS0 d H) (h1 : d'.ss = d.ss) (h2 : d'.cd = d.cd) (h3 : d'.cl = d.cl) (hl : H.length ≤ H'.length) : SS0 d' H' := by
  rcases h with h | ⟨h, e0, D', e1, e2, e3, e4⟩
  · exact .inl (h1.trans h)
  · exact .inr ⟨h1.trans h, h3.trans e0, D', h2.trans e1, e2, Nat.le_trans e3 hl, e4⟩

/-- Where the decompressor stands: what it will do next, seen from the history H in its window. -/
def Mode (w : World) (F : Nat) (p : Ps) (d : DS) (H : List UInt8) (x : Cfg × List UInt8) : Prop :=
  match x with
  | (.next r, H') => d.err = .nilIface ∧ (d.step = fnV 56 ∧ H' = H ∧ r.ok d.src ∧ r.nb ≤ 22 ∧ d = d.put r ∧ SS0 d H ∨
      d.step = fnV 90 ∧ SS1 d H ∧ ∃ n : Nat, d.cl = n ∧ n ≤ 65535 ∧ d = d.put ⟨8 * d.pos, d.pos⟩ ∧ stRest d.src d.fin d.pos n H = (.next r, H'))
  | (.huff last r T D, H') => d.err = .nilIface ∧ d.step = fnV 76 ∧ d.fin = last ∧ r.ok d.src ∧ r.nb ≤ 22 ∧ d = d.put r ∧ Tabs w F d T D ∧
      (d.ss = 0 ∧ H' = H ∨ d.ss = 1 ∧ ∃ n D' : Nat, d.cl = n ∧ d.cd = D' ∧ n ≤ 258 ∧ 1 ≤ D' ∧ D' ≤ H.length ∧ D' ≤ 32768 ∧ H' = lz H D' n)
  | (.done e pos, H') => ErrV p e d.err ∧ H' = H ∧ d.pos = pos ∨
      d.err = .nilIface ∧ d.step = fnV 90 ∧ SS1 d H ∧ ∃ n : Nat, d.cl = n ∧ n ≤ 65535 ∧ d = d.put ⟨8 * d.pos, d.pos⟩ ∧ stRest d.src d.fin d.pos n H = (.done e pos, H')

/-- Is the next step a copy of stored bytes? -/
def stepN : Value → Nat
  | .func (.func n) _ _ => if n = 90 then 1 else 0
  | _ => 0

/-- How far the decompressor is from its end. -/
def dmu (d : DS) : Nat := match d.err with
  | .nilIface => 2 * (8 * d.src.length + 1 - (8 * d.pos - d.nb)) + stepN d.step + 1
  | _ => 0

theorem mode_data {w : World} {F n : Nat} {p : Ps} {d : DS} {H : List UInt8} {x : Cfg × List UInt8} (h1 : d.err = .nilIface) (h2 : d.step = fnV 90) (h3 : d.cl = n) (h4 : n ≤ 65535)
    (h5 : d = d.put ⟨8 * d.pos, d.pos⟩) (h0 : SS1 d H) (h6 : stRest d.src d.fin d.pos n H = x) : Mode w F p d H x := by
  obtain ⟨c, Hf⟩ := x
  cases c with
  | next r => exact ⟨h1, .inr ⟨h2, h0, n, h3, h4, h5, h6⟩⟩
  | done e q => exact .inr ⟨h1, h2, h0, n, h3, h4, h5, h6⟩
  | huff l r T D =>
    exfalso
    unfold stRest more at h6
    split at h6
    · cases hf : d.fin <;> rw [hf] at h6 <;> simp at h6
    · simp at h6

theorem dmu_nil {d : DS} (h : d.err = .nilIface) : dmu d = 2 * (8 * d.src.length + 1 - (8 * d.pos - d.nb)) + stepN d.step + 1 := by unfold dmu; rw [h]

/-- A piece of the window flushed. -/
theorem out_flush {d : DS} {H : List UInt8} {k : Nat} (hw : WinB d.g d.wr H) (hr : d.rd ≤ d.wr) (ho : Out d H k 0) (hful : d.full = true → 32768 ≤ H.length) (hn : d.full = false → H.length = d.wr) (d' : DS)
    (hd : d' = (if d.wr = 32768 then { d with wr := 0, rd := 0, full := true } else { d with rd := d.wr })) :
    Out { d' with toRead := .slice (some ⟨d.HB, d.rd, none⟩) (d.wr - d.rd) (32768 - d.rd) } H k (d.wr - d.rd) ∧ WinB d'.g d'.wr H ∧ d'.wr < 32768 ∧ d'.rd = d'.wr ∧ (d'.full = true → 32768 ≤ H.length) ∧ (d'.full = false → H.length = d'.wr) := by
  have hle := hw.le
  have heq := hw.eq
  have hs := ho.sum
  have key : ∀ j, j < d.wr - d.rd → d.g (d.rd + j) = H.getD (k + j) 0 := by
    intro j hj
    have hi : k + j < H.length := by omega
    have hf : H.length ≤ k + j + 32768 := by omega
    rw [← hw.at_ _ hi hf]
    congr 1
    cases hfl : d.full with
    | true => have := hful hfl; omega
    | false => have := hn hfl; omega
  by_cases h : d.wr = 32768
  · rw [if_pos h] at hd
    subst hd
    refine ⟨⟨by simp only; omega, _, _, rfl, by omega, .inr ⟨d.rd, rfl, by omega, key⟩⟩, ?_, by simp only; omega, rfl, fun _ => ?_, fun e => Bool.noConfusion e⟩
    · simp only; rw [h] at hw; exact hw.round
    · cases hfl : d.full with
      | true => exact hful hfl
      | false => have := hn hfl; omega
  · rw [if_neg h] at hd
    subst hd
    exact ⟨⟨by simp only; omega, _, _, rfl, by omega, .inr ⟨d.rd, rfl, by omega, key⟩⟩, hw, by simp only; omega, rfl, hful, hn⟩

end Go.Proofs.YthfncdfcklbigaaDoor
