/-
  Several texts in one: Made State Drain Fin Read Data Str Block Scope Fetch.
-/
import Derived.Test.YthfncdfcklbigaaGreatDoorPb
import Derived.Test.YthfncdfcklbigaaGreatDoorPa
import Derived.Laws.EntriesVeiled
import Derived.IntWalk
import Derived.Deep.DeepCutAuto
import Derived.Deep.RegionWith
import Derived.Laws.DeepNot64
import Derived.Scope
import Derived.WalkMore
set_option linter.unusedVariables false
set_option linter.unusedSimpArgs false
namespace Go.Proofs.YthfncdfcklbigaaGreatDoor
open Go.RowKit Flate
set_option maxRecDepth 100000
theorem infoB : ((Tryz.prog.info? 5).map fun i => (i.zero, i.size, i.bytes)) = some (some (.int .u8 0), 1, 1) := by kernel_rfl
theorem wpList_bytes {ops : Array Oper} {rest : List Oper} {o : Oper} {a : Act} {w : World} {Q : Exit → Act → World → Prop} (hgd : o.guard = none) (l c : Operand) (ho : o.op = .makeSlice 22 l c)
 (k k2 : IntKind) (n : Nat) (hl : a.eval l = .int k (n : Int)) (hc : a.eval c = .int k2 (n : Int)) (hn : n ≤ 16777216)
 (h : ∀ w', w' = w.alloc (.cells (madeCells #[.int .u8 0] n) 5) → wpList Tryz.prog ops Q rest (a.put o.dst (.slice (some ⟨w.heap.size, 0, none⟩) n n)) w') : wpList Tryz.prog ops Q (o :: rest) a w := by
 obtain ⟨i, h1, h2, h3, h4⟩ := infoOf infoB
 refine wpList_make hgd _ l c ho _ i _ Tryz.underlying22 h1 h2 k k2 n hl hc (by rw [h4]; simp only; omega) (by omega) ?_
 rw [h3, Nat.mul_one]; exact h _ rfl
abbrev fnV (n : Nat) : Value := .func (.func n) #[] #[]
structure Out (d : DS) (H : List UInt8) (k n : Nat) : Prop where
 sum : k + n + (d.wr - d.rd) = H.length
 at_ : ∃ base cap, d.toRead = .slice base n cap ∧ n ≤ cap ∧ (n = 0 ∨ ∃ off, base = some ⟨d.HB, off, none⟩ ∧ off + n ≤ 32768 ∧ ∀ j, j < n → d.g (off + j) = H.getD (k + j) 0)
def Pre (w : World) (F o : Nat) : Prop := (∃ m : Int, m ≠ 0 ∧ w.cell? ⟨F, o, none⟩ = some (.int .i64 m)) ∨ TabAt w F o emptyTab (fun _ => False)
theorem Pre.keep {S : Nat → Nat → Prop} {w w' : World} {F o : Nat} (h : Pre w F o) (hf : Frm S w w') (hS : ∀ x, o ≤ x → x < o + 515 → ¬ S F x) : Pre w' F o := by
 rcases h with ⟨m, h0, h⟩ | h
 · exact .inl ⟨m, h0, hf.keep h (hS _ (by omega) (by omega))⟩
 · exact .inr ⟨hf.keep h.min (hS _ (by omega) (by omega)), fun i hi => hf.keep (h.ch i hi) (hS _ (by omega) (by omega)), hf.keep h.mask (hS _ (by omega) (by omega)), fun e => hf.keep (h.none_ e) (hS _ (by omega) (by omega)), fun e => absurd rfl e⟩
structure St (w : World) (F C : Nat) (p : Ps) (d : DS) (H : List UInt8) (k n : Nat) : Prop where
 env : Env w C p
 cF : C ≤ F
 cR : C ≤ d.R
 cH : C ≤ d.HB
 cB : C ≤ d.BB
 cC : C ≤ d.CB
 dec : Dec w F d
 win : WinB d.g d.wr H
 rd : d.rd ≤ d.wr
 rd2 : d.rd < 32768
 ful : d.full = true → 32768 ≤ H.length
 nful : d.full = false → H.length = d.wr
 out : Out d H k n
 pre1 : Pre w F 5
 pre2 : Pre w F 520
def SA (F : Nat) (d : DS) (b _ : Nat) : Prop := b = F ∨ b = d.R ∨ b = d.HB ∨ b = d.BB ∨ b = d.CB
structure Same (d d' : DS) : Prop where
 R : d'.R = d.R
 base : d'.base = d.base
 src : d'.src = d.src
 BB : d'.BB = d.BB
 CB : d'.CB = d.CB
 HB : d'.HB = d.HB
theorem Same.refl (d : DS) : Same d d := ⟨rfl, rfl, rfl, rfl, rfl, rfl⟩
theorem Same.trans {a b c : DS} (h : Same a b) (k : Same b c) : Same a c := ⟨k.R.trans h.R, k.base.trans h.base, k.src.trans h.src, k.BB.trans h.BB, k.CB.trans h.CB, k.HB.trans h.HB⟩
theorem Same.SA {F : Nat} {d d' : DS} (h : Same d d') {b o : Nat} (x : SA F d' b o) : SA F d b o := by
 unfold Proofs.YthfncdfcklbigaaGreatDoor.SA at *; rw [← h.R, ← h.HB, ← h.BB, ← h.CB]; exact x
def ErrV (p : Ps) : Err → Value → Prop
 | .eof, v => v = errAt p.E
 | .cut, v => v = errAt p.U
 | .corrupt, v => ∃ x : Nat, v = corruptAt x
def LinkB (F : Nat) (d : DS) (b : Nat) : Prop := b ≠ F ∧ b ≠ d.R ∧ b ≠ d.HB ∧ b ≠ d.BB ∧ b ≠ d.CB
def TabV (w : World) (F : Nat) (d : DS) (v : Value) (T : Tab) : Prop :=
 ∃ B o : Nat, v = .pointer (some ⟨B, o, none⟩) ∧ TabAt w B o T (LinkB F d) ∧ T.OK ∧ B ≠ d.R ∧ B ≠ d.HB ∧ B ≠ d.BB ∧ B ≠ d.CB ∧ (B = F → 5 ≤ o ∧ o + 515 ≤ 1035)
def Tabs (w : World) (F : Nat) (d : DS) (T : Tab) : Option Tab → Prop
 | none => TabV w F d d.hl T ∧ d.hd = .pointer none
 | some D => TabV w F d d.hl T ∧ TabV w F d d.hd D
def SS1 (d : DS) (H : List UInt8) : Prop := d.ss = 0 ∨ d.ss = 1 ∧ ∃ D' : Nat, d.cd = D' ∧ 1 ≤ D' ∧ D' ≤ H.length ∧ D' ≤ 32768
def SS0 (d : DS) (H : List UInt8) : Prop := d.ss = 0 ∨ d.ss = 1 ∧ d.cl = 0 ∧ ∃ D' : Nat, d.cd = D' ∧ 1 ≤ D' ∧ D' ≤ H.length ∧ D' ≤ 32768
theorem SS0.one {d : DS} {H : List UInt8} (h : SS0 d H) : SS1 d H := h.imp id fun h => ⟨h.1, h.2.2⟩
theorem SS1.zero {d : DS} {H : List UInt8} (h : SS1 d H) (hc : d.cl = 0) : SS0 d H := h.imp id fun h => ⟨h.1, hc, h.2⟩
theorem SS1.same {d d' : DS} {H H' : List UInt8} (h : SS1 d H) (h1 : d'.ss = d.ss) (h2 : d'.cd = d.cd) (hl : H.length ≤ H'.length) : SS1 d' H' := by
 rcases h with h | ⟨h, D', e1, e2, e3, e4⟩
 · exact .inl (h1.trans h)
 · exact .inr ⟨h1.trans h, D', h2.trans e1, e2, Nat.le_trans e3 hl, e4⟩
theorem SS0.same {d d' : DS} {H H' : List UInt8} (h : SS0 d H) (h1 : d'.ss = d.ss) (h2 : d'.cd = d.cd) (h3 : d'.cl = d.cl) (hl : H.length ≤ H'.length) : SS0 d' H' := by
 rcases h with h | ⟨h, e0, D', e1, e2, e3, e4⟩
 · exact .inl (h1.trans h)
 · exact .inr ⟨h1.trans h, h3.trans e0, D', h2.trans e1, e2, Nat.le_trans e3 hl, e4⟩
def Mode (w : World) (F : Nat) (p : Ps) (d : DS) (H : List UInt8) (x : Cfg × List UInt8) : Prop :=
 match x with
 | (.next r, H') => d.err = .nilIface ∧ (d.step = fnV 74 ∧ H' = H ∧ r.ok d.src ∧ r.nb ≤ 22 ∧ d = d.put r ∧ SS0 d H ∨
  d.step = fnV 87 ∧ SS1 d H ∧ ∃ n : Nat, d.cl = n ∧ n ≤ 65535 ∧ d = d.put ⟨8 * d.pos, d.pos⟩ ∧ stRest d.src d.fin d.pos n H = (.next r, H'))
 | (.huff last r T D, H') => d.err = .nilIface ∧ d.step = fnV 82 ∧ d.fin = last ∧ r.ok d.src ∧ r.nb ≤ 22 ∧ d = d.put r ∧ Tabs w F d T D ∧
  (d.ss = 0 ∧ H' = H ∨ d.ss = 1 ∧ ∃ n D' : Nat, d.cl = n ∧ d.cd = D' ∧ n ≤ 258 ∧ 1 ≤ D' ∧ D' ≤ H.length ∧ D' ≤ 32768 ∧ H' = lz H D' n)
 | (.done e pos, H') => ErrV p e d.err ∧ H' = H ∧ d.pos = pos ∨
  d.err = .nilIface ∧ d.step = fnV 87 ∧ SS1 d H ∧ ∃ n : Nat, d.cl = n ∧ n ≤ 65535 ∧ d = d.put ⟨8 * d.pos, d.pos⟩ ∧ stRest d.src d.fin d.pos n H = (.done e pos, H')
def stepN : Value → Nat
 | .func (.func n) _ _ => if n = 87 then 1 else 0
 | _ => 0
def dmu (d : DS) : Nat := match d.err with
 | .nilIface => 2 * (8 * d.src.length + 1 - (8 * d.pos - d.nb)) + stepN d.step + 1
 | _ => 0
theorem mode_data {w : World} {F n : Nat} {p : Ps} {d : DS} {H : List UInt8} {x : Cfg × List UInt8} (h1 : d.err = .nilIface) (h2 : d.step = fnV 87) (h3 : d.cl = n) (h4 : n ≤ 65535)
 (h5 : d = d.put ⟨8 * d.pos, d.pos⟩) (h0 : SS1 d H) (h6 : stRest d.src d.fin d.pos n H = x) : Mode w F p d H x := by
 obtain ⟨c, Hf⟩ := x
 cases c with
 | next r => exact ⟨h1, .inr ⟨h2, h0, n, h3, h4, h5, h6⟩⟩
 | done e q => exact .inr ⟨h1, h2, h0, n, h3, h4, h5, h6⟩
 | huff l r T D =>
  exfalso
  unfold stRest more at h6; split at h6
  · cases hf : d.fin <;> rw [hf] at h6 <;> simp at h6
  · simp at h6
theorem dmu_nil {d : DS} (h : d.err = .nilIface) : dmu d = 2 * (8 * d.src.length + 1 - (8 * d.pos - d.nb)) + stepN d.step + 1 := by unfold dmu; rw [h]
theorem out_flush {d : DS} {H : List UInt8} {k : Nat} (hw : WinB d.g d.wr H) (hr : d.rd ≤ d.wr) (ho : Out d H k 0) (hful : d.full = true → 32768 ≤ H.length) (hn : d.full = false → H.length = d.wr) (d' : DS)
 (hd : d' = (if d.wr = 32768 then { d with wr := 0, rd := 0, full := true } else { d with rd := d.wr })) :
 Out { d' with toRead := .slice (some ⟨d.HB, d.rd, none⟩) (d.wr - d.rd) (32768 - d.rd) } H k (d.wr - d.rd) ∧ WinB d'.g d'.wr H ∧ d'.wr < 32768 ∧ d'.rd = d'.wr ∧ (d'.full = true → 32768 ≤ H.length) ∧ (d'.full = false → H.length = d'.wr) := by
 have hle := hw.le
 have heq := hw.eq
 have hs := ho.sum
 have key : ∀ j, j < d.wr - d.rd → d.g (d.rd + j) = H.getD (k + j) 0 := by
  intro j hj; have hi : k + j < H.length := by omega
  have hf : H.length ≤ k + j + 32768 := by omega
  rw [← hw.at_ _ hi hf]
  congr 1
  cases hfl : d.full with
  | true => have := hful hfl; omega
  | false => have := hn hfl; omega
 by_cases h : d.wr = 32768
 · rw [if_pos h] at hd; subst hd; refine ⟨⟨by simp only; omega, _, _, rfl, by omega, .inr ⟨d.rd, rfl, by omega, key⟩⟩, ?_, by simp only; omega, rfl, fun _ => ?_, fun e => Bool.noConfusion e⟩
   · simp only; rw [h] at hw; exact hw.round
   · cases hfl : d.full with
     | true => exact hful hfl
     | false => have := hn hfl; omega
 · rw [if_neg h] at hd; subst hd; exact ⟨⟨by simp only; omega, _, _, rfl, by omega, .inr ⟨d.rd, rfl, by omega, key⟩⟩, hw, by simp only; omega, rfl, hful, hn⟩
end Go.Proofs.YthfncdfcklbigaaGreatDoor
namespace Go.Proofs.YthfncdfcklbigaaGreatDoor
open Go.RowKit Go.IntWalk Flate
set_option maxRecDepth 100000
theorem bytesNewReader_any (w : World) (base : Option Addr) (n cap : Nat) :
 Calls Tryz.prog 25 #[.slice base n cap] w fun e w' => e = .returned (.pointer (some ⟨w.heap.size, 0, none⟩)) ∧ w.alloc (.cells #[.slice base n cap, .int .i64 0, .int .i64 (-1)] 77) = w' := by
 go_enter Tryz.func25, Tryz.ntmps25
 go_wp2
 go_ret
 exact ⟨rfl, rfl⟩
theorem newSrc {w : World} {base : Option Addr} {src : List UInt8} {cap : Nat} (hb : Bytes w base src) (hcap : src.length ≤ cap) (hlen : src.length ≤ 1099511627776) (hlt : ∀ a, base = some a → a.block < w.heap.size) :
 Src (w.alloc (.cells #[.slice base src.length cap, .int .i64 0, .int .i64 (-1)] 77)) w.heap.size base src 0 := by
 have hc : ∀ o, (w.alloc (.cells #[.slice base src.length cap, .int .i64 0, .int .i64 (-1)] 77)).cell? ⟨w.heap.size, o, none⟩ = (#[.slice base src.length cap, .int .i64 0, .int .i64 (-1)] : Array Value)[o]? := fun o => cells_at (heap_alloc_new w _)
 refine ⟨⟨cap, 0, src.length, 0, by omega, rfl, (hc 0).trans rfl, hcap, (hc 1).trans rfl, ?_, hlen⟩, ⟨_, (hc 2).trans rfl⟩, fun o => World.frozen?_alloc_new (w := w) .., Nat.zero_le _, hlen, fun a ha e => ?_⟩
 · have hb' := hb.keep (S := fun _ _ => False) ((Frm.refl _ _).alloc (.cells #[.slice base src.length cap, .int .i64 0, .int .i64 (-1)] 77)) (fun a ha j _ e => e)
   cases base with
   | none => exact ⟨hb', rfl⟩
   | some a => exact ⟨hb'.1, fun j hj => by rw [Nat.zero_add]; exact hb'.2 j hj⟩
 · have := hlt a ha; omega
theorem len_any (w : World) (R : Nat) (base : Option Addr) (src : List UInt8) (pos : Nat) (h : Src w R base src pos) :
 Calls Tryz.prog 29 #[.pointer (some ⟨R, 0, none⟩)] w fun e w' => e = .returned (.int .i64 ((src.length - pos : Nat) : Int)) ∧ ∃ n, w' = w.drewN n := by
 obtain ⟨⟨cap, off, N, Q, hNN, hQQ, hs, hcap, hi, _, hN2⟩, _, _, hle, hfew, _⟩ := h
 have hNQ : src.length - pos = N - Q := by omega
 have hQN : Q ≤ N := by omega
 rw [hNQ]
 clear hNN hQQ hNQ hle hfew
 by_cases hq : N ≤ Q
 · have e1 : N - Q = 0 := by omega
   rw [e1]; have hd : decide (N ≤ Q) = true := by simp; omega
   go_enter Tryz.func29, Tryz.ntmps29
   go_wp2_with fail
   (go_quiet (fail))
   go_wp2_with fail
   go_ret
   exact ⟨rfl, nq, rfl⟩
 · have hd : decide (N ≤ Q) = false := by simp; omega
   obtain ⟨q, hqq⟩ : ∃ q, q = N - Q := ⟨_, rfl⟩; rw [← hqq]; have b1 : (N : Int) ≤ 1099511627776 := by omega
   have b2 : (Q : Int) ≤ (N : Int) := by omega
   have e1 : IntKind.i64.wrap ((N : Int) - (Q : Int)) = (q : Int) := by
    rw [i64_in _ (by omega)]; omega
   have E1 := zHi e1; have HQ := zHi hqq; clear e1 hqq hq hQN hN2
   go_enter Tryz.func29, Tryz.ntmps29
   go_wp2_with fail
   (go_quiet (fail))
   go_wp2_with fail
   (go_quiet (fail))
   go_wp2_with fail
   go_ret
   refine ⟨?_, _, World.drewN_drewN _ _ _⟩; exact congrArg (fun z => Ending.returned (.int .i64 z)) (by have := HQ.out; omega : (N : Int) - (Q : Int) = (q : Int))
def RdPost (M : Nat → Prop) (FH : List UInt8) (I : Nat → World → Prop) (J : Value → World → Prop) (k BX L : Nat) (w : World) (e : Ending) (w' : World) : Prop :=
 ∃ (m : Nat) (errv : Value), e = .returned (.tuple #[.int .i64 (m : Int), errv]) ∧ m ≤ L ∧ Frm (fun b _ => M b ∨ b = BX) w w' ∧ (∀ j, j < m → w'.cell? ⟨BX, j, none⟩ = some (byteV (FH.getD (k + j) 0))) ∧
  (errv = .nilIface ∧ 1 ≤ m ∧ k + m ≤ FH.length ∧ I (k + m) w' ∨ ((∃ q, errv = errAt q) ∨ ∃ x : Nat, errv = corruptAt x) ∧ k + m = FH.length ∧ J errv w')
structure NewBuf (w : World) (N0 BX L : Nat) : Prop where
 lo : N0 ≤ BX
 cell : ∀ j, j < L → ∃ u : UInt8, w.cell? ⟨BX, j, none⟩ = some (byteV u)
 all : ByteBlock w BX
 froz : ∀ j, w.frozen? ⟨BX, j, none⟩ = false
structure Reader (T fn F N0 : Nat) (M : Nat → Prop) (FH : List UInt8) (I : Nat → World → Prop) (J : Value → World → Prop) : Prop where
 meth : ∀ (n : Nat) (a : Addr) (w : World), (method (n + 1) T (.pointer (some a)) "Read").run Tryz.prog w = .ok (fn, .pointer (some a)) w
 enter : ∀ (args : Array Value) (w : World), (callFunc fn args).run Tryz.prog w = .ok (.enter fn args) w
 low : ∀ b, M b → b < N0
 read : ∀ (k : Nat) (w : World) (BX L cap : Nat), I k w → NewBuf w N0 BX L → 1 ≤ L → L ≤ 1048576 → Calls Tryz.prog fn #[.pointer (some ⟨F, 0, none⟩), .slice (some ⟨BX, 0, none⟩) L cap] w (RdPost M FH I J k BX L w)
 keep : ∀ (k : Nat) (w w' : World), I k w → Frm (fun b _ => N0 ≤ b ∧ ByteBlock w b) w w' → I k w'
 keepJ : ∀ (v : Value) (w w' : World), J v w → Frm (fun b _ => N0 ≤ b ∧ ByteBlock w b) w w' → J v w'
abbrev SBy' (w : World) (N0 : Nat) (b _ : Nat) : Prop := N0 ≤ b ∧ ByteBlock w b
def Sizes (w : World) (N0 : Nat) (M : Nat → Prop) (v : Value) : Prop :=
 (∃ zb zc, v = .slice zb 0 zc) ∨ ∃ SB so ln cap, v = .slice (some ⟨SB, so, none⟩) ln cap ∧ 1 ≤ ln ∧ ln ≤ 2147483647 ∧ SB < N0 ∧ ¬ M SB ∧ ∀ j, j < ln → ∃ u : Nat, 1 ≤ u ∧ u ≤ 1000 ∧ w.cell? ⟨SB, so + j, none⟩ = some (.int .i64 (u : Int))
def Drained (N0 : Nat) (M : Nat → Prop) (FH : List UInt8) (k0 : Nat) (J : Value → World → Prop) (w : World) (e : Ending) (w' : World) : Prop :=
 ∃ v errv, e = .returned (.tuple #[v, errv]) ∧ Own w' N0 v (FH.drop k0) ∧ J errv w' ∧ ((∃ q, errv = errAt q) ∨ ∃ x : Nat, errv = corruptAt x) ∧ Frm (fun b _ => M b) w w'
theorem run_head (BX L m : Nat) (hm : m ≤ L) (w : World) : (Instr.sliceAt 22 (.slice (some ⟨BX, 0, none⟩) L L) none (some (.int .i64 (m : Int))) none).run Tryz.prog w = .ok (.slice (some ⟨BX, 0, none⟩) m L) w := by
 have hsz : ∀ w : World, (sizeOf (Tryz.prog.elem 22)).run Tryz.prog w = .ok 1 w := fun w => by kernel_rfl
 have hu : Tryz.prog.underlying 22 = some (.slice (Tryz.prog.elem 22)) := by kernel_rfl
 rw [run_sliceAt_slice w _ _ _ _ _ hu, run_slice_h w _ _ _ _ hu _ _ (by omega) (by omega), hsz]
 simp only [Result.andThen, sliced, Int.toNat_natCast, Nat.sub_zero]
 by_cases h : L = 0
 · rw [if_pos h]
 · rw [if_neg h]; simp [Addr.add]
def DrInv (N0 : Nat) (M : Nat → Prop) (FH : List UInt8) (k0 : Nat) (I : Nat → World → Prop) (w : World) (g : Nat) (out i : Value) (wr : World) : Prop :=
 ∃ k n : Nat, k0 ≤ k ∧ k ≤ FH.length ∧ n ≤ k ∧ g = FH.length + 1 - k ∧ i = .int .i64 (n : Int) ∧ Own wr N0 out ((FH.drop k0).take (k - k0)) ∧ I k wr ∧ Frm (fun b _ => M b) w wr
theorem take_more (l : List UInt8) (a m : Nat) (h : a + m ≤ l.length) : l.take a ++ (List.range m).map (fun j => l.getD (a + j) 0) = l.take (a + m) := by
 apply List.ext_getElem
 · simp; omega
 · intro i h1 h2; simp only [List.length_append, List.length_take, List.length_map, List.length_range] at h1
   by_cases hi : i < a
   · rw [List.getElem_append_left (by simp; omega)]; simp
   · rw [List.getElem_append_right (by simp; omega)]
     simp only [List.getElem_map, List.getElem_range, List.length_take, List.getElem_take]; rw [List.getD_eq_getElem?_getD, List.getElem?_eq_getElem (by omega)]
     simp only [Option.getD_some]
     congr 1; omega
end Go.Proofs.YthfncdfcklbigaaGreatDoor
namespace Go.Proofs.YthfncdfcklbigaaGreatDoor
open Go.RowKit Flate
set_option maxRecDepth 100000
structure WSame (d d' : DS) : Prop where
 g : d'.g = d.g
 wr : d'.wr = d.wr
 rd : d'.rd = d.rd
 full : d'.full = d.full
 toRead : d'.toRead = d.toRead
def SW1 (F C : Nat) (S : Nat → Nat → Prop) : Prop := ∀ b o, S b o → C ≤ b ∧ (b = F → o < 5 ∨ 1035 ≤ o)
theorem St.of {S : Nat → Nat → Prop} {w w' : World} {F C : Nat} {p : Ps} {d d' : DS} {H : List UInt8} {k n : Nat} (h : St w F C p d H k n) (hD : Dec w' F d') (hf : Frm S w w') (hS : SW1 F C S) (hs : Same d d') (hw : WSame d d') : St w' F C p d' H k n := by
 have hb : ∀ b o, S b o → C ≤ b := fun b o x => (hS b o x).1
 have hp : ∀ x, 5 ≤ x → x < 1035 → ¬ S F x := fun x h1 h2 e => by have := (hS F x e).2 rfl; omega
 refine ⟨h.env.keep hf hb, h.cF, by rw [hs.R]; exact h.cR, by rw [hs.HB]; exact h.cH, by rw [hs.BB]; exact h.cB, by rw [hs.CB]; exact h.cC, hD, by rw [hw.g, hw.wr]; exact h.win, by rw [hw.rd, hw.wr]; exact h.rd, by rw [hw.rd]; exact h.rd2,
  by rw [hw.full]; exact h.ful, by rw [hw.full, hw.wr]; exact h.nful, ?_, h.pre1.keep hf (fun x a b => hp x a (by omega)), h.pre2.keep hf (fun x a b => hp x (by omega) (by omega))⟩
 obtain ⟨o1, base, cap, o2, o3, o4⟩ := h.out
 exact ⟨by rw [hw.wr, hw.rd]; exact o1, base, cap, by rw [hw.toRead]; exact o2, o3, by rw [hs.HB, hw.g]; exact o4⟩
def DS.flushed (d : DS) : DS := if d.wr = 32768 then { d with wr := 0, rd := 0, full := true } else { d with rd := d.wr }
theorem flushed_same (d : DS) : Same d d.flushed ∧ d.flushed.pos = d.pos ∧ d.flushed.g = d.g := by
 unfold DS.flushed; split <;> exact ⟨⟨rfl, rfl, rfl, rfl, rfl, rfl⟩, rfl, rfl⟩
theorem flushed_more (d : DS) : d.flushed.err = d.err ∧ d.flushed.fin = d.fin ∧ d.flushed.cl = d.cl ∧ d.flushed.b = d.b ∧ d.flushed.nb = d.nb ∧ d.flushed.roff = d.roff ∧ d.flushed.ss = d.ss ∧ d.flushed.cd = d.cd ∧ d.flushed.hl = d.hl ∧ d.flushed.hd = d.hd ∧ d.flushed.step = d.step := by
 unfold DS.flushed; split <;> exact ⟨rfl, rfl, rfl, rfl, rfl, rfl, rfl, rfl, rfl, rfl, rfl⟩
theorem put_edge {d : DS} {q : Nat} (h1 : d.b = 0) (h2 : d.nb = 0) (h3 : d.roff = q) (h4 : d.pos = q) : d = d.put ⟨8 * q, q⟩ := by
 have e1 : (⟨8 * q, q⟩ : Br).nb = 0 := by unfold Br.nb; simp only; omega
 have e2 : (⟨8 * q, q⟩ : Br).b d.src = 0 := by unfold Br.b; rw [e1, bv_zero]
 unfold DS.put
 rw [e1, e2]
 cases d
 simp only at h1 h2 h3 h4
 subst h1 h2 h3 h4
 rfl
theorem St.flush {S : Nat → Nat → Prop} {w w' : World} {F C : Nat} {p : Ps} {d d' : DS} {H : List UInt8} {k : Nat} (h : St w F C p d H k 0) (hD : Dec w' F d') (hf : Frm S w w') (hS : SW1 F C S)
 (hs : Same d d') (hg : d'.g = d.g) (hw : d'.wr = d.flushed.wr) (hr : d'.rd = d.flushed.rd) (hfu : d'.full = d.flushed.full) (ht : d'.toRead = .slice (some ⟨d.HB, d.rd, none⟩) (d.wr - d.rd) (32768 - d.rd)) :
 St w' F C p d' H k (d.wr - d.rd) ∧ d'.wr < 32768 ∧ d'.rd = d'.wr := by
 have hb : ∀ b o, S b o → C ≤ b := fun b o x => (hS b o x).1
 have hp : ∀ x, 5 ≤ x → x < 1035 → ¬ S F x := fun x h1 h2 e => by have := (hS F x e).2 rfl; omega
 obtain ⟨o, w1, w2, w3, f1, f2⟩ := out_flush h.win h.rd h.out h.ful h.nful d.flushed rfl
 obtain ⟨o1, base, cap, o2, o3, o4⟩ := o
 have hg2 := (flushed_same d).2.2
 refine ⟨⟨h.env.keep hf hb, h.cF, by rw [hs.R]; exact h.cR, by rw [hs.HB]; exact h.cH, by rw [hs.BB]; exact h.cB, by rw [hs.CB]; exact h.cC, hD, by rw [hg, hw, ← hg2]; exact w1, by rw [hr, hw]; omega, by rw [hr]; omega,
  by rw [hfu]; exact f1, by rw [hfu, hw]; exact f2, ⟨by rw [hw, hr]; exact o1, base, cap, by rw [ht]; exact o2, o3, ?_⟩, h.pre1.keep hf (fun x a b => hp x a (by omega)), h.pre2.keep hf (fun x a b => hp x (by omega) (by omega))⟩, by rw [hw]; exact w2, by rw [hw, hr]; exact w3⟩
 rw [hs.HB, hg, ← hg2, ← (flushed_same d).1.HB]; exact o4
def FinPost (w : World) (F C : Nat) (p : Ps) (d : DS) (H : List UInt8) (k : Nat) (r : Br) (e : Ending) (w' : World) : Prop :=
 e = .returned (.tuple #[]) ∧ ∃ d' n', St w' F C p d' H k n' ∧ Mode w' F p d' H (more d.fin r, H) ∧ Same d d' ∧ (d'.wr < 32768 ∧ (0 < n' → d'.rd = d'.wr)) ∧ dmu d' ≤ 2 * (8 * d.src.length + 1 - r.at_) + 1 ∧ Frm (fun b o => b = F ∧ 1037 ≤ o) w w'
set_option maxHeartbeats 1000000 in
theorem finishBlock_any (w : World) (F C : Nat) (p : Ps) (d : DS) (H : List UInt8) (k n : Nat) (r : Br) (h : St w F C p d H k n) (hd : d = d.put r) (hr : r.ok d.src) (hnb : r.nb ≤ 22) (he : d.err = .nilIface) (hw : d.wr < 32768)
 (hn : n = 0 ∨ d.wr = d.rd) (hs0 : SS0 d H) : Calls Tryz.prog 86 #[.pointer (some ⟨F, 0, none⟩)] w (FinPost w F C p d H k r) := by
 have c47 := h.dec.fin
 have f45 := h.dec.fr 1045
 have c45 := h.dec.step
 have hrd := h.rd
 have HH := zHi h
 have HD := zHi hd
 have HSS := zHi hs0
 have HN := zHi hn
 clear hs0
 cases hfin : d.fin with
 | false =>
  rw [hfin] at c47; have HFI := zHi hfin; clear h hd hfin
  go_enter Tryz.func86, Tryz.ntmps86
  go_wp2_with fail
  go_end0
  have hf : Frm (fun b o => b = F ∧ 1037 ≤ o) w (w.setCell ⟨F, 1045, none⟩ (fnV 74)) := by (repeat (first | exact Frm.refl _ _ | refine Frm.drewN ?_ _ | refine Frm.drew ?_ | refine Frm.alloc ?_ _ | refine Frm.setCell ?_ (by simp) _))
  refine ⟨rfl, { d with step := fnV 74 }, n, HH.out.of (HH.out.dec.set_step _) hf ?_ ⟨rfl, rfl, rfl, rfl, rfl, rfl⟩ ⟨rfl, rfl, rfl, rfl, rfl⟩, ?_, ⟨rfl, rfl, rfl, rfl, rfl, rfl⟩, ⟨hw, fun q => HN.out.elim (fun e => by omega) (fun e => e.symm)⟩, ?_, hf⟩
  · rintro b o ⟨rfl, e⟩; exact ⟨HH.out.cF, fun _ => by omega⟩
  · rw [HFI.out]; refine ⟨he, .inl ⟨rfl, rfl, hr, hnb, ?_, HSS.out⟩⟩; have := HD.out
    conv => lhs; rw [this]
    rfl
  · refine Nat.le_trans (Nat.le_of_eq (dmu_nil he)) ?_; have h1 : d.pos = r.pos := congrArg DS.pos HD.out; have h2 : d.nb = r.nb := congrArg DS.nb HD.out; have h3 := hr.1
    show 2 * (8 * d.src.length + 1 - (8 * d.pos - d.nb)) + 0 + 1 ≤ _
    rw [h1, h2]; unfold Br.nb; omega
 | true =>
  rw [hfin] at c47; have HFI := zHi hfin; clear h hd hfin
  go_enter Tryz.func86, Tryz.ntmps86
  go_wp2_with fail
  refine (availRead_any w F d HH.out.dec (by omega) hrd).mono ?_
  rintro e w1 ⟨rfl, m, rfl⟩; have cE := HH.out.env.eof; have c48 := HH.out.dec.err; have f48 := HH.out.dec.fr 1048
  by_cases hq : d.rd < d.wr
  · have e1 : (0 : Int) < (d.wr : Int) - (d.rd : Int) := by omega
    go_wp2_with fail
    refine (readFlush_any _ F d (HH.out.dec.drewN m) (by omega) hrd HH.out.rd2).mono ?_
    rintro e w2 ⟨rfl, hD2, hf2⟩; rw [show (if d.wr = 32768 then { d with wr := 0, rd := 0, full := true } else { d with rd := d.wr } : DS) = d.flushed from rfl] at hD2
    have hf3 : Frm (fun b o => b = F ∧ 1037 ≤ o) w w2 := (((Frm.refl _ _).drewN m).trans (hf2.mono fun b o e => ⟨e.1, by omega⟩))
    have cE2 := hf3.keep cE (fun e => by have := HH.out.cF; have := HH.out.env.g; omega)
    have d49 := hD2.toRead; have d48 := hD2.err; have d45 := hD2.step; have g49 := hD2.fr 1049; have g48 := hD2.fr 1048; have g45 := hD2.fr 1045; have hF9 : ¬ F = 0 := by have := HH.out.cF; have := HH.out.env.g; omega
    clear c45 c47 c48 f45 f48 cE; go_wp2_with fail
    go_end0
    obtain ⟨w3, hw3⟩ : ∃ w3, w3 = ((w2.setCell ⟨F, 1049, none⟩ (.slice (some ⟨d.HB, d.rd, none⟩) (d.wr - d.rd) (32768 - d.rd))).setCell ⟨F, 1048, none⟩ (errAt p.E)).setCell ⟨F, 1045, none⟩ (fnV 74) := ⟨_, rfl⟩; have hf4 : Frm (fun b o => b = F ∧ 1037 ≤ o) w2 w3 := by rw [hw3]; (repeat (first | exact Frm.refl _ _ | refine Frm.drewN ?_ _ | refine Frm.drew ?_ | refine Frm.alloc ?_ _ | refine Frm.setCell ?_ (by simp) _))
    have hD4 := ((hD2.set_toRead (.slice (some ⟨d.HB, d.rd, none⟩) (d.wr - d.rd) (32768 - d.rd))).set_err (errAt p.E)).set_step (fnV 74); rw [← hw3] at hD4 ⊢; have hn0 : n = 0 := by omega
    have h0 := HH.out; rw [hn0] at h0; obtain ⟨fs, fp, fg⟩ := flushed_same d; obtain ⟨g1, g2, g3⟩ := h0.flush hD4 (hf3.trans hf4) (by rintro b o ⟨rfl, e⟩; exact ⟨HH.out.cF, fun _ => by omega⟩) ⟨fs.R, fs.base, fs.src, fs.BB, fs.CB, fs.HB⟩ fg rfl rfl rfl rfl
    refine ⟨rfl, _, _, g1, ?_, ⟨fs.R, fs.base, fs.src, fs.BB, fs.CB, fs.HB⟩, ⟨g2, fun _ => g3⟩, Nat.zero_le _, hf3.trans hf4⟩
    rw [HFI.out]; refine .inl ⟨rfl, rfl, ?_⟩
    show d.flushed.pos = r.pos
    rw [fp, HD.out]; rfl
  · have e1 : ¬ (0 : Int) < (d.wr : Int) - (d.rd : Int) := by omega
    have hF9 : ¬ F = 0 := by have := HH.out.cF; have := HH.out.env.g; omega
    go_wp2_with fail
    go_end0
    obtain ⟨w3, hw3⟩ : ∃ w3, w3 = ((w.drewN m).setCell ⟨F, 1048, none⟩ (errAt p.E)).setCell ⟨F, 1045, none⟩ (fnV 74) := ⟨_, rfl⟩; have hf4 : Frm (fun b o => b = F ∧ 1037 ≤ o) w w3 := by rw [hw3]; (repeat (first | exact Frm.refl _ _ | refine Frm.drewN ?_ _ | refine Frm.drew ?_ | refine Frm.alloc ?_ _ | refine Frm.setCell ?_ (by simp) _))
    have hD4 := ((HH.out.dec.drewN m).set_err (errAt p.E)).set_step (fnV 74); rw [← hw3] at hD4 ⊢; refine ⟨rfl, _, n, HH.out.of hD4 hf4 (by rintro b o ⟨rfl, e⟩; exact ⟨HH.out.cF, fun _ => by omega⟩) ⟨rfl, rfl, rfl, rfl, rfl, rfl⟩ ⟨rfl, rfl, rfl, rfl, rfl⟩, ?_, ⟨rfl, rfl, rfl, rfl, rfl, rfl⟩, ⟨hw, fun _ => show d.rd = d.wr by omega⟩, Nat.zero_le _, hf4⟩
    rw [HFI.out]; refine .inl ⟨rfl, rfl, ?_⟩
    show d.pos = r.pos
    rw [HD.out]; rfl
attribute [local go_sem] meth_Read
def ReadPost (w : World) (R : Nat) (base : Option Addr) (src : List UInt8) (pos X xo k : Nat) (w' : World) : Prop :=
 Src w' R base src (pos + k) ∧ Frm (fun b o => b = R ∨ b = X ∧ xo ≤ o ∧ o < xo + k) w w' ∧ ∀ j, j < k → w'.cell? ⟨X, xo + j, none⟩ = some (.int .u8 ((src.getD (pos + j) 0).toNat : Int))
set_option maxHeartbeats 1000000 in
theorem read_some (w : World) (R : Nat) (sb so : Nat) (src : List UInt8) (pos X xo n cap k : Nat) (h : Src w R (some ⟨sb, so, none⟩) src pos) (hp : pos < src.length) (hk : k = Nat.min (src.length - pos) n) (hXR : X ≠ R) (hXS : X ≠ sb)
 (hc : ∀ j, j < n → (w.cell? ⟨X, xo + j, none⟩).isSome = true) (hf : ∀ j, j < n → w.frozen? ⟨X, xo + j, none⟩ = false) :
 Calls Tryz.prog 115 #[.pointer (some ⟨R, 0, none⟩), .slice (some ⟨X, xo, none⟩) n cap] w fun e w' =>
  e = .returned (.tuple #[.int .i64 (k : Int), .nilIface]) ∧ ReadPost w R (some ⟨sb, so, none⟩) src pos X xo k w' := by
 have hkn : k ≤ n := by rw [hk]; exact Nat.min_le_right _ _
 have hks : k ≤ src.length - pos := by rw [hk]; exact Nat.min_le_left _ _
 have h' := h
 obtain ⟨⟨scap, off, N, Q, hNN, hQQ, hs, hcap, hi, hB, hN2⟩, ⟨v, hv⟩, hfr, hle, hfew, hne⟩ := h
 have hNQ : N - Q = src.length - pos := by omega
 have hn := hne _ rfl
 simp only at hn
 obtain ⟨w1, hw1⟩ : ∃ w1, w1 = w.setCell ⟨R, 2, none⟩ (.int .i64 (-1)) := ⟨_, rfl⟩
 have hF1 : Frm (fun b _ => b = R) w w1 := by rw [hw1]; (repeat (first | exact Frm.refl _ _ | refine Frm.drewN ?_ _ | refine Frm.drew ?_ | refine Frm.alloc ?_ _ | refine Frm.setCell ?_ (by simp) _))
 have hXlt : ∀ j, j < n → X < w.heap.size := fun j hj => by obtain ⟨u, hu⟩ := Option.isSome_iff_exists.1 (hc j hj); exact cell_lt hu
 have hcopy : ∃ w2, (∀ m ty, (Builtin.copy_ #[22, 22] ty #[.slice (some ⟨X, xo, none⟩) n cap, .slice (some ⟨sb, so + Q, none⟩) (N - Q) (scap - Q)]).run Tryz.prog (w1.drewN m) = .ok (.int .i64 (k : Int)) (w2.drewN m)) ∧
  Frm (fun x y => x = X ∧ xo ≤ y ∧ y < xo + k) w1 w2 ∧ ∀ j, j < k → w2.cell? ⟨X, xo + j, none⟩ = some (.int .u8 ((src.getD (pos + j) 0).toNat : Int)) := by
  refine copy_bytes w1 X xo n cap ⟨sb, so + Q, none⟩ (N - Q) (scap - Q) k (fun j => src.getD (pos + j) 0) (by rw [hNQ]; exact hk) (fun j hj => ?_) (fun j hj => ?_) (fun j hj => ?_)
  · have e : (⟨sb, so + Q, none⟩ : Addr).add j = ⟨sb, so + (off + (pos + j)), none⟩ := by rw [Addr.add_lit, hQQ]; simp only [Nat.add_assoc]
    rw [e]; have := hB.2 (pos + j) (by omega)
    refine hF1.keep (this.trans ?_) hn; simp [List.getD_eq_getElem?_getD, List.getElem?_eq_getElem (show pos + j < src.length by omega)]
  · exact (hF1.live _ _ (hXlt j (by omega))).trans (hc j (by omega))
  · exact (hF1.froz _ _ (hXlt j (by omega))).trans (hf j (by omega))
 obtain ⟨w2, hrun, hF2, hcells⟩ := hcopy
 have HB := zHi hB
 have HN := zHi hne
 have f1 := hfr 1
 have f2 := hfr 2
 have h1 : (Q : Int) < (N : Int) := by omega
 have h2 : (Q : Int) ≤ (N : Int) := by omega
 have h3 : Q ≤ N := by omega
 have h4 : ¬ scap = Q := by omega
 have h5 : (k : Int) ≤ 1099511627776 := by omega
 have h6 : (Q : Int) ≤ 1099511627776 := by omega
 have h7 : (N : Int) ≤ 1099511627776 := by omega
 have hd : decide (N ≤ Q) = false := by simp; omega
 have HQ := zHi (zAi hNN (zAi hQQ hN2))
 clear hNQ hNN hQQ hN2
 have HK := zHi hk
 clear hle hB hne hk hkn
 go_enter Tryz.func115, Tryz.ntmps115
 go_wp2_with fail
 (go_quiet (fail))
 go_upto_region 4 with (fail)
 (refine region_tail 10 (by kernel_rfl) (by kernel_rfl) ?_; simp only [List.take_succ_cons, List.take_zero, List.drop_succ_cons, List.drop_zero]; (repeat still_step); refine wpStill_nil ?_)
 have hrun' : ∀ m ty, (Builtin.copy_ #[22, 22] ty #[.slice (some ⟨X, xo, none⟩) n cap, .slice (some ⟨sb, so + Q, none⟩) (N - Q) (scap - Q)]).run Tryz.prog (w1.drewN m).drew = .ok (.int .i64 (k : Int)) (w2.drewN m).drew := fun m ty => hrun (m + 1) ty
 rw [hw1] at hrun'
 refine wpList_copy_run (by rfl) _ _ _ _ (by rfl) (by rfl) (by rfl) (hrun' _) ?_
 have hRX : ¬ (R = X ∧ xo ≤ 1 ∧ 1 < xo + k) := fun e => hXR e.1.symm
 have c1 : w2.cell? ⟨R, 1, none⟩ = some (.int .i64 (Q : Int)) := hF2.keep (by rw [hw1]; exact (cell_set_off (by decide)).trans hi) hRX
 have g1 : w2.frozen? ⟨R, 1, none⟩ = false := (hF2.froz R 1 (Nat.lt_of_lt_of_le (cell_lt hi) hF1.size)).trans ((hF1.froz R 1 (cell_lt hi)).trans f1)
 have hS1 : Src w1 R (some ⟨sb, so, none⟩) src pos := ⟨⟨scap, off, N, Q, HQ.out.1, HQ.out.2.1, by rw [hw1]; exact (cell_set_off (by decide)).trans hs, hcap, by rw [hw1]; exact (cell_set_off (by decide)).trans hi,
  HB.out.keep hF1 (fun a ha _ _ x => HN.out a ha x), HQ.out.2.2⟩, ⟨.int .i64 (-1), by rw [hw1]; exact set_get hv⟩, fun o => by rw [hw1, World.frozen?_setCell]; exact hfr o, by omega, hfew, HN.out⟩
 have hS2 : Src w2 R (some ⟨sb, so, none⟩) src pos := hS1.keep hF2 (fun o e => hXR e.1.symm) (fun a ha j _ e => hXS (by injection ha with ha; rw [← ha] at e; exact e.1.symm))
 have HR := zHi hrun
 clear hrun hrun' hs hi hv f1 f2 hfr hRX hS1
 go_wp2_with fail
 go_ret2
 refine ⟨rfl, ?_, ?_, fun j hj => ?_⟩
 · refine (hS2.drewN _).step (q := pos + k) (fun Q' off' g1 g2 => ?_) (by omega)
   have g3 := Option.some.inj (g2.symm.trans c1); injection g3 with _ g4; omega
 · have hF3 : Frm (fun b o => b = R ∨ b = X ∧ xo ≤ o ∧ o < xo + k) w w2 := (hF1.mono fun b o e => .inl e).trans (hF2.mono fun b o e => .inr e)
   (repeat (first | exact hF3 | refine Frm.drewN ?_ _ | refine Frm.drew ?_ | refine Frm.alloc ?_ _ | refine Frm.setCell ?_ (by simp) _))
 · exact (cell_set_ne (.inl hXR)).trans (hcells j hj)
set_option maxHeartbeats 1000000 in
theorem read_end (w : World) (R : Nat) (base : Option Addr) (src : List UInt8) (v : Value) (B : Nat) (p : Ps) (h : Src w R base src src.length) (he : Env w B p) :
 Calls Tryz.prog 115 #[.pointer (some ⟨R, 0, none⟩), v] w fun e w' => e = .returned (.tuple #[.int .i64 0, errAt p.E]) ∧ ∃ n, w' = w.drewN n := by
 obtain ⟨⟨cap, off, N, Q, hNN, hQQ, hs, hcap, hi, hB, hN2⟩, ⟨u, hv⟩, hfr, hle, hfew, hne⟩ := h
 have hNQ : Q = N := by omega
 subst hNQ
 have hg := he.eof
 have h2 : (Q : Int) ≤ 1099511627776 := by omega
 clear hle hB hne he hv hfr hcap hNN hQQ hN2
 have hd : decide (Q ≤ Q) = true := by simp
 go_enter Tryz.func115, Tryz.ntmps115
 go_wp2_with fail
 (go_quiet (fail))
 go_wp2_with fail
 (go_quiet (fail))
 go_wp2_with fail
 go_ret2
 exact ⟨rfl, _, by rw [World.drewN_drewN]⟩
theorem ahead_Read (n : Nat) (a : Addr) (w : World) : (nilAhead (n + 1) 48 (.pointer (some a)) "Read").run Tryz.prog w = .ok (some false) w := by kernel_rfl
attribute [local go_sem] ahead_Read
def FullPost (p : Ps) (w : World) (R : Nat) (base : Option Addr) (src : List UInt8) (pos X xo n : Nat) (e : Ending) (w' : World) : Prop :=
 ∃ k : Nat, k = Nat.min (src.length - pos) n ∧ e = .returned (.tuple #[.int .i64 (k : Int), if k = n then .nilIface else if k = 0 then errAt p.E else errAt p.U]) ∧ ReadPost w R base src pos X xo k w'
def RAInv (p : Ps) (w : World) (R : Nat) (base : Option Addr) (src : List UInt8) (pos X xo n : Nat) (nv ev : Value) (wr : World) : Prop :=
 ∃ k : Nat, nv = .int .i64 (k : Int) ∧ ReadPost w R base src pos X xo k wr ∧ ((ev = .nilIface ∧ k = 0) ∨ (ev = .nilIface ∧ 1 ≤ k ∧ k = Nat.min (src.length - pos) n) ∨ (ev = errAt p.E ∧ k = Nat.min (src.length - pos) n ∧ k < n))
def raMu : Value → Value → Nat
 | n, .nilIface => if intOf n = 0 then 2 else 1
 | _, _ => 0
theorem ReadPost.zero {w : World} {R : Nat} {base : Option Addr} {src : List UInt8} {pos : Nat} (h : Src w R base src pos) (X xo : Nat) : ReadPost w R base src pos X xo 0 w := ⟨h, Frm.refl _ _, fun j hj => absurd hj (by omega)⟩
theorem min_cases (a b : Nat) : Nat.min a b ≤ a ∧ Nat.min a b ≤ b ∧ (Nat.min a b = a ∨ Nat.min a b = b) := by
 rcases Nat.le_total a b with h | h
 · rw [show Nat.min a b = a from Nat.min_eq_left h]; omega
 · rw [show Nat.min a b = b from Nat.min_eq_right h]; omega
theorem ReadPost.drewN {w wr : World} {R : Nat} {base : Option Addr} {src : List UInt8} {pos X xo k : Nat} (h : ReadPost w R base src pos X xo k wr) (n : Nat) : ReadPost w R base src pos X xo k (wr.drewN n) := ⟨h.1.drewN n, h.2.1.drewN n, h.2.2⟩
theorem ReadPost.then {w wr w1 : World} {R : Nat} {base : Option Addr} {src : List UInt8} {pos X xo k k1 : Nat} (h : ReadPost w R base src pos X xo k wr) (h1 : ReadPost wr.drew R base src (pos + k) X (xo + k) k1 w1) (hXR : X ≠ R) : ReadPost w R base src pos X xo (k + k1) w1 := by
 obtain ⟨a1, a2, a3⟩ := h
 obtain ⟨b1, b2, b3⟩ := h1
 refine ⟨by rw [← Nat.add_assoc]; exact b1, ?_, fun j hj => ?_⟩
 · have f1 : Frm (fun b o => b = R ∨ b = X ∧ xo ≤ o ∧ o < xo + (k + k1)) w wr := a2.mono fun b o e => e.elim Or.inl (fun e => .inr ⟨e.1, e.2.1, by omega⟩)
   have f2 : Frm (fun b o => b = R ∨ b = X ∧ xo ≤ o ∧ o < xo + (k + k1)) wr.drew w1 := b2.mono fun b o e => e.elim Or.inl (fun e => .inr ⟨e.1, by omega, by omega⟩)
   exact f1.drew.trans f2
 · by_cases hjk : j < k
   · have := a3 j hjk; exact b2.keep (w := wr.drew) this (fun e => e.elim hXR (fun e => by omega))
   · have := b3 (j - k) (by omega)
     rw [show xo + k + (j - k) = xo + j by omega, show pos + k + (j - k) = pos + j by omega] at this
     exact this
set_option maxHeartbeats 2000000 in
theorem readAtLeast_any (w : World) (R : Nat) (base : Option Addr) (src : List UInt8) (pos X xo n cap B : Nat) (p : Ps) (h : Src w R base src pos) (he : Env w B p) (hRB : B ≤ R) (hXB : B ≤ X) (hn : 1 ≤ n) (hn2 : n ≤ 32768) (hcap : n ≤ cap)
 (hXR : X ≠ R) (hXS : ∀ a, base = some a → X ≠ a.block) (hc : ∀ j, j < n → (w.cell? ⟨X, xo + j, none⟩).isSome = true) (hf : ∀ j, j < n → w.frozen? ⟨X, xo + j, none⟩ = false) :
 Calls Tryz.prog 71 #[.iface 48 (.pointer (some ⟨R, 0, none⟩)), .slice (some ⟨X, xo, none⟩) n cap, .int .i64 (n : Int)] w (FullPost p w R base src pos X xo n) := by
 have b1 : (n : Int) ≤ 32768 := by omega
 have b2 : (1 : Int) ≤ (n : Int) := by omega
 go_enter Tryz.func71, Tryz.ntmps71
 go_wp2_with fail
 go_loopw [6, 7] (fun nv ev wr => RAInv p w R base src pos X xo n nv ev wr) (fun nv ev _ => raMu nv ev)
 case atStart => exact ⟨0, rfl, ReadPost.zero h X xo, .inl ⟨rfl, rfl⟩⟩
 case round =>
  obtain ⟨k, rfl, hP, hs⟩ := hrel; obtain ⟨m1, m2, m3⟩ := min_cases (src.length - pos) n; have hXlt : X < w.heap.size := by obtain ⟨u, hu⟩ := Option.isSome_iff_exists.1 (hc 0 (by omega)); exact cell_lt hu
  have hkn : k ≤ n := by omega
  have hle := hP.1.le; have he' : Env wr B p := he.keep hP.2.1 (fun b o e => by omega)
  have HM := zHi m3; have HS := zHi hs; have HP := zHi hP; have HE := zHi he'
  by_cases hlt : k < n
  · by_cases hend : u7 = .nilIface
    · subst hend; have e1 : (k : Int) < (n : Int) := by omega
      have e2 : (k : Int) ≤ (n : Int) := by omega
      have e3 : k ≤ n := by omega
      have e4 : ¬ cap = k := by omega
      have e5 : (k : Int) ≤ 32768 := by omega
      have hcS : ∀ j, j < n - k → (wr.cell? ⟨X, xo + k + j, none⟩).isSome = true := fun j hj => by
       rw [hP.2.1.live X _ hXlt]; have := hc (k + j) (by omega); rwa [show xo + (k + j) = xo + k + j by omega] at this
      have hfS : ∀ j, j < n - k → wr.frozen? ⟨X, xo + k + j, none⟩ = false := fun j hj => by
       rw [hP.2.1.froz X _ hXlt]; have := hf (k + j) (by omega); rwa [show xo + (k + j) = xo + k + j by omega] at this
      have HC := zHi hcS; have HF := zHi hfS; clear hs hcS hfS hP he' m3
      by_cases hp : pos + k < src.length
      · obtain ⟨sb, so, hb⟩ := HP.out.1.at_some hp; subst hb; obtain ⟨k1, hk1⟩ : ∃ k1, k1 = Nat.min (src.length - (pos + k)) (n - k) := ⟨_, rfl⟩; obtain ⟨q1, q2, q3⟩ := min_cases (src.length - (pos + k)) (n - k); rw [← hk1] at q1 q2 q3; have HRd := zHi (read_some wr.drew R sb so src (pos + k) X (xo + k) (n - k) (cap - k) k1 HP.out.1.drew hp hk1 hXR (hXS _ rfl) HC.out HF.out); have HQ := zHi q3; have HK := zHi hk1; have q4 : (k1 : Int) ≤ 32768 := by omega
        clear q3 hk1; go_upto_region 5 with (fail)
        go_region_with (go_at_call 115; refine HRd.out.mono ?_; rintro e w1 ⟨rfl, hP1⟩)
        have HP1 := zHi (HP.out.then hP1 hXR)
        clear hP1; go_wp2_with fail
        go_roundw
        case rel => exact ⟨k + k1, rfl, HP1.out, .inr (.inl ⟨rfl, by have := HQ.out; omega, by have := HQ.out; have := HM.out; have := HS.out; simp at this; omega⟩)⟩
        case measure =>
         have hk0 : k = 0 := by have q2 := HM.out; have q1 := HS.out; simp at q1; omega
         have hk2 : 1 ≤ k1 := by have := HQ.out; omega
         subst hk0
         show raMu (.int .i64 (((0 : Nat) : Int) + (k1 : Int))) .nilIface < raMu (.int .i64 ((0 : Nat) : Int)) .nilIface
         unfold raMu intOf; simp only; rw [if_neg (by omega), if_pos (by omega)]; omega
      · have hpe : pos + k = src.length := by omega
        have HRd := zHi (read_end wr.drew R base src (.slice (some ⟨X, xo + k, none⟩) (n - k) (cap - k)) B p (by have := HP.out.1.drew; rwa [hpe] at this) (HE.out.keep (S := fun _ _ => False) (Frm.drew (Frm.refl _ _)) (fun _ _ e => e.elim)))
        have HPE := zHi hpe; clear hpe; go_upto_region 5 with (fail)
        go_region_with (go_at_call 115; refine HRd.out.mono ?_; rintro e w1 ⟨rfl, m, rfl⟩)
        go_wp2_with fail
        go_roundw
        case rel => exact ⟨k, rfl, HP.out.drewN (1 + m), .inr (.inr ⟨rfl, by have := HPE.out; have := HM.out; omega, hlt⟩)⟩
        case measure =>
         show 0 < raMu (.int .i64 (k : Int)) .nilIface
         unfold raMu; simp only; split <;> omega
    · have hs3 : u7 = errAt p.E ∧ k = Nat.min (src.length - pos) n := hs.elim (fun e => absurd e.1 hend) (fun e => e.elim (fun e => absurd e.1 hend) (fun e => ⟨e.1, e.2.1⟩))
      obtain ⟨rfl, hk⟩ := hs3; have HK := zHi hk; have e1 : (k : Int) < (n : Int) := by omega
      have e6 : ¬ (n : Int) ≤ (k : Int) := by omega
      have cE := he'.eof; have cU := he'.unx; have hq := eql_same p.E wr; clear hs hk hP he' m3
      by_cases h0 : k = 0
      · subst h0; go_wp2_with fail
        go_ret2
        exact ⟨0, HK.out, by rw [if_neg (by omega), if_pos rfl]; rfl, HP.out⟩
      · have e7 : (0 : Int) < (k : Int) := by omega
        go_wp2_with fail
        go_ret2
        exact ⟨k, HK.out, by rw [if_neg (by omega), if_neg h0]; rfl, HP.out⟩
  · have hkn2 : k = n := by omega
    have hk : k = Nat.min (src.length - pos) n := by
     rcases hs with e | e | e
     · omega
     · exact e.2.2
     · exact e.2.1
    have e1 : ¬ (k : Int) < (n : Int) := by omega
    have e6 : (n : Int) ≤ (k : Int) := by omega
    have HK := zHi hk; have HN := zHi hkn2; clear hs hk hkn2 hP he' m3; go_wp2_with fail
    go_ret2
    exact ⟨k, HK.out, by rw [if_pos HN.out]; rfl, HP.out⟩
theorem readFull_any (w : World) (R : Nat) (base : Option Addr) (src : List UInt8) (pos X xo n cap B : Nat) (p : Ps) (h : Src w R base src pos) (he : Env w B p) (hRB : B ≤ R) (hXB : B ≤ X) (hn : 1 ≤ n) (hn2 : n ≤ 32768) (hcap : n ≤ cap)
 (hXR : X ≠ R) (hXS : ∀ a, base = some a → X ≠ a.block) (hc : ∀ j, j < n → (w.cell? ⟨X, xo + j, none⟩).isSome = true) (hf : ∀ j, j < n → w.frozen? ⟨X, xo + j, none⟩ = false) :
 Calls Tryz.prog 55 #[.iface 48 (.pointer (some ⟨R, 0, none⟩)), .slice (some ⟨X, xo, none⟩) n cap] w (FullPost p w R base src pos X xo n) := by
 go_enter Tryz.func55, Tryz.ntmps55
 go_wp2_with fail
 refine (readAtLeast_any w R base src pos X xo n cap B p h he hRB hXB hn hn2 hcap hXR hXS hc hf).mono ?_
 rintro e w1 ⟨k, hk, rfl, hP⟩
 have HK := zHi hk
 obtain ⟨ev, hev⟩ : ∃ ev : Value, ev = (if k = n then .nilIface else if k = 0 then errAt p.E else errAt p.U) := ⟨_, rfl⟩
 rw [← hev]
 have HEV := zHi hev
 clear hk hev
 go_wp2_with fail
 go_ret2
 exact ⟨k, HK.out, by rw [← HEV.out]; rfl, hP⟩
end Go.Proofs.YthfncdfcklbigaaGreatDoor
namespace Go.Proofs.YthfncdfcklbigaaGreatDoor
open Go.RowKit Flate
set_option maxRecDepth 100000
theorem Dec.set_io {w w' : World} {F : Nat} {d : DS} (h : Dec w F d) (hf : Frm (fun b o => b = d.R ∨ b = d.HB ∨ b = F ∧ 1041 ≤ o ∧ o < 1045) w w') {q : Nat} (hs : Src w' d.R d.base d.src q) (g : Nat → UInt8)
 (hw : ∀ i, i < 32768 → w'.cell? ⟨d.HB, i, none⟩ = some (.int .u8 ((g i).toNat : Int))) (v0 v1 v2 v3 : UInt8) (h0 : w'.cell? ⟨F, 1041, none⟩ = some (.int .u8 (v0.toNat : Int))) (h1 : w'.cell? ⟨F, 1042, none⟩ = some (.int .u8 (v1.toNat : Int)))
 (h2 : w'.cell? ⟨F, 1043, none⟩ = some (.int .u8 (v2.toNat : Int))) (h3 : w'.cell? ⟨F, 1044, none⟩ = some (.int .u8 (v3.toNat : Int))) : Dec w' F { d with pos := q, g := g, u0 := v0, u1 := v1, u2 := v2, u3 := v3 } := by
 have hRF := h.neRF
 have hHF := h.neHF
 have k : ∀ {o : Nat} {v : Value}, w.cell? ⟨F, o, none⟩ = some v → (o < 1041 ∨ 1045 ≤ o) → w'.cell? ⟨F, o, none⟩ = some v := fun hc ho => hf.keep hc (fun e => by omega)
 have hlt := h.lt
 have hH0 := cell_lt (h.win 0 (by omega))
 have hB0 : d.BB < w.heap.size := by obtain ⟨v, hv⟩ := Option.isSome_iff_exists.1 (h.bb 0 (by omega)); exact cell_lt hv
 have hC0 : d.CB < w.heap.size := by obtain ⟨v, hv⟩ := Option.isSome_iff_exists.1 (h.cb 0 (by omega)); exact cell_lt hv
 exact ⟨k h.r (by omega), k h.rBuf (by omega), k h.roff (by omega), k h.b (by omega), k h.nb (by omega), k h.bits (by omega), k h.cbits (by omega), k h.hist (by omega), k h.wr (by omega), k h.rd (by omega), k h.full (by omega), h0, h1, h2, h3,
  k h.step (by omega), k h.ss (by omega), k h.fin (by omega), k h.err (by omega), k h.toRead (by omega), k h.hl (by omega), k h.hd (by omega), k h.cl (by omega), k h.cd (by omega), fun o h1 h2 => (hf.live F o hlt).trans (h.tl o h1 h2), fun o => (hf.froz F o hlt).trans (h.fr o), hs, hw,
  fun o => (hf.froz _ o hH0).trans (h.frH o), fun i hi => (hf.live _ i hB0).trans (h.bb i hi), fun i hi => (hf.live _ i hC0).trans (h.cb i hi), fun o => (hf.froz _ o hB0).trans (h.frB o), fun o => (hf.froz _ o hC0).trans (h.frC o), h.dist, h.far⟩
def StepPost (w : World) (F C : Nat) (p : Ps) (d : DS) (k : Nat) (m : Nat) (x : Cfg × List UInt8) (e : Ending) (w' : World) : Prop :=
 e = .returned (.tuple #[]) ∧ ∃ d' H' n' x', St w' F C p d' H' k n' ∧ Mode w' F p d' H' x' ∧ Flate.Reach d.src x x' ∧ Same d d' ∧ (d'.wr < 32768 ∧ (0 < n' → d'.rd = d'.wr)) ∧ (0 < n' ∨ dmu d' < m) ∧ Frm (SA F d) w w'
theorem StepPost.from_ {w w1 w' : World} {F C : Nat} {p : Ps} {d d1 : DS} {k m : Nat} {x : Cfg × List UInt8} {e : Ending} (h : StepPost w1 F C p d1 k m x e w') (hs : Same d d1) (hf : Frm (SA F d) w w1) : StepPost w F C p d k m x e w' := by
 obtain ⟨h1, d', H', n', x', h2, h3, h4, h5, h6, h7, h8⟩ := h
 exact ⟨h1, d', H', n', x', h2, h3, by rw [← hs.src]; exact h4, hs.trans h5, h6, h7, hf.trans (h8.mono fun b o e => hs.SA e)⟩
def layG (g : Nat → UInt8) (wr k pos : Nat) (src : List UInt8) : Nat → UInt8 := fun i => if wr ≤ i ∧ i < wr + k then src.getD (pos + (i - wr)) 0 else g i
theorem Dec.read_win {w w' : World} {F : Nat} {d : DS} {k : Nat} (h : Dec w F d) (hP : ReadPost w d.R d.base d.src d.pos d.HB d.wr k w') : Dec w' F { d with pos := d.pos + k, g := layG d.g d.wr k d.pos d.src } := by
 obtain ⟨hS, hf, hc⟩ := hP
 have hRF := h.neRF
 have hHF := h.neHF
 have kF : ∀ {o : Nat} {v : Value}, w.cell? ⟨F, o, none⟩ = some v → w'.cell? ⟨F, o, none⟩ = some v := fun hc => hf.keep hc (fun e => by omega)
 refine h.set_io (hf.mono fun b o e => ?_) hS _ (fun i hi => ?_) _ _ _ _ (kF h.u0) (kF h.u1) (kF h.u2) (kF h.u3)
 · rcases e with e | e
   · exact .inl e
   · exact .inr (.inl e.1)
 · unfold layG; split
   · rename_i hi2; have := hc (i - d.wr) (by omega)
     rw [show d.wr + (i - d.wr) = i by omega] at this
     exact this
   · rename_i hi2; exact hf.keep (h.win i hi) (fun e => by have := h.neRH; omega)
theorem WinB.read {g : Nat → UInt8} {wr k pos : Nat} {src H : List UInt8} (h : WinB g wr H) (hk : wr + k ≤ 32768) (hp : pos + k ≤ src.length) : WinB (layG g wr k pos src) (wr + k) (H ++ (src.drop pos).take k) := by
 have hl : ((src.drop pos).take k).length = k := by rw [List.length_take, List.length_drop]; omega
 have := h.lay (g' := layG g wr k pos src) (vs := (src.drop pos).take k) (by rw [hl]; exact hk) (fun j hj => by
  rw [hl] at hj; unfold layG; rw [if_pos (by omega), show wr + j - wr = j by omega]
  simp only [List.getD_eq_getElem?_getD, List.getElem?_take, List.getElem?_drop]; rw [if_pos hj]) (fun i hi ho => by
  rw [hl] at ho; unfold layG; rw [if_neg (by omega)])
 rw [hl] at this
 exact this
theorem stRest_add {src : List UInt8} {last : Bool} {pos n m : Nat} {H : List UInt8} (hm : m ≤ n) : stRest src last pos n H = stRest src last (pos + m) (n - m) (H ++ (src.drop pos).take m) := by
 have e1 : pos + m + (n - m) = pos + n := by omega
 have e2 : (src.drop pos).take m ++ src.drop (pos + m) = src.drop pos := by rw [← List.drop_drop]; exact List.take_append_drop _ _
 have e3 : (src.drop pos).take n = (src.drop pos).take m ++ (src.drop (pos + m)).take (n - m) := by
  rw [← List.drop_drop]
  conv => lhs; rw [show n = m + (n - m) by omega]
  exact List.take_add
 unfold stRest
 rw [e1]
 split
 · rw [List.append_assoc, e3]
 · rw [List.append_assoc, e2]
def SX (F : Nat) (d : DS) (b o : Nat) : Prop := b = d.R ∨ b = d.HB ∨ b = F ∧ (o < 5 ∨ 1035 ≤ o)
theorem SX.ok {w : World} {F C : Nat} {p : Ps} {d : DS} {H : List UInt8} {k n : Nat} (h : St w F C p d H k n) : SW1 F C (SX F d) := by
 have h1 := h.dec.neRF
 have h2 := h.dec.neHF
 have h3 := h.cR
 have h4 := h.cH
 have h5 := h.cF
 rintro b o (rfl | rfl | ⟨rfl, e⟩)
 · exact ⟨h3, fun e => absurd e h1⟩
 · exact ⟨h4, fun e => absurd e h2⟩
 · exact ⟨h5, fun _ => e⟩
theorem SX.sa {F : Nat} {d : DS} {b o : Nat} (h : SX F d b o) : SA F d b o := by
 rcases h with e | e | e
 · exact .inr (.inl e)
 · exact .inr (.inr (.inl e))
 · exact .inl e.1
theorem St.write {S : Nat → Nat → Prop} {w w' : World} {F C : Nat} {p : Ps} {d d' : DS} {H V : List UInt8} {k : Nat} (h : St w F C p d H k 0) (hD : Dec w' F d') (hf : Frm S w w') (hS : SW1 F C S) (hs : Same d d')
 (hwin : WinB d'.g d'.wr (H ++ V)) (hwr : d'.wr = d.wr + V.length) (hrd : d'.rd = d.rd) (hfu : d'.full = d.full) (ht : d'.toRead = d.toRead) : St w' F C p d' (H ++ V) k 0 := by
 have hb : ∀ b o, S b o → C ≤ b := fun b o x => (hS b o x).1
 have hp : ∀ x, 5 ≤ x → x < 1035 → ¬ S F x := fun x h1 h2 e => by have := (hS F x e).2 rfl; omega
 have h1 := h.rd
 have hsum : k + 0 + (d'.wr - d'.rd) = (H ++ V).length := by
  have := h.out.sum; rw [hwr, hrd, List.length_append]; omega
 obtain ⟨_, base, cap, o2, o3, _⟩ := h.out
 refine ⟨h.env.keep hf hb, h.cF, by rw [hs.R]; exact h.cR, by rw [hs.HB]; exact h.cH, by rw [hs.BB]; exact h.cB, by rw [hs.CB]; exact h.cC, hD, hwin, by rw [hrd, hwr]; omega, by rw [hrd]; exact h.rd2,
  fun e => ?_, fun e => ?_, ⟨hsum, base, cap, by rw [ht]; exact o2, o3, .inl rfl⟩, h.pre1.keep hf (fun x a b => hp x a (by omega)), h.pre2.keep hf (fun x a b => hp x (by omega) (by omega))⟩
 · rw [List.length_append]; have := h.ful (by rw [← hfu]; exact e); omega
 · rw [List.length_append, hwr]; have := h.nful (by rw [← hfu]; exact e); omega
set_option maxHeartbeats 1000000 in
theorem readFull_zero (w : World) (R : Nat) (base : Option Addr) (src : List UInt8) (pos X xo n cap : Nat) (p : Ps) (h : Src w R base src pos) (hn : n = 0) :
 Calls Tryz.prog 55 #[.iface 48 (.pointer (some ⟨R, 0, none⟩)), .slice (some ⟨X, xo, none⟩) n cap] w (FullPost p w R base src pos X xo n) := by
 have HN := zHi hn
 have e1 : ¬ (0 : Int) < (n : Int) := by omega
 have e6 : (n : Int) ≤ 0 := by omega
 clear hn
 have key : Calls Tryz.prog 71 #[.iface 48 (.pointer (some ⟨R, 0, none⟩)), .slice (some ⟨X, xo, none⟩) n cap, .int .i64 (n : Int)] w (FullPost p w R base src pos X xo n) := by
  go_enter Tryz.func71, Tryz.ntmps71
  go_wp2_with fail
  go_loopw [6, 7] (fun nv ev wr => nv = .int .i64 0 ∧ ev = .nilIface ∧ wr = w) (fun _ _ _ => 0)
  case atStart => exact ⟨rfl, rfl, rfl⟩
  case round =>
   obtain ⟨rfl, rfl, rfl⟩ := hrel; go_wp2_with fail
   go_ret2
   exact ⟨0, by rw [HN.out]; simp, by rw [if_pos HN.out.symm]; rfl, ReadPost.zero h X xo⟩
 go_enter Tryz.func55, Tryz.ntmps55
 go_wp2_with fail
 refine key.mono ?_
 rintro e w1 ⟨k, hk, rfl, hP⟩
 have hkn : k = n := by rw [HN.out] at hk ⊢; simp at hk; exact hk
 rw [if_pos hkn]
 have HK := zHi hk
 have HKN := zHi hkn
 clear hk hkn
 go_wp2_with fail
 go_ret2
 exact ⟨k, HK.out, by rw [if_pos HKN.out]; rfl, hP⟩
set_option maxHeartbeats 2000000 in
theorem copyData_any (w : World) (F C : Nat) (p : Ps) (d : DS) (H : List UInt8) (k n m : Nat) (x : Cfg × List UInt8) (h : St w F C p d H k 0) (he : d.err = .nilIface) (hd : d = d.put ⟨8 * d.pos, d.pos⟩) (hcl : d.cl = (n : Int)) (hn : n ≤ 65535)
 (hw : d.wr < 32768) (hs1 : SS1 d H) (hx : stRest d.src d.fin d.pos n H = x) (hm : d.pos + n ≤ d.src.length → 2 * (8 * d.src.length + 1 - 8 * (d.pos + n)) + 1 < m) (hm0 : 0 < m) :
 Calls Tryz.prog 87 #[.pointer (some ⟨F, 0, none⟩)] w (StepPost w F C p d k m x) := by
 have hD := h.dec
 have c0 := hD.r
 have c52 := hD.cl
 rw [hcl] at c52
 have f52 := hD.fr 1052
 have HH := zHi h
 have HDP := zHi hd
 have HX := zHi hx
 have HDD := zHi hD
 have HS1 := zHi hs1
 clear hs1
 have b1 : (n : Int) ≤ 65535 := by omega
 obtain ⟨L, hL⟩ : ∃ L, L = 32768 - d.wr := ⟨_, rfl⟩
 obtain ⟨M, hM⟩ : ∃ M, M = if n < L then n else L := ⟨_, rfl⟩
 have hL1 : 1 ≤ L ∧ L ≤ 32768 := by omega
 have hM1 : M ≤ n ∧ M ≤ L ∧ (M = n ∨ M = L) := by rw [hM]; split <;> omega
 have b2 : (L : Int) ≤ 32768 := by omega
 have HL := zHi hL
 have HM := zHi hM
 clear h hd hx hD hM
 go_enter Tryz.func87, Tryz.ntmps87
 go_wp2_with fail
 refine (writeSlice_any w F d HDD.out hw).mono ?_
 rintro e w1 ⟨rfl, m1, rfl⟩
 rw [← hL]
 clear hL
 go_upto_if 15 with (fail)
 go_cut [2] (fun s wq => s = .slice (some ⟨d.HB, d.wr, none⟩) M L ∧ ∃ q, wq = w.drewN q)
 case first =>
  by_cases hg : n < L
  · have e1 : (n : Int) < (L : Int) := by omega
    have hMn : M = n := by rw [HM.out, if_pos hg]
    have e2 : n ≤ L := by omega
    have HMn := zHi hMn; clear hMn hM1; go_wp2_with fail
    go_meet
    case rel => exact ⟨by rw [HMn.out], _, rfl⟩
  · have e1 : ¬ (n : Int) < (L : Int) := by omega
    have hMn : M = L := by rw [HM.out, if_neg hg]
    have HMn := zHi hMn; clear hMn hM1; go_wp2_with fail
    go_meet
    case rel => exact ⟨by rw [HMn.out], _, rfl⟩
 case rest =>
  obtain ⟨rfl, q1, rfl⟩ := hcut; have hHBR := HDD.out.neRH.symm; have hRd : Calls Tryz.prog 55 #[.iface 48 (.pointer (some ⟨d.R, 0, none⟩)), .slice (some ⟨d.HB, d.wr, none⟩) M L] (w.drewN q1) (FullPost p (w.drewN q1) d.R d.base d.src d.pos d.HB d.wr M) := by
   by_cases h0 : M = 0
   · exact readFull_zero _ _ _ _ _ _ _ _ _ _ (HDD.out.so.drewN q1) h0
   · exact readFull_any _ _ _ _ _ _ _ _ _ C _ (HDD.out.so.drewN q1) (HH.out.env.keep (S := fun _ _ => False) ((Frm.refl _ _).drewN q1) (fun _ _ e => e.elim)) HH.out.cR HH.out.cH (by omega) (by omega) (by omega) hHBR
      (fun a ha e => HDD.out.far a ha (by rw [← e]; simp)) (fun j hj => by
       show (w.cell? _).isSome = true
       rw [HDD.out.win (d.wr + j) (by have := HL.out; omega)]; rfl) (fun j _ => HDD.out.frH _)
  go_wp2_with fail
  refine hRd.mono ?_; rintro e w2 ⟨K, hK, rfl, hP⟩; obtain ⟨m1', m2', m3'⟩ := min_cases (d.src.length - d.pos) M; rw [← hK] at m1' m2' m3'; have hle := HDD.out.so.le; have hD2 := (HDD.out.drewN q1).read_win hP; have hP2 : ReadPost w d.R d.base d.src d.pos d.HB d.wr K w2 := ⟨hP.1, (((Frm.refl _ _).drewN q1).mono (fun _ _ e => e)).trans hP.2.1, hP.2.2⟩
  have hB2 := WinB.read (pos := d.pos) (src := d.src) HH.out.win (show d.wr + K ≤ 32768 by have := HL.out; omega) (by omega)
  have d2 := hD2.roff; have d52 := hD2.cl; have d48 := hD2.err; have d45 := hD2.step; have d49 := hD2.toRead; simp only at d2 d52 d48 d45 d49; have hro : d.roff = d.pos := congrArg DS.roff HDP.out; have hnb : d.nb = 0 := by have := congrArg DS.nb HDP.out; rw [this]; unfold DS.put Br.nb; simp only; omega
  have hb0 : d.b = 0 := by have := congrArg DS.b HDP.out; rw [this]; unfold DS.put Br.b Br.nb; simp only; rw [Nat.sub_self, bv_zero]
  rw [hro] at d2; rw [hcl] at d52; have hfew := HDD.out.so.few; have b3 : (d.pos : Int) ≤ 1099511627776 := by omega
  have b4 : (K : Int) ≤ (M : Int) := by omega
  have b5 : (M : Int) ≤ (L : Int) := by omega
  have b6 : (M : Int) ≤ (n : Int) := by omega
  have g2 := hD2.fr 2; have g52 := hD2.fr 1052; have hf2 : Frm (SX F d) w w2 := hP2.2.1.mono fun b o e => e.elim .inl (fun e => .inr (.inl e.1))
  have HD2 := zHi hD2; have HB2 := zHi hB2; have HF2 := zHi hf2; have HK := zHi hK; have HMM := zHi m3'; have HM1 := zHi hM1; have HPW := zHi hP2; clear hP hP2 hD2 hB2 hf2 hK m3' hM1 m1' m2' hRd; have hlK : ((d.src.drop d.pos).take K).length = K := by
   rw [List.length_take, List.length_drop]; have := (min_cases (d.src.length - d.pos) M).1; have := HK.out; omega
  have hwK : d.wr + K ≤ 32768 := by have := HL.out; have := HM1.out; omega
  obtain ⟨wr2, hwr2⟩ : ∃ wr2, wr2 = d.wr + K := ⟨_, rfl⟩; have hlt2 : K = M ∨ K < M ∧ d.pos + K = d.src.length := by have := HMM.out; have := HK.out; have := (min_cases (d.src.length - d.pos) M).1; have := (min_cases (d.src.length - d.pos) M).2.1; omega
  obtain ⟨ev, hev⟩ : ∃ ev : Value, ev = (if K = M then .nilIface else if K = 0 then errAt p.E else errAt p.U) := ⟨_, rfl⟩
  rw [← hev]; have HEV := zHi hev; have HLT2 := zHi hlt2; clear hev hlt2; go_wp2_with fail
  obtain ⟨w3, hw3⟩ : ∃ w3, w3 = (w2.setCell ⟨F, 2, none⟩ (.int .i64 ((d.pos : Int) + (K : Int)))).setCell ⟨F, 1052, none⟩ (.int .i64 ((n : Int) - (K : Int))) := ⟨_, rfl⟩; have hf3 : Frm (SX F d) w2 w3 := by rw [hw3]; exact (((Frm.refl _ _).setCell (.inl (.inr (.inr ⟨rfl, by simp⟩))) _).setCell (.inl (.inr (.inr ⟨rfl, by simp⟩))) _)
  have hD3 := (HD2.out.set_roff (d.pos + K)).set_cl ((n : Int) - (K : Int)); rw [show ((d.pos + K : Nat) : Int) = (d.pos : Int) + (K : Int) by omega, ← hw3] at hD3
  rw [← hw3]; refine (writeMark_any w3 F _ hD3 (by simp only; omega) K (by omega)).mono ?_
  rintro e w4 ⟨rfl, hD4, hf4⟩; have hf5 : Frm (SX F d) w w4 := (HF2.out.trans hf3).trans (hf4.mono fun b o e => .inr (.inr ⟨e.1, by omega⟩))
  have hS4 := HH.out.write hD4 hf5 (SX.ok HH.out) ⟨rfl, rfl, rfl, rfl, rfl, rfl⟩ HB2.out (by simp only; rw [hlK]) rfl rfl rfl
  have hpK : d.pos + K ≤ d.src.length := by have := HK.out; have := (min_cases (d.src.length - d.pos) M).1; omega
  simp only at hD4; rw [← hwr2] at hD4 hS4; rw [← hwr2] at hwK; have HS4 := zHi hS4; have HF5 := zHi hf5; have e45 := hD4.step; have e49 := hD4.toRead; have e52 := hD4.cl; have k45 := hD4.fr 1045; have k49 := hD4.fr 1049; simp only at e45 e49 e52; have HD4 := zHi hD4; have HWR2 := zHi hwr2; clear hf5 hS4 hD3 hf3 hf4 hD4 c0 c52 f52 d2 d52 d48 d45 d49 g2 g52; have hxx : stRest d.src d.fin (d.pos + K) (n - K) (H ++ (d.src.drop d.pos).take K) = x := by
   rw [← HX.out]; exact (stRest_add (by have := HM1.out; omega)).symm
  have HXX := zHi hxx; have hrd := HH.out.rd; have hrd2 := HH.out.rd2; clear hxx hwr2; have hnK : (n : Int) - (K : Int) = ((n - K : Nat) : Int) := by omega
  have HNK := zHi hnK; clear hnK
  by_cases hKM : K = M
  · have hev := HEV.out; rw [if_pos hKM] at hev; subst hev; have HKM := zHi hKM; clear hKM
    by_cases hfu : wr2 = 32768
    · have e1 : ((32768 : Int) - (wr2 : Int) == 0) = true := by simp; omega
      have e2 : d.rd ≤ wr2 := by have := HWR2.out; omega
      have HFU := zHi hfu; clear hfu; go_wp2_with fail
      refine (availWrite_any w4 F _ HD4.out (by simp only; omega)).mono ?_
      rintro e w5 ⟨rfl, m5, rfl⟩; simp only; go_wp2_with fail
      refine (readFlush_any _ F _ (HD4.out.drewN m5) (by simp only; omega) (by simp only; omega) (by simp only; omega)).mono ?_
      rintro e w6 ⟨rfl, hD6, hf6⟩; have hlF := HD4.out.lt; have r49 : w6.cell? ⟨F, 1049, none⟩ = some d.toRead := hf6.keep e49 (by omega)
      have r45 : w6.cell? ⟨F, 1045, none⟩ = some d.step := hf6.keep e45 (by omega)
      have s49 : w6.frozen? ⟨F, 1049, none⟩ = false := (hf6.froz F 1049 hlF).trans k49; have s45 : w6.frozen? ⟨F, 1045, none⟩ = false := (hf6.froz F 1045 hlF).trans k45; have HD6 := zHi hD6; have HF6 := zHi hf6; simp only; clear hD6 hf6 e49 e45 e52 k45 k49; go_wp2_with fail
      go_end0
      obtain ⟨w7, hw7⟩ : ∃ w7, w7 = (w6.setCell ⟨F, 1049, none⟩ (.slice (some ⟨d.HB, d.rd, none⟩) (wr2 - d.rd) (32768 - d.rd))).setCell ⟨F, 1045, none⟩ (fnV 87) := ⟨_, rfl⟩; obtain ⟨d4, hd4⟩ : ∃ d4 : DS, d4 = { d with pos := d.pos + K, g := layG d.g d.wr K d.pos d.src, roff := d.pos + K, cl := (n : Int) - (K : Int), wr := wr2 } := ⟨_, rfl⟩; have hS4 : St w4 F C p d4 (H ++ (d.src.drop d.pos).take K) k 0 := by rw [hd4]; exact HS4.out
      have hD7' := (show Dec w6 F d4.flushed by rw [hd4]; exact HD6.out).set_toRead (.slice (some ⟨d.HB, d.rd, none⟩) (wr2 - d.rd) (32768 - d.rd)) |>.set_step (fnV 87)
      rw [← hw7] at hD7' ⊢; obtain ⟨fs, fp, fg⟩ := flushed_same d4; obtain ⟨f1, f2, f3, f4, f5, f6, f7', f8', _⟩ := flushed_more d4; have hf7 : Frm (SX F d) w4 w7 := by
       refine (((Frm.refl _ _).drewN m5).trans (HF6.out.mono fun b o e => .inr (.inr ⟨e.1, by omega⟩))).trans ?_
       rw [hw7]; exact ((Frm.refl _ _).setCell (.inl (.inr (.inr ⟨rfl, by simp⟩))) _).setCell (.inl (.inr (.inr ⟨rfl, by simp⟩))) _
      have s4 : Same d d4 := by rw [hd4]; exact ⟨rfl, rfl, rfl, rfl, rfl, rfl⟩
      obtain ⟨g1, g2, g3⟩ := hS4.flush hD7' hf7 (SX.ok HH.out) ⟨fs.R, fs.base, fs.src, fs.BB, fs.CB, fs.HB⟩ fg rfl rfl rfl (by rw [hd4])
      refine ⟨rfl, _, _, _, x, g1, ?_, .refl _, ⟨fs.R.trans s4.R, fs.base.trans s4.base, fs.src.trans s4.src, fs.BB.trans s4.BB, fs.CB.trans s4.CB, fs.HB.trans s4.HB⟩, ⟨g2, fun _ => g3⟩, .inl ?_, (HF5.out.trans hf7).mono fun b o e => SX.sa e⟩
      · refine mode_data (n := n - K) (f1.trans (by rw [hd4]; exact he)) rfl (f3.trans (by rw [hd4]; exact HNK.out)) (by omega) ?_ ?_ ?_
        · exact put_edge (f4.trans (by rw [hd4]; exact hb0)) (f5.trans (by rw [hd4]; exact hnb)) (f6.trans ((show d4.roff = d4.pos by rw [hd4]).trans fp.symm)) rfl
        · exact HS1.out.same (f7'.trans (by rw [hd4])) (f8'.trans (by rw [hd4])) (by simp)
        · show stRest d4.flushed.src d4.flushed.fin d4.flushed.pos (n - K) _ = x
          rw [fs.src, f2, fp, hd4]; exact HXX.out
      · rw [hd4]; have := HFU.out; simp only; omega
    · have e1 : ((32768 : Int) - (wr2 : Int) == 0) = false := by simp; omega
      have e2 : ¬ (0 : Int) < (n : Int) - (K : Int) := by have := HM1.out; have := HKM.out; have := HWR2.out; have := HL.out; omega
      have e3 : wr2 < 32768 := by omega
      have hKn : K = n := by omega
      have HKN := zHi hKn; clear hfu hKn; go_wp2_with fail
      refine (availWrite_any w4 F _ HD4.out (by simp only; omega)).mono ?_
      rintro e w5 ⟨rfl, m5, rfl⟩; simp only; go_wp2_with fail
      obtain ⟨d4, hd4⟩ : ∃ d4 : DS, d4 = { d with pos := d.pos + K, g := layG d.g d.wr K d.pos d.src, roff := d.pos + K, cl := (n : Int) - (K : Int), wr := wr2 } := ⟨_, rfl⟩; have hS4 : St w4 F C p d4 (H ++ (d.src.drop d.pos).take K) k 0 := by rw [hd4]; exact HS4.out
      have s4 : Same d d4 := by rw [hd4]; exact ⟨rfl, rfl, rfl, rfl, rfl, rfl⟩
      have hf7 : Frm (SX F d) w4 (w4.drewN m5) := (Frm.refl _ _).drewN m5; have hS5 := hS4.of (hS4.dec.drewN m5) hf7 (SX.ok HH.out) (Same.refl _) ⟨rfl, rfl, rfl, rfl, rfl⟩; have hpl : d.pos + n ≤ d.src.length := by rw [← HKN.out]; exact hpK
      refine (finishBlock_any _ F C p d4 _ k 0 ⟨8 * (d.pos + n), d.pos + n⟩ hS5 (put_edge (by rw [hd4]; exact hb0) (by rw [hd4]; exact hnb) (by rw [hd4, HKN.out]) (by rw [hd4, HKN.out])) ⟨Nat.le_refl _, by rw [s4.src]; exact hpl⟩ (by unfold Br.nb; simp only; omega) (by rw [hd4]; exact he) (by rw [hd4]; exact e3) (.inl rfl) ((HS1.out.same (by rw [hd4]) (by rw [hd4]) (by simp)).zero (by rw [hd4, HKN.out]; simp))).mono ?_
      rintro e w6 ⟨rfl, d6, n6, hS6, hM6, hs6, hw6, hm6, hf6⟩; have HX6 := zHi hd4; clear hd4; go_wp2_with fail
      go_end0
      have hd4 := HX6.out; have hxe : (more d4.fin ⟨8 * (d.pos + n), d.pos + n⟩, H ++ (d.src.drop d.pos).take K) = x := by
       rw [← HX.out, HKN.out, hd4]; unfold stRest; rw [if_pos hpl]
      refine ⟨rfl, d6, _, n6, x, hS6, by rw [← hxe]; exact hM6, .refl _, s4.trans hs6, hw6, .inr ?_, ((HF5.out.trans hf7).mono fun b o e => SX.sa e).trans (hf6.mono fun b o e => .inl e.1)⟩
      have := hm hpl; rw [s4.src] at hm6; have hm7 : dmu d6 ≤ 2 * (8 * d.src.length + 1 - 8 * (d.pos + n)) + 1 := hm6; omega
  · have hlt2 := HLT2.out; have hlt3 : K < M ∧ d.pos + K = d.src.length := by omega
    obtain ⟨q, hq, hqe⟩ : ∃ q, (q = p.E ∨ q = p.U) ∧ ev = errAt q := by
     have := HEV.out; rw [if_neg hKM] at this
     by_cases h0 : K = 0
     · exact ⟨p.E, .inl rfl, by rw [this, if_pos h0]⟩
     · exact ⟨p.U, .inr rfl, by rw [this, if_neg h0]⟩
    subst hqe; have e48 := HD4.out.err; have k48 := HD4.out.fr 1048; clear hlt2 hKM; go_wp2_with fail
    refine (noEOF_any w4 C p HS4.out.env q hq).mono ?_; rintro e w5 ⟨rfl, rfl⟩; go_wp2_with fail
    go_end0
    have hf7 : Frm (SX F d) w4 (w4.setCell ⟨F, 1048, none⟩ (errAt p.U)) := (Frm.refl _ _).setCell (.inl (.inr (.inr ⟨rfl, by simp⟩))) _
    refine ⟨rfl, _, _, 0, x, HS4.out.of (HD4.out.set_err (errAt p.U)) hf7 (SX.ok HH.out) ⟨rfl, rfl, rfl, rfl, rfl, rfl⟩ ⟨rfl, rfl, rfl, rfl, rfl⟩, ?_, .refl _, ⟨rfl, rfl, rfl, rfl, rfl, rfl⟩, ⟨by have := HWR2.out; have := HL.out; have := HM1.out; simp only; omega, fun q => absurd q (by omega)⟩, .inr hm0, (HF5.out.trans hf7).mono fun b o e => SX.sa e⟩
    have hxe : (Cfg.done .cut d.src.length, H ++ (d.src.drop d.pos).take K) = x := by
     rw [← HXX.out]; unfold stRest; rw [if_neg (by have := HM1.out; omega), hlt3.2, List.drop_length, List.append_nil]
    rw [← hxe]; exact .inl ⟨rfl, rfl, hlt3.2⟩
theorem i64_or_nat (a b : Nat) (ha : a < 2 ^ 62) (hb : b < 2 ^ 62) : bits .or .i64 (a : Int) (b : Int) = ((a ||| b : Nat) : Int) := by
 have h := Nat.or_lt_two_pow ha hb
 show IntKind.i64.wrap ((BitVec.ofInt 64 (a : Int) ||| BitVec.ofInt 64 (b : Int)).toNat : Int) = _
 have ea : (BitVec.ofInt 64 (a : Int)).toNat = a := by rw [BitVec.toNat_ofInt]; omega
 have eb : (BitVec.ofInt 64 (b : Int)).toNat = b := by rw [BitVec.toNat_ofInt]; omega
 rw [BitVec.toNat_or, ea, eb]
 have e : ((a ||| b : Nat) : Int) % 2 ^ 64 = ((a ||| b : Nat) : Int) := Int.emod_eq_of_lt (by omega) (by omega)
 simp only [IntKind.wrap, IntKind.bits, IntKind.signed, e]
 rw [if_neg]
 simp
 omega
theorem i64_and_nat (a b : Nat) (ha : a < 2 ^ 62) (hb : b < 2 ^ 62) : bits .and .i64 (a : Int) (b : Int) = ((a &&& b : Nat) : Int) := by
 have h : a &&& b ≤ a := Nat.and_le_left
 show IntKind.i64.wrap ((BitVec.ofInt 64 (a : Int) &&& BitVec.ofInt 64 (b : Int)).toNat : Int) = _
 have ea : (BitVec.ofInt 64 (a : Int)).toNat = a := by rw [BitVec.toNat_ofInt]; omega
 have eb : (BitVec.ofInt 64 (b : Int)).toNat = b := by rw [BitVec.toNat_ofInt]; omega
 rw [BitVec.toNat_and, ea, eb]
 have e : ((a &&& b : Nat) : Int) % 2 ^ 64 = ((a &&& b : Nat) : Int) := Int.emod_eq_of_lt (by omega) (by omega)
 simp only [IntKind.wrap, IntKind.bits, IntKind.signed, e]
 rw [if_neg]
 simp
 omega
theorem symStep_short {b b' : Bld} {i n : Nat} (h : symStep b i n = some b') (h0 : n ≠ 0) (h9 : n ≤ 9) :
 b' = { b with next := b.next.set n (b.next.getD n 0 + 1), chunks := stride b.chunks (revB n (b.next.getD n 0)) (2 ^ n) (i * 16 + n) } := by
 unfold symStep at h
 rw [if_neg h0, if_pos h9] at h
 exact (Option.some.inj h).symm
theorem symStep_long {b b' : Bld} {i n : Nat} (h : symStep b i n = some b') (h0 : n ≠ 0) (h9 : ¬ n ≤ 9) :
 b.chunks.getD (revB n (b.next.getD n 0) % 512) 0 / 16 < b.links.length ∧
 b' = { b with next := b.next.set n (b.next.getD n 0 + 1), links := b.links.set (b.chunks.getD (revB n (b.next.getD n 0) % 512) 0 / 16) (stride (b.links.getD (b.chunks.getD (revB n (b.next.getD n 0) % 512) 0 / 16) []) (revB n (b.next.getD n 0) / 512) (2 ^ (n - 9)) (i * 16 + n)) } := by
 unfold symStep at h
 rw [if_neg h0, if_neg h9] at h
 simp only at h
 split at h
 · rename_i hv; exact ⟨hv, (Option.some.inj h).symm⟩
 · exact absurd h (by simp)
def StrInv (w : World) (X x0 : Nat) (l : List Nat) (rev step c : Nat) (i : Value) (wr : World) : Prop :=
 ∃ t : Nat, i = .int .i64 ((rev + t * step : Nat) : Int) ∧ rev + t * step ≤ l.length + rev + step ∧
  (∀ i, i < l.length → wr.cell? ⟨X, x0 + i, none⟩ = some (.int .u32 (((if rev ≤ i ∧ i < rev + t * step ∧ (i - rev) % step = 0 then c else l.getD i 0 : Nat)) : Int))) ∧
  Frm (fun b x => b = X ∧ x0 ≤ x ∧ x < x0 + l.length) w wr
theorem str_start {w : World} {X x0 : Nat} {l : List Nat} {rev step c : Nat} (h : ∀ i, i < l.length → w.cell? ⟨X, x0 + i, none⟩ = some (.int .u32 ((l.getD i 0 : Nat) : Int))) : StrInv w X x0 l rev step c (.int .i64 (rev : Int)) w := by
 refine ⟨0, by rw [Nat.zero_mul, Nat.add_zero], by omega, fun i hi => ?_, Frm.refl _ _⟩
 rw [if_neg (by omega)]; exact h i hi
theorem str_next {w wr : World} {X x0 : Nat} {l : List Nat} {rev step c t : Nat} (h : StrInv w X x0 l rev step c (.int .i64 ((rev + t * step : Nat) : Int)) wr) (hs : 0 < step) (hlt : rev + t * step < l.length) :
 StrInv w X x0 l rev step c (.int .i64 ((rev + (t + 1) * step : Nat) : Int)) (wr.setCell ⟨X, x0 + (rev + t * step), none⟩ (.int .u32 (c : Int))) := by
 obtain ⟨t', ht, hb, hc, hf⟩ := h
 have he : rev + t * step = rev + t' * step := by
  have := congrArg intOf ht; simp only [intOf] at this; exact Int.ofNat.inj this
 obtain rfl : t = t' := Nat.eq_of_mul_eq_mul_right hs (by omega)
 have hm : (t + 1) * step = t * step + step := Nat.succ_mul _ _
 refine ⟨t + 1, rfl, by omega, fun i hi => ?_, hf.setCell (.inl ⟨rfl, by simp, by simp; omega⟩) _⟩
 by_cases e : i = rev + t * step
 · subst e; rw [if_pos ⟨by omega, by omega, by rw [Nat.add_sub_cancel_left]; exact Nat.mul_mod_left _ _⟩]
   exact set_get (hc _ hi)
 · rw [cell_set_off (by omega), hc i hi]
   by_cases h1 : rev ≤ i ∧ i < rev + t * step ∧ (i - rev) % step = 0
   · rw [if_pos h1, if_pos ⟨h1.1, by omega, h1.2.2⟩]
   · rw [if_neg h1, if_neg]; rintro ⟨a1, a2, a3⟩; refine h1 ⟨a1, ?_, a3⟩
     by_cases h2 : i < rev + t * step
     · exact h2
     · exfalso
       have h3 : (i - rev - t * step) % step = 0 := by
        have : i - rev = (i - rev - t * step) + t * step := by omega
        rw [this, Nat.add_mul_mod_self_right] at a3; exact a3
       rw [Nat.mod_eq_of_lt (by omega)] at h3
       omega
theorem str_done {w wr : World} {X x0 : Nat} {l : List Nat} {rev step c t : Nat} (h : StrInv w X x0 l rev step c (.int .i64 ((rev + t * step : Nat) : Int)) wr) (hge : l.length ≤ rev + t * step) :
 (∀ i, i < l.length → wr.cell? ⟨X, x0 + i, none⟩ = some (.int .u32 (((stride l rev step c).getD i 0 : Nat) : Int))) ∧ Frm (fun b x => b = X ∧ x0 ≤ x ∧ x < x0 + l.length) w wr := by
 obtain ⟨t', ht, hb, hc, hf⟩ := h
 have he : rev + t * step = rev + t' * step := by
  have := congrArg intOf ht; simp only [intOf] at this; exact Int.ofNat.inj this
 refine ⟨fun i hi => ?_, hf⟩
 rw [hc i hi, stride_getD _ _ _ _ _ hi]
 by_cases h1 : rev ≤ i ∧ (i - rev) % step = 0
 · rw [if_pos h1, if_pos ⟨h1.1, by omega, h1.2⟩]
 · rw [if_neg h1, if_neg (fun q => h1 ⟨q.1, q.2.2⟩)]
theorem BA.lt_row {w : World} {B o base mn mk m L : Nat} {b : Bld} (h : BA w B o base mn mk m L b) (hm : 0 < m) (e : b.links ≠ []) (k : Nat) (hk : k ≤ b.links.length) : L + k < w.heap.size := by
 have h0 : 0 < b.links.length := by
  rcases Nat.eq_zero_or_pos b.links.length with q | q
  · exact absurd (List.length_eq_zero_iff.1 q) e
  · exact q
 cases k with
 | zero => exact cell_lt (h.row 0 h0).1
 | succ k =>
  have := cell_lt ((h.row k hk).2.2 0 hm); omega
theorem BA.keep {S : Nat → Nat → Prop} {w wr : World} {B o base mn mk m L : Nat} {b : Bld} (h : BA w B o base mn mk m L b) (hm : 0 < m) (hf : Frm S w wr) (hB : ∀ x, o ≤ x → x < o + 515 → ¬ S B x)
 (hr : ∀ k x, b.links ≠ [] → k ≤ b.links.length → ¬ S (L + k) x) : BA wr B o base mn mk m L b := by
 refine ⟨hf.keep h.min (hB _ (by omega) (by omega)), fun i hi => hf.keep (h.ch i hi) (hB _ (by omega) (by omega)), h.clen, hf.keep h.mask (hB _ (by omega) (by omega)), fun e => hf.keep (h.none_ e) (hB _ (by omega) (by omega)), fun e => ⟨(h.some_ e).1, hf.keep (h.some_ e).2 (hB _ (by omega) (by omega))⟩, fun k hk => ?_, fun k x e hk => ?_⟩
 · have e : b.links ≠ [] := fun e => by rw [e] at hk; exact absurd hk (by simp)
   obtain ⟨r1, r2, r3⟩ := h.row k hk; exact ⟨hf.keep r1 (hr 0 _ e (by omega)), r2, fun j hj => hf.keep (r3 j hj) (by rw [Nat.add_assoc, Nat.add_comm 1 k]; exact hr (k + 1) _ e hk)⟩
 · exact (hf.froz _ _ (h.lt_row hm e k hk)).trans (h.frz k x e hk)
theorem BA.chunks {w wr : World} {B o base mn mk m L rev step c t : Nat} {b : Bld} {nx : List Nat} (h : BA w B o base mn mk m L b) (hB : B < base) (hm : 0 < m) (hs : StrInv w B (o + 1) b.chunks rev step c (.int .i64 ((rev + t * step : Nat) : Int)) wr)
 (hge : 512 ≤ rev + t * step) : BA wr B o base mn mk m L { b with chunks := stride b.chunks rev step c, next := nx } ∧ Frm (ST B o) w wr := by
 obtain ⟨hc, hf⟩ := str_done hs (by rw [h.clen]; exact hge)
 have hcl := h.clen
 rw [hcl] at hc hf
 have k1 : ∀ {x v}, w.cell? ⟨B, x, none⟩ = some v → (x ≤ o ∨ o + 513 ≤ x) → wr.cell? ⟨B, x, none⟩ = some v := fun hc hx => hf.keep hc (by omega)
 have rB : ∀ k x, base ≤ k → ¬ (k = B ∧ o + 1 ≤ x ∧ x < o + 1 + 512) := by omega
 refine ⟨⟨k1 h.min (by omega), fun i hi => hc i hi, by rw [stride_len]; exact hcl, k1 h.mask (by omega), fun e => k1 (h.none_ e) (by omega), fun e => ⟨(h.some_ e).1, k1 (h.some_ e).2 (by omega)⟩, fun k hk => ?_, fun k x e hk => ?_⟩, hf.mono fun b x e => ⟨e.1, by omega, by omega⟩⟩
 · have hbase := (h.some_ (fun e => by rw [show b.links = [] from e] at hk; exact absurd hk (by simp))).1
   obtain ⟨r1, r2, r3⟩ := h.row k hk; exact ⟨hf.keep r1 (rB _ _ hbase), r2, fun j hj => hf.keep (r3 j hj) (rB _ _ (by omega))⟩
 · exact (hf.froz _ _ (h.lt_row hm e k hk)).trans (h.frz k x e hk)
theorem getDs_set {α : Type} (l : List α) (i j : Nat) (v d : α) : (l.set i v).getD j d = if i = j ∧ i < l.length then v else l.getD j d := by
 simp only [List.getD_eq_getElem?_getD, List.getElem?_set]
 by_cases h : i = j
 · subst h
   by_cases h2 : i < l.length
   · simp [h2]
   · simp [h2]
 · simp [h]
theorem BA.linked {w wr : World} {B o base mn mk m L rev step c t v : Nat} {b : Bld} {nx : List Nat} (h : BA w B o base mn mk m L b) (hB : B < base) (hm : 0 < m) (hv : v < b.links.length)
 (hs : StrInv w (L + 1 + v) 0 (b.links.getD v []) rev step c (.int .i64 ((rev + t * step : Nat) : Int)) wr)
 (hge : m ≤ rev + t * step) : BA wr B o base mn mk m L { b with links := b.links.set v (stride (b.links.getD v []) rev step c), next := nx } ∧ Frm (fun b _ => b = L + 1 + v) w wr := by
 have e : b.links ≠ [] := fun e => by rw [e] at hv; exact absurd hv (by simp)
 obtain ⟨r1, r2, r3⟩ := h.row v hv
 obtain ⟨hc, hf⟩ := str_done hs (by rw [r2]; exact hge)
 rw [r2] at hc hf
 have hbase := (h.some_ e).1
 have k1 : ∀ {b' x u}, w.cell? ⟨b', x, none⟩ = some u → b' ≠ L + 1 + v → wr.cell? ⟨b', x, none⟩ = some u := fun hc hx => hf.keep hc (fun q => hx q.1)
 refine ⟨⟨k1 h.min (by omega), fun i hi => k1 (h.ch i hi) (by omega), h.clen, k1 h.mask (by omega), fun e2 => ?_, fun _ => ⟨hbase, ?_⟩, fun k hk => ?_, fun k x _ hk => ?_⟩, hf.mono fun b x e => e.1⟩
 · have := congrArg List.length e2; simp only [List.length_set, List.length_nil] at this; omega
 · simp only [List.length_set]; exact k1 (h.some_ e).2 (by omega)
 · simp only [List.length_set] at hk; obtain ⟨q1, q2, q3⟩ := h.row k hk; simp only [getDs_set]
   by_cases ek : v = k
   · subst ek; rw [if_pos ⟨rfl, hv⟩]; refine ⟨k1 q1 (by omega), by rw [stride_len]; exact q2, fun j hj => ?_⟩
     have := hc j hj; rw [Nat.zero_add] at this; exact this
   · rw [if_neg (fun q => ek q.1)]
     exact ⟨k1 q1 (by omega), q2, fun j hj => k1 (q3 j hj) (by omega)⟩
 · simp only [List.length_set] at hk; exact (hf.froz _ _ (h.lt_row hm e k hk)).trans (h.frz k x e hk)
theorem ba_tab {w : World} {B o base M L : Nat} {c : Cnt} {b : Bld} (hM : M = 2 ^ (c.max - 9)) (h : BA w B o base c.min (if 9 < c.max then M - 1 else 0) M L b) : TabAt w B o (mkTab c b) (fun x => base ≤ x) := by
 have hp := Nat.two_pow_pos (c.max - 9)
 have hmk : (mkTab c b).mask = if 9 < c.max then M - 1 else 0 := by unfold mkTab; rw [hM]
 have hm1 : (mkTab c b).mask + 1 = M := by
  rw [hmk]; split
  · omega
  · rw [hM, show c.max - 9 = 0 by omega]
 refine ⟨h.min, h.ch, by rw [hmk]; exact h.mask, h.none_, fun e => ?_⟩
 obtain ⟨h1, h2⟩ := h.some_ e
 refine ⟨L, h1, h2, fun k hk => ?_⟩
 obtain ⟨r1, r2, r3⟩ := h.row k hk
 rw [hm1]
 exact ⟨L + 1 + k, by omega, r1, r3⟩
theorem getD_at (src : List UInt8) (i : Nat) (h : i < src.length) : src.getD i 0 = src[i] := by rw [List.getD_eq_getElem?_getD, List.getElem?_eq_getElem h]; rfl
set_option maxHeartbeats 2000000 in
theorem dataBlock_any (w : World) (F C : Nat) (p : Ps) (d : DS) (H : List UInt8) (k m : Nat) (x : Cfg × List UInt8) (h : St w F C p d H k 0) (he : d.err = .nilIface) (hro : d.roff = d.pos)
 (hw : d.wr < 32768) (hs0 : SS0 d H) (hx : storedStep d.src d.fin d.pos H = x) (hm : d.pos + 4 ≤ d.src.length → 2 * (8 * d.src.length + 1 - 8 * (d.pos + 4)) + 1 < m) (hm0 : 0 < m) :
 Calls Tryz.prog 80 #[.pointer (some ⟨F, 0, none⟩)] w (StepPost w F C p d k m x) := by
 have HS00 := zHi hs0
 clear hs0
 have hD := h.dec
 have c0 := hD.r
 have c3 := hD.b
 have c4 := hD.nb
 have f3 := hD.fr 3
 have f4 := hD.fr 4
 have HH := zHi h
 have HX := zHi hx
 have hD2 := (hD.set_nb 0).set_b 0
 obtain ⟨w2, hw2⟩ : ∃ w2, w2 = (w.setCell ⟨F, 4, none⟩ (.int .u64 0)).setCell ⟨F, 3, none⟩ (.int .u32 0) := ⟨_, rfl⟩
 rw [show ((w.setCell ⟨F, 4, none⟩ (.int .u64 ((0 : Nat) : Int))).setCell ⟨F, 3, none⟩ (.int .u32 ((0 : Nat) : Int))) = w2 from hw2.symm] at hD2
 have hf2 : Frm (SX F d) w w2 := by rw [hw2]; exact ((Frm.refl _ _).setCell (.inl (.inr (.inr ⟨rfl, by simp⟩))) _).setCell (.inl (.inr (.inr ⟨rfl, by simp⟩))) _
 have hne := hD.neRF
 have hRd : Calls Tryz.prog 55 #[.iface 48 (.pointer (some ⟨d.R, 0, none⟩)), .slice (some ⟨F, 1041, none⟩) 4 4] w2.drew (FullPost p w2.drew d.R d.base d.src d.pos F 1041 4) := by
  refine readFull_any _ _ _ _ _ _ _ _ _ C _ hD2.so.drew (h.env.keep hf2.drew (fun b o e => ((SX.ok h) b o e).1)) h.cR h.cF (by omega) (by omega) (by omega) (Ne.symm hne) (fun a ha e => hD.far a ha (by rw [← e]; simp)) (fun j hj => ?_) (fun j _ => hD2.fr _)
  show (w2.cell? _).isSome = true
  match j, hj with
  | 0, _ => rw [hD2.u0]; rfl
  | 1, _ => rw [show 1041 + 1 = 1042 from rfl, hD2.u1]; rfl
  | 2, _ => rw [show 1041 + 2 = 1043 from rfl, hD2.u2]; rfl
  | 3, _ => rw [show 1041 + 3 = 1044 from rfl, hD2.u3]; rfl
  | j + 4, hj => omega
 have hRd' : Calls Tryz.prog 55 #[.iface 48 (.pointer (some ⟨d.R, 0, none⟩)), .slice (some ⟨F, 1041, none⟩) 4 4] w2.drew (fun e w3 => ∃ (K : Nat) (ev : Value), e = .returned (.tuple #[.int .i64 (K : Int), ev]) ∧
  Hid (K = Nat.min (d.src.length - d.pos) 4 ∧ ev = (if K = 4 then .nilIface else if K = 0 then errAt p.E else errAt p.U) ∧ ReadPost w2.drew d.R d.base d.src d.pos F 1041 K w3)) :=
  hRd.mono fun e w3 ⟨K, h1, h2, h3⟩ => ⟨K, _, h2, zHi ⟨h1, rfl, h3⟩⟩
 have HRd := zHi hRd'
 have HD2 := zHi hD2
 have HF2 := zHi hf2
 have k0 : w2.cell? ⟨F, 0, none⟩ = some (.iface 48 (.pointer (some ⟨d.R, 0, none⟩))) := hD2.r
 clear h hx hRd hRd' hD hD2 hf2
 go_enter Tryz.func80, Tryz.ntmps80
 go_upto_region 2 with (fail)
 rw [← hw2]
 clear hw2
 go_region_with (go_at_call 55; refine HRd.out.mono ?_; rintro e w3 ⟨K, ev, rfl, HP⟩)
 obtain ⟨hK, hev, hS3, hf3, hc3⟩ := HP.out
 obtain ⟨m1', m2', m3'⟩ := min_cases (d.src.length - d.pos) 4
 rw [← hK] at m1' m2' m3'
 have hle := HH.out.dec.so.le
 obtain ⟨v, hv⟩ : ∃ v : Nat → UInt8, v = fun j => if j < K then d.src.getD (d.pos + j) 0 else (if j = 0 then d.u0 else if j = 1 then d.u1 else if j = 2 then d.u2 else d.u3) := ⟨_, rfl⟩
 have hRF := HH.out.dec.neRF
 have hHF := HH.out.dec.neHF
 have hRH := HH.out.dec.neRH
 have hcv : ∀ j u, j < 4 → w2.cell? ⟨F, 1041 + j, none⟩ = some (.int .u8 (u : UInt8).toNat) → (¬ j < K → v j = u) → w3.cell? ⟨F, 1041 + j, none⟩ = some (.int .u8 ((v j).toNat : Int)) := by
  intro j u hj hu hvj
  by_cases hjk : j < K
  · rw [hv]; simp only; rw [if_pos hjk]; exact hc3 j hjk
  · rw [hvj hjk]; exact hf3.keep hu (fun e => by omega)
 have hD3 := HD2.out.drew.set_io (hf3.mono fun b o e => e.elim .inl (fun e => .inr (.inr ⟨e.1, by omega⟩))) hS3 d.g (fun i hi => hf3.keep (HD2.out.win i hi) (fun e => e.elim (fun q => hRH q.symm) (fun q => hHF q.1))) (v 0) (v 1) (v 2) (v 3)
  (hcv 0 d.u0 (by omega) HD2.out.u0 (fun e => by rw [hv]; simp only; rw [if_neg e]; rfl)) (hcv 1 d.u1 (by omega) HD2.out.u1 (fun e => by rw [hv]; simp only; rw [if_neg e]; rfl))
  (hcv 2 d.u2 (by omega) HD2.out.u2 (fun e => by rw [hv]; simp only; rw [if_neg e]; rfl)) (hcv 3 d.u3 (by omega) HD2.out.u3 (fun e => by rw [hv]; simp only; rw [if_neg e]; rfl))
 have hf23 : Frm (SX F d) w w3 := HF2.out.trans ((((Frm.refl (SX F d) w2).drew).trans (hf3.mono fun b o e => e.elim .inl (fun e => .inr (.inr ⟨e.1, by omega⟩)))))
 have d2 := hD3.roff
 have d48 := hD3.err
 have g2 := hD3.fr 2
 have g48 := hD3.fr 1048
 simp only at d2 d48
 rw [hro] at d2
 have hfew := HH.out.dec.so.few
 have b3 : (d.pos : Int) ≤ 1099511627776 := by omega
 have b4 : (K : Int) ≤ 4 := by omega
 have HD3 := zHi hD3
 have HF23 := zHi hf23
 have HV := zHi hv
 have HEV := zHi hev
 have HK := zHi hK
 have HMM := zHi m3'
 clear hcv hD3 hf23 hS3 hf3 hc3 hev hK HP c0 c3 c4 f3 f4 k0 m3' hv
 obtain ⟨w4, hw4⟩ : ∃ w4, w4 = w3.setCell ⟨F, 2, none⟩ (.int .i64 ((d.pos : Int) + (K : Int))) := ⟨_, rfl⟩
 have hD4 := HD3.out.set_roff (d.pos + K)
 rw [show ((d.pos + K : Nat) : Int) = (d.pos : Int) + (K : Int) by omega, ← hw4] at hD4
 have hf4 : Frm (SX F d) w w4 := by rw [hw4]; exact HF23.out.setCell (.inl (.inr (.inr ⟨rfl, by simp⟩))) _
 have HD4 := zHi hD4
 have HF4 := zHi hf4
 have HW4 := zHi hw4
 have e48 := hD4.err
 have k48 := hD4.fr 1048
 have e41 := hD4.u0
 have e42 := hD4.u1
 have e43 := hD4.u2
 have e44 := hD4.u3
 have e52 := hD4.cl
 have k52 := hD4.fr 1052
 have e49 := hD4.toRead
 have k49 := hD4.fr 1049
 have e2 := hD4.roff
 simp only at e48 e41 e42 e43 e44 e52 e49 e2
 clear hD4 hf4 hw4
 by_cases hK4 : K = 4
 · have hev := HEV.out; rw [if_pos hK4] at hev; subst hev; have HK4 := zHi hK4; clear hK4; obtain ⟨a0, ha0⟩ : ∃ a, a = (v 0).toNat := ⟨_, rfl⟩; obtain ⟨a1, ha1⟩ : ∃ a, a = (v 1).toNat := ⟨_, rfl⟩; obtain ⟨a2, ha2⟩ : ∃ a, a = (v 2).toNat := ⟨_, rfl⟩; obtain ⟨a3, ha3⟩ : ∃ a, a = (v 3).toNat := ⟨_, rfl⟩; rw [← ha0] at e41; rw [← ha1] at e42; rw [← ha2] at e43; rw [← ha3] at e44; have l0 : (a0 : Int) ≤ 255 := by have := (v 0).toNat_lt; omega
   have l1 : (a1 : Int) ≤ 255 := by have := (v 1).toNat_lt; omega
   have l2 : (a2 : Int) ≤ 255 := by have := (v 2).toNat_lt; omega
   have l3 : (a3 : Int) ≤ 255 := by have := (v 3).toNat_lt; omega
   have hor : ∀ x y : Nat, x ≤ 255 → y ≤ 255 → bits .or .i64 (x : Int) ((y : Int) * 256) = ((x + 256 * y : Nat) : Int) := by
    intro x y hx hy; rw [show (y : Int) * 256 = ((y * 256 : Nat) : Int) by omega, i64_or_nat _ _ (by omega) (by omega), Nat.or_comm, nat_join 8 _ _ (by omega) (by omega)]
    congr 1; omega
   have o1 := hor a0 a1 (by omega) (by omega)
   have o2 := hor a2 a3 (by omega) (by omega)
   obtain ⟨n, hn⟩ : ∃ n, n = a0 + 256 * a1 := ⟨_, rfl⟩; obtain ⟨n2, hn2⟩ : ∃ n, n = a2 + 256 * a3 := ⟨_, rfl⟩; rw [← hn] at o1; rw [← hn2] at o2; have l4 : (n : Int) ≤ 65535 := by omega
   have l5 : (n2 : Int) ≤ 65535 := by omega
   have hpl : d.pos + 4 ≤ d.src.length := by have := HK4.out; omega
   have hb1 : bv d.src (8 * d.pos) 16 = n := by
    have hvj : ∀ j, j < 4 → v j = d.src.getD (d.pos + j) 0 := fun j hj => by rw [HV.out]; simp only; rw [if_pos (by have := HK4.out; omega)]
    rw [bv_two _ _ (by omega), hn, ha0, ha1, hvj 0 (by omega), hvj 1 (by omega), getD_at _ _ (by omega), getD_at _ _ (by omega)]; rfl
   have hb2 : bv d.src (8 * d.pos + 16) 16 = n2 := by
    have hvj : ∀ j, j < 4 → v j = d.src.getD (d.pos + j) 0 := fun j hj => by rw [HV.out]; simp only; rw [if_pos (by have := HK4.out; omega)]
    rw [show 8 * d.pos + 16 = 8 * (d.pos + 2) by omega, bv_two _ _ (by omega), hn2, ha2, ha3, hvj 2 (by omega), hvj 3 (by omega), getD_at _ _ (by omega), getD_at _ _ (by omega)]
   have HB1 := zHi hb1; have HB2 := zHi hb2; have HK3 := zHi hpl; have e5 : IntKind.u16.wrap (bits .xor .i64 (if IntKind.i64.signed = true then -1 else 9223372036854775807) (n : Int)) = 65535 - (n : Int) := by
    rw [if_pos (show IntKind.i64.signed = true from rfl), i64_not n (by omega), IntKind.wrap_u16]; omega
   clear hb1 hb2 hpl hn hn2 hor ha0 ha1 ha2 ha3; go_upto_region 4 with (fail)
   rw [← HW4.out]; go_wp2_with fail
   (go_quiet (fail))
   generalize nq = qa
   go_wp2_with fail
   (go_quiet (fail))
   obtain ⟨qq, hqq⟩ : ∃ qq, qq = qa + nq := ⟨_, rfl⟩; obtain ⟨d4, hd4⟩ : ∃ d4 : DS, d4 = { d with pos := d.pos + K, roff := d.pos + K, b := 0, nb := 0, u0 := v 0, u1 := v 1, u2 := v 2, u3 := v 3 } := ⟨_, rfl⟩; have hD4 : Dec w4 F d4 := by rw [hd4]; exact HD4.out
   have s4 : Same d d4 := by rw [hd4]; exact ⟨rfl, rfl, rfl, rfl, rfl, rfl⟩
   have hS4 : St w4 F C p d4 H k 0 := HH.out.of hD4 HF4.out (SX.ok HH.out) s4 (by rw [hd4]; exact ⟨rfl, rfl, rfl, rfl, rfl⟩)
   have q1 : d4.wr = d.wr := by rw [hd4]
   have q2 : d4.rd = d.rd := by rw [hd4]
   have q3 : d4.HB = d.HB := by rw [hd4]
   have q4 : d4.err = .nilIface := by rw [hd4]; exact he
   have q5 : d4.b = 0 ∧ d4.nb = 0 ∧ d4.roff = d.pos + K ∧ d4.pos = d.pos + K ∧ d4.fin = d.fin := by rw [hd4]; exact ⟨rfl, rfl, rfl, rfl, rfl⟩
   have HSS := zHi (zAi hS4 (zAi s4 (zAi q3 q5))); have HD4' := zHi hD4; have HS0 := zHi (show SS0 d4 H from HS00.out.same (by rw [hd4]) (by rw [hd4]) (by rw [hd4]) (Nat.le_refl _))
   clear hS4 s4 q3 q5 hD4 hd4; have hxx : x = if n + n2 ≠ 65535 then (.done .corrupt (d.pos + 4), H) else stRest d.src d.fin (d.pos + 4) n H := by
    rw [← HX.out]; unfold storedStep; rw [HB1.out, HB2.out, if_neg (by have := HK3.out; omega)]
   have HXX := zHi hxx; clear hxx
   by_cases hbad : n + n2 = 65535
   · have e7 : ((n2 : Int) != 65535 - (n : Int)) = false := by simp; omega
     by_cases hn0 : n = 0
     · have e8 : ((n : Int) == 0) = true := by simp; omega
       have HN0 := zHi hn0; have HBAD := zHi hbad; clear hn0 hbad; go_wp2_with fail
       rw [← hqq]; refine (readFlush_any _ F d4 (HD4'.out.drewN qq) (by rw [q1]; omega) (by rw [q1, q2]; exact HH.out.rd) (by rw [q2]; exact HH.out.rd2)).mono ?_
       rintro e w6 ⟨rfl, hD6, hf6⟩; rw [show (if d4.wr = 32768 then { d4 with wr := 0, rd := 0, full := true } else { d4 with rd := d4.wr } : DS) = d4.flushed from rfl] at hD6
       have hlF := HD4'.out.lt; have r49 : w6.cell? ⟨F, 1049, none⟩ = some d.toRead := hf6.keep e49 (by omega)
       have s49 : w6.frozen? ⟨F, 1049, none⟩ = false := (hf6.froz F 1049 hlF).trans k49; have HD6 := zHi hD6; have HF6 := zHi hf6; have HQ1 := zHi q1; have HQ2 := zHi q2; clear hD6 hf6 e49 k49 q1 q2 hqq; go_wp2_with fail
       obtain ⟨w7, hw7⟩ : ∃ w7, w7 = w6.setCell ⟨F, 1049, none⟩ (.slice (some ⟨d4.HB, d4.rd, none⟩) (d4.wr - d4.rd) (32768 - d4.rd)) := ⟨_, rfl⟩; obtain ⟨hS4, s4, q3, q5⟩ := HSS.out; have hD7 := HD6.out.set_toRead (.slice (some ⟨d4.HB, d4.rd, none⟩) (d4.wr - d4.rd) (32768 - d4.rd)); rw [← hw7] at hD7 ⊢; obtain ⟨fs, fp, fg⟩ := flushed_same d4; obtain ⟨f1, f2, f3, f4, f5, f6, f7', f8', _⟩ := flushed_more d4; have hf7 : Frm (SX F d) w4 w7 := by
        refine (((Frm.refl _ _).drewN qq).trans (HF6.out.mono fun b o e => .inr (.inr ⟨e.1, by omega⟩))).trans ?_
        rw [hw7]; exact (Frm.refl _ _).setCell (.inl (.inr (.inr ⟨rfl, by simp⟩))) _
       obtain ⟨g1, g2, g3⟩ := hS4.flush hD7 hf7 (SX.ok HH.out) ⟨fs.R, fs.base, fs.src, fs.BB, fs.CB, fs.HB⟩ fg rfl rfl rfl rfl; have hp4 : d4.pos = d.pos + 4 := by rw [q5.2.2.2.1, HK4.out]
       refine (finishBlock_any w7 F C p _ H k _ ⟨8 * (d.pos + 4), d.pos + 4⟩ g1 (put_edge (f4.trans q5.1) (f5.trans q5.2.1) (f6.trans (by rw [q5.2.2.1, HK4.out])) (fp.trans hp4)) ⟨Nat.le_refl _, by show d.pos + 4 ≤ d4.flushed.src.length; rw [fs.src, s4.src]; exact HK3.out⟩
        (by unfold Br.nb; simp only; omega) (f1.trans q4) g2 (.inr g3.symm) (HS0.out.same f7' f8' f3 (Nat.le_refl _))).mono ?_
       rintro e w8 ⟨rfl, d8, n8, hS8, hM8, hs8, hw8, hm8, hf8⟩; have HM8 := zHi hM8; have HS7 : Same d d4.flushed := s4.trans fs; clear hM8 g1 hD7 q5 hS4; go_wp2_with fail
       go_end0
       have hxe : (more d4.flushed.fin ⟨8 * (d.pos + 4), d.pos + 4⟩, H) = x := by
        rw [HXX.out, if_neg (by have := HBAD.out; omega), HN0.out]
        unfold stRest; rw [if_pos HK3.out, f2, HSS.out.2.2.2.2.2.2.2, List.take_zero, List.append_nil]
       refine ⟨rfl, d8, H, n8, x, hS8, by rw [← hxe]; exact HM8.out, .refl _, ⟨hs8.R.trans HS7.R, hs8.base.trans HS7.base, hs8.src.trans HS7.src, hs8.BB.trans HS7.BB, hs8.CB.trans HS7.CB, hs8.HB.trans HS7.HB⟩, hw8, .inr ?_,
        ((HF4.out.trans hf7).mono fun b o e => SX.sa e).trans (hf8.mono fun b o e => .inl e.1)⟩
       have hm9 : dmu d8 ≤ 2 * (8 * d4.flushed.src.length + 1 - 8 * (d.pos + 4)) + 1 := hm8; rw [HS7.src] at hm9; have := hm HK3.out; omega
     · have e8 : ((n : Int) == 0) = false := by simp; omega
       have HBAD := zHi hbad; clear hbad; go_wp2_with fail
       rw [← hqq]; obtain ⟨w7, hw7⟩ : ∃ w7, w7 = (w4.drewN qq).setCell ⟨F, 1052, none⟩ (.int .i64 (n : Int)) := ⟨_, rfl⟩; obtain ⟨hS4, s4, q3, q5⟩ := HSS.out; have hD7 := (hS4.dec.drewN qq).set_cl (n : Int); rw [← hw7] at hD7 ⊢; have hf7 : Frm (SX F d) w4 w7 := by rw [hw7]; exact ((Frm.refl _ _).drewN qq).setCell (.inl (.inr (.inr ⟨rfl, by simp⟩))) _
       have hS7 := hS4.of hD7 hf7 (SX.ok HH.out) ⟨rfl, rfl, rfl, rfl, rfl, rfl⟩ ⟨rfl, rfl, rfl, rfl, rfl⟩; have hp4 : d4.pos = d.pos + 4 := by rw [q5.2.2.2.1, HK4.out]
       have hr4 : d4.roff = d4.pos := by rw [q5.2.2.1, q5.2.2.2.1]
       refine (copyData_any w7 F C p _ H k n m x hS7 q4 (put_edge q5.1 q5.2.1 hr4 rfl) rfl (by omega) (by simp only; rw [q1]; exact hw) (HS0.out.one.same rfl rfl (Nat.le_refl _)) ?_ ?_ hm0).mono ?_
       · show stRest d4.src d4.fin d4.pos n H = x
         rw [HXX.out, if_neg (by have := HBAD.out; omega), s4.src, q5.2.2.2.2, hp4]
       · show d4.pos + n ≤ d4.src.length → 2 * (8 * d4.src.length + 1 - 8 * (d4.pos + n)) + 1 < m
         rw [hp4, s4.src]; intro hle2; have := hm HK3.out; omega
       · rintro e w8 hP8; have HP8 := zHi (hP8.from_ (w := w) (d := d) ⟨s4.R, s4.base, s4.src, s4.BB, s4.CB, s4.HB⟩ ((HF4.out.trans hf7).mono fun b o e => SX.sa e))
         obtain ⟨rfl, _⟩ := hP8; clear hD7 hS7 q5 hS4; go_wp2_with fail
         go_end0
         exact HP8.out
   · have e7 : ((n2 : Int) != 65535 - (n : Int)) = true := by simp; omega
     have HBAD := zHi hbad; go_wp2_with fail
     go_end0
     rw [← hqq]; obtain ⟨hS4, s4, q3, q5⟩ := HSS.out; have hf7 : Frm (SX F d) w4 ((w4.drewN qq).setCell ⟨F, 1048, none⟩ (corruptAt (d.pos + K))) := ((Frm.refl _ _).drewN qq).setCell (.inl (.inr (.inr ⟨rfl, by simp⟩))) _
     refine ⟨rfl, _, H, 0, x, hS4.of ((hS4.dec.drewN qq).set_err (corruptAt (d.pos + K))) hf7 (SX.ok HH.out) ⟨rfl, rfl, rfl, rfl, rfl, rfl⟩ ⟨rfl, rfl, rfl, rfl, rfl⟩, ?_, .refl _, ⟨s4.R, s4.base, s4.src, s4.BB, s4.CB, s4.HB⟩, ⟨by simp only; rw [q1]; exact hw, fun q => absurd q (by omega)⟩, .inr hm0, (HF4.out.trans hf7).mono fun b o e => SX.sa e⟩
     rw [HXX.out, if_pos HBAD.out]; exact .inl ⟨⟨d.pos + K, rfl⟩, rfl, by simp only; rw [q5.2.2.2.1, HK4.out]⟩
 · obtain ⟨q, hq, hqe⟩ : ∃ q, (q = p.E ∨ q = p.U) ∧ ev = errAt q := by
    have := HEV.out; rw [if_neg hK4] at this
    by_cases h0 : K = 0
    · exact ⟨p.E, .inl rfl, by rw [this, if_pos h0]⟩
    · exact ⟨p.U, .inr rfl, by rw [this, if_neg h0]⟩
   subst hqe; go_upto_region 4 with (fail)
   rw [← HW4.out]; go_wp2_with fail
   refine (noEOF_any w4 C p (HH.out.env.keep HF4.out (fun b o e => ((SX.ok HH.out) b o e).1)) q hq).mono ?_
   rintro e w5 ⟨rfl, rfl⟩; go_wp2_with fail
   go_end0
   have hf7 : Frm (SX F d) w4 (w4.setCell ⟨F, 1048, none⟩ (errAt p.U)) := (Frm.refl _ _).setCell (.inl (.inr (.inr ⟨rfl, by simp⟩))) _
   refine ⟨rfl, _, H, 0, x, HH.out.of (HD4.out.set_err (errAt p.U)) (HF4.out.trans hf7) (SX.ok HH.out) ⟨rfl, rfl, rfl, rfl, rfl, rfl⟩ ⟨rfl, rfl, rfl, rfl, rfl⟩, ?_, .refl _, ⟨rfl, rfl, rfl, rfl, rfl, rfl⟩, ⟨hw, fun q => absurd q (by omega)⟩, .inr hm0, (HF4.out.trans hf7).mono fun b o e => SX.sa e⟩
   rw [← HX.out]; unfold storedStep; have := HMM.out; rw [if_pos (by omega)]
   exact .inl ⟨rfl, rfl, by simp only; omega⟩
end Go.Proofs.YthfncdfcklbigaaGreatDoor
namespace Go.Proofs.YthfncdfcklbigaaGreatDoor
open Go.RowKit
def jumpsTo (J : Nat → Act → World → Prop) (Q : Exit → Act → World → Prop) : Exit → Act → World → Prop
 | .goto l, a, w => J l a w
 | e, a, w => Q e a w
section
variable {P : Program} {a : Act} {w : World} {Q : Exit → Act → World → Prop}
theorem wp_scope_labels {c : Code} (J : Nat → Act → World → Prop) (μ : Nat → Act → World → Nat) (first : c.wp P (jumpsTo J Q) a w)
 (pass : ∀ l a w, J l a w → ∃ rest, findLabel c l = some rest ∧ rest.wp P (jumpsTo (fun l' a' w' => J l' a' w' ∧ μ l' a' w' < μ l a w) Q) a w) : (Code.scope c).wp P Q a w := by
 intro b k cs
 have key : ∀ n l a w, μ l a w = n → J l a w → ∃ rest, gotoIn l (.inScope c :: k) = some (.code rest :: .inScope c :: k) ∧ ∃ e a' w', Q e a' w' ∧ Arrives P (lone (b.at a (.code rest :: .inScope c :: k)) cs w) b k cs e a' w' := by
  intro n
  induction n using Nat.strongRecOn with
  | _ n ih =>
   intro l a w hn hJ; obtain ⟨rest, hf, hp⟩ := pass l a w hJ; have hg : gotoIn l (.inScope c :: k) = some (.code rest :: .inScope c :: k) := by simp [gotoIn, hf]
   refine ⟨rest, hg, ?_⟩; obtain ⟨e, a₁, w₁, hq, harr⟩ := hp b (.inScope c :: k) cs
   cases e with
   | normal => exact ⟨.normal, a₁, w₁, hq, Steps.trans harr (.one step_inScope)⟩
   | exit id => exact ⟨.exit id, a₁, w₁, hq, fun k' hk => harr k' (by simp [exitTo, hk])⟩
   | goto l' =>
    obtain ⟨hJ', hlt⟩ := hq; obtain ⟨rest2, hg2, e₂, a₂, w₂, hq₂, harr₂⟩ := ih _ (by omega) l' a₁ w₁ rfl hJ'
    exact ⟨e₂, a₂, w₂, hq₂, .of_steps (harr _ hg2) harr₂⟩
   | ret => exact ⟨_, a₁, w₁, hq, harr⟩
   | panic ch => exact ⟨_, a₁, w₁, hq, harr⟩
   | outgrown => exact ⟨_, a₁, w₁, hq, harr⟩
 obtain ⟨e, a₁, w₁, hq, harr⟩ := first b (.inScope c :: k) cs
 cases e with
 | normal => exact ⟨.normal, a₁, w₁, hq, .head step_scope (Steps.trans harr (.one step_inScope))⟩
 | exit id => exact ⟨.exit id, a₁, w₁, hq, fun k' hk => .head step_scope (harr k' (by simp [exitTo, hk]))⟩
 | goto l' =>
  obtain ⟨rest, hg, e₂, a₂, w₂, hq₂, harr₂⟩ := key _ l' a₁ w₁ rfl hq; exact ⟨e₂, a₂, w₂, hq₂, .of_steps (.head step_scope (harr _ hg)) harr₂⟩
 | ret => exact ⟨_, a₁, w₁, hq, .of_steps (.one step_scope) harr⟩
 | panic ch => exact ⟨_, a₁, w₁, hq, .of_steps (.one step_scope) harr⟩
 | outgrown => exact ⟨_, a₁, w₁, hq, .of_steps (.one step_scope) harr⟩
theorem jumpsTo_ret (J : Nat → Act → World → Prop) : jumpsTo J Q .ret a w = Q .ret a w := rfl
end
theorem frame_list (t : Array Value) (n : Nat) (h : t.size = n) : t = ((List.range n).map fun i => t.getD i undef).toArray := by
 apply Array.ext
 · simp [h]
 · intro i h1 h2; simp [Array.getD, h1]
end Go.Proofs.YthfncdfcklbigaaGreatDoor
namespace Go.Proofs.YthfncdfcklbigaaGreatDoor
open Go.RowKit Flate
set_option maxRecDepth 100000
theorem getBits_zero (src : List UInt8) (r : Br) : getBits src 0 r = .ok 0 r := by
 unfold getBits
 rw [fill_has (Nat.zero_le _)]
 simp only
 rw [bv_zero]; rfl
def MB (w : World) (F : Nat) (d : DS) (r : Br) (n : Nat) (wr : World) : Prop :=
 ∃ r', Dec wr F (d.put r') ∧ r'.ok d.src ∧ r'.nb ≤ 22 ∧ fill d.src.length n r' = fill d.src.length n r ∧ Frm (SB F d.R) w wr
def leftN (len R : Nat) (w : World) : Nat :=
 match w.cell? ⟨R, 0, none⟩, w.cell? ⟨R, 1, none⟩ with
 | some (.slice _ n _), some (.int _ p) => (n - p).toNat
 | _, _ => 0
theorem leftN_of {w : World} {F : Nat} {d : DS} (h : Dec w F d) : leftN d.src.length d.R w = d.src.length - d.pos := by
 obtain ⟨_, off, N, Q, hN, hQ, h1, _, h2, _⟩ := h.so.s
 unfold leftN
 rw [h1, h2]
 simp only
 have := h.so.le
 omega
theorem Dec.take {w : World} {F : Nat} {d : DS} {r : Br} {n : Nat} (h : Dec w F (d.put r)) (hr : r.ok d.src) (hn : n ≤ r.nb) {b2 nb2 : Nat} (hb : b2 = r.b d.src / 2 ^ n) (hnb : nb2 = r.nb - n) :
 Dec ((w.setCell ⟨F, 3, none⟩ (.int .u32 (b2 : Int))).setCell ⟨F, 4, none⟩ (.int .u64 (nb2 : Int))) F (d.put { r with at_ := r.at_ + n }) := by
 have h1 := (h.set_b b2).set_nb nb2
 have e1 := b_skip (src := d.src) hn
 have e2 := (skip_ok hr hn).2
 have : d.put { r with at_ := r.at_ + n } = { d.put r with b := b2, nb := nb2 } := by
  unfold DS.put; rw [e2, ← e1, hb, hnb]
 rw [this]; exact h1
theorem b_mod {src : List UInt8} {r : Br} {n : Nat} (h : n ≤ r.nb) : r.b src % 2 ^ n = bv src r.at_ n := by
 unfold Br.b
 conv => lhs; rw [show r.nb = n + (r.nb - n) by omega]
 exact bv_mod _ _ _ _
theorem getBits_has {src : List UInt8} {r r' : Br} {n : Nat} (h : fill src.length n r' = fill src.length n r) (hn : n ≤ r'.nb) : getBits src n r = .ok (bv src r'.at_ n) { r' with at_ := r'.at_ + n } := by
 unfold getBits
 rw [← h, fill_has hn]
theorem getBits_cut {src : List UInt8} {r r' : Br} {n : Nat} (h : fill src.length n r' = fill src.length n r) (hn : ¬ n ≤ r'.nb) (hp : r'.pos = src.length) (ho : r'.ok src) : getBits src n r = .bad .cut r' := by
 unfold getBits
 rw [← h, fill_end hn hp ho.1]
theorem mask_bits (b n P : Nat) (hP : P = 2 ^ n) (hb : b < 4294967296) (hp : P ≤ 65536) : bits .and .u32 (b : Int) ((P : Int) - 1) = ((b % P : Nat) : Int) := by
 have := Nat.two_pow_pos n
 rw [show (P : Int) - 1 = ((P - 1 : Nat) : Int) by omega, u32_and_nat _ _ hb (by omega), hP, Nat.and_two_pow_sub_one_eq_mod]
theorem MB.call_more {w wr : World} {F : Nat} {d : DS} {r r' : Br} {n : Nat} (hD : Dec wr F (d.put r')) (ho : r'.ok d.src) (hfl : fill d.src.length n r' = fill d.src.length n r) (hf : Frm (SB F d.R) w wr) (hlt : ¬ n ≤ r'.nb) (hn : n ≤ 15) (hp : r'.pos < d.src.length) :
 Calls Tryz.prog 79 #[.pointer (some ⟨F, 0, none⟩)] wr fun e w' => e = .returned .nilIface ∧ Hid (MB w F d r n w' ∧ leftN d.src.length d.R w' < leftN d.src.length d.R wr) := by
 refine (moreBits_ok wr F d r' hD ho (by omega) hp).mono ?_
 rintro e w4 ⟨rfl, hD4, hf4⟩
 have h1 := ho.1
 refine ⟨rfl, zHi ⟨⟨_, hD4, ⟨by simp only; omega, hp⟩, ?_, (fill_more hlt hp h1).trans hfl, hf.trans hf4⟩, ?_⟩⟩
 · unfold Br.nb at hlt ⊢; simp only; omega
 · have e1 := leftN_of hD; have e2 := leftN_of hD4; have e1' : leftN d.src.length d.R wr = d.src.length - r'.pos := e1; have e2' : leftN d.src.length d.R w4 = d.src.length - (r'.pos + 1) := e2; rw [e1', e2']; omega
theorem MB.call_end {w wr : World} {F C : Nat} {p : Ps} {d : DS} {r r' : Br} {n : Nat} (he : Env w C p) (hC : C ≤ d.R) (hF : C ≤ F) (hD : Dec wr F (d.put r')) (ho : r'.ok d.src) (hfl : fill d.src.length n r' = fill d.src.length n r) (hf : Frm (SB F d.R) w wr) (hlt : ¬ n ≤ r'.nb) (hp : ¬ r'.pos < d.src.length) :
 Calls Tryz.prog 79 #[.pointer (some ⟨F, 0, none⟩)] wr fun e w' => e = .returned (errAt p.U) ∧ Dec w' F (d.put r') ∧ Hid (getBits d.src n r = .bad .cut r' ∧ Frm (SB F d.R) w w') := by
 have hpe : r'.pos = d.src.length := by have := ho.2; omega
 have he' : Env wr C p := he.keep hf (fun b o e => by rcases e with ⟨e, _⟩ | e <;> omega)
 refine (moreBits_end wr F C p d r' he' hC hD hpe).mono ?_
 rintro e w4 ⟨rfl, hD4, hf4⟩
 exact ⟨rfl, hD4, zHi ⟨getBits_cut hfl hlt hpe ho, hf.trans (hf4.mono fun b o e => .inr e)⟩⟩
theorem MB.has {w wr : World} {F : Nat} {d : DS} {r r' : Br} {n : Nat} (hD : Dec wr F (d.put r')) (ho : r'.ok d.src) (hn' : r'.nb ≤ 22) (hfl : fill d.src.length n r' = fill d.src.length n r) (hf : Frm (SB F d.R) w wr) (hlt : n ≤ r'.nb) {bb x b2 nb2 P : Nat}
 (hP : P = 2 ^ n) (hb : bb = r'.b d.src) (hx : x = bb % P) (hb2 : b2 = bb / P) (hnb : nb2 = r'.nb - n) :
 bb < 16777216 ∧ getBits d.src n r = .ok x { r' with at_ := r'.at_ + n } ∧ Dec ((wr.setCell ⟨F, 3, none⟩ (.int .u32 (b2 : Int))).setCell ⟨F, 4, none⟩ (.int .u64 (nb2 : Int))) F (d.put { r' with at_ := r'.at_ + n }) ∧
 Frm (SB F d.R) w ((wr.setCell ⟨F, 3, none⟩ (.int .u32 (b2 : Int))).setCell ⟨F, 4, none⟩ (.int .u64 (nb2 : Int))) ∧ ({ r' with at_ := r'.at_ + n } : Br).ok d.src ∧ ({ r' with at_ := r'.at_ + n } : Br).nb ≤ 22 := by
 obtain ⟨k1, k2⟩ := skip_ok ho hlt
 refine ⟨?_, ?_, hD.take ho hlt (by rw [hb2, hb, hP]) hnb, (hf.setCell (.inl (.inl ⟨rfl, by simp⟩)) _).setCell (.inl (.inl ⟨rfl, by simp⟩)) _, k1, by omega⟩
 · have h1 := bv_lt d.src r'.at_ r'.nb; have h2 : 2 ^ r'.nb ≤ 2 ^ 22 := Nat.pow_le_pow_right (by omega) (by omega)
   rw [hb]; unfold Br.b; omega
 · rw [getBits_has hfl hlt, hx, hb, hP, b_mod hlt]
end Go.Proofs.YthfncdfcklbigaaGreatDoor
