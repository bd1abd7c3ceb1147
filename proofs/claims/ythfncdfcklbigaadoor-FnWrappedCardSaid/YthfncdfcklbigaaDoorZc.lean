/-
  Several texts in one: what the writer and the reader of bits do.
-/
import Derived.Test.YthfncdfcklbigaaDoorDrain
import Derived.Test.YthfncdfcklbigaaDoorZb
import Derived.Test.YthfncdfcklbigaaDoorErr
import Derived.Test.YthfncdfcklbigaaDoorInfl
import Derived.Test.YthfncdfcklbigaaDoorInflK
import Derived.Test.YthfncdfcklbigaaDoorLawK
set_option linter.unusedVariables false
set_option linter.unusedSimpArgs false

/-
  'drain' once more: a reader that is asked for as many bytes as its buffer has.
-/
namespace Go.Proofs.YthfncdfcklbigaaDoor
open Go.RowKit Go.IntWalk Flate
set_option maxRecDepth 100000

/-- A reader: its method 'Read', function fn of the type T; what lies in it (M: its blocks, all below N0). -/
structure ReaderL (T fn F N0 : Nat) (M : Nat → Prop) (FH : List UInt8) (I : Nat → World → Prop) (J : Value → World → Prop) : Prop where
  meth : ∀ (n : Nat) (a : Addr) (w : World), (method (n + 1) T (.pointer (some a)) "Read").run Tryd.prog w = .ok (fn, .pointer (some a)) w
  enter : ∀ (args : Array Value) (w : World), (callFunc fn args).run Tryd.prog w = .ok (.enter fn args) w
  low : ∀ b, M b → b < N0
  read : ∀ (k : Nat) (w : World) (BX L : Nat), I k w → NewBuf w N0 BX L → 1 ≤ L → L ≤ 1048576 → Calls Tryd.prog fn #[.pointer (some ⟨F, 0, none⟩), .slice (some ⟨BX, 0, none⟩) L L] w (RdPost M FH I J k BX L w)
  keep : ∀ (k : Nat) (w w' : World), I k w → Frm (fun b _ => N0 ≤ b ∧ ByteBlock w b) w w' → I k w'
  keepJ : ∀ (v : Value) (w w' : World), J v w → Frm (fun b _ => N0 ≤ b ∧ ByteBlock w b) w w' → J v w'

set_option maxHeartbeats 4000000 in
theorem drainL_any (w : World) (T fn F : Nat) (M : Nat → Prop) (FH : List UInt8) (I : Nat → World → Prop) (J : Value → World → Prop) (hR : ReaderL T fn F w.heap.size M FH I J) (k0 : Nat) (hk0 : k0 ≤ FH.length) (hI : I k0 w) (hlen : FH.length ≤ 70368744177664)
    (sb : Option Addr) (sn sc : Nat) (hsz : Sizes w w.heap.size M (.slice sb sn sc)) : Calls Tryd.prog 36 #[.iface T (.pointer (some ⟨F, 0, none⟩)), .slice sb sn sc] w (Drained w.heap.size M FH k0 J w) := by
  have HR := Lib.hid hR
  have HI := Lib.hid hI
  have HSZ := Lib.hid hsz
  have HK := Lib.hid (And.intro hk0 hlen)
  obtain ⟨N0, hN0⟩ : ∃ N0, N0 = w.heap.size := ⟨_, rfl⟩
  have HN0 := Lib.hid hN0
  rw [← hN0] at HR HSZ ⊢
  have hmeth := HR.out.meth
  have henter := HR.out.enter
  clear hR hI hsz hk0 hlen hN0
  go_enter Tryd.func36, Tryd.ntmps36
  go_wp2_with fail
  go_loopg [6, 7] (FH.length + 1 - k0) (fun gk out i wr => DrInv N0 M FH k0 I w gk out i wr)
  case atStart => exact ⟨k0, 0, Nat.le_refl _, HK.out.1, Nat.zero_le _, rfl, rfl, by rw [Nat.sub_self, List.take_zero]; exact Row.nil _ _ _ _ _, HI.out, Frm.refl _ _⟩
  case round =>
    obtain ⟨k, n, hk, hkl, hn, hgk, rfl, hown, hIk, hF⟩ := hrel
    have hlen := HK.out.2
    have b1 : (n : Int) ≤ 70368744177664 := by omega
    have HO := Lib.hid (And.intro hk (And.intro hkl (And.intro hn (And.intro hgk (And.intro hown (And.intro hIk hF))))))
    clear hk hkl hn hgk hown hIk hF HI hlen
    have hz : Sizes wr N0 M (.slice sb sn sc) := by
      rcases HSZ.out with h | ⟨SB, so, ln, cap, h1, h2, h3, h4, h5, h6⟩
      · exact .inl h
      · exact .inr ⟨SB, so, ln, cap, h1, h2, h3, h4, h5, fun j hj => by obtain ⟨u, u1, u2, u3⟩ := h6 j hj; exact ⟨u, u1, u2, HO.out.2.2.2.2.2.2.keep u3 h5⟩⟩
    go_upto_if 16 with (fail)
    go_cut [8] (fun nn wq => ∃ L : Nat, nn = .int .i64 (L : Int) ∧ 1 ≤ L ∧ L ≤ 1000 ∧ wr = wq)
    case first =>
      rcases hz with ⟨zb, zc, hz⟩ | ⟨SB, so, ln, cap, hz, hz1, hz2, hz3, hz4, hz5⟩
      · injection hz with z1 z2 z3
        subst z1 z2 z3
        go_wp2_with fail
        go_meet
        case rel => exact ⟨512, rfl, by omega, by omega, rfl⟩
      · injection hz with z1 z2 z3
        subst z1 z2 z3
        obtain ⟨q, hq⟩ : ∃ q, q = n % sn := ⟨_, rfl⟩
        have hql : q < sn := by rw [hq]; exact Nat.mod_lt _ (by omega)
        obtain ⟨u, u1, u2, hu⟩ := hz5 q hql
        have e1 : (n : Int) % (sn : Int) = (q : Int) := by rw [hq]; omega
        have c1 : (1 : Int) ≤ (sn : Int) := by omega
        have c2 : (sn : Int) ≤ 2147483647 := by omega
        have c3 : 0 < sn := by omega
        have HU := Lib.hid (And.intro u1 u2)
        clear hq hz1 hz2 hz3 hz4 hz5 u1 u2
        go_wp2_with fail
        go_meet
        case rel => exact ⟨u, rfl, HU.out.1, HU.out.2, rfl⟩
    case rest =>
    obtain ⟨L, rfl, hL1, hL2, rfl⟩ := hcut
    obtain ⟨hk, hkl, hn, hgk, hown, hIk, hF⟩ := HO.out
    have hlen := HK.out.2
    clear hz HO
    go_upto_region 7 with (fail)
    refine wp_region_lit ?_
    refine wpList_run (by rfl) (by rfl) ?_
    refine wpList_bytes (by rfl) _ _ (by rfl) .i64 .i64 L (by rfl) (by rfl) (by omega) ?_
    intro w2 hw2
    obtain ⟨BX, hBX⟩ : ∃ BX, BX = wr.heap.size := ⟨_, rfl⟩
    rw [← hBX]
    have hN : N0 ≤ BX := by rw [hBX, HN0.out]; exact hF.size
    have hf2 : Frm (fun _ _ => False) wr w2 := by rw [hw2]; exact (Frm.refl _ _).alloc _
    have hcb : ∀ j, w2.cell? ⟨BX, j, none⟩ = (madeCells #[.int .u8 0] L)[j]? := fun j => by rw [hw2, hBX]; exact cells_at (heap_alloc_new wr _)
    have hNB : NewBuf w2 N0 BX L := by
      refine ⟨hN, fun j hj => ⟨0, by rw [hw2, hBX]; exact new_row _ _ _ _ _ hj⟩, fun o v hv => ?_, fun j => by rw [hw2, hBX, World.frozen?_alloc_new]⟩
      rw [hcb] at hv
      have hj : o < L := by have := (Array.getElem?_eq_some_iff.1 hv).1; rw [size_madeCells] at this; exact this
      have := new_row wr (.int .u8 0) 5 L o hj
      rw [← hcb, hw2, hBX, this] at hv
      exact ⟨0, (Option.some.inj hv).symm⟩
    have hI2 : I k w2 := HR.out.keep k wr w2 hIk (hf2.mono fun b o e => e.elim)
    have hown2 : Own w2 N0 u6 ((FH.drop k0).take (k - k0)) := hown.keep hf2 (fun g o _ e => e)
    have hgB : ∀ g, u6.ownBlock = some g → N0 ≤ g ∧ g < BX := fun g hg => by rw [hBX]; exact hown.lt g hg
    have HX := Lib.hid (And.intro hk (And.intro hkl (And.intro hn (And.intro hgk (And.intro hF (And.intro hL1 (And.intro hL2 (And.intro hlen hN))))))))
    have HB := Lib.hid hgB
    have HO2 := Lib.hid hown2
    have HI2 := Lib.hid (And.intro hI2 hNB)
    have HF2 := Lib.hid hf2
    have HBX := Lib.hid hBX
    clear hk hkl hn hgk hown hIk hF hL1 hL2 hlen hN hf2 hcb hNB hI2 hown2 hgB hw2 hBX
    go_wp2_with fail
    refine (HR.out.read k w2 BX L HI2.out.1 HI2.out.2 HX.out.2.2.2.2.2.1 (by have := HX.out.2.2.2.2.2.2.1; omega)).mono ?_
    rintro e w3 ⟨m, errv, rfl, hmL, hf3, hcells, hend⟩
    have HE := Lib.hid hend
    have HC := Lib.hid hcells
    have HF3 := Lib.hid hf3
    have hown3 : Own w3 N0 u6 ((FH.drop k0).take (k - k0)) := HO2.out.keep hf3 (fun g o hg q => by
      obtain ⟨g1, g2⟩ := HB.out g hg
      rcases q with q | q
      · have := HR.out.low g q; omega
      · omega)
    have hkm : k + m ≤ FH.length := by
      rcases hend with ⟨_, _, h, _⟩ | ⟨_, h, _⟩ <;> omega
    have hl0 : ((FH.drop k0).take (k - k0)).length = k - k0 := by
      obtain ⟨hk, hkl, _⟩ := HX.out
      simp only [List.length_take, List.length_drop]; omega
    have hnl : ((List.range m).map fun j => FH.getD (k + j) 0).length = m := by simp
    obtain ⟨v', w4, hrun, hown4, hf4, hob⟩ := append_bytes w3 N0 u6 _ hown3 ⟨BX, 0, none⟩ rfl L ((List.range m).map fun j => FH.getD (k + j) 0) (fun j hj => by
      rw [hnl] at hj
      have := hcells j hj
      simpa using this) (by rw [hl0, hnl]; have := HX.out.2.2.2.2.2.2.2.1; omega) (by have := HX.out.2.2.2.2.1.size; have := HF2.out.size; have := hf3.size; rw [HN0.out]; omega)
    rw [hnl] at hrun
    have hsl := run_head BX L m hmL
    have htake : (FH.drop k0).take (k - k0) ++ (List.range m).map (fun j => FH.getD (k + j) 0) = (FH.drop k0).take (k + m - k0) := by
      obtain ⟨hk, hkl, _⟩ := HX.out
      have := take_more (FH.drop k0) (k - k0) m (by rw [List.length_drop]; omega)
      rw [show k - k0 + m = k + m - k0 by omega] at this
      rw [← this]
      congr 1
      apply List.map_congr_left
      intro j _
      simp only [List.getD_eq_getElem?_getD, List.getElem?_drop]
      rw [show k0 + (k - k0 + j) = k + j by omega]
    rw [htake] at hown4
    have HO4 := Lib.hid hown4
    have HF4 := Lib.hid hf4
    have HKM := Lib.hid hkm
    have hby : Frm (SBy' w3 N0) w3 w4 := hf4.mono fun b o q => ⟨(HB.out b q).1, fun o' v' hv' => hown3.kind b q o' v' hv'⟩
    have HBY := Lib.hid hby
    have hFall : Frm (fun b _ => M b) w w4 := by
      obtain ⟨_, _, _, _, hF, _⟩ := HX.out
      have h1 : Frm (fun b _ => M b) w w2 := hF.trans (HF2.out.mono fun b o e => e.elim)
      have h2 : Frm (fun b _ => M b) w w3 := h1.trans' hf3 (fun x o hx q => by
        rcases q with q | q
        · exact q
        · exfalso; rw [q, HBX.out] at hx; have := hF.size; omega)
      exact h2.trans' hf4 (fun x o hx q => by have := (HB.out x q).1; rw [HN0.out] at this; omega)
    have HFA := Lib.hid hFall
    clear hend hcells hf3 hown3 hkm hl0 hnl hown4 hf4 hob hmL htake hby hFall
    have hrun0 := fun ty => hrun ty
    clear hrun
    go_upto_region 10 with (at_builtin; refine wpList_append_by (by rfl) (.tmp 32) (.tmp 35) 22 (by rfl) _ _ (by rfl) (by rfl) (hrun0 _) ?_)
    clear hrun0 hsl
    rcases HE.out with ⟨rfl, hm1, _, hI3⟩ | ⟨herr, hkl3, hJ3⟩
    · have HI3 := Lib.hid (And.intro hm1 hI3)
      clear hm1 hI3
      go_wp2_with fail
      go_roundg (FH.length + 1 - (k + m))
      case measure => obtain ⟨hk, hkl, hn, hgk, _⟩ := HX.out; have := HI3.out.1; have := HKM.out; omega
      case rel =>
        obtain ⟨hk, hkl, hn, hgk, _⟩ := HX.out
        have := HI3.out.1
        exact ⟨k + m, n + 1, by omega, HKM.out, by omega, rfl, by go_num, HO4.out, HR.out.keep _ _ _ HI3.out.2 HBY.out, HFA.out⟩
    · have hJ4 := HR.out.keepJ _ _ _ hJ3 HBY.out
      have HJ := Lib.hid (And.intro hkl3 hJ4)
      clear hkl3 hJ3 hJ4
      have hfin : (FH.drop k0).take (k + m - k0) = FH.drop k0 := by
        rw [HJ.out.1]; exact List.take_of_length_le (by rw [List.length_drop]; omega)
      have HFIN := Lib.hid hfin
      clear hfin
      have HER := Lib.hid herr
      rcases herr with ⟨q, rfl⟩ | ⟨x, rfl⟩
      all_goals
        go_wp2_with fail
        go_ret2
        refine ⟨_, _, rfl, ?_, HJ.out.2, HER.out, HFA.out⟩
        have := HO4.out
        rw [HFIN.out] at this
        exact this

end Go.Proofs.YthfncdfcklbigaaDoor

/-
  THE WALKS OF 'Read' and 'Close' of zlib's reader.
-/
namespace Go.Proofs.YthfncdfcklbigaaDoor
open Go.RowKit Go.IntWalk Flate
set_option maxRecDepth 100000

theorem neq_of_equal {P : Program} {t : TypeId} {x y : Value} {w : World} {b : Bool} (hx : (∃ u v, x = .iface u v) ∨ x = .nilIface) (hy : ∃ u v, y = .iface u v) (h : (binOp .eql t x y).run P w = .ok (.bool b) w) : (binOp .neq t x y).run P w = .ok (.bool (!b)) w := by
  obtain ⟨u, v, rfl⟩ := hy
  rcases hx with ⟨u', v', rfl⟩ | rfl
  all_goals
    simp only [binOp] at h ⊢
    simp only [Sem.run_bind] at h ⊢
    generalize (Op.equal t _ _).run P w = r at h ⊢
    cases r <;> simp [Result.andThen] at h ⊢
    all_goals exact h

/-- How reading a stream ends: the error, and the place behind which the source was not read. -/
def ZEnd (p : Ps) (src' : List UInt8) (er : Err) (P : Nat) (X : List UInt8) (v : Value) (pos : Nat) : Prop :=
  er = .eof ∧ (src'.length < P + 4 ∧ v = errAt p.U ∧ pos = src'.length ∨ P + 4 ≤ src'.length ∧ pos = P + 4 ∧ (be4At src' P = adler X ∧ v = errAt p.E ∨ be4At src' P ≠ adler X ∧ v = errAt p.C)) ∨
  er = .cut ∧ v = errAt p.U ∧ pos = P ∨ er = .corrupt ∧ (∃ x : Nat, v = corruptAt x) ∧ pos = P

/-- Between the reads of a reader of streams: k bytes are gone. -/
def IZ (Z A F C K0 : Nat) (p : Ps) (d0 : DS) (x0 : Cfg × List UInt8) (FH : List UInt8) (k : Nat) (w : World) : Prop :=
  Hid (IFl F C p d0 x0 k w) ∧ Env w C p ∧ (∃ s, ZR w Z (rdrZ d0.R) (decV F) (digV A) .nilIface s) ∧ Dig w A ((FH.drop K0).take (k - K0)) ∧ K0 ≤ k ∧ k ≤ FH.length

/-- At its end. -/
def JZ (Z A F C K0 : Nat) (p : Ps) (d0 : DS) (er : Err) (P : Nat) (FH : List UInt8) (v : Value) (w : World) : Prop :=
  Env w C p ∧ ∃ d s, Dec w F d ∧ Same d0 d ∧ ZR w Z (rdrZ d0.R) (decV F) (digV A) v s ∧ ZEnd p d0.src er P (FH.drop K0) v d.pos ∧ (v = errAt p.E → d.err = errAt p.E) ∧ C ≤ F ∧ C ≤ d.HB ∧ C ≤ d.BB ∧ C ≤ d.CB

/-- What does not change in reading. -/
structure ZFix (Z A F C N0 K0 : Nat) (p : Ps) (d0 : DS) (x0 : Cfg × List UInt8) (er : Err) (P : Nat) (FH : List UInt8) : Prop where
  fin : Flate.Reach d0.src x0 (.done er P, FH)
  x0 : CfgOK d0.src x0.1
  low : LowD F d0 N0
  cN : C ≤ N0
  zN : Z < N0
  aN : A < N0
  cZ : C ≤ Z
  cA : C ≤ A
  aZ : A ≠ Z
  mdZ : ¬ MD F d0 Z
  mdA : ¬ MD F d0 A
  bZ : ∀ a, d0.base = some a → a.block ≠ Z
  bA : ∀ a, d0.base = some a → a.block ≠ A
  k0 : K0 ≤ FH.length
  few : FH.length ≤ 70368744177664

theorem MD.same {F : Nat} {d d' : DS} (hs : Same d d') {b : Nat} : MD F d' b ↔ MD F d b := by
  unfold MD; rw [hs.R, hs.HB, hs.BB, hs.CB]

theorem IFl.turn {F C : Nat} {p : Ps} {d0 : DS} {x0 : Cfg × List UInt8} {k : Nat} {w w' : World} {S : Nat → Nat → Prop} (h : IFl F C p d0 x0 k w) (hf : Frm S w w') (hS : ∀ b o, S b o → C ≤ b ∧ ¬ MD F d0 b ∧ (∀ a, d0.base = some a → a.block ≠ b) ∧ NoTab w b) : IFl F C p d0 x0 k w' := by
  obtain ⟨d, H, n, x, h⟩ := h
  exact ⟨d, H, n, x, h.nt hf fun b o q => by
    obtain ⟨h1, h2, h3, h4⟩ := hS b o q
    exact ⟨h1, fun e => h2 ((MD.same h.same).1 e), fun a ha => h3 a (by rw [← h.same.base]; exact ha), h4⟩⟩

theorem JFl.turn {F C : Nat} {p : Ps} {d0 : DS} {x0 : Cfg × List UInt8} {er : Err} {P : Nat} {FH : List UInt8} {v : Value} {w w' : World} {S : Nat → Nat → Prop} (h : JFl F C p d0 x0 er P FH v w) (hf : Frm S w w') (hS : ∀ b o, S b o → C ≤ b ∧ ¬ MD F d0 b ∧ (∀ a, d0.base = some a → a.block ≠ b) ∧ NoTab w b) : JFl F C p d0 x0 er P FH v w' := by
  obtain ⟨hv, d, n, h, h2, h3⟩ := h
  exact ⟨hv, d, n, h.nt hf fun b o q => by
    obtain ⟨h1, h2, h3, h4⟩ := hS b o q
    exact ⟨h1, fun e => h2 ((MD.same h.same).1 e), fun a ha => h3 a (by rw [← h.same.base]; exact ha), h4⟩, h2, h3⟩

theorem JFl.env {F C : Nat} {p : Ps} {d0 : DS} {x0 : Cfg × List UInt8} {er : Err} {P : Nat} {FH : List UInt8} {v : Value} {w : World} (h : JFl F C p d0 x0 er P FH v w) : Env w C p := by
  obtain ⟨hv, d, n, h, _⟩ := h
  exact h.st.env

theorem IFl.env {F C : Nat} {p : Ps} {d0 : DS} {x0 : Cfg × List UInt8} {k : Nat} {w : World} (h : IFl F C p d0 x0 k w) : Env w C p := by
  obtain ⟨d, H, n, x, h⟩ := h
  exact h.st.env

theorem neq_types (y : Nat) (p : Addr) (w : World) : (binOp .neq 62 (corruptAt y) (errAt p)).run Tryd.prog w = .ok (.bool true) w := by
  obtain ⟨ms, hi⟩ := underlyingError
  exact neq_of_equal (.inl ⟨_, _, rfl⟩) ⟨_, _, rfl⟩ (run_eql_iface_types (P := Tryd.prog) 125 197 (.int .i64 (y : Int)) (.pointer (some p)) hi (by decide) w)

theorem neq_nil (p : Addr) (w : World) : (binOp .neq 62 .nilIface (errAt p)).run Tryd.prog w = .ok (.bool true) w := by
  obtain ⟨ms, hi⟩ := underlyingError
  exact neq_of_equal (.inr rfl) ⟨_, _, rfl⟩ (run_eql_iface_nil_left (P := Tryd.prog) (w := w) 197 (.pointer (some p)) hi)

theorem neq_same (p : Addr) (w : World) : (binOp .neq 62 (errAt p) (errAt p)).run Tryd.prog w = .ok (.bool false) w := neq_of_equal (.inl ⟨_, _, rfl⟩) ⟨_, _, rfl⟩ (eql_same p w)

theorem bytes_of_cells {w : World} {BX m k : Nat} {FH : List UInt8} (h : ∀ j, j < m → w.cell? ⟨BX, j, none⟩ = some (byteV (FH.getD (k + j) 0))) : Bytes w (some ⟨BX, 0, none⟩) ((List.range m).map fun j => FH.getD (k + j) 0) :=
  ⟨rfl, fun j hj => by
    have hj' : j < m := by simpa using hj
    rw [Nat.zero_add]
    have := h j hj'
    simpa using this⟩

theorem dig_more {FH : List UInt8} {K0 k m : Nat} (h0 : K0 ≤ k) (hm : k + m ≤ FH.length) : (FH.drop K0).take (k - K0) ++ (List.range m).map (fun j => FH.getD (k + j) 0) = (FH.drop K0).take (k + m - K0) := by
  have := take_more (FH.drop K0) (k - K0) m (by rw [List.length_drop]; omega)
  rw [show k - K0 + m = k + m - K0 by omega] at this
  rw [← this]
  congr 1
  apply List.map_congr_left
  intro j _
  simp only [List.getD_eq_getElem?_getD, List.getElem?_drop]
  rw [show K0 + (k - K0 + j) = k + j by omega]

/-- Bytes have come, and the error is laid. -/
def ZRd1 (Z A F C K0 : Nat) (p : Ps) (d0 : DS) (x0 : Cfg × List UInt8) (er : Err) (P : Nat) (FH : List UInt8) (k BX kk : Nat) (w : World) (m : Nat) (errv : Value) (wq : World) : Prop :=
  k + m ≤ FH.length ∧ Env wq C p ∧ (∀ j, j < m → wq.cell? ⟨BX, j, none⟩ = some (byteV (FH.getD (k + j) 0))) ∧ (∃ s, ZR wq Z (rdrZ d0.R) (decV F) (digV A) errv s) ∧ Dig wq A ((FH.drop K0).take (kk - K0)) ∧ Frm (fun b _ => (MD F d0 b ∨ b = Z ∨ b = A) ∨ b = BX) w wq ∧
    (errv = .nilIface ∧ 1 ≤ m ∧ Hid (IFl F C p d0 x0 (k + m) wq) ∨ k + m = FH.length ∧ Hid (JFl F C p d0 x0 er P FH errv wq))

/-- What the flow gave: bytes and no error, or its end. -/
def ZRes (F C : Nat) (p : Ps) (d0 : DS) (x0 : Cfg × List UInt8) (er : Err) (P : Nat) (FH : List UInt8) (k m : Nat) (errv : Value) (w1 : World) : Prop :=
  errv = .nilIface ∧ 1 ≤ m ∧ k + m ≤ FH.length ∧ IFl F C p d0 x0 (k + m) w1 ∨ ((∃ q, errv = errAt q) ∨ ∃ x : Nat, errv = corruptAt x) ∧ k + m = FH.length ∧ JFl F C p d0 x0 er P FH errv w1

theorem zrd_first {Z A F C N0 K0 : Nat} {p : Ps} {d0 : DS} {x0 : Cfg × List UInt8} {er : Err} {P : Nat} {FH : List UInt8} (hX : ZFix Z A F C N0 K0 p d0 x0 er P FH) {k : Nat} {w w1 : World} {BX L m : Nat} {errv : Value} (hI : IZ Z A F C K0 p d0 x0 FH k w) (hB : NewBuf w N0 BX L) (hLB : Z < BX ∧ A < BX ∧ 1 ≤ L ∧ L ≤ 1048576)
    (hf : Frm (fun b _ => MD F d0 b ∨ b = BX) w w1) (hm : m ≤ L) (hc : ∀ j, j < m → w1.cell? ⟨BX, j, none⟩ = some (byteV (FH.getD (k + j) 0)))
    (hend : ZRes F C p d0 x0 er P FH k m errv w1) :
    ∃ (m' : Nat) (e' : Value), Value.int .i64 (m : Int) = .int .i64 (m' : Int) ∧ m' ≤ L ∧ ZRd1 Z A F C K0 p d0 x0 er P FH k BX k w m' e' (w1.setCell ⟨Z, 3, none⟩ errv) := by
  obtain ⟨hIF, henv, ⟨s, hz⟩, hdig, hk0, hkl⟩ := hI
  have hZM : ¬ (MD F d0 Z ∨ Z = BX) := by
    rintro (h | h)
    · exact hX.mdZ h
    · omega
  have hAM : ¬ (MD F d0 A ∨ A = BX) := by
    rintro (h | h)
    · exact hX.mdA h
    · omega
  have hz1 := hz.keep hf (fun _ => hZM)
  have hz2 := hz1.set_e errv
  have hs : Frm (fun b _ => b = Z) w1 (w1.setCell ⟨Z, 3, none⟩ errv) := (Frm.refl _ _).setCell (.inl rfl) _
  have hBZ : BX ≠ Z := by omega
  have hN0 := hX.zN
  have hnt1 : NoTab w1 Z := hz1.noTab (.inl ⟨_, _, rfl⟩) (.inl ⟨_, _, rfl⟩) (.inl ⟨_, _, rfl⟩) (.inr rfl)
  have hturn : ∀ b o, (fun (b : Nat) (_ : Nat) => b = Z) b o → C ≤ b ∧ ¬ MD F d0 b ∧ (∀ a, d0.base = some a → a.block ≠ b) ∧ NoTab w1 b := by
    rintro b o rfl
    exact ⟨hX.cZ, hX.mdZ, hX.bZ, hnt1⟩
  have hdig2 : Dig (w1.setCell ⟨Z, 3, none⟩ errv) A ((FH.drop K0).take (k - K0)) := (hdig.keep hf (fun _ => hAM)).keep hs (fun _ e => hX.aZ e)
  have hfr : Frm (fun b _ => (MD F d0 b ∨ b = Z ∨ b = A) ∨ b = BX) w (w1.setCell ⟨Z, 3, none⟩ errv) := (hf.mono fun b o e => e.elim (fun h => .inl (.inl h)) .inr).trans (hs.mono fun b o e => .inl (.inr (.inl e)))
  have hc2 : ∀ j, j < m → (w1.setCell ⟨Z, 3, none⟩ errv).cell? ⟨BX, j, none⟩ = some (byteV (FH.getD (k + j) 0)) := fun j hj => hs.keep (hc j hj) (fun e => hBZ e)
  rcases hend with ⟨rfl, h1, h2, h3⟩ | ⟨h1, h2, h3⟩
  · have h4 := h3.turn hs hturn
    exact ⟨m, .nilIface, rfl, hm, h2, h4.env, hc2, ⟨s, hz2⟩, hdig2, hfr, .inl ⟨rfl, h1, Lib.hid h4⟩⟩
  · have h4 := JFl.turn h3 hs hturn
    exact ⟨m, errv, rfl, hm, by omega, h4.env, hc2, ⟨s, hz2⟩, hdig2, hfr, .inr ⟨h2, Lib.hid h4⟩⟩

/-- The digest has got the bytes. -/
theorem zrd_second {Z A F C N0 K0 : Nat} {p : Ps} {d0 : DS} {x0 : Cfg × List UInt8} {er : Err} {P : Nat} {FH : List UInt8} (hX : ZFix Z A F C N0 K0 p d0 x0 er P FH) {k : Nat} {w wc w2 : World} {BX L m : Nat} {errv : Value} (hk0 : K0 ≤ k) (hLB : Z < BX ∧ A < BX ∧ 1 ≤ L ∧ L ≤ 1048576)
    (h : ZRd1 Z A F C K0 p d0 x0 er P FH k BX k w m errv wc) (hd : Dig w2 A ((FH.drop K0).take (k - K0) ++ (List.range m).map fun j => FH.getD (k + j) 0)) (hf : Frm (fun b o => b = A ∧ o = 0) wc.drew w2) : ZRd1 Z A F C K0 p d0 x0 er P FH k BX (k + m) w m errv w2 := by
  obtain ⟨hkm, henv, hc, ⟨s, hz⟩, hdig, hfr, hend⟩ := h
  have hw : Frm (fun b _ => b = A) wc w2 := ((Frm.refl _ _).drew).trans (hf.mono fun b o e => e.1)
  have hnt : NoTab wc A := hdig.noTab
  have hturn : ∀ b o, (fun (b : Nat) (_ : Nat) => b = A) b o → C ≤ b ∧ ¬ MD F d0 b ∧ (∀ a, d0.base = some a → a.block ≠ b) ∧ NoTab wc b := by
    rintro b o rfl
    exact ⟨hX.cA, hX.mdA, hX.bA, hnt⟩
  have hBA : BX ≠ A := by omega
  refine ⟨hkm, henv.keep hw (fun b o e => by rw [e]; exact hX.cA), fun j hj => hw.keep (hc j hj) hBA, ⟨s, hz.keep hw (fun o e => hX.aZ e.symm)⟩, (dig_more hk0 hkm) ▸ hd, hfr.trans (hw.mono fun b o e => .inl (.inr (.inr e))), ?_⟩
  rcases hend with ⟨h1, h2, h3⟩ | ⟨h1, h2⟩
  · exact .inl ⟨h1, h2, Lib.hid (h3.out.turn hw hturn)⟩
  · exact .inr ⟨h1, Lib.hid (JFl.turn h2.out hw hturn)⟩

/-- The decompressor behind a call that turns its source alone. -/
theorem Dec.keep_src {S : Nat → Nat → Prop} {w w' : World} {F : Nat} {d : DS} (h : Dec w F d) (hf : Frm S w w') (hF : ∀ o, ¬ S F o) (hH : ∀ o, ¬ S d.HB o) {q : Nat} (hs : Src w' d.R d.base d.src q) : Dec w' F { d with pos := q } := by
  have k : ∀ {o : Nat} {v : Value}, w.cell? ⟨F, o, none⟩ = Option.some v → w'.cell? ⟨F, o, none⟩ = Option.some v := fun hc => hf.keep hc (hF _)
  have hlt := h.lt
  have hH0 := cell_lt (h.win 0 (by omega))
  have hB0 : d.BB < w.heap.size := by obtain ⟨v, hv⟩ := Option.isSome_iff_exists.1 (h.bb 0 (by omega)); exact cell_lt hv
  have hC0 : d.CB < w.heap.size := by obtain ⟨v, hv⟩ := Option.isSome_iff_exists.1 (h.cb 0 (by omega)); exact cell_lt hv
  exact ⟨k h.r, k h.rBuf, k h.roff, k h.b, k h.nb, k h.bits, k h.cbits, k h.hist, k h.wr, k h.rd, k h.full, k h.u0, k h.u1, k h.u2, k h.u3, k h.step, k h.ss, k h.fin, k h.err, k h.toRead, k h.hl, k h.hd, k h.cl, k h.cd, fun o h1 h2 => (hf.live F o hlt).trans (h.tl o h1 h2), fun o => (hf.froz F o hlt).trans (h.fr o), hs, fun i hi => hf.keep (h.win i hi) (hH i), fun o => (hf.froz _ o hH0).trans (h.frH o), fun i hi => (hf.live _ i hB0).trans (h.bb i hi), fun i hi => (hf.live _ i hC0).trans (h.cb i hi), fun o => (hf.froz _ o hB0).trans (h.frB o), fun o => (hf.froz _ o hC0).trans (h.frC o), h.dist, h.far⟩

theorem jz_of {Z A F C N0 K0 : Nat} {p : Ps} {d0 : DS} {x0 : Cfg × List UInt8} {er : Err} {P : Nat} {FH : List UInt8} (hX : ZFix Z A F C N0 K0 p d0 x0 er P FH) {w1 wf : World} {v1 v : Value} {s : Nat → UInt8} {pos : Nat} (hJ : JFl F C p d0 x0 er P FH v1 w1) (hz : ZR wf Z (rdrZ d0.R) (decV F) (digV A) v s)
    (hf : Frm (fun b _ => b = Z ∨ b = A ∨ b = d0.R) w1 wf) (hs : Src wf d0.R d0.base d0.src pos) (hE : ZEnd p d0.src er P (FH.drop K0) v pos) (hv : v = errAt p.E → v1 = errAt p.E) : JZ Z A F C K0 p d0 er P FH v wf := by
  obtain ⟨_, d, n, h, hpos, herr⟩ := hJ
  have hD := h.st.dec
  have hsm := h.same
  have hRF := hD.neRF
  have hRH := hD.neRH
  rw [← hsm.R] at hf
  rw [← hsm.R, ← hsm.base, ← hsm.src] at hs
  have hmZ : ¬ MD F d Z := fun e => hX.mdZ ((MD.same hsm).1 e)
  have hmA : ¬ MD F d A := fun e => hX.mdA ((MD.same hsm).1 e)
  unfold MD at hmZ hmA
  simp only [not_or] at hmZ hmA
  have hD' := hD.keep_src hf (fun o e => by
    rcases e with e | e | e
    · exact hmZ.1 e.symm
    · exact hmA.1 e.symm
    · exact hRF e.symm) (fun o e => by
    rcases e with e | e | e
    · exact hmZ.2.2.1 e.symm
    · exact hmA.2.2.1 e.symm
    · exact hRH e.symm) hs
  refine ⟨h.st.env.keep hf (fun b o e => ?_), { d with pos := pos }, s, hD', ⟨hsm.R, hsm.base, hsm.src, hsm.BB, hsm.CB, hsm.HB⟩, hz, hE, fun e => ?_, h.st.cF, h.st.cH, h.st.cB, h.st.cC⟩
  · rcases e with e | e | e
    · rw [e]; exact hX.cZ
    · rw [e]; exact hX.cA
    · rw [e]; exact h.st.cR
  · rw [← hv e]; exact herr

/-- Behind 'ReadFull' of the checksum. -/
def ZRd3 (Z A F : Nat) (p : Ps) (d0 : DS) (P : Nat) (w2 : World) (k4 : Nat) (wq : World) : Prop :=
  ∃ s', k4 = Nat.min (d0.src.length - P) 4 ∧ ZR wq Z (rdrZ d0.R) (decV F) (digV A) (errAt p.E) s' ∧ Src wq d0.R d0.base d0.src (P + k4) ∧ (∀ j, j < k4 → s' j = d0.src.getD (P + j) 0) ∧ Frm (fun b _ => b = Z ∨ b = d0.R) w2 wq

theorem zrd_ok {Z A F C N0 K0 : Nat} {p : Ps} {d0 : DS} {x0 : Cfg × List UInt8} {er : Err} {P : Nat} {FH : List UInt8} (hX : ZFix Z A F C N0 K0 p d0 x0 er P FH) {k : Nat} {w w2 w' : World} {BX L m : Nat} (hk0 : K0 ≤ k) (hmL : m ≤ L) (h : ZRd1 Z A F C K0 p d0 x0 er P FH k BX (k + m) w m .nilIface w2) (hm1 : 1 ≤ m) (hI : Hid (IFl F C p d0 x0 (k + m) w2)) (hf : Frm (fun _ _ => False) w2 w') :
    RdPost (fun b => MD F d0 b ∨ b = Z ∨ b = A) FH (IZ Z A F C K0 p d0 x0 FH) (JZ Z A F C K0 p d0 er P FH) k BX L w (.returned (.tuple #[.int .i64 (m : Int), .nilIface])) w' := by
  obtain ⟨hkm, henv, hc, ⟨s, hz⟩, hdig, hfr, _⟩ := h
  have hI' := hI.out.turn hf (fun b o e => e.elim)
  exact ⟨m, .nilIface, rfl, hmL, hfr.trans (hf.mono fun b o e => e.elim), fun j hj => hf.keep (hc j hj) (fun e => e), .inl ⟨rfl, hm1, hkm, Lib.hid hI', hI'.env, ⟨s, hz.keep hf (fun _ e => e)⟩, hdig.keep hf (fun _ e => e), by omega, hkm⟩⟩

theorem zrd_end {Z A F C N0 K0 : Nat} {p : Ps} {d0 : DS} {x0 : Cfg × List UInt8} {er : Err} {P : Nat} {FH : List UInt8} (hX : ZFix Z A F C N0 K0 p d0 x0 er P FH) {k : Nat} {w w2 w' : World} {BX L m : Nat} {v1 v : Value} {s : Nat → UInt8} {pos : Nat} (hB : N0 ≤ BX) (hmL : m ≤ L) (h : ZRd1 Z A F C K0 p d0 x0 er P FH k BX (k + m) w m v1 w2) (hfin : k + m = FH.length) (hJ : JFl F C p d0 x0 er P FH v1 w2)
    (hf : Frm (fun b _ => b = Z ∨ b = d0.R) w2 w') (hz : ZR w' Z (rdrZ d0.R) (decV F) (digV A) v s) (hs : Src w' d0.R d0.base d0.src pos) (hE : ZEnd p d0.src er P (FH.drop K0) v pos) (hv : v = errAt p.E → v1 = errAt p.E) :
    RdPost (fun b => MD F d0 b ∨ b = Z ∨ b = A) FH (IZ Z A F C K0 p d0 x0 FH) (JZ Z A F C K0 p d0 er P FH) k BX L w (.returned (.tuple #[.int .i64 (m : Int), v])) w' := by
  obtain ⟨hkm, henv, hc, _, hdig, hfr, _⟩ := h
  have hRN := hX.low.R
  have hZN := hX.zN
  have hj := jz_of hX hJ hz (hf.mono fun b o e => e.elim .inl (fun e => .inr (.inr e))) hs hE hv
  have hk : (∃ q, v = errAt q) ∨ ∃ x : Nat, v = corruptAt x := by
    rcases hE with ⟨_, h⟩ | ⟨_, h, _⟩ | ⟨_, h, _⟩
    · rcases h with ⟨_, h, _⟩ | ⟨_, _, h⟩
      · exact .inl ⟨_, h⟩
      · rcases h with ⟨_, h⟩ | ⟨_, h⟩
        · exact .inl ⟨_, h⟩
        · exact .inl ⟨_, h⟩
    · exact .inl ⟨_, h⟩
    · exact .inr h
  exact ⟨m, v, rfl, hmL, hfr.trans (hf.mono fun b o e => .inl (e.elim (fun e => .inr (.inl e)) (fun e => .inl (.inr (.inl e))))), fun j hj => hf.keep (hc j hj) (fun e => by omega), .inr ⟨hk, hfin, hj⟩⟩

theorem JFl.src {F C : Nat} {p : Ps} {d0 : DS} {x0 : Cfg × List UInt8} {er : Err} {P : Nat} {FH : List UInt8} {v : Value} {w : World} (h : JFl F C p d0 x0 er P FH v w) : Src w d0.R d0.base d0.src P ∧ C ≤ d0.R := by
  obtain ⟨hv, d, n, h, hp, _⟩ := h
  have := h.st.dec.so
  rw [h.same.R, h.same.base, h.same.src, hp] at this
  exact ⟨this, by rw [← h.same.R]; exact h.st.cR⟩

theorem zrd_src {w w' : World} {R : Nat} {base : Option Addr} {src : List UInt8} {q : Nat} (h : Src w R base src q) (hf : Frm (fun _ _ => False) w w') : Src w' R base src q := h.keep hf (fun _ e => e) (fun _ _ _ _ e => e)

theorem src_set {w : World} {Z R : Nat} {base : Option Addr} {src : List UInt8} {q n : Nat} {v : Value} (h : Src w R base src q) (hRZ : R ≠ Z) (hb : ∀ a, base = some a → a.block ≠ Z) : Src ((w.setCell ⟨Z, 3, none⟩ v).drewN n) R base src q :=
  h.keep (S := fun b _ => b = Z) (((Frm.refl _ _).setCell (.inl rfl) _).drewN _) (fun o e => hRZ e) (fun a ha j _ e => hb a ha e)

theorem readZ3 {w : World} {Z R C : Nat} {p : Ps} {base : Option Addr} {src : List UInt8} {pos : Nat} {r dv dig err : Value} {s : Nat → UInt8} (hz : ZR w Z r dv dig err s) (hs : Src w R base src pos) (he : Env w C p) (hCR : C ≤ R) (hCZ : C ≤ Z) (hRZ : R ≠ Z) (hfar : ∀ a, base = some a → a.block ≠ Z)
    (ev : Value) (k : Nat) (hk : k = Nat.min (src.length - pos) 4) (hev : ev = if k = 4 then .nilIface else if k = 0 then errAt p.E else errAt p.U) :
    Calls Tryd.prog 80 #[rdrZ R, .slice (some ⟨Z, 4, none⟩) 4 4] w fun e w' => e = .returned (.tuple #[.int .i64 (k : Int), ev]) ∧ ∃ s', ZR w' Z r dv dig err s' ∧ Src w' R base src (pos + k) ∧ (∀ j, j < k → s' j = src.getD (pos + j) 0) ∧ Frm (fun b _ => b = Z ∨ b = R) w w' := by
  refine (readFull_any w R base src pos Z 4 4 4 C p hs he hCR hCZ (by omega) (by omega) (by omega) (Ne.symm hRZ) (fun a ha => Ne.symm (hfar a ha)) (fun j hj => by rw [hz.s j (by omega)]; rfl) (fun j _ => hz.fr _)).mono ?_
  rintro e w' ⟨k', hk', rfl, hP⟩
  obtain rfl : k = k' := by rw [hk, hk']
  have hkn : k ≤ 4 := by rw [hk]; exact Nat.min_le_right _ _
  obtain ⟨hz', hs', hf'⟩ := hz.read hP hRZ hkn (by omega)
  rw [← hev]
  exact ⟨rfl, _, hz', hs', fun j hj => if_pos hj, hf'⟩

set_option maxHeartbeats 4000000 in
theorem zread_any {Z A F C N0 K0 : Nat} {p : Ps} {d0 : DS} {x0 : Cfg × List UInt8} {er : Err} {P : Nat} {FH : List UInt8} (hX : ZFix Z A F C N0 K0 p d0 x0 er P FH) (k : Nat) (w : World) (BX L : Nat) (hI : IZ Z A F C K0 p d0 x0 FH k w) (hB : NewBuf w N0 BX L) (hL1 : 1 ≤ L) (hL2 : L ≤ 1048576) :
    Calls Tryd.prog 134 #[.pointer (some ⟨Z, 0, none⟩), .slice (some ⟨BX, 0, none⟩) L L] w (RdPost (fun b => MD F d0 b ∨ b = Z ∨ b = A) FH (IZ Z A F C K0 p d0 x0 FH) (JZ Z A F C K0 p d0 er P FH) k BX L w) := by
  have HX := Lib.hid hX
  have HI := Lib.hid hI
  have HB := Lib.hid hB
  obtain ⟨hIF, henv, ⟨s, hz⟩, hdig, hk0, hkl⟩ := hI
  have z1 := hz.d
  have z3 := hz.e
  have f3 := hz.fr 3
  have hrd := (flate_reader (p := p) hX.fin hX.x0 hX.low hX.cN).read k w BX L L hIF.out hB hL1 hL2
  have HRD := Lib.hid hrd
  have hZB : Z < BX := by have := hB.lo; have := hX.zN; omega
  have hAB : A < BX := by have := hB.lo; have := hX.aN; omega
  have c1 : (L : Int) ≤ 1048576 := by omega
  have HLB := Lib.hid (And.intro hZB (And.intro hAB (And.intro hL1 hL2)))
  clear hX hB hIF henv hdig hk0 hkl hrd hZB hAB hL1 hL2
  go_enter Tryd.func134, Tryd.ntmps134
  go_upto_region 4 with (fail)
  go_cut [6] (fun mv wq => ∃ (m : Nat) (errv : Value), mv = .int .i64 (m : Int) ∧ m ≤ L ∧ ZRd1 Z A F C K0 p d0 x0 er P FH k BX k w m errv wq)
  case first =>
    go_wp2_with fail
    refine HRD.out.mono ?_
    rintro e w1 ⟨m, errv, rfl, hm, hf1, hcells, hend⟩
    have hend' : ZRes F C p d0 x0 er P FH k m errv w1 := hend
    have HE1 := Lib.hid (And.intro hm (And.intro hcells hend'))
    have hZM : ¬ ((MD F d0 Z) ∨ Z = BX) := by
      rintro (h | h)
      · exact HX.out.mdZ h
      · have := HLB.out.1; omega
    have z3' := hf1.keep z3 hZM
    have f3' := (hf1.froz Z 3 (cell_lt z3)).trans f3
    have HF1 := Lib.hid (And.intro hf1 hZM)
    have hsh : errv = .nilIface ∨ (∃ q, errv = errAt q) ∨ ∃ x : Nat, errv = corruptAt x := by
      rcases hend with h | h
      · exact .inl h.1
      · exact .inr h.1
    clear hm hcells hend hend' hf1 hZM
    rcases hsh with rfl | ⟨q, rfl⟩ | ⟨x, rfl⟩
    all_goals
      go_wp2_with fail
      go_meet
      case rel => exact zrd_first HX.out HI.out HB.out HLB.out HF1.out.1 HE1.out.1 HE1.out.2.1 HE1.out.2.2
  case rest =>
    obtain ⟨m, errv, rfl, hmL, hZ⟩ := hcut
    obtain ⟨w1, rfl⟩ : ∃ x, x = wc := ⟨_, rfl⟩
    have HM := Lib.hid (And.intro hmL hZ)
    have henvc := hZ.2.1
    obtain ⟨_, _, hc, ⟨s1, hz1⟩, hdig, _, _⟩ := hZ
    have z2 := hz1.g
    have hnl : ((List.range m).map fun j => FH.getD (k + j) 0).length = m := by simp
    have hw := digWrite_any w1.drew A _ (hdig.keep ((Frm.refl (fun _ _ => False) _).drew) (fun _ e => e)) (some ⟨BX, 0, none⟩) ((List.range m).map fun j => FH.getD (k + j) 0) L (bytes_of_cells fun j hj => hc j hj) (by rw [hnl]; exact hmL) (by rw [hnl]; have := HLB.out.2.2.2; omega)
    rw [hnl] at hw
    have HW := Lib.hid hw
    have c2 : (m : Int) ≤ (L : Int) := by omega
    clear hw hc hz1 hdig hnl hmL henvc z1 z3 f3 HRD
    apply_assumption
    go_upto_region 5 with (fail)
    go_cut [40] (fun _ wq => ZRd1 Z A F C K0 p d0 x0 er P FH k BX (k + m) w m errv wq)
    case first =>
      (refine region_tail 9 (by kernel_rfl) (by kernel_rfl) ?_; simp only [List.take_succ_cons, List.take_zero, List.drop_succ_cons, List.drop_zero]; (repeat still_step); refine wpStill_nil ?_)
      go_wp2_with fail
      refine HW.out.mono ?_
      rintro e w2 ⟨rfl, hd2, hf2⟩
      have H2 := Lib.hid (And.intro hd2 hf2)
      clear hd2 hf2
      go_wp2_with fail
      go_meet
      case rel => exact zrd_second HX.out HI.out.2.2.2.2.1 HLB.out HM.out.2 H2.out.1 H2.out.2
    case rest =>
      clear HW z2
      obtain ⟨w2, rfl⟩ : ∃ x, x = wc := ⟨_, rfl⟩
      have H2 := Lib.hid hcut
      obtain ⟨hkm, henv2, hc, ⟨s2, hz2⟩, hdig, hfr, hend⟩ := hcut
      have z3 := hz2.e
      have cE := henv2.eof
      clear hkm hc hz2 hdig hfr
      rcases hend with ⟨rfl, hm1, hI2⟩ | ⟨hfin, hJ2⟩
      · have HI2 := Lib.hid (And.intro hm1 hI2)
        have hq := fun w => neq_nil p.E w
        clear hm1 hI2
        go_wp2_with fail
        (go_quiet (fail))
        go_wp2_with fail
        (go_quiet (fail))
        go_wp2_with fail
        go_ret2
        exact zrd_ok HX.out HI.out.2.2.2.2.1 HM.out.1 H2.out HI2.out.1 HI2.out.2 (by (repeat (first | exact Frm.refl _ _ | refine Frm.drewN ?_ _ | refine Frm.drew ?_ | refine Frm.alloc ?_ _ | refine Frm.setCell ?_ (by simp) _)))
      · have HJ2 := Lib.hid (And.intro hfin hJ2)
        have hJ3 := hJ2.out.1
        cases er with
        | cut =>
          obtain rfl : errv = errAt p.U := hJ3
          have hq := fun n => neq_of_equal (.inl ⟨_, _, rfl⟩) ⟨_, _, rfl⟩ (eql_other (henv2.keep (S := fun _ _ => False) ((Frm.refl _ _).drewN n) (fun _ _ e => e.elim)) (x := p.U) (y := p.E) (by simp [Ps.all]) (by simp [Ps.all]) (by have := henv2.nodup; simp [Ps.all] at this; exact fun e => this.1.1 e.symm))
          clear hfin hJ2 henv2
          go_wp2_with fail
          (go_quiet (fail))
          go_wp2_with fail
          (go_quiet (fail))
          go_wp2_with fail
          go_ret2
          obtain ⟨_, _, _, ⟨s, hz⟩, _⟩ := H2.out
          exact zrd_end HX.out HB.out.lo HM.out.1 H2.out HJ2.out.1 HJ2.out.2.out (by (repeat (first | exact Frm.refl _ _ | refine Frm.drewN ?_ _ | refine Frm.drew ?_ | refine Frm.alloc ?_ _ | refine Frm.setCell ?_ (by simp) _))) (hz.keep (S := fun _ _ => False) (by (repeat (first | exact Frm.refl _ _ | refine Frm.drewN ?_ _ | refine Frm.drew ?_ | refine Frm.alloc ?_ _ | refine Frm.setCell ?_ (by simp) _))) (fun _ e => e)) (zrd_src HJ2.out.2.out.src.1 (by (repeat (first | exact Frm.refl _ _ | refine Frm.drewN ?_ _ | refine Frm.drew ?_ | refine Frm.alloc ?_ _ | refine Frm.setCell ?_ (by simp) _)))) (.inr (.inl ⟨rfl, rfl, rfl⟩)) (fun e => e)
        | corrupt =>
          obtain ⟨x, rfl⟩ := hJ3
          have hq := fun w => neq_types x p.E w
          clear hfin hJ2 henv2
          go_wp2_with fail
          (go_quiet (fail))
          go_wp2_with fail
          (go_quiet (fail))
          go_wp2_with fail
          go_ret2
          obtain ⟨_, _, _, ⟨s, hz⟩, _⟩ := H2.out
          exact zrd_end HX.out HB.out.lo HM.out.1 H2.out HJ2.out.1 HJ2.out.2.out (by (repeat (first | exact Frm.refl _ _ | refine Frm.drewN ?_ _ | refine Frm.drew ?_ | refine Frm.alloc ?_ _ | refine Frm.setCell ?_ (by simp) _))) (hz.keep (S := fun _ _ => False) (by (repeat (first | exact Frm.refl _ _ | refine Frm.drewN ?_ _ | refine Frm.drew ?_ | refine Frm.alloc ?_ _ | refine Frm.setCell ?_ (by simp) _))) (fun _ e => e)) (zrd_src HJ2.out.2.out.src.1 (by (repeat (first | exact Frm.refl _ _ | refine Frm.drewN ?_ _ | refine Frm.drew ?_ | refine Frm.alloc ?_ _ | refine Frm.setCell ?_ (by simp) _)))) (.inr (.inr ⟨rfl, ⟨x, rfl⟩, rfl⟩)) (fun e => e)
        | eof =>
          obtain rfl : errv = errAt p.E := hJ3
          have hq := fun w => neq_same p.E w
          clear hfin hJ2
          go_wp2_with fail
          (go_quiet (fail))
          go_upto_region 8 with (fail)
          obtain ⟨w3, hw3⟩ : ∃ w3, w3 = w2.drewN nq := ⟨_, rfl⟩
          have hF3 : Frm (fun _ _ => False) w2 w3 := by rw [hw3]; exact (Frm.refl _ _).drewN _
          rw [← hw3]
          clear hw3
          obtain ⟨_, _, _, ⟨s2, hz2⟩, _⟩ := H2.out
          have hz3 := hz2.keep hF3 (fun _ e => e)
          have z0 := hz3.r
          have hs3 := zrd_src HJ2.out.2.out.src.1 hF3
          have hRZ : d0.R ≠ Z := fun e => HX.out.mdZ (.inr (.inl e.symm))
          have hRF := readZ3 (hz3.keep ((Frm.refl (fun _ _ => False) _).drew) (fun _ e => e)) hs3.drew ((henv2.keep hF3 (fun _ _ e => e.elim)).keep (S := fun _ _ => False) ((Frm.refl _ _).drew) (fun _ _ e => e.elim)) HJ2.out.2.out.src.2 HX.out.cZ hRZ HX.out.bZ
          obtain ⟨k4, hk⟩ : ∃ k, k = Nat.min (d0.src.length - P) 4 := ⟨_, rfl⟩
          have hev := readEv2 p k4 4
          have HRF := Lib.hid (fun ev => hRF ev k4 hk)
          have HK := Lib.hid (And.intro hk (And.intro hF3 hRZ))
          clear hRF hk hF3 hz3 hs3 hRZ hz2 z3 cE henv2
          go_cut [8] (fun ev wq => ∃ k4, ev = (if k4 = 4 then Value.nilIface else if k4 = 0 then errAt p.E else errAt p.U) ∧ ZRd3 Z A F p d0 P w2 k4 wq)
          case first =>
            rcases hev with hev | ⟨q, hev⟩
            all_goals
              have HRE := Lib.hid (HRF.out _ hev.symm)
              have HEV := Lib.hid hev
              clear hev HRF
              go_region_with (go_at_call 80; refine HRE.out.mono ?_; rintro e w4 ⟨rfl, hZ3⟩)
              have HZ3 := Lib.hid hZ3
              clear hZ3
              go_wp2_with fail
              go_meet
              case rel =>
                obtain ⟨s', h1, h2, h3, h4⟩ := HZ3.out
                exact ⟨k4, HEV.out.symm, s', HK.out.1, h1, h2, h3, (HK.out.2.1.mono fun b o e => e.elim).trans (((Frm.refl _ _).drew).trans h4)⟩
          case rest =>
            clear hev HRF
            obtain ⟨k4, rfl, hZ3⟩ := hcut
            obtain ⟨w4, rfl⟩ : ∃ x, x = wc := ⟨_, rfl⟩
            have HZ3 := Lib.hid hZ3
            obtain ⟨s4, hk4, hz4, hs4, hsj, hf4⟩ := hZ3
            have henv4 : Env w4 C p := (H2.out.2.1).keep hf4 (fun b o e => by have := HX.out.cZ; have := HJ2.out.2.out.src.2; omega)
            have z2 := hz4.g
            have z3 := hz4.e
            have f3 := hz4.fr 3
            have cE := henv4.eof
            have cU := henv4.unx
            have cC := henv4.sum
            have hg := henv4.g
            have hcZ := HX.out.cZ
            have n0 : Z ≠ 0 := by omega
            have n4 : Z ≠ 4 := by omega
            have n3 : Z ≠ 3 := by omega
            have hle := hs4.le
            obtain ⟨m1, m2, m3⟩ := min_cases (d0.src.length - P) 4
            rw [← hk4] at m1 m2 m3
            have HV := Lib.hid henv4
            clear hg hcZ henv4 hk4
            apply_assumption
            by_cases hk : k4 = 4
            · rw [if_pos hk]
              have q0 : w4.cell? ⟨Z, 4, none⟩ = some (byteV (d0.src.getD P 0)) := by
                have := hz4.s 0 (by omega)
                rwa [hsj 0 (by omega)] at this
              have q1 : w4.cell? ⟨Z, 5, none⟩ = some (byteV (d0.src.getD (P + 1) 0)) := by
                have := hz4.s 1 (by omega)
                rwa [hsj 1 (by omega)] at this
              have q2 : w4.cell? ⟨Z, 6, none⟩ = some (byteV (d0.src.getD (P + 2) 0)) := by
                have := hz4.s 2 (by omega)
                rwa [hsj 2 (by omega)] at this
              have q3 : w4.cell? ⟨Z, 7, none⟩ = some (byteV (d0.src.getD (P + 3) 0)) := by
                have := hz4.s 3 (by omega)
                rwa [hsj 3 (by omega)] at this
              have H32 := uint32_any w4.drew Z 4 4 4 (by omega) _ _ _ _ (d0.src.getD P 0).toBitVec.isLt (d0.src.getD (P + 1) 0).toBitVec.isLt (d0.src.getD (P + 2) 0).toBitVec.isLt (d0.src.getD (P + 3) 0).toBitVec.isLt q0 q1 q2 q3
              obtain ⟨g, hgg⟩ : ∃ g, g = be4At d0.src P := ⟨_, rfl⟩
              have H32' := Lib.hid ((show be4 (d0.src.getD P 0).toNat (d0.src.getD (P + 1) 0).toNat (d0.src.getD (P + 2) 0).toNat (d0.src.getD (P + 3) 0).toNat = g from hgg.symm) ▸ H32)
              have HG := Lib.hid (And.intro hgg (And.intro hs4 (And.intro hk (And.intro hz4 (And.intro hf4 (show P + 4 ≤ d0.src.length by omega))))))
              clear H32 hgg hs4 hle m1 m2 m3 q0 q1 q2 q3 hk cU n4 hsj hz4 hf4
              go_upto_region 14 with (fail)
              (refine region_tail 5 (by kernel_rfl) (by kernel_rfl) ?_; simp only [List.take_succ_cons, List.take_zero, List.drop_succ_cons, List.drop_zero]; (repeat still_step); refine wpStill_nil ?_)
              go_wp2_with fail
              refine H32'.out.mono ?_
              rintro e w6 ⟨rfl, hf6⟩
              have hf46 : Frm (fun _ _ => False) w4 w6 := ((Frm.refl _ _).drew).trans hf6
              have z2 := hf46.keep z2 (fun e => e)
              have f3 : w6.frozen? ⟨Z, 3, none⟩ = false := (hf46.froz Z 3 (cell_lt z3)).trans f3
              have z3 := hf46.keep z3 (fun e => e)
              have cC := hf46.keep cC (fun e => e)
              have cE := hf46.keep cE (fun e => e)
              have hdg : Dig w6 A (FH.drop K0) := by
                obtain ⟨_, _, _, _, hd, _⟩ := H2.out
                rw [List.take_of_length_le (by rw [List.length_drop]; have := HJ2.out.1; omega)] at hd
                exact (hd.keep HG.out.2.2.2.2.1 (fun _ e => e.elim HX.out.aZ (fun e => HX.out.mdA (.inr (.inl e))))).keep hf46 (fun _ e => e)
              have hsm := digSum_any w6 A _ hdg
              obtain ⟨S, hS⟩ : ∃ S, S = adler (FH.drop K0) := ⟨_, rfl⟩
              rw [← hS] at hsm
              have HSM := Lib.hid hsm
              have HF6 := Lib.hid (And.intro hf46 hS)
              clear hf6 hf46 hdg hsm hS
              go_wp2_with fail
              refine HSM.out.mono ?_
              rintro e w7 ⟨rfl, rfl⟩
              by_cases hgS : g = S
              · subst hgS
                go_wp2_with fail
                (go_quiet (fail))
                go_wp2_with fail
                go_ret2
                obtain ⟨hgg, hs4, hk, hz4, hf4, hP4⟩ := HG.out
                obtain ⟨hf46, hS⟩ := HF6.out
                exact zrd_end HX.out HB.out.lo HM.out.1 H2.out HJ2.out.1 HJ2.out.2.out (hf4.trans ((hf46.drewN _).mono fun b o e => e.elim)) (hz4.keep (hf46.drewN _) (fun _ e => e)) (zrd_src (hk ▸ hs4) (hf46.drewN _)) (.inl ⟨rfl, .inr ⟨hP4, rfl, .inl ⟨by rw [← hgg, ← hS], rfl⟩⟩⟩) (fun e => e)
              · have t1 : ((g : Int) != (S : Int)) = true := by simp; omega
                have HGS := Lib.hid hgS
                clear hgS
                go_wp2_with fail
                (go_quiet (fail))
                go_wp2_with fail
                go_ret2
                obtain ⟨hgg, hs4, hk, hz4, hf4, hP4⟩ := HG.out
                obtain ⟨hf46, hS⟩ := HF6.out
                have hz6 := (hz4.keep hf46 (fun _ e => e)).set_e (errAt p.C)
                exact zrd_end HX.out HB.out.lo HM.out.1 H2.out HJ2.out.1 HJ2.out.2.out ((hf4.trans (hf46.mono fun b o e => e.elim)).trans (((Frm.refl _ _).setCell (.inl (.inl rfl)) _).drewN _)) (hz6.keep (S := fun _ _ => False) (by (repeat (first | exact Frm.refl _ _ | refine Frm.drewN ?_ _ | refine Frm.drew ?_ | refine Frm.alloc ?_ _ | refine Frm.setCell ?_ (by simp) _))) (fun _ e => e)) (src_set (zrd_src (hk ▸ hs4) hf46) HK.out.2.2 HX.out.bZ) (.inl ⟨rfl, .inr ⟨hP4, rfl, .inr ⟨by rw [← hgg, ← hS]; exact HGS.out, rfl⟩⟩⟩) (fun _ => rfl)
            · rw [if_neg hk]
              have hU : P + k4 = d0.src.length ∧ d0.src.length < P + 4 := by omega
              have HG := Lib.hid (And.intro hs4 (And.intro hz4 (And.intro hf4 hU)))
              clear hs4 hle m1 m2 m3 hsj hz4 hf4 hU hk z2 cC n3
              by_cases hk0 : k4 = 0
              · rw [if_pos hk0]
                have hq := fun w => eql_same p.E w
                go_wp2_with fail
                (go_quiet (fail))
                go_wp2_with fail
                go_ret2
                obtain ⟨hs4, hz4, hf4, hU⟩ := HG.out
                exact zrd_end HX.out HB.out.lo HM.out.1 H2.out HJ2.out.1 HJ2.out.2.out (hf4.trans (((Frm.refl _ _).setCell (.inl (.inl rfl)) _).drewN _)) ((hz4.set_e _).keep (S := fun _ _ => False) (by (repeat (first | exact Frm.refl _ _ | refine Frm.drewN ?_ _ | refine Frm.drew ?_ | refine Frm.alloc ?_ _ | refine Frm.setCell ?_ (by simp) _))) (fun _ e => e)) (src_set hs4 HK.out.2.2 HX.out.bZ) (.inl ⟨rfl, .inl ⟨hU.2, rfl, hU.1⟩⟩) (fun _ => rfl)
              · rw [if_neg hk0]
                have hq := fun n => eql_other (HV.out.keep (S := fun _ _ => False) ((Frm.refl _ _).drewN n) (fun _ _ e => e.elim)) (x := p.U) (y := p.E) (by simp [Ps.all]) (by simp [Ps.all]) (by have := HV.out.nodup; simp [Ps.all] at this; exact fun e => this.1.1 e.symm)
                have hq0 := eql_other HV.out (x := p.U) (y := p.E) (by simp [Ps.all]) (by simp [Ps.all]) (by have := HV.out.nodup; simp [Ps.all] at this; exact fun e => this.1.1 e.symm)
                go_wp2_with fail
                (go_quiet (fail))
                go_wp2_with fail
                go_ret2
                obtain ⟨hs4, hz4, hf4, hU⟩ := HG.out
                exact zrd_end HX.out HB.out.lo HM.out.1 H2.out HJ2.out.1 HJ2.out.2.out (hf4.trans (((Frm.refl _ _).setCell (.inl (.inl rfl)) _).drewN _)) ((hz4.set_e _).keep (S := fun _ _ => False) (by (repeat (first | exact Frm.refl _ _ | refine Frm.drewN ?_ _ | refine Frm.drew ?_ | refine Frm.alloc ?_ _ | refine Frm.setCell ?_ (by simp) _))) (fun _ e => e)) (src_set hs4 HK.out.2.2 HX.out.bZ) (.inl ⟨rfl, .inl ⟨hU.2, rfl, hU.1⟩⟩) (fun _ => rfl)

theorem flate_closeM (n : Nat) (a : Addr) (w : World) : (method (n + 1) 121 (.pointer (some a)) "Close").run Tryd.prog w = .ok (129, .pointer (some a)) w := by kernel_rfl
theorem flate_closeE (args : Array Value) (w : World) : (callFunc 129 args).run Tryd.prog w = .ok (.enter 129 args) w := by kernel_rfl

/-- 'Close' of a reader of streams that came to its end. -/
theorem zclose_any {Z A F C K0 : Nat} {p : Ps} {d0 : DS} {er : Err} {P : Nat} {FH : List UInt8} (w : World) (hJ : JZ Z A F C K0 p d0 er P FH (errAt p.E) w) (hCZ : C ≤ Z) :
    Calls Tryd.prog 133 #[.pointer (some ⟨Z, 0, none⟩)] w fun e w' => e = .returned .nilIface ∧ Frm (fun b _ => b = Z) w w' := by
  obtain ⟨henv, d, s, hD, hsm, hz, hE, hde, _⟩ := hJ
  have z1 := hz.d
  have z3 := hz.e
  have f3 := hz.fr 3
  have cE := henv.eof
  have hg := henv.g
  have n0 : Z ≠ 0 := by omega
  have hq := fun w => neq_same p.E w
  have hm := flate_closeM
  have hen := flate_closeE
  have HZ := Lib.hid hz
  have HD := Lib.hid (And.intro (hde rfl) (And.intro hD henv))
  clear hz hD hE hde hsm henv hg
  go_enter Tryd.func133, Tryd.ntmps133
  go_wp2_with fail
  (go_quiet (fail))
  go_wp2_with fail
  refine (close_eof (w.drewN nq) F C p (HD.out.2.2.keep (S := fun _ _ => False) ((Frm.refl _ _).drewN _) (fun _ _ e => e.elim)) (by have := HD.out.2.1.err; rw [HD.out.1] at this; exact this)).mono ?_
  rintro e w1 ⟨rfl, n1, rfl⟩
  go_wp2_with fail
  go_ret
  exact ⟨rfl, (((Frm.refl _ _).drewN _).setCell (.inl rfl) _)⟩

end Go.Proofs.YthfncdfcklbigaaDoor

/-
  zlib's reader as a reader for 'drain'; the walks of 'NewReaderDict' and 'NewReader'.
-/
namespace Go.Proofs.YthfncdfcklbigaaDoor
open Go.RowKit Go.IntWalk Flate
set_option maxRecDepth 100000

theorem zlib_meth (n : Nat) (a : Addr) (w : World) : (method (n + 1) 137 (.pointer (some a)) "Read").run Tryd.prog w = .ok (134, .pointer (some a)) w := by kernel_rfl
theorem zlib_enter (args : Array Value) (w : World) : (callFunc 134 args).run Tryd.prog w = .ok (.enter 134 args) w := by kernel_rfl

/-- zlib's reader as a reader. -/
theorem zlib_reader {Z A F C N0 K0 : Nat} {p : Ps} {d0 : DS} {x0 : Cfg × List UInt8} {er : Err} {P : Nat} {FH : List UInt8} (hX : ZFix Z A F C N0 K0 p d0 x0 er P FH) :
    ReaderL 137 134 Z N0 (fun b => MD F d0 b ∨ b = Z ∨ b = A) FH (IZ Z A F C K0 p d0 x0 FH) (JZ Z A F C K0 p d0 er P FH) where
  meth := zlib_meth
  enter := zlib_enter
  low := by
    have hl := hX.low
    rintro b ((rfl | rfl | rfl | rfl | rfl) | rfl | rfl)
    · exact hl.F
    · exact hl.R
    · exact hl.H
    · exact hl.B
    · exact hl.C
    · exact hX.zN
    · exact hX.aN
  read := fun k w BX L hI hB h1 h2 => zread_any hX k w BX L hI hB h1 h2
  keep := by
    intro k w w' ⟨hI, henv, ⟨s, hz⟩, hdig, h1, h2⟩ hf
    have hl := hX.low
    have hcN := hX.cN
    have hzN := hX.zN
    have haN := hX.aN
    have h3 := hI.out.turn hf (fun b o q => ⟨by omega, by
      rintro (e | e | e | e | e)
      · have := hl.F; omega
      · have := hl.R; omega
      · have := hl.H; omega
      · have := hl.B; omega
      · have := hl.C; omega, fun a ha e => by have := hl.S a ha; omega, q.2.noTab⟩)
    exact ⟨Lib.hid h3, h3.env, ⟨s, hz.keep hf (fun o q => by omega)⟩, hdig.keep hf (fun o q => by omega), h1, h2⟩
  keepJ := by
    intro v w w' ⟨henv, d, s, hD, hsm, hz, hE, hde, hc⟩ hf
    have hl := hX.low.same hsm
    have hcN := hX.cN
    have hzN := hX.zN
    exact ⟨henv.keep hf (fun b o q => by omega), d, s, hD.keep hf (fun o q => by have := hl.F; omega) (fun o q => by have := hl.R; omega) (fun o q => by have := hl.H; omega) (fun a ha j _ q => by have := hl.S a ha; omega), hsm, hz.keep hf (fun o q => by omega), hE, hde, hc⟩

abbrev zrV (Z : Nat) : Value := .iface 137 (.pointer (some ⟨Z, 0, none⟩))

/-- What 'NewReaderDict' gives. -/
def ZNew (w : World) (C : Nat) (p : Ps) (R : Nat) (base : Option Addr) (src dict : List UInt8) (e : Ending) (w' : World) : Prop :=
  (∃ f q, zhead src dict = .inl (f, q) ∧ e = .returned (.tuple #[.nilIface, zerr p f]) ∧ Src w' R base src q ∧ Frm (fun b _ => b = R) w w') ∨
  ∃ Z q D F d A s, zhead src dict = .inr (q, D) ∧ e = .returned (.tuple #[zrV Z, .nilIface]) ∧ w.heap.size ≤ Z ∧ q ≤ src.length ∧ Hid (RS F C p d (.next ⟨0, 0⟩, tail32 D) (tail32 D).length w' d (tail32 D) 0 (.next ⟨0, 0⟩, tail32 D)) ∧ d.R = R ∧ d.base = base ∧ d.src = src.drop q ∧
    ZR w' Z (rdrZ R) (decV F) (digV A) .nilIface s ∧ Dig w' A [] ∧ ¬ MD F d Z ∧ ¬ MD F d A ∧ A ≠ Z ∧ w.heap.size ≤ A ∧ (∀ b, MD F d b → b < A) ∧ Frm (fun b _ => b = R) w w' ∧ ∀ b, MD F d b → b = R ∨ w.heap.size ≤ b

theorem znew_of {w w1 w2 : World} {C : Nat} {p : Ps} {R : Nat} {base : Option Addr} {src dict : List UInt8} {Z : Nat} {e : Ending} (hZ : w.heap.size = Z) (hf : Frm (fun _ _ => False) w w1) (h : ZFail p w1 Z R base src dict e w2 ∨ ZDone w1 C p Z R base src dict (isNilV .nilIface) (fun _ => False) e w2) :
    (∃ f, e = .returned (zerr p f) ∧ f ≠ 0 ∧ ZNew w C p R base src dict (.returned (.tuple #[.nilIface, zerr p f])) w2) ∨ e = .returned .nilIface ∧ ZNew w C p R base src dict (.returned (.tuple #[zrV Z, .nilIface])) w2 := by
  have key : ∀ {S : Nat → Nat → Prop}, Frm S w1 w2 → (∀ b o, S b o → b = Z ∨ b = R) → Frm (fun b _ => b = R) w w2 := fun hs hS => (hf.mono fun _ _ e => e.elim).trans' hs (fun x o hx q => (hS x o q).elim (fun e => by omega) (fun e => e))
  rcases h with ⟨f, q, h1, rfl, h3, h4⟩ | ⟨q, D, D', F, d, A, s, rfl, h1, h2, h3, h4, h5, h6, h7, h8, h9, h10, h11, h12, h13, h14, h15, h16⟩
  · refine .inl ⟨f, rfl, ?_, .inl ⟨f, q, h1, rfl, h3, key h4 fun b o e => e⟩⟩
    unfold zhead at h1
    split at h1
    · injection h1 with h; injection h; omega
    · split at h1
      · injection h1 with h; injection h; omega
      · split at h1
        · split at h1
          · injection h1 with h; injection h; omega
          · split at h1
            · simp at h1
            · injection h1 with h; injection h; omega
        · simp at h1
  · simp only [isNilV, if_true] at h2
    subst h2
    refine .inr ⟨rfl, .inr ⟨Z, q, D', F, d, A, s, h1, rfl, by omega, h3, h4, h5, h6, h7, h8, h9, h10, h11, h12, Nat.le_trans hf.size h13, h14, key h15 fun b o e => ?_, fun b hb => ?_⟩⟩
    · rcases e with e | e | e
      · exact .inl e
      · exact .inr e
      · exact e.elim
    · rcases h16 b hb with e | e | e
      · exact .inl e
      · exact e.elim
      · exact .inr (Nat.le_trans hf.size e)

theorem zr_new {w w1 : World} {t : TypeId} (h : w.alloc (.cells #[.nilIface, .nilIface, .nilIface, .nilIface, .int .u8 0, .int .u8 0, .int .u8 0, .int .u8 0] t) = w1) : ZR w1 w.heap.size .nilIface .nilIface .nilIface .nilIface (fun _ => 0) := by
  have hc : ∀ j, w1.cell? ⟨w.heap.size, j, none⟩ = (#[Value.nilIface, .nilIface, .nilIface, .nilIface, .int .u8 0, .int .u8 0, .int .u8 0, .int .u8 0] : Array Value)[j]? := fun j => by rw [← h]; exact cells_at (heap_alloc_new w _)
  refine ⟨hc 0, hc 1, hc 2, hc 3, fun j hj => ?_, fun o => by rw [← h, World.frozen?_alloc_new], fun o ho => ?_⟩
  · rw [hc]
    match j, hj with
    | 0, _ => rfl
    | 1, _ => rfl
    | 2, _ => rfl
    | 3, _ => rfl
  · rw [hc]
    exact Array.getElem?_eq_none (by simpa using ho)

set_option maxHeartbeats 4000000 in
theorem newReaderDictZ_any (w : World) (C : Nat) (p : Ps) (he : Env w C p) (R : Nat) (base : Option Addr) (src : List UInt8) (hR : C ≤ R) (hs : Src w R base src 0) (hblt : ∀ a, base = some a → a.block < w.heap.size)
    (dbase : Option Addr) (dict : List UInt8) (dcap : Nat) (hdb : Bytes w dbase dict) (hdc : dict.length ≤ dcap) (hdl : dict.length ≤ 4294967296) (hdF : ∀ a, dbase = some a → a.block ≠ R) (hdlt : ∀ a, dbase = some a → a.block < w.heap.size) :
    Calls Tryd.prog 48 #[rdrZ R, .slice dbase dict.length dcap] w (ZNew w C p R base src dict) := by
  have HA := Lib.hid (And.intro he (And.intro hR (And.intro hs (And.intro hblt (And.intro hdb (And.intro hdc (And.intro hdl (And.intro hdF hdlt))))))))
  obtain ⟨n, hn⟩ : ∃ n, n = dict.length := ⟨_, rfl⟩
  rw [← hn]
  have HN := Lib.hid hn
  clear he hR hs hblt hdb hdc hdl hdF hdlt hn
  go_enter Tryd.func48, Tryd.ntmps48
  go_wp2_with fail
  obtain ⟨w1, hw1⟩ : ∃ w1, w.alloc (.cells #[.nilIface, .nilIface, .nilIface, .nilIface, .int .u8 0, .int .u8 0, .int .u8 0, .int .u8 0] 141) = w1 := ⟨_, rfl⟩
  have hz := zr_new hw1
  have hf : Frm (fun _ _ => False) w w1 := by rw [← hw1]; exact (Frm.refl _ _).alloc _
  rw [hw1]
  obtain ⟨Z, hZ⟩ : ∃ Z, w.heap.size = Z := ⟨_, rfl⟩
  rw [hZ] at hz ⊢
  obtain ⟨he, hR, hs, hblt, hdb, hdc, hdl, hdF, hdlt⟩ := HA.out
  have hRl := hs.lt
  have hrs := zreset_any w1 Z C p (he.keep hf (fun _ _ e => e.elim)) (by rw [← hZ]; exact he.le) _ _ _ _ _ hz R base src hR (hs.keep hf (fun _ e => e) (fun _ _ _ _ e => e)) (by omega) (fun a ha => by have := hblt a ha; omega) (fun a ha => Nat.lt_of_lt_of_le (hblt a ha) hf.size)
    dbase dict dcap (hdb.keep hf (fun _ _ _ _ e => e)) hdc hdl (fun a ha => ⟨by have := hdlt a ha; omega, hdF a ha⟩) (fun a ha => Nat.lt_of_lt_of_le (hdlt a ha) hf.size) (fun _ => False) (.inl rfl)
  rw [← HN.out] at hrs
  have HRS := Lib.hid hrs
  have HF := Lib.hid hf
  clear he hR hs hblt hdb hdc hdl hdF hdlt hRl hrs hf hz hw1
  refine HRS.out.mono ?_
  intro e w2 hpost
  rcases znew_of hZ HF.out hpost with ⟨f, rfl, hf0, hnew⟩ | ⟨rfl, hnew⟩
  · have HNEW := Lib.hid hnew
    have he : ∃ q, zerr p f = errAt q := by
      unfold zerr
      split
      · exact ⟨_, rfl⟩
      · split
        · exact ⟨_, rfl⟩
        · exact ⟨_, rfl⟩
    obtain ⟨q, hq⟩ := he
    rw [hq] at HNEW ⊢
    clear hpost hnew hq hf0
    go_wp2_with fail
    go_ret2
    exact HNEW.out
  · have HNEW := Lib.hid hnew
    clear hpost hnew
    go_wp2_with fail
    go_ret2
    exact HNEW.out

theorem newReaderZ_any (w : World) (C : Nat) (p : Ps) (he : Env w C p) (R : Nat) (base : Option Addr) (src : List UInt8) (hR : C ≤ R) (hs : Src w R base src 0) (hblt : ∀ a, base = some a → a.block < w.heap.size) :
    Calls Tryd.prog 47 #[rdrZ R] w (ZNew w C p R base src []) := by
  have h := newReaderDictZ_any w C p he R base src hR hs hblt none [] 0 (by constructor <;> simp) (by simp) (by simp) (by simp) (by simp)
  have HH := Lib.hid h
  clear h he hR hs hblt
  go_enter Tryd.func47, Tryd.ntmps47
  go_wp2_with fail
  refine HH.out.mono ?_
  intro e w2 hpost
  have HP := Lib.hid hpost
  rcases hpost with ⟨f, q, _, rfl, _⟩ | ⟨Z, q, D, F, d, A, s, _, rfl, _⟩
  · go_wp2_with fail
    go_ret2
    exact HP.out
  · go_wp2_with fail
    go_ret2
    exact HP.out

end Go.Proofs.YthfncdfcklbigaaDoor

/-
  PLAIN LEAN: where a source breaks off, all of it was read; the laws of written blocks that are cut, or stand behind a stored one.
-/
namespace Flate

/-- If the source breaks off, it was read to its end. -/
def Rd.CutAt {α : Type} (src : List UInt8) : Rd α → Prop
  | .bad .cut r => r.pos = src.length
  | _ => True

theorem fill_cut {len n : Nat} {r r' : Br} (h : fill len n r = (false, r')) : r'.pos = len := by
  unfold fill at h
  split at h
  · simp at h
  · split at h
    · simp at h
    · obtain ⟨_, rfl⟩ := Prod.mk.injEq .. ▸ h; rfl

theorem Rd.CutAt.bad {α β : Type} {src : List UInt8} {e : Err} {r : Br} (h : (Rd.bad e r : Rd α).CutAt src) : (Rd.bad e r : Rd β).CutAt src := by
  cases e <;> exact h

theorem getBits_cutAt (src : List UInt8) (n : Nat) (r : Br) : (getBits src n r).CutAt src := by
  unfold getBits
  cases hf : fill src.length n r with
  | mk t r' =>
    cases t with
    | false => exact fill_cut hf
    | true => trivial

theorem sym_cutAt (src : List UInt8) (T : Tab) (f : Nat) : ∀ n r, (sym src T f n r).CutAt src := by
  induction f with
  | zero => intro n r; trivial
  | succ f ih =>
    intro n r
    rw [sym]
    cases hf : fill src.length n r with
    | mk t r' =>
      cases t with
      | false => exact fill_cut hf
      | true =>
        simp only
        split
        · split <;> trivial
        · exact ih _ _

theorem symbol_cutAt (src : List UInt8) (T : Tab) (r : Br) : (symbol src T r).CutAt src := sym_cutAt src T 20 _ _

theorem distSym_cutAt (src : List UInt8) (D : Option Tab) (r : Br) : (distSym src D r).CutAt src := by
  unfold distSym
  cases D with
  | some T => exact symbol_cutAt src T r
  | none =>
    have := getBits_cutAt src 5 r
    cases hg : getBits src 5 r with
    | bad e q => rw [hg] at this; exact this.bad
    | ok v q => trivial

theorem pair_cutAt (src : List UInt8) (D : Option Tab) (v : Nat) (r : Br) : (pair src D v r).CutAt src := by
  unfold pair
  cases lenOf v with
  | none => trivial
  | some lp =>
    obtain ⟨lb, lx⟩ := lp
    simp only
    have h1 := getBits_cutAt src lx r
    cases hg : getBits src lx r with
    | bad e q => rw [hg] at h1; exact h1.bad
    | ok x r2 =>
      simp only
      have h2 := distSym_cutAt src D r2
      cases hd : distSym src D r2 with
      | bad e q => rw [hd] at h2; exact h2.bad
      | ok ds r3 =>
        simp only
        cases distOf ds with
        | none => trivial
        | some dp =>
          obtain ⟨db, dx⟩ := dp
          simp only
          have h3 := getBits_cutAt src dx r3
          cases hg3 : getBits src dx r3 with
          | bad e q => rw [hg3] at h3; exact h3.bad
          | ok y r4 => trivial

theorem clRead_cutAt (src : List UInt8) (k : Nat) : ∀ acc r, (clRead src k acc r).CutAt src := by
  induction k with
  | zero => intro acc r; trivial
  | succ k ih =>
    intro acc r
    rw [clRead]
    have h1 := getBits_cutAt src 3 r
    cases hg : getBits src 3 r with
    | bad e q => rw [hg] at h1; exact h1.bad
    | ok x r2 => exact ih _ _

theorem lenStep_cutAt (src : List UInt8) (T : Tab) (n : Nat) (acc : List Nat) (r : Br) : (lenStep src T n acc r).CutAt src := by
  unfold lenStep
  have h1 := symbol_cutAt src T r
  cases hs : symbol src T r with
  | bad e q => rw [hs] at h1; exact h1.bad
  | ok x r1 =>
    simp only
    split
    · trivial
    · split
      · trivial
      · have h2 := getBits_cutAt src (repOf x acc).2.1 r1
        cases hg : getBits src (repOf x acc).2.1 r1 with
        | bad e q => rw [hg] at h2; exact h2.bad
        | ok y r2 => simp only; split <;> trivial

theorem lenRead_cutAt (src : List UInt8) (T : Tab) (n f : Nat) : ∀ acc r, (lenRead src T n f acc r).CutAt src := by
  induction f with
  | zero => intro acc r; trivial
  | succ f ih =>
    intro acc r
    rw [lenRead]
    split
    · trivial
    · have h1 := lenStep_cutAt src T n acc r
      cases hs : lenStep src T n acc r with
      | bad e q => rw [hs] at h1; exact h1.bad
      | ok x r1 => exact ih _ _

theorem twoTabs_cutAt (src : List UInt8) (ls : List Nat) (n : Nat) (r : Br) : (twoTabs ls n r).CutAt src := by
  unfold twoTabs
  split
  · trivial
  · trivial
  · split <;> trivial

theorem readHuff_cutAt (src : List UInt8) (r : Br) : (readHuff src r).CutAt src := by
  unfold readHuff
  cases hf : fill src.length 14 r with
  | mk t r' =>
    cases t with
    | false => exact fill_cut hf
    | true =>
      simp only
      split
      · trivial
      · split
        · trivial
        · have h1 := clRead_cutAt src (bv src (r'.at_ + 10) 4 + 4) [] { r' with at_ := r'.at_ + 14 }
          cases hc : clRead src (bv src (r'.at_ + 10) 4 + 4) [] { r' with at_ := r'.at_ + 14 } with
          | bad e q => rw [hc] at h1; exact h1.bad
          | ok vs r2 =>
            simp only
            split
            · trivial
            · trivial
            · rename_i TC _
              have h2 := lenRead_cutAt src TC (bv src r'.at_ 5 + 257 + (bv src (r'.at_ + 5) 5 + 1)) 400 [] r2
              cases hl : lenRead src TC (bv src r'.at_ 5 + 257 + (bv src (r'.at_ + 5) 5 + 1)) 400 [] r2 with
              | bad e q => rw [hl] at h2; exact h2.bad
              | ok ls r3 => exact twoTabs_cutAt src _ _ _

def Cfg.CutAt (src : List UInt8) : Cfg → Prop
  | .done .cut p => p = src.length
  | _ => True

theorem Rd.CutAt.done {α : Type} {src : List UInt8} {e : Err} {r : Br} (h : (Rd.bad e r : Rd α).CutAt src) : (Cfg.done e r.pos).CutAt src := by
  cases e <;> exact h

theorem more_cutAt (src : List UInt8) (last : Bool) (r : Br) : (more last r).CutAt src := by
  unfold more; split <;> trivial

theorem sstep_cutAt {src : List UInt8} {c : Cfg × List UInt8} (h : c.1.CutAt src) : (sstep src c).1.CutAt src := by
  obtain ⟨c, H⟩ := c
  cases c with
  | done e p => exact h
  | huff last r T D =>
    show (huffStep src last r T D H).1.CutAt src
    unfold huffStep
    have h1 := symbol_cutAt src T r
    cases hs : symbol src T r with
    | bad e q => rw [hs] at h1; exact h1.done
    | ok v r1 =>
      simp only
      split
      · trivial
      · split
        · exact more_cutAt _ _ _
        · have h2 := pair_cutAt src D v r1
          cases hp : pair src D v r1 with
          | bad e q => rw [hp] at h2; exact h2.done
          | ok nd r2 =>
            obtain ⟨n, d⟩ := nd
            simp only
            split <;> trivial
  | next r =>
    show (nextStep src r H).1.CutAt src
    unfold nextStep
    cases hf : fill src.length 3 r with
    | mk t r' =>
      cases t with
      | false =>
        show r'.pos = src.length
        exact fill_cut hf
      | true =>
        simp only
        split
        · unfold storedStep
          split
          · rfl
          · split
            · trivial
            · unfold stRest
              split
              · exact more_cutAt _ _ _
              · rfl
        · split
          · trivial
          · split
            · have h1 := readHuff_cutAt src { r' with at_ := r'.at_ + 3 }
              cases hh : readHuff src { r' with at_ := r'.at_ + 3 } with
              | bad e q => rw [hh] at h1; exact h1.done
              | ok p r3 => trivial
            · trivial

theorem reach_cutAt {src : List UInt8} {x y : Cfg × List UInt8} (h : Reach src x y) (hx : x.1.CutAt src) : y.1.CutAt src := by
  induction h with
  | refl => exact hx
  | step _ ih => exact ih (sstep_cutAt hx)

theorem infl_cut_end {src dict : List UInt8} {p : Nat} {X : List UInt8} (h : Infl src dict .cut p X) : p = src.length := reach_cutAt h trivial

/-- What is cut off: a prefix of the data. -/
theorem infl_prefix {b : List UInt8} {X : List UInt8} (h : Infl b [] .eof b.length X) {k : Nat} (hk : k < b.length) : ∃ Y Z, Infl (b.take k) [] .cut k Y ∧ X = Y ++ Z := by
  obtain ⟨e, p, Y, h1, h2, _⟩ := infl_ex (b.take k) []
  rw [List.length_take] at h2
  have h' := h
  rw [← List.take_append_drop k b] at h'
  obtain ⟨a1, a2⟩ := infl_ahead h1 h'
  by_cases hc : e = .cut
  · subst hc
    obtain ⟨Z, hZ⟩ := a2 rfl
    have hp := infl_cut_end h1
    rw [List.length_take, Nat.min_eq_left (by omega)] at hp
    subst hp
    exact ⟨Y, Z, h1, hZ⟩
  · obtain ⟨_, q, _⟩ := a1 hc
    simp only [List.take_append_drop] at q
    omega

end Flate

/-
  PLAIN LEAN: what stands behind the place where reading ended is no matter.
-/
namespace Flate

/-- The place of an answer lies behind n. -/
def Rd.Past {α : Type} (n : Nat) : Rd α → Prop
  | .ok _ r => n < r.pos
  | .bad _ r => n < r.pos

theorem fill_past {n k : Nat} {S : List UInt8} {r : Br} (hr : n < r.pos) (hS : n < S.length) : n < (fill S.length k r).2.pos := by
  unfold fill
  split
  · exact hr
  · rename_i h
    unfold Br.nb at h
    split
    · simp only; omega
    · exact hS

theorem fill_cutPast {k : Nat} {src m : List UInt8} {r q : Br} (h : fill src.length k r = (false, q)) (hm : m ≠ []) : src.length < (fill (src ++ m).length k r).2.pos := by
  have hl : src.length < (src ++ m).length := by rw [List.length_append]; have := List.length_pos_iff.2 hm; omega
  unfold fill at h ⊢
  split at h
  · simp at h
  · rename_i h1
    split at h
    · simp at h
    · rename_i h2
      rw [if_neg h1]
      split
      · simp only; omega
      · exact hl

section
variable {n : Nat} {S : List UInt8} (hS : n < S.length)
include hS

theorem getBits_past (k : Nat) (r : Br) (hr : n < r.pos) : (getBits S k r).Past n := by
  unfold getBits
  have := fill_past (k := k) hr hS
  cases hf : fill S.length k r with
  | mk t r' => rw [hf] at this; cases t <;> exact this

theorem sym_past (T : Tab) (f : Nat) : ∀ k r, n < r.pos → (sym S T f k r).Past n := by
  induction f with
  | zero => intro k r hr; exact hr
  | succ f ih =>
    intro k r hr
    rw [sym]
    have := fill_past (k := k) hr hS
    cases hf : fill S.length k r with
    | mk t r' =>
      rw [hf] at this
      cases t with
      | false => exact this
      | true =>
        simp only
        split
        · split <;> exact this
        · exact ih _ _ this

theorem symbol_past (T : Tab) (r : Br) (hr : n < r.pos) : (symbol S T r).Past n := sym_past hS T 20 _ _ hr

theorem distSym_past (D : Option Tab) (r : Br) (hr : n < r.pos) : (distSym S D r).Past n := by
  unfold distSym
  cases D with
  | some T => exact symbol_past hS T r hr
  | none =>
    have := getBits_past hS 5 r hr
    cases hg : getBits S 5 r with
    | bad e q => rw [hg] at this; exact this
    | ok v q => rw [hg] at this; exact this

theorem pair_past (D : Option Tab) (v : Nat) (r : Br) (hr : n < r.pos) : (pair S D v r).Past n := by
  unfold pair
  cases lenOf v with
  | none => exact hr
  | some lp =>
    obtain ⟨lb, lx⟩ := lp
    simp only
    have h1 := getBits_past hS lx r hr
    cases hg : getBits S lx r with
    | bad e q => rw [hg] at h1; exact h1
    | ok x r2 =>
      rw [hg] at h1
      simp only
      have h2 := distSym_past hS D r2 h1
      cases hd : distSym S D r2 with
      | bad e q => rw [hd] at h2; exact h2
      | ok ds r3 =>
        rw [hd] at h2
        simp only
        cases distOf ds with
        | none => exact h2
        | some dp =>
          obtain ⟨db, dx⟩ := dp
          simp only
          have h3 := getBits_past hS dx r3 h2
          cases hg3 : getBits S dx r3 with
          | bad e q => rw [hg3] at h3; exact h3
          | ok y r4 => rw [hg3] at h3; exact h3

theorem clRead_past (k : Nat) : ∀ acc r, n < r.pos → (clRead S k acc r).Past n := by
  induction k with
  | zero => intro acc r hr; exact hr
  | succ k ih =>
    intro acc r hr
    rw [clRead]
    have h1 := getBits_past hS 3 r hr
    cases hg : getBits S 3 r with
    | bad e q => rw [hg] at h1; exact h1
    | ok x r2 => rw [hg] at h1; exact ih _ _ h1

theorem lenStep_past (T : Tab) (k : Nat) (acc : List Nat) (r : Br) (hr : n < r.pos) : (lenStep S T k acc r).Past n := by
  unfold lenStep
  have h1 := symbol_past hS T r hr
  cases hs : symbol S T r with
  | bad e q => rw [hs] at h1; exact h1
  | ok x r1 =>
    rw [hs] at h1
    simp only
    split
    · exact h1
    · split
      · exact h1
      · have h2 := getBits_past hS (repOf x acc).2.1 r1 h1
        cases hg : getBits S (repOf x acc).2.1 r1 with
        | bad e q => rw [hg] at h2; exact h2
        | ok y r2 => rw [hg] at h2; simp only; split <;> exact h2

theorem lenRead_past (T : Tab) (k f : Nat) : ∀ acc r, n < r.pos → (lenRead S T k f acc r).Past n := by
  induction f with
  | zero => intro acc r hr; exact hr
  | succ f ih =>
    intro acc r hr
    rw [lenRead]
    split
    · exact hr
    · have h1 := lenStep_past hS T k acc r hr
      cases hs : lenStep S T k acc r with
      | bad e q => rw [hs] at h1; exact h1
      | ok x r1 => rw [hs] at h1; exact ih _ _ h1

omit hS in
theorem twoTabs_past (ls : List Nat) (k : Nat) (r : Br) (hr : n < r.pos) : (twoTabs ls k r).Past n := by
  unfold twoTabs
  split
  · exact hr
  · exact hr
  · split <;> exact hr

theorem readHuff_past (r : Br) (hr : n < r.pos) : (readHuff S r).Past n := by
  unfold readHuff
  have := fill_past (k := 14) hr hS
  cases hf : fill S.length 14 r with
  | mk t r' =>
    rw [hf] at this
    cases t with
    | false => exact this
    | true =>
      simp only
      split
      · exact this
      · split
        · exact this
        · have h1 := clRead_past hS (bv S (r'.at_ + 10) 4 + 4) [] { r' with at_ := r'.at_ + 14 } this
          cases hc : clRead S (bv S (r'.at_ + 10) 4 + 4) [] { r' with at_ := r'.at_ + 14 } with
          | bad e q => rw [hc] at h1; exact h1
          | ok vs r2 =>
            rw [hc] at h1
            simp only
            split
            · exact h1
            · exact h1
            · rename_i TC _
              have h2 := lenRead_past hS TC (bv S r'.at_ 5 + 257 + (bv S (r'.at_ + 5) 5 + 1)) 400 [] r2 h1
              cases hl : lenRead S TC (bv S r'.at_ 5 + 257 + (bv S (r'.at_ + 5) 5 + 1)) 400 [] r2 with
              | bad e q => rw [hl] at h2; exact h2
              | ok ls r3 => rw [hl] at h2; exact twoTabs_past _ _ _ h2

end

def Cfg.Past (n : Nat) : Cfg → Prop
  | .next r => n < r.pos
  | .huff _ r _ _ => n < r.pos
  | .done _ p => n < p

theorem more_past {n : Nat} (last : Bool) (r : Br) (h : n < r.pos) : (more last r).Past n := by
  unfold more; split <;> exact h

theorem stored_past {n : Nat} {S : List UInt8} (hS : n < S.length) (last : Bool) (pos : Nat) (H : List UInt8) (h : n < pos + 4) : (storedStep S last pos H).1.Past n := by
  unfold storedStep
  split
  · exact hS
  · split
    · exact h
    · unfold stRest
      split
      · exact more_past _ _ (by simp only; omega)
      · exact hS

theorem sstep_past {n : Nat} {S : List UInt8} (hS : n < S.length) {c : Cfg × List UInt8} (h : c.1.Past n) : (sstep S c).1.Past n := by
  obtain ⟨c, H⟩ := c
  cases c with
  | done e p => exact h
  | huff last r T D =>
    show (huffStep S last r T D H).1.Past n
    unfold huffStep
    have h1 := symbol_past hS T r h
    cases hs : symbol S T r with
    | bad e q => rw [hs] at h1; exact h1
    | ok v r1 =>
      rw [hs] at h1
      simp only
      split
      · exact h1
      · split
        · exact more_past _ _ h1
        · have h2 := pair_past hS D v r1 h1
          cases hp : pair S D v r1 with
          | bad e q => rw [hp] at h2; exact h2
          | ok nd r2 =>
            obtain ⟨k, d⟩ := nd
            rw [hp] at h2
            simp only
            split <;> exact h2
  | next r =>
    show (nextStep S r H).1.Past n
    unfold nextStep
    have h0 := fill_past (k := 3) h hS
    cases hf : fill S.length 3 r with
    | mk t r' =>
      rw [hf] at h0
      cases t with
      | false => exact h0
      | true =>
        simp only
        split
        · exact stored_past hS _ _ _ (Nat.lt_of_lt_of_le (show n < r'.pos from h0) (Nat.le_add_right _ _))
        · split
          · exact h0
          · split
            · have h1 := readHuff_past hS { r' with at_ := r'.at_ + 3 } h0
              cases hh : readHuff S { r' with at_ := r'.at_ + 3 } with
              | bad e q => rw [hh] at h1; exact h1
              | ok p r3 => rw [hh] at h1; exact h1
            · exact h0

theorem reach_past {n : Nat} {S : List UInt8} (hS : n < S.length) {x y : Cfg × List UInt8} (h : Reach S x y) (hx : x.1.Past n) : y.1.Past n := by
  induction h with
  | refl => exact hx
  | step _ ih => exact ih (sstep_past hS hx)

/-! ### Where the shorter source breaks off, the longer one is read behind its end -/

section
variable {src m : List UInt8} (hm : m ≠ [])
include hm

omit hm in
theorem len_lt (hm : m ≠ []) : src.length < (src ++ m).length := by rw [List.length_append]; have := List.length_pos_iff.2 hm; omega

theorem getBits_cp {k : Nat} {r q : Br} (h : getBits src k r = .bad .cut q) : (getBits (src ++ m) k r).Past src.length := by
  unfold getBits at h ⊢
  cases hf : fill src.length k r with
  | mk t r' =>
    rw [hf] at h
    cases t with
    | true => simp at h
    | false =>
      have := fill_cutPast hf hm
      cases hf2 : fill (src ++ m).length k r with
      | mk t2 r2 => rw [hf2] at this; cases t2 <;> exact this

theorem sym_cp {T : Tab} (f : Nat) : ∀ {k : Nat} {r q : Br}, r.ok src → sym src T f k r = .bad .cut q → (sym (src ++ m) T f k r).Past src.length := by
  induction f with
  | zero => intro k r q _ h; simp [sym] at h
  | succ f ih =>
    intro k r q hr h
    rw [sym] at h ⊢
    cases hf : fill src.length k r with
    | mk t r' =>
      rw [hf] at h
      cases t with
      | false =>
        have := fill_cutPast hf hm
        cases hf2 : fill (src ++ m).length k r with
        | mk t2 r2 =>
          rw [hf2] at this
          cases t2 with
          | false => exact this
          | true =>
            simp only
            split
            · split <;> exact this
            · exact sym_past (len_lt hm) _ _ _ _ this
      | true =>
        obtain ⟨a1, a2, a3, a4, a5⟩ := fill_ok hr hf
        rw [List.length_append, fill_ext hf]
        simp only at h ⊢
        rw [b_ext a1]
        split at h
        · split at h <;> simp at h
        · rename_i h2
          rw [if_neg h2]
          exact ih a1 h

theorem symbol_cp {T : Tab} {r q : Br} (hr : r.ok src) (h : symbol src T r = .bad .cut q) : (symbol (src ++ m) T r).Past src.length := sym_cp hm 20 hr h

theorem distSym_cp {D : Option Tab} {r q : Br} (hr : r.ok src) (h : distSym src D r = .bad .cut q) : (distSym (src ++ m) D r).Past src.length := by
  unfold distSym at h ⊢
  cases D with
  | some T => exact symbol_cp hm hr h
  | none =>
    simp only at h ⊢
    cases h1 : getBits src 5 r with
    | bad e q2 =>
      rw [h1] at h
      simp only [Rd.bad.injEq] at h
      obtain ⟨rfl, rfl⟩ := h
      have := getBits_cp hm h1
      cases hg : getBits (src ++ m) 5 r with
      | bad e q => rw [hg] at this; exact this
      | ok v q => rw [hg] at this; exact this
    | ok v q2 => rw [h1] at h; simp at h

theorem pair_cp {D : Option Tab} {v : Nat} {r q : Br} (hD : ∀ T, D = some T → T.OK) (hr : r.ok src) (hnb : r.nb ≤ 22) (h : pair src D v r = .bad .cut q) : (pair (src ++ m) D v r).Past src.length := by
  have hl := len_lt (src := src) hm
  unfold pair at h ⊢
  cases hlo : lenOf v with
  | none => rw [hlo] at h; simp at h
  | some p =>
    obtain ⟨lb, lx⟩ := p
    rw [hlo] at h
    simp only at h ⊢
    have g1 := getBits_good (n := lx) hr hnb
    cases h1 : getBits src lx r with
    | bad e q2 =>
      rw [h1] at h
      simp only [Rd.bad.injEq] at h
      obtain ⟨rfl, rfl⟩ := h
      have := getBits_cp hm h1
      cases hg : getBits (src ++ m) lx r with
      | bad e q => rw [hg] at this; exact this
      | ok x r2 =>
        rw [hg] at this
        simp only
        have h2 := distSym_past hl D r2 this
        cases hd : distSym (src ++ m) D r2 with
        | bad e q => rw [hd] at h2; exact h2
        | ok ds r3 =>
          rw [hd] at h2
          simp only
          cases distOf ds with
          | none => exact h2
          | some dp =>
            simp only
            have h3 := getBits_past hl dp.2 r3 h2
            cases hg3 : getBits (src ++ m) dp.2 r3 with
            | bad e q => rw [hg3] at h3; exact h3
            | ok y r4 => rw [hg3] at h3; exact h3
    | ok x r2 =>
      rw [h1] at h g1
      obtain ⟨b1, b2, b3, b4⟩ := g1
      simp only at h
      have e1 : getBits (src ++ m) lx r = .ok x r2 := by
        have := getBits_ext (m := m) (n := lx) hr
        rw [h1] at this; exact this
      rw [e1]
      simp only
      have g2 := distSym_good hD b2 b4
      cases h2 : distSym src D r2 with
      | bad e q2 =>
        rw [h2] at h
        simp only [Rd.bad.injEq] at h
        obtain ⟨rfl, rfl⟩ := h
        have := distSym_cp hm b2 h2
        cases hd : distSym (src ++ m) D r2 with
        | bad e q => rw [hd] at this; exact this
        | ok ds r3 =>
          rw [hd] at this
          simp only
          cases distOf ds with
          | none => exact this
          | some dp =>
            simp only
            have h3 := getBits_past hl dp.2 r3 this
            cases hg3 : getBits (src ++ m) dp.2 r3 with
            | bad e q => rw [hg3] at h3; exact h3
            | ok y r4 => rw [hg3] at h3; exact h3
      | ok ds r3 =>
        rw [h2] at h g2
        obtain ⟨c1, c2, c3, c4⟩ := g2
        have e2 : distSym (src ++ m) D r2 = .ok ds r3 := by
          have := distSym_ext (m := m) (D := D) b2
          rw [h2] at this; exact this
        rw [e2]
        simp only at h ⊢
        cases hdo : distOf ds with
        | none => rw [hdo] at h; simp at h
        | some dp =>
          rw [hdo] at h
          simp only at h ⊢
          cases h3 : getBits src dp.2 r3 with
          | bad e q2 =>
            rw [h3] at h
            simp only [Rd.bad.injEq] at h
            obtain ⟨rfl, rfl⟩ := h
            have := getBits_cp hm h3
            cases hg : getBits (src ++ m) dp.2 r3 with
            | bad e q => rw [hg] at this; exact this
            | ok y r4 => rw [hg] at this; exact this
          | ok y r4 => rw [h3] at h; simp at h

theorem clRead_cp (k : Nat) : ∀ {acc : List Nat} {r q : Br}, r.ok src → r.nb ≤ 22 → clRead src k acc r = .bad .cut q → (clRead (src ++ m) k acc r).Past src.length := by
  induction k with
  | zero => intro acc r q _ _ h; simp [clRead] at h
  | succ k ih =>
    intro acc r q hr hnb h
    have g1 := getBits_good (n := 3) hr hnb
    rw [clRead] at h ⊢
    cases h1 : getBits src 3 r with
    | bad e q2 =>
      rw [h1] at h
      simp only [Rd.bad.injEq] at h
      obtain ⟨rfl, rfl⟩ := h
      have := getBits_cp hm h1
      cases hg : getBits (src ++ m) 3 r with
      | bad e q => rw [hg] at this; exact this
      | ok x r2 => rw [hg] at this; exact clRead_past (len_lt hm) _ _ _ this
    | ok x r2 =>
      rw [h1] at h g1
      have e1 : getBits (src ++ m) 3 r = .ok x r2 := by
        have := getBits_ext (m := m) (n := 3) hr
        rw [h1] at this; exact this
      rw [e1]
      exact ih g1.2.1 g1.2.2.2 h

theorem lenStep_cp {T : Tab} (hT : T.OK) {n : Nat} {acc : List Nat} {r q : Br} (hr : r.ok src) (hnb : r.nb ≤ 22) (h : lenStep src T n acc r = .bad .cut q) : (lenStep (src ++ m) T n acc r).Past src.length := by
  have hl := len_lt (src := src) hm
  have g1 := symbol_good hT hr hnb
  unfold lenStep at h ⊢
  cases h1 : symbol src T r with
  | bad e q2 =>
    rw [h1] at h
    simp only [Rd.bad.injEq] at h
    obtain ⟨rfl, rfl⟩ := h
    have := symbol_cp hm hr h1
    cases hg : symbol (src ++ m) T r with
    | bad e q => rw [hg] at this; exact this
    | ok x r1 =>
      rw [hg] at this
      simp only
      split
      · exact this
      · split
        · exact this
        · have h2 := getBits_past hl (repOf x acc).2.1 r1 this
          cases hg : getBits (src ++ m) (repOf x acc).2.1 r1 with
          | bad e q => rw [hg] at h2; exact h2
          | ok y r2 => rw [hg] at h2; simp only; split <;> exact h2
  | ok x r1 =>
    rw [h1] at h g1
    obtain ⟨b1, b2, b3, b4⟩ := g1
    have e1 : symbol (src ++ m) T r = .ok x r1 := by
      have := symbol_ext (m := m) (T := T) hr
      rw [h1] at this; exact this
    rw [e1]
    simp only at h ⊢
    split at h
    · simp at h
    · rename_i hx
      rw [if_neg hx]
      split at h
      · simp at h
      · rename_i hx2
        rw [if_neg hx2]
        cases h2 : getBits src (repOf x acc).2.1 r1 with
        | bad e q2 =>
          rw [h2] at h
          simp only [Rd.bad.injEq] at h
          obtain ⟨rfl, rfl⟩ := h
          have := getBits_cp hm h2
          cases hg : getBits (src ++ m) (repOf x acc).2.1 r1 with
          | bad e q => rw [hg] at this; exact this
          | ok y r2 => rw [hg] at this; simp only; split <;> exact this
        | ok y r2 =>
          rw [h2] at h
          simp only at h
          split at h <;> simp at h

theorem lenRead_cp {T : Tab} (hT : T.OK) {n : Nat} (f : Nat) : ∀ {acc : List Nat} {r q : Br}, r.ok src → r.nb ≤ 22 → (∀ v ∈ acc, v ≤ 15) → lenRead src T n f acc r = .bad .cut q → (lenRead (src ++ m) T n f acc r).Past src.length := by
  induction f with
  | zero => intro acc r q _ _ _ h; simp [lenRead] at h
  | succ f ih =>
    intro acc r q hr hnb ha h
    rw [lenRead] at h ⊢
    split at h
    · simp at h
    · rename_i hn
      rw [if_neg hn]
      have g1 := lenStep_good hT hr hnb ha (by omega : acc.length < n)
      cases h1 : lenStep src T n acc r with
      | bad e q2 =>
        rw [h1] at h
        simp only [Rd.bad.injEq] at h
        obtain ⟨rfl, rfl⟩ := h
        have := lenStep_cp hm hT hr hnb h1
        cases hg : lenStep (src ++ m) T n acc r with
        | bad e q => rw [hg] at this; exact this
        | ok x r2 => rw [hg] at this; exact lenRead_past (len_lt hm) _ _ _ _ _ this
      | ok acc' r' =>
        rw [h1] at h g1
        have e1 : lenStep (src ++ m) T n acc r = .ok acc' r' := by
          have := lenStep_ext (m := m) hT (n := n) (acc := acc) hr hnb
          rw [h1] at this; exact this
        rw [e1]
        exact ih g1.2.1 g1.2.2.2 g1.1.2.2 h

theorem readHuff_cp {r q : Br} (hr : r.ok src) (hnb : r.nb ≤ 22) (h : readHuff src r = .bad .cut q) : (readHuff (src ++ m) r).Past src.length := by
  have hl := len_lt (src := src) hm
  have hany : ∀ r1 : Br, src.length < r1.pos → (match (true, r1) with
      | (false, r') => (Rd.bad .cut r' : Rd (Tab × Tab))
      | (true, r1) =>
        if 29 < bv (src ++ m) r1.at_ 5 then .bad .corrupt r1
        else if 29 < bv (src ++ m) (r1.at_ + 5) 5 then .bad .corrupt r1
        else
          match clRead (src ++ m) (bv (src ++ m) (r1.at_ + 10) 4 + 4) [] { r1 with at_ := r1.at_ + 14 } with
          | .bad e r' => .bad e r'
          | .ok vs r2 =>
            match initTab (clens vs) with
            | none | some none => .bad .corrupt r2
            | some (some TC) =>
              match lenRead (src ++ m) TC (bv (src ++ m) r1.at_ 5 + 257 + (bv (src ++ m) (r1.at_ + 5) 5 + 1)) 400 [] r2 with
              | .bad e r' => .bad e r'
              | .ok ls r3 => twoTabs ls (bv (src ++ m) r1.at_ 5 + 257) r3).Past src.length := by
    intro r' this
    simp only
    split
    · exact this
    · split
      · exact this
      · have h1 := clRead_past hl (bv (src ++ m) (r'.at_ + 10) 4 + 4) [] { r' with at_ := r'.at_ + 14 } this
        cases hc : clRead (src ++ m) (bv (src ++ m) (r'.at_ + 10) 4 + 4) [] { r' with at_ := r'.at_ + 14 } with
        | bad e q => rw [hc] at h1; exact h1
        | ok vs r2 =>
          rw [hc] at h1
          simp only
          split
          · exact h1
          · exact h1
          · rename_i TC _
            have h2 := lenRead_past hl TC (bv (src ++ m) r'.at_ 5 + 257 + (bv (src ++ m) (r'.at_ + 5) 5 + 1)) 400 [] r2 h1
            cases hl : lenRead (src ++ m) TC (bv (src ++ m) r'.at_ 5 + 257 + (bv (src ++ m) (r'.at_ + 5) 5 + 1)) 400 [] r2 with
            | bad e q => rw [hl] at h2; exact h2
            | ok ls r3 => rw [hl] at h2; exact twoTabs_past _ _ _ h2
  unfold readHuff at h ⊢
  cases hf : fill src.length 14 r with
  | mk t r1 =>
    rw [hf] at h
    cases t with
    | false =>
      have := fill_cutPast hf hm
      cases hf2 : fill (src ++ m).length 14 r with
      | mk t2 r2 =>
        rw [hf2] at this
        cases t2 with
        | false => exact this
        | true => exact hany r2 this
    | true =>
      obtain ⟨a1, a2, a3, a4, a5⟩ := fill_ok hr hf
      have h14 := a4 rfl
      obtain ⟨b1, b2⟩ := skip_ok a1 h14
      have h1 := a1.1
      have h2 := a1.2
      have h15 := h14
      unfold Br.nb at h15
      rw [List.length_append, fill_ext hf]
      simp only at h ⊢
      rw [bv_append src m r1.at_ 5 (by omega), bv_append src m (r1.at_ + 5) 5 (by omega), bv_append src m (r1.at_ + 10) 4 (by omega)]
      split at h
      · simp at h
      · rename_i x1
        rw [if_neg x1]
        split at h
        · simp at h
        · rename_i x2
          rw [if_neg x2]
          have g1 := clRead_good (bv src (r1.at_ + 10) 4 + 4) (acc := []) b1 (by rw [b2]; omega) (fun v hv => absurd hv List.not_mem_nil)
          cases h1 : clRead src (bv src (r1.at_ + 10) 4 + 4) [] { r1 with at_ := r1.at_ + 14 } with
          | bad e q2 =>
            rw [h1] at h
            simp only [Rd.bad.injEq] at h
            obtain ⟨rfl, rfl⟩ := h
            have := clRead_cp hm (bv src (r1.at_ + 10) 4 + 4) (acc := []) b1 (by rw [b2]; omega) h1
            cases hg : clRead (src ++ m) (bv src (r1.at_ + 10) 4 + 4) [] { r1 with at_ := r1.at_ + 14 } with
            | bad e q => rw [hg] at this; exact this
            | ok vs r2 =>
              rw [hg] at this
              simp only
              split
              · exact this
              · exact this
              · rename_i TC _
                have h2 := lenRead_past hl TC (bv src r1.at_ 5 + 257 + (bv src (r1.at_ + 5) 5 + 1)) 400 [] r2 this
                cases hl : lenRead (src ++ m) TC (bv src r1.at_ 5 + 257 + (bv src (r1.at_ + 5) 5 + 1)) 400 [] r2 with
                | bad e q => rw [hl] at h2; exact h2
                | ok ls r3 => rw [hl] at h2; exact twoTabs_past _ _ _ h2
          | ok vs r2 =>
            rw [h1] at h g1
            obtain ⟨c1, c2, c3, c4⟩ := g1
            have e1 : clRead (src ++ m) (bv src (r1.at_ + 10) 4 + 4) [] { r1 with at_ := r1.at_ + 14 } = .ok vs r2 := by
              have := clRead_ext (m := m) (bv src (r1.at_ + 10) 4 + 4) (acc := []) b1 (by rw [b2]; omega)
              rw [h1] at this; exact this
            rw [e1]
            have hcl := initTab_law (lens := clens vs) (fun n hn => by have := clens_le c1.2 n hn; omega) (by rw [clens_length]; omega)
            simp only at h ⊢
            cases h2 : initTab (clens vs) with
            | none => rw [h2] at h; simp at h
            | some o =>
              cases o with
              | none => rw [h2] at h; simp at h
              | some TC =>
                rw [h2] at h
                simp only at h ⊢
                cases h3 : lenRead src TC (bv src r1.at_ 5 + 257 + (bv src (r1.at_ + 5) 5 + 1)) 400 [] r2 with
                | bad e q2 =>
                  rw [h3] at h
                  simp only [Rd.bad.injEq] at h
                  obtain ⟨rfl, rfl⟩ := h
                  have := lenRead_cp hm (hcl.2 TC h2).1 (n := bv src r1.at_ 5 + 257 + (bv src (r1.at_ + 5) 5 + 1)) 400 (acc := []) c2 c4 (fun v hv => absurd hv List.not_mem_nil) h3
                  cases hg : lenRead (src ++ m) TC (bv src r1.at_ 5 + 257 + (bv src (r1.at_ + 5) 5 + 1)) 400 [] r2 with
                  | bad e q => rw [hg] at this; exact this
                  | ok ls r3 => rw [hg] at this; exact twoTabs_past _ _ _ this
                | ok ls r3 =>
                  rw [h3] at h
                  simp only at h
                  have := twoTabs_cutAt (src ++ m) ls (bv src r1.at_ 5 + 257) r3
                  exfalso
                  revert h
                  unfold twoTabs
                  split
                  · simp
                  · simp
                  · split <;> simp

theorem sstep_cp {c : Cfg} {H H' : List UInt8} {p : Nat} (h : CfgOK src c) (hd : c.isDone = false) (hs : sstep src (c, H) = (.done .cut p, H')) : (sstep (src ++ m) (c, H)).1.Past src.length := by
  have hl := len_lt (src := src) hm
  cases c with
  | done e p => simp [Cfg.isDone] at hd
  | huff last r T D =>
    obtain ⟨hr, hnb, hT, hD⟩ := h
    have e1 : ∀ s, sstep s (.huff last r T D, H) = huffStep s last r T D H := fun _ => rfl
    rw [e1] at hs ⊢
    unfold huffStep at hs ⊢
    have g1 := symbol_good hT hr hnb
    cases h1 : symbol src T r with
    | bad e q2 =>
      rw [h1] at hs
      simp only [Prod.mk.injEq, Cfg.done.injEq] at hs
      obtain ⟨⟨rfl, _⟩, _⟩ := hs
      have := symbol_cp hm hr h1
      cases hg : symbol (src ++ m) T r with
      | bad e q => rw [hg] at this; exact this
      | ok v r1 =>
        rw [hg] at this
        simp only
        split
        · exact this
        · split
          · exact more_past _ _ this
          · have h2 := pair_past hl D v r1 this
            cases hp : pair (src ++ m) D v r1 with
            | bad e q => rw [hp] at h2; exact h2
            | ok nd r2 =>
              obtain ⟨k, d⟩ := nd
              rw [hp] at h2
              simp only
              split <;> exact h2
    | ok v r1 =>
      rw [h1] at hs g1
      obtain ⟨b1, b2, b3, b4⟩ := g1
      have e2 : symbol (src ++ m) T r = .ok v r1 := by
        have := symbol_ext (m := m) (T := T) hr
        rw [h1] at this; exact this
      rw [e2]
      simp only at hs ⊢
      split at hs
      · simp at hs
      · rename_i x1
        rw [if_neg x1]
        split at hs
        · rename_i x2
          simp only [Prod.mk.injEq] at hs
          unfold more at hs
          split at hs <;> simp at hs
        · rename_i x2
          rw [if_neg x2]
          cases h2 : pair src D v r1 with
          | bad e q2 =>
            rw [h2] at hs
            simp only [Prod.mk.injEq, Cfg.done.injEq] at hs
            obtain ⟨⟨rfl, _⟩, _⟩ := hs
            have := pair_cp hm hD b2 b4 h2
            cases hp : pair (src ++ m) D v r1 with
            | bad e q => rw [hp] at this; exact this
            | ok nd r2 =>
              obtain ⟨k, d⟩ := nd
              rw [hp] at this
              simp only
              split <;> exact this
          | ok nd r2 =>
            obtain ⟨k, d⟩ := nd
            rw [h2] at hs
            simp only at hs
            split at hs <;> simp at hs
  | next r =>
    obtain ⟨hr, hnb⟩ := h
    have e1 : ∀ s, sstep s (.next r, H) = nextStep s r H := fun _ => rfl
    rw [e1] at hs ⊢
    cases hf : fill src.length 3 r with
    | mk t r1 =>
      obtain ⟨a1, a2, a3, a4, a5⟩ := fill_ok hr hf
      cases t with
      | false =>
        have := fill_cutPast hf hm
        unfold nextStep
        cases hf2 : fill (src ++ m).length 3 r with
        | mk t2 r2 =>
          rw [hf2] at this
          cases t2 with
          | false => exact this
          | true =>
            simp only
            split
            · exact stored_past hl _ _ _ (Nat.lt_of_lt_of_le (show src.length < r2.pos from this) (Nat.le_add_right _ _))
            · split
              · exact this
              · split
                · have h1 := readHuff_past hl { r2 with at_ := r2.at_ + 3 } this
                  cases hh : readHuff (src ++ m) { r2 with at_ := r2.at_ + 3 } with
                  | bad e q => rw [hh] at h1; exact h1
                  | ok p r3 => rw [hh] at h1; exact h1
                · exact this
      | true =>
        have h3 := a4 rfl
        obtain ⟨b1, b2⟩ := skip_ok a1 h3
        have p1 := a1.1
        have p2 := a1.2
        unfold Br.nb at h3
        unfold nextStep at hs ⊢
        rw [hf] at hs
        rw [List.length_append, fill_ext hf]
        simp only at hs ⊢
        rw [bv_append src m r1.at_ 1 (by omega), bv_append src m (r1.at_ + 1) 2 (by omega)]
        split at hs
        · rename_i x0
          rw [if_pos x0]
          unfold storedStep at hs ⊢
          by_cases hq : src.length < r1.pos + 4
          · split
            · exact hl
            · split
              · exact hq
              · unfold stRest
                split
                · exact more_past _ _ (by simp only; omega)
                · exact hl
          · rw [if_neg hq] at hs
            rw [if_neg (show ¬ (src ++ m).length < r1.pos + 4 by rw [List.length_append]; omega), bv_append src m (8 * r1.pos) 16 (by omega), bv_append src m (8 * r1.pos + 16) 16 (by omega)]
            split at hs
            · simp at hs
            · rename_i x1
              rw [if_neg x1]
              unfold stRest at hs ⊢
              split at hs
              · simp only [Prod.mk.injEq] at hs
                unfold more at hs
                split at hs <;> simp at hs
              · rename_i hn
                split
                · exact more_past _ _ (by simp only; omega)
                · exact hl
        · rename_i x0
          rw [if_neg x0]
          split at hs
          · simp at hs
          · rename_i x1
            rw [if_neg x1]
            split at hs
            · rename_i x2
              rw [if_pos x2]
              cases h2 : readHuff src { r1 with at_ := r1.at_ + 3 } with
              | bad e q2 =>
                rw [h2] at hs
                simp only [Prod.mk.injEq, Cfg.done.injEq] at hs
                obtain ⟨⟨rfl, _⟩, _⟩ := hs
                have := readHuff_cp hm b1 (by rw [b2]; omega) h2
                cases hp : readHuff (src ++ m) { r1 with at_ := r1.at_ + 3 } with
                | bad e q => rw [hp] at this; exact this
                | ok nd r2 => rw [hp] at this; exact this
              | ok nd r2 =>
                obtain ⟨k, d⟩ := nd
                rw [h2] at hs
                simp at hs
            · simp at hs
end

/-- What ended at place p needs no more than p bytes. -/
theorem reach_take {src m : List UInt8} {x : Cfg × List UInt8} {e e2 : Err} {p p2 : Nat} {H1 H2 : List UInt8} (hm : m ≠ []) (h : Reach src x (.done e p, H1)) (hx : CfgOK src x.1) (k : Reach (src ++ m) x (.done e2 p2, H2)) (hp : p2 ≤ src.length) (he : e = .cut) : e2 = .cut := by
  generalize hy : (Cfg.done e p, H1) = y at h
  induction h with
  | refl c =>
    subst hy
    have := k.done
    simp only [Prod.mk.injEq, Cfg.done.injEq] at this
    exact this.1.1.trans he
  | @step c d hs ih =>
    obtain ⟨c1, H⟩ := c
    by_cases hd : c1.isDone = false
    · have ok1 := sstep_ok (H := H) hx hd
      rcases sstep_ext (m := m) (H := H) hx hd with hq | ⟨q, X, hq, Y, hY⟩
      · exact ih ok1.1 (by rw [← hq]; exact k.back (Reach.one _ _)) hy
      · have h1 := sstep_cp hm hx hd hq
        have h2 := reach_past (len_lt hm) (k.back (Reach.one _ _)) h1
        have h3 : src.length < p2 := h2
        omega
    · cases c1 with
      | next r => simp [Cfg.isDone] at hd
      | huff last r T D => simp [Cfg.isDone] at hd
      | done e' p' => exact ih hx (by exact k) hy

/-- Blocks that end at place P: what stands behind is no matter. -/
theorem infl_take {b m : List UInt8} {P : Nat} {X : List UInt8} (h : Infl b [] .eof P X) : Infl (b.take P ++ m) [] .eof P X := by
  have hP := h.le.1
  obtain ⟨e, p, Y, h1, h2, _⟩ := infl_ex (b.take P) []
  have key : Infl (b.take P) [] .eof P X := by
    by_cases hd : b.drop P = []
    · have : b.take P = b := by have := List.take_append_drop P b; rwa [hd, List.append_nil] at this
      rw [this]; exact h
    · have h' := h
      rw [← List.take_append_drop P b] at h'
      have hc : e ≠ .cut := fun hc => by
        have := reach_take hd h1 (start_ok _ _) h' (by rw [List.length_take]; omega) hc
        simp at this
      obtain ⟨q1, q2, q3⟩ := (infl_ahead h1 h').1 hc
      rw [← q1, ← q2, ← q3] at h1
      exact h1
  obtain ⟨e2, p2, Y2, k1, _, _⟩ := infl_ex (b.take P ++ m) []
  obtain ⟨q1, q2, q3⟩ := (infl_ahead key k1).1 (by simp)
  rw [q1, q2, q3] at k1
  exact k1

end Flate

/-
  PLAIN LEAN: what reading a stream of zlib gives, as one relation.
-/
namespace Go.Proofs.YthfncdfcklbigaaDoor
open Flate

/-- Behind this dictionary the stream is read as X; then reading ends with this fault (0: none), at this place. -/
def Unz (src D : List UInt8) (f p : Nat) (X : List UInt8) : Prop :=
  match zhead src D with
  | .inl (g, q) => f = g ∧ p = q ∧ X = []
  | .inr (q, D') => ∃ er P, Infl (src.drop q) D' er P X ∧
      (er = .eof ∧ (src.length < q + P + 4 ∧ f = 4 ∧ p = src.length ∨ q + P + 4 ≤ src.length ∧ p = q + P + 4 ∧ f = (if be4At src (q + P) = adler X then 0 else 3)) ∨
       er = .cut ∧ f = 4 ∧ p = q + P ∨ er = .corrupt ∧ f = 5 ∧ p = q + P)

/-- Four bytes of a number, the highest first. -/
def four (n : Nat) : List UInt8 := [UInt8.ofNat (n / 16777216), UInt8.ofNat (n / 65536), UInt8.ofNat (n / 256), UInt8.ofNat n]

theorem four_len (n : Nat) : (four n).length = 4 := rfl

theorem be4_four (n : Nat) (h : n < 4294967296) : be4 (UInt8.ofNat (n / 16777216)).toNat (UInt8.ofNat (n / 65536)).toNat (UInt8.ofNat (n / 256)).toNat (UInt8.ofNat n).toNat = n := by
  unfold be4
  simp only [UInt8.toNat_ofNat']
  omega

theorem getD_mid (A B : List UInt8) (j : Nat) : (A ++ B).getD (A.length + j) 0 = B.getD j 0 := by
  rw [List.getD_eq_getElem?_getD, List.getElem?_append_right (by omega), show A.length + j - A.length = j by omega, ← List.getD_eq_getElem?_getD]

theorem be4At_four (A B : List UInt8) (n : Nat) (h : n < 4294967296) : be4At (A ++ (four n ++ B)) A.length = n := by
  unfold be4At
  have e := fun j => getD_mid A (four n ++ B) j
  have e0 := e 0
  rw [Nat.add_zero] at e0
  rw [e0, e 1, e 2, e 3]
  exact be4_four n h

theorem zhead_no {a b : UInt8} {S D : List UInt8} (h : hdrOk a b = true) (hb : ¬ b.toNat / 32 % 2 = 1) : zhead (a :: b :: S) D = .inr (2, []) := by
  unfold zhead
  rw [if_neg (by simp), if_neg (by simp [h]), if_neg (by exact hb)]

theorem zhead_has {a b : UInt8} {S D : List UInt8} {n : Nat} (h : hdrOk a b = true) (hb : b.toNat / 32 % 2 = 1) (hn : n < 4294967296) : zhead (a :: b :: (four n ++ S)) D = if n = adler D then .inr (6, D) else .inl (2, 6) := by
  unfold zhead
  rw [if_neg (by simp), if_neg (by simp [h]), if_pos (by exact hb), if_neg (by simp [four_len])]
  have : be4At (a :: b :: (four n ++ S)) 2 = n := be4At_four [a, b] S n hn
  rw [this]

theorem unz_infl {src D D' : List UInt8} {q P : Nat} {X : List UInt8} (hh : zhead src D = .inr (q, D')) (hi : Infl (src.drop q) D' .eof P X) (hl : q + P + 4 ≤ src.length) (hs : be4At src (q + P) = adler X) : Unz src D 0 (q + P + 4) X := by
  unfold Unz
  rw [hh]
  exact ⟨.eof, P, hi, .inl ⟨rfl, .inr ⟨hl, rfl, by rw [if_pos hs]⟩⟩⟩

/-- A stream: its head, blocks, the checksum. -/
theorem unz_stream {A B D D' : List UInt8} {X m : List UInt8} (hh : zhead (A ++ (B ++ (four (adler X) ++ m))) D = .inr (A.length, D')) (hi : Infl (B ++ (four (adler X) ++ m)) D' .eof B.length X) :
    Unz (A ++ (B ++ (four (adler X) ++ m))) D 0 (A.length + B.length + 4) X := by
  refine unz_infl hh (by rw [List.drop_left]; exact hi) (by simp only [List.length_append, four_len]; omega) ?_
  have := be4At_four (A ++ B) m (adler X) (adler_lt X)
  rw [List.append_assoc, List.length_append] at this
  exact this

theorem Unz.unique {src D : List UInt8} {f f' p p' : Nat} {X X' : List UInt8} (h : Unz src D f p X) (k : Unz src D f' p' X') : f' = f ∧ p' = p ∧ X' = X := by
  unfold Unz at h k
  split at h
  · rename_i g q he
    rw [he] at k
    simp only at k
    exact ⟨k.1.trans h.1.symm, k.2.1.trans h.2.1.symm, k.2.2.trans h.2.2.symm⟩
  · rename_i q D' he
    rw [he] at k
    simp only at k
    obtain ⟨er, P, h1, h2⟩ := h
    obtain ⟨er', P', k1, k2⟩ := k
    obtain ⟨rfl, rfl, rfl⟩ := h1.unique k1
    refine ⟨?_, ?_, rfl⟩
    · rcases h2 with ⟨a1, a2⟩ | ⟨a1, a2, a3⟩ | ⟨a1, a2, a3⟩
      · subst a1
        rcases k2 with ⟨_, b2⟩ | ⟨b1, _⟩ | ⟨b1, _⟩
        · rcases a2 with ⟨c1, c2, c3⟩ | ⟨c1, c2, c3⟩
          · rcases b2 with ⟨d1, d2, d3⟩ | ⟨d1, d2, d3⟩
            · omega
            · omega
          · rcases b2 with ⟨d1, d2, d3⟩ | ⟨d1, d2, d3⟩
            · omega
            · rw [c3, d3]
        · simp at b1
        · simp at b1
      · subst a1
        rcases k2 with ⟨b1, _⟩ | ⟨_, b2, b3⟩ | ⟨b1, _⟩
        · simp at b1
        · omega
        · simp at b1
      · subst a1
        rcases k2 with ⟨b1, _⟩ | ⟨b1, _⟩ | ⟨_, b2, b3⟩
        · simp at b1
        · simp at b1
        · omega
    · rcases h2 with ⟨a1, a2⟩ | ⟨a1, a2, a3⟩ | ⟨a1, a2, a3⟩
      · subst a1
        rcases k2 with ⟨_, b2⟩ | ⟨b1, _⟩ | ⟨b1, _⟩
        · omega
        · simp at b1
        · simp at b1
      · subst a1
        rcases k2 with ⟨b1, _⟩ | ⟨_, b2, b3⟩ | ⟨b1, _⟩
        · simp at b1
        · omega
        · simp at b1
      · subst a1
        rcases k2 with ⟨b1, _⟩ | ⟨b1, _⟩ | ⟨_, b2, b3⟩
        · simp at b1
        · simp at b1
        · omega

/-- Blocks within a stream: faults. -/
theorem unz_wrapped_bad {blocks : List UInt8} {er : Err} {P : Nat} {X : List UInt8} (h : Infl blocks [] er P X) (he : er ≠ .eof) : Unz (0x78 :: 0x9c :: blocks) [] (match er with | .eof => 0 | .cut => 4 | .corrupt => 5) (2 + P) X := by
  unfold Unz
  rw [zhead_no (by decide) (by decide)]
  refine ⟨er, P, h, ?_⟩
  cases er with
  | eof => exact absurd rfl he
  | cut => exact .inr (.inl ⟨rfl, rfl, rfl⟩)
  | corrupt => exact .inr (.inr ⟨rfl, rfl, rfl⟩)

theorem unz_wrapped {blocks : List UInt8} {P : Nat} {X : List UInt8} (h : Infl blocks [] .eof P X) : Unz (0x78 :: 0x9c :: (blocks.take P ++ four (adler X))) [] 0 (2 + P + 4) X := by
  have hP := h.le.1
  have hl : (blocks.take P).length = P := by rw [List.length_take]; omega
  have := unz_stream (A := [0x78, 0x9c]) (B := blocks.take P) (D := []) (D' := []) (X := X) (m := []) (zhead_no (by decide) (by decide)) (by rw [hl]; exact infl_take h)
  rw [hl, List.append_nil] at this
  exact this

end Go.Proofs.YthfncdfcklbigaaDoor

/-
  THE WALK OF 'impl.Unpack': it gives what 'Unz' says.
-/
namespace Go.Proofs.YthfncdfcklbigaaDoor
open Go.RowKit Go.IntWalk Flate
set_option maxRecDepth 100000

/-- What 'Unpack' gives. -/
def UnzPost (w : World) (src D : List UInt8) (e : Ending) (w' : World) : Prop :=
  ∃ v f P X, Unz src D f P X ∧ e = .returned (.tuple #[v, .int .i64 (f : Int), .int .i64 ((src.length - P : Nat) : Int)]) ∧ Own w' w.heap.size v X ∧ Frm (fun _ _ => False) w w'

/-- How a stream ends, in numbers. -/
def UnzE (src' : List UInt8) (er : Err) (P : Nat) (X : List UInt8) (f pos : Nat) : Prop :=
  (er = .eof ∧ (src'.length < P + 4 ∧ f = 4 ∧ pos = src'.length ∨ P + 4 ≤ src'.length ∧ pos = P + 4 ∧ f = (if be4At src' P = adler X then 0 else 3))) ∨
  er = .cut ∧ f = 4 ∧ pos = P ∨ er = .corrupt ∧ f = 5 ∧ pos = P

theorem getD_drop' (src : List UInt8) (q j : Nat) : (src.drop q).getD j 0 = src.getD (q + j) 0 := by
  rw [List.getD_eq_getElem?_getD, List.getD_eq_getElem?_getD, List.getElem?_drop]

theorem be4At_drop (src : List UInt8) (q P : Nat) : be4At (src.drop q) P = be4At src (q + P) := by
  unfold be4At
  rw [getD_drop', getD_drop', getD_drop', getD_drop']
  simp only [Nat.add_assoc]

theorem unz_of {src D0 D : List UInt8} {q P f pos : Nat} {er : Err} {X : List UInt8} (hh : zhead src D0 = .inr (q, D)) (hq : q ≤ src.length) (hi : Infl (src.drop q) D er P X) (hE : UnzE (src.drop q) er P X f pos) : Unz src D0 f (q + pos) X := by
  unfold Unz
  rw [hh]
  refine ⟨er, P, hi, ?_⟩
  unfold UnzE at hE
  rw [be4At_drop, List.length_drop] at hE
  rcases hE with ⟨h1, ⟨h2, h3, h4⟩ | ⟨h2, h3, h4⟩⟩ | ⟨h1, h2, h3⟩ | ⟨h1, h2, h3⟩
  · exact .inl ⟨h1, .inl ⟨by omega, h3, by omega⟩⟩
  · exact .inl ⟨h1, .inr ⟨by omega, by omega, h4⟩⟩
  · exact .inr (.inl ⟨h1, h2, by omega⟩)
  · exact .inr (.inr ⟨h1, h2, by omega⟩)

theorem zend_cases {p : Ps} {C : Nat} {src' : List UInt8} {er : Err} {P : Nat} {X : List UInt8} {v : Value} {pos : Nat} {w : World} (he : Env w C p) (hE : ZEnd p src' er P X v pos) :
    v = errAt p.E ∧ UnzE src' er P X 0 pos ∨ ∃ f : Nat, (binOp .eql 62 v (errAt p.E)).run Tryd.prog w = .ok (.bool false) w ∧ Calls Tryd.prog 37 #[v] w (fun e w' => e = .returned (.int .i64 (f : Int)) ∧ w = w') ∧ ((∃ q, v = errAt q) ∨ ∃ x : Nat, v = corruptAt x) ∧ UnzE src' er P X f pos := by
  have hn := he.nodup
  rcases hE with ⟨rfl, ⟨h2, rfl, h4⟩ | ⟨h2, h3, ⟨h4, rfl⟩ | ⟨h4, rfl⟩⟩⟩ | ⟨rfl, rfl, h3⟩ | ⟨rfl, ⟨x, rfl⟩, h3⟩
  · exact .inr ⟨4, eql_other he (by simp [Ps.all]) (by simp [Ps.all]) (by intro e; simp [Ps.all, e] at hn), faultOf_unx w he, .inl ⟨_, rfl⟩, .inl ⟨rfl, .inl ⟨h2, rfl, h4⟩⟩⟩
  · exact .inl ⟨rfl, .inl ⟨rfl, .inr ⟨h2, h3, by rw [if_pos h4]⟩⟩⟩
  · exact .inr ⟨3, eql_other he (by simp [Ps.all]) (by simp [Ps.all]) (by intro e; simp [Ps.all, e] at hn), faultOf_sum w he, .inl ⟨_, rfl⟩, .inl ⟨rfl, .inr ⟨h2, h3, by rw [if_neg h4]⟩⟩⟩
  · exact .inr ⟨4, eql_other he (by simp [Ps.all]) (by simp [Ps.all]) (by intro e; simp [Ps.all, e] at hn), faultOf_unx w he, .inl ⟨_, rfl⟩, .inr (.inl ⟨rfl, rfl, h3⟩)⟩
  · obtain ⟨ms, hi⟩ := underlyingError
    exact .inr ⟨5, run_eql_iface_types (P := Tryd.prog) 125 197 (.int .i64 (x : Int)) (.pointer (some p.E)) hi (by decide) w, faultOf_corrupt w he x, .inr ⟨x, rfl⟩, .inr (.inr ⟨rfl, rfl, h3⟩)⟩

theorem zhead_faults {src D : List UInt8} {f q : Nat} (h : zhead src D = .inl (f, q)) : f = 4 ∨ f = 1 ∨ f = 2 := by
  unfold zhead at h
  split at h
  · injection h with h; injection h; omega
  · split at h
    · injection h with h; injection h; omega
    · split at h
      · split at h
        · injection h with h; injection h; omega
        · split at h
          · simp at h
          · injection h with h; injection h; omega
      · simp at h

theorem zerr_fault {p : Ps} {C : Nat} {w : World} (he : Env w C p) {f : Nat} (hf : f = 4 ∨ f = 1 ∨ f = 2) : ∃ q, zerr p f = errAt q ∧ Calls Tryd.prog 37 #[errAt q] w (fun e w' => e = .returned (.int .i64 (f : Int)) ∧ w = w') := by
  rcases hf with rfl | rfl | rfl
  · exact ⟨_, rfl, faultOf_unx w he⟩
  · exact ⟨_, rfl, faultOf_hdr w he⟩
  · exact ⟨_, rfl, faultOf_dic w he⟩

/-- A reader of streams was made, or the head was refused. -/
def ZGot (w : World) (C : Nat) (p : Ps) (base : Option Addr) (src D0 : List UInt8) (sv r err : Value) (wq : World) : Prop :=
  ∃ R, sv = .pointer (some ⟨R, 0, none⟩) ∧ w.heap.size ≤ R ∧ Frm (fun _ _ => False) w wq ∧ Env wq C p ∧
    ((∃ f q, zhead src D0 = .inl (f, q) ∧ r = .nilIface ∧ err = zerr p f ∧ Src wq R base src q) ∨
     ∃ Z q D F d A s, zhead src D0 = .inr (q, D) ∧ r = zrV Z ∧ err = .nilIface ∧ w.heap.size ≤ Z ∧ q ≤ src.length ∧ Hid (RS F C p d (.next ⟨0, 0⟩, tail32 D) (tail32 D).length wq d (tail32 D) 0 (.next ⟨0, 0⟩, tail32 D)) ∧ d.R = R ∧ d.base = base ∧ d.src = src.drop q ∧
       ZR wq Z (rdrZ R) (decV F) (digV A) .nilIface s ∧ Dig wq A [] ∧ ¬ MD F d Z ∧ ¬ MD F d A ∧ A ≠ Z ∧ w.heap.size ≤ A ∧ ∀ b, MD F d b → w.heap.size ≤ b)

theorem zgot_of {w w1 w2 : World} {C : Nat} {p : Ps} {R : Nat} {base : Option Addr} {src D0 : List UInt8} {r err : Value} (hR : w.heap.size ≤ R) (hC : C ≤ w.heap.size) (hf : Frm (fun _ _ => False) w w1) (he : Env w1 C p) (h : ZNew w1 C p R base src D0 (.returned (.tuple #[r, err])) w2) : ZGot w C p base src D0 (.pointer (some ⟨R, 0, none⟩)) r err w2 := by
  have key : Frm (fun b _ => b = R) w1 w2 → Frm (fun _ _ => False) w w2 ∧ Env w2 C p := fun hs => ⟨hf.trans' hs (fun x o hx q => by omega), he.keep hs (fun b o e => by omega)⟩
  rcases h with ⟨f, q, h1, h2, h3, h4⟩ | ⟨Z, q, D, F, d, A, s, h1, h2, h3, h4, h5, h6, h7, h8, h9, h10, h11, h12, h13, h14, h15, h16, h17⟩
  · injection h2 with h2; injection h2 with h2; simp at h2
    exact ⟨R, rfl, hR, (key h4).1, (key h4).2, .inl ⟨f, q, h1, h2.1, h2.2, h3⟩⟩
  · injection h2 with h2; injection h2 with h2; simp at h2
    exact ⟨R, rfl, hR, (key h16).1, (key h16).2, .inr ⟨Z, q, D, F, d, A, s, h1, h2.1, h2.2, Nat.le_trans hf.size h3, h4, h5, h6, h7, h8, h9, h10, h11, h12, h13, Nat.le_trans hf.size h14, fun b hb => (h17 b hb).elim (fun e => by omega) (fun e => Nat.le_trans hf.size e)⟩⟩

theorem zlib_closeM (n : Nat) (a : Addr) (w : World) : (method (n + 1) 137 (.pointer (some a)) "Close").run Tryd.prog w = .ok (133, .pointer (some a)) w := by kernel_rfl
theorem zlib_closeE (args : Array Value) (w : World) : (callFunc 133 args).run Tryd.prog w = .ok (.enter 133 args) w := by kernel_rfl

set_option maxHeartbeats 4000000 in
theorem unpack_long (w : World) (C : Nat) (p : Ps) (he : Env w C p) (base : Option Addr) (src : List UInt8) (cap : Nat) (hs : Bt w base src cap) (hsl : src.length ≤ 1099511627776) (dbase : Option Addr) (dict : List UInt8) (dcap : Nat) (hd : Bt w dbase dict dcap) (hdl : dict.length ≤ 4294967296) (has : Bool) (hxl : ∀ q D er P X, zhead src (if has then dict else []) = .inr (q, D) → Infl (src.drop q) D er P X → X.length ≤ 52776558133248)
    (sb : Option Addr) (sn sc : Nat) (hsz : Sizes w w.heap.size (fun _ => False) (.slice sb sn sc)) :
    Calls Tryd.prog 23 #[.slice base src.length cap, .slice dbase dict.length dcap, .bool has, .slice sb sn sc] w (UnzPost w src (if has then dict else [])) := by
  have HE := Lib.hid he
  have HS := Lib.hid hs
  have HD := Lib.hid hd
  have HL := Lib.hid (And.intro hsl hdl)
  have HZ := Lib.hid hsz
  clear he hs hd hsl hdl hsz
  obtain ⟨DD, hDD⟩ : ∃ DD, DD = if has then dict else [] := ⟨_, rfl⟩
  rw [← hDD] at hxl ⊢
  have HXL := Lib.hid hxl
  clear hxl
  have HDD := Lib.hid hDD
  clear hDD
  obtain ⟨n1, hn1⟩ : ∃ n1, n1 = src.length := ⟨_, rfl⟩
  obtain ⟨n2, hn2⟩ : ∃ n2, n2 = dict.length := ⟨_, rfl⟩
  rw [← hn1, ← hn2]
  have HN := Lib.hid (And.intro hn1 hn2)
  clear hn1 hn2
  go_enter Tryd.func23, Tryd.ntmps23
  go_wp2_with fail
  refine (bytesNewReader_any _ _ _ _).mono ?_
  rintro e w1 ⟨rfl, hw1⟩
  obtain ⟨R, hR⟩ : ∃ R, R = w.heap.size := ⟨_, rfl⟩
  rw [← hR]
  have hsrc : Src w1 R base src 0 := by
    rw [← hw1, hR, HN.out.1]
    exact newSrc HS.out.bytes HS.out.hcap (by have := HL.out.1; omega) HS.out.lt
  have hf1 : Frm (fun _ _ => False) w w1 := by rw [← hw1]; exact (Frm.refl _ _).alloc _
  have he1 : Env w1 C p := HE.out.keep hf1 (fun _ _ e => e.elim)
  have H1 := Lib.hid (And.intro hf1 (And.intro he1 (And.intro hR.symm HE.out.le)))
  have HNR := Lib.hid (newReaderZ_any w1 C p he1 R base src (by rw [hR]; exact HE.out.le) hsrc (fun a ha => Nat.lt_of_lt_of_le (HS.out.lt a ha) hf1.size))
  clear hw1 hsrc hf1 he1 hR
  go_upto_region 2 with (fail)
  go_cut [12, 13] (fun r err wq => ZGot w C p base src [] (.pointer (some ⟨R, 0, none⟩)) r err wq)
  case first =>
    go_wp2_with fail
    refine HNR.out.mono ?_
    intro e w2 hpost
    have HP := Lib.hid hpost
    rcases hpost with ⟨f, q, _, rfl, _⟩ | ⟨Z, q, D, F, d, A, s, _, rfl, _⟩
    · go_wp2_with fail
      go_meet
      case rel => exact zgot_of (Nat.le_of_eq H1.out.2.2.1) H1.out.2.2.2 H1.out.1 H1.out.2.1 HP.out
    · go_wp2_with fail
      go_meet
      case rel => exact zgot_of (Nat.le_of_eq H1.out.2.2.1) H1.out.2.2.2 H1.out.1 H1.out.2.1 HP.out
  case rest =>
  have HG := Lib.hid hcut
  obtain ⟨w2, rfl⟩ : ∃ x, x = wc := ⟨_, rfl⟩
  clear hcut HNR
  apply_assumption
  go_upto_if 22 with (fail)
  go_cut [11, 12, 13] (fun sv r err wq => ZGot w C p base src DD sv r err wq)
  case first =>
    cases has with
    | false =>
      go_wp2_with fail
      go_meet
      case rel =>
        have hD0 : DD = [] := HDD.out
        rw [hD0]
        exact HG.out
    | true =>
      go_wp2_with fail
      refine (bytesNewReader_any _ _ _ _).mono ?_
      rintro e w3 ⟨rfl, hw3⟩
      obtain ⟨R3, hR3⟩ : ∃ R3, R3 = w2.heap.size := ⟨_, rfl⟩
      rw [← hR3]
      have hF2 : Frm (fun _ _ => False) w w2 := by obtain ⟨_, _, _, h, _⟩ := HG.out; exact h
      have he2 : Env w2 C p := by obtain ⟨_, _, _, _, h, _⟩ := HG.out; exact h
      have hsrc : Src w3 R3 base src 0 := by
        rw [← hw3, hR3, HN.out.1]
        exact newSrc (HS.out.keep hF2).bytes HS.out.hcap (by have := HL.out.1; omega) (HS.out.keep hF2).lt
      have hf3 : Frm (fun _ _ => False) w2 w3 := by rw [← hw3]; exact (Frm.refl _ _).alloc _
      have he3 : Env w3 C p := he2.keep hf3 (fun _ _ e => e.elim)
      have hf03 := hF2.trans hf3
      have hR3' : w.heap.size ≤ R3 := by rw [hR3]; exact hF2.size
      have hnd := newReaderDictZ_any w3 C p he3 R3 base src (Nat.le_trans HE.out.le hR3') hsrc (fun a ha => Nat.lt_of_lt_of_le (HS.out.lt a ha) hf03.size) dbase dict dcap (HD.out.keep hf03).bytes HD.out.hcap HL.out.2 (fun a ha => by have := HD.out.lt a ha; omega) (fun a ha => Nat.lt_of_lt_of_le (HD.out.lt a ha) hf03.size)
      rw [← HN.out.2] at hnd
      have HND := Lib.hid hnd
      have H3 := Lib.hid (And.intro hf03 (And.intro he3 hR3'))
      clear hw3 hR3 hF2 he2 hsrc hf3 he3 hf03 hR3' hnd
      go_wp2_with fail
      refine HND.out.mono ?_
      intro e w4 hpost
      have HP := Lib.hid hpost
      have hD0 : DD = dict := HDD.out
      have HD0 := Lib.hid hD0
      rcases hpost with ⟨f, q, _, rfl, _⟩ | ⟨Z, q, D, F, d, A, s, _, rfl, _⟩
      · clear hD0
        go_wp2_with fail
        go_meet
        case rel => rw [HD0.out]; exact zgot_of H3.out.2.2 HE.out.le H3.out.1 H3.out.2.1 HP.out
      · clear hD0
        go_wp2_with fail
        go_meet
        case rel => rw [HD0.out]; exact zgot_of H3.out.2.2 HE.out.le H3.out.1 H3.out.2.1 HP.out
  case rest =>
  clear HG
  obtain ⟨R4, rfl, hR4, hf4, he4, hgot⟩ := hcut
  obtain ⟨w5, rfl⟩ : ∃ x, x = wc := ⟨_, rfl⟩
  have H4 := Lib.hid (And.intro hR4 (And.intro hf4 he4))
  clear hR4 hf4 he4
  rcases hgot with ⟨f, q, hh, rfl, rfl, hsq⟩ | ⟨Z, q, D, F, d, A, s, hh, rfl, rfl, hrest⟩
  · obtain ⟨x, hx, hfo⟩ := zerr_fault H4.out.2.2 (zhead_faults hh)
    rw [hx]
    have HFO := Lib.hid hfo
    have HQ := Lib.hid (And.intro hh hsq)
    clear hx hfo hh hsq
    apply_assumption
    go_wp2_with fail
    refine HFO.out.mono ?_
    rintro e w6 ⟨rfl, rfl⟩
    go_wp2_with fail
    refine (len_any _ R4 base src q HQ.out.2).mono ?_
    rintro e w7 ⟨rfl, nq2, rfl⟩
    go_wp2_with fail
    go_ret3
    exact ⟨_, f, q, [], by unfold Unz; rw [HQ.out.1]; exact ⟨rfl, rfl, rfl⟩, rfl, Row.nil _ _ _ _ _, H4.out.2.1.drewN _⟩
  · obtain ⟨hZ, hq, hRS, hdR, hdb, hds, hz, hdig, hmZ, hmA, hAZ, hA, hM⟩ := hrest
    obtain ⟨er, P, X, hinf, hP, hX⟩ := infl_ex (src.drop q) D
    have hbl : ∀ a, d.base = some a → a.block < w.heap.size := fun a ha => by rw [hdb] at ha; exact HS.out.lt a ha
    have hCw := HE.out.le
    have hRw := H4.out.1
    have hlow := hRS.out.low (fun a ha => Nat.lt_of_lt_of_le (hbl a ha) H4.out.2.1.size)
    have hsl := HL.out.1
    have htl : (tail32 D).length ≤ 32768 := by unfold tail32; rw [List.length_drop]; omega
    have hfix : ZFix Z A F C w5.heap.size (tail32 D).length p d (.next ⟨0, 0⟩, tail32 D) er P (tail32 D ++ X) :=
      { fin := by rw [hds]; exact hinf
        x0 := start_ok _ (tail32 D)
        low := hlow
        cN := Nat.le_trans hCw H4.out.2.1.size
        zN := cell_lt hz.r
        aN := cell_lt hdig.c
        cZ := Nat.le_trans hCw hZ
        cA := Nat.le_trans hCw hA
        aZ := hAZ
        mdZ := hmZ
        mdA := hmA
        bZ := fun a ha => by have := hbl a ha; omega
        bA := fun a ha => by have := hbl a ha; omega
        k0 := by rw [List.length_append]; omega
        few := by rw [List.length_append]; have := HXL.out _ _ _ _ _ hh hinf; omega }
    have hI : IZ Z A F C (tail32 D).length p d (.next ⟨0, 0⟩, tail32 D) (tail32 D ++ X) (tail32 D).length w5 :=
      ⟨Lib.hid ⟨d, _, _, _, hRS.out⟩, H4.out.2.2, ⟨s, by rw [hdR]; exact hz⟩, by rw [Nat.sub_self, List.take_zero]; exact hdig, Nat.le_refl _, hfix.k0⟩
    have hMw : ∀ b, (MD F d b ∨ b = Z ∨ b = A) → w.heap.size ≤ b := fun b hb => by
      rcases hb with h | h | h
      · exact hM b h
      · omega
      · omega
    have hsz : Sizes w5 w5.heap.size (fun b => MD F d b ∨ b = Z ∨ b = A) (.slice sb sn sc) := by
      rcases HZ.out with h | ⟨SB, so, ln, cap', h1, h2, h3, h4, h5, h6⟩
      · exact .inl h
      · exact .inr ⟨SB, so, ln, cap', h1, h2, h3, Nat.lt_of_lt_of_le h4 H4.out.2.1.size, fun e => by have := hMw _ e; omega, fun j hj => by obtain ⟨u, u1, u2, u3⟩ := h6 j hj; exact ⟨u, u1, u2, H4.out.2.1.keep u3 (fun e => e)⟩⟩
    have hdr := drainL_any w5 137 134 Z _ (tail32 D ++ X) _ _ (zlib_reader hfix) (tail32 D).length hfix.k0 hI hfix.few sb sn sc hsz
    have HDR := Lib.hid hdr
    have hRZ : R4 ≠ Z := fun e => hmZ (.inr (.inl (by rw [hdR]; exact e.symm)))
    have HX := Lib.hid (And.intro hinf (And.intro hh (And.intro hq (And.intro hds (And.intro hdR (And.intro hdb (And.intro hMw (And.intro hfix.cZ (And.intro hRZ hfix.zN)))))))))
    clear hZ hq hRS hdR hdb hds hz hdig hmZ hmA hAZ hA hM hinf hP hX hbl hCw hRw hlow hsl htl hfix hI hMw hsz hdr hh hRZ
    apply_assumption
    go_wp2_with fail
    refine HDR.out.mono ?_
    rintro e w6 ⟨v, errv, rfl, hown, hJ, hkind, hf6⟩
    have HJ := Lib.hid hJ
    obtain ⟨henv, d6, s6, hD6, hsm6, hz6, hE, _⟩ := hJ
    obtain ⟨hinf, hh, hq, hds, hdR, hdb, hMw, hCZ, hRZ, hZN⟩ := HX.out
    have hsrc : Src w6 R4 base (src.drop q) d6.pos := by
      have := hD6.so
      rw [hsm6.R, hsm6.base, hsm6.src, hdR, hdb, hds] at this
      exact this
    have hf06 : Frm (fun _ _ => False) w w6 := H4.out.2.1.trans' hf6 (fun x o hx e => by have := hMw x e; omega)
    have hown' : Own w6 w.heap.size v X := by
      have := hown
      rw [List.drop_left] at this
      exact this.lower H4.out.2.1.size
    rw [hds, List.drop_left] at hE
    have hlq : (src.drop q).length - d6.pos = src.length - (q + d6.pos) := by rw [List.length_drop]; omega
    have g0 := henv.eof
    have HEND := Lib.hid (And.intro hsrc (And.intro hf06 (And.intro hown' hlq)))
    rcases zend_cases henv hE with ⟨rfl, hue⟩ | ⟨f, hq2, hfo, hk2, hue⟩
    · have hunz := unz_of hh hq hinf hue
      have HU := Lib.hid hunz
      have hq3 := fun w => eql_same p.E w
      have HCL := Lib.hid (zclose_any w6 HJ.out hCZ)
      have hZsrc : R4 ≠ Z ∧ ∀ a, base = some a → a.block ≠ Z := by
        have hz' := hMw Z (.inr (.inl rfl))
        exact ⟨hRZ, fun a ha => by have := HS.out.lt a ha; omega⟩
      have HOW := Lib.hid (And.intro hown (And.intro hZN (hMw Z (.inr (.inl rfl)))))
      have hm := zlib_closeM
      have hen := zlib_closeE
      clear hown hE hsm6 hD6 hz6 henv hinf hh hq hds hdR hdb hMw hCZ hRZ hZN hsrc hf06 hown' hlq hue hunz hf6 hkind
      go_wp2_with fail
      refine HCL.out.mono ?_
      rintro e w7 ⟨rfl, hf7⟩
      have HF7 := Lib.hid hf7
      clear hf7
      go_wp2_with fail
      refine (faultOf_nil _).mono ?_
      rintro e w8 ⟨rfl, rfl⟩
      go_wp2_with fail
      refine (len_any _ R4 base (src.drop q) d6.pos (HEND.out.1.keep HF7.out (fun o e => hZsrc.1 e) (fun a ha j _ e => hZsrc.2 a ha e))).mono ?_
      rintro e w9 ⟨rfl, nq2, rfl⟩
      go_wp2_with fail
      go_ret3
      obtain ⟨ho1, ho2, ho3⟩ := HOW.out
      rw [List.drop_left] at ho1
      exact ⟨v, 0, q + d6.pos, X, HU.out, congrArg (fun m : Nat => Ending.returned (.tuple #[v, .int .i64 ((0 : Nat) : Int), .int .i64 (m : Int)])) (Nat.sub_sub _ _ _), ((ho1.keep HF7.out (fun g o hg e => by have := (ho1.lt g hg).1; omega)).lower H4.out.2.1.size).drewN _, (HEND.out.2.1.trans' HF7.out (fun x o hx e => by omega)).drewN _⟩
    · have hunz := unz_of hh hq hinf hue
      have HU := Lib.hid hunz
      have HFO := Lib.hid hfo
      clear hown hE hsm6 hD6 hz6 henv hinf hh hq hds hdR hdb hMw hCZ hRZ hZN hsrc hf06 hown' hlq hue hunz hf6 hkind hfo
      rcases hk2 with ⟨x, rfl⟩ | ⟨x, rfl⟩
      all_goals
        go_wp2_with fail
        refine HFO.out.mono ?_
        rintro e w7 ⟨rfl, rfl⟩
        go_wp2_with fail
        refine (len_any _ R4 base (src.drop q) d6.pos HEND.out.1).mono ?_
        rintro e w9 ⟨rfl, nq2, rfl⟩
        go_wp2_with fail
        go_ret3
        exact ⟨v, f, q + d6.pos, X, HU.out, congrArg (fun m : Nat => Ending.returned (.tuple #[v, .int .i64 (f : Int), .int .i64 (m : Int)])) (Nat.sub_sub _ _ _), HEND.out.2.2.1.drewN _, HEND.out.2.1.drewN _⟩

theorem unpack_any (w : World) (C : Nat) (p : Ps) (he : Env w C p) (base : Option Addr) (src : List UInt8) (cap : Nat) (hs : Bt w base src cap) (hsl : src.length ≤ 17179869184) (dbase : Option Addr) (dict : List UInt8) (dcap : Nat) (hd : Bt w dbase dict dcap) (hdl : dict.length ≤ 4294967296) (has : Bool)
    (sb : Option Addr) (sn sc : Nat) (hsz : Sizes w w.heap.size (fun _ => False) (.slice sb sn sc)) :
    Calls Tryd.prog 23 #[.slice base src.length cap, .slice dbase dict.length dcap, .bool has, .slice sb sn sc] w (UnzPost w src (if has then dict else [])) :=
  unpack_long w C p he base src cap hs (by omega) dbase dict dcap hd hdl has (fun q D er P X _ h => by have := h.le.2; rw [List.length_drop] at this; omega) sb sn sc hsz

end Go.Proofs.YthfncdfcklbigaaDoor

/-
  'laws.reads', walked.
-/
namespace Go.Proofs.YthfncdfcklbigaaDoor
open Go.RowKit Flate
set_option maxRecDepth 100000

/-- A stream that is read as the data, to its last byte. -/
theorem reads_long (w : World) (C : Nat) (p : Ps) (he : Env w C p) (base : Option Addr) (src : List UInt8) (cap : Nat) (hs : Bt w base src cap) (hsl : src.length ≤ 1099511627776) (dbase : Option Addr) (dict : List UInt8) (dcap : Nat) (hd : Bt w dbase dict dcap) (hdl : dict.length ≤ 4294967296) (has : Bool) (hxl : ∀ q D er P X, zhead src (if has then dict else []) = .inr (q, D) → Infl (src.drop q) D er P X → X.length ≤ 52776558133248)
    (wb : Option Addr) (want : List UInt8) (wc : Nat) (hw : Bt w wb want wc) (hinf : Unz src (if has then dict else []) 0 src.length want) (hne : 0 < src.length) :
    Calls Tryd.prog 25 #[.slice base src.length cap, .slice dbase dict.length dcap, .bool has, .slice wb want.length wc] w fun e w' => e = .returned (.bool true) ∧ Frm (fun _ _ => False) w w' := by
  have HI := Lib.hid (unpack_long w C p he base src cap hs hsl dbase dict dcap hd hdl has hxl none 0 0 (nilSizes _ _ _))
  have HW := Lib.hid hw
  have HF := Lib.hid hinf
  clear he hs hsl hd hdl hw hinf hxl
  obtain ⟨n1, hn1⟩ : ∃ n1, n1 = src.length := ⟨_, rfl⟩
  obtain ⟨n2, hn2⟩ : ∃ n2, n2 = dict.length := ⟨_, rfl⟩
  obtain ⟨n3, hn3⟩ : ∃ n3, n3 = want.length := ⟨_, rfl⟩
  rw [← hn1] at hne
  rw [← hn1, ← hn2] at HI ⊢
  rw [← hn3]
  have HN := Lib.hid (And.intro hn1 (And.intro hn2 hn3))
  clear hn1 hn2 hn3
  go_enter Tryd.func25, Tryd.ntmps25
  go_wp2_with fail
  refine HI.out.mono ?_
  rintro e w1 ⟨v, f, P, X, hX, rfl, hown, hf⟩
  obtain ⟨rfl, rfl, rfl⟩ := HF.out.unique hX
  obtain ⟨b, cap', rfl, hbt⟩ := hown.bt
  have hsame := same_any w1 b wb X X cap' wc hbt.bytes (HW.out.keep hf).bytes
  rw [← HN.out.2.2, sameB_refl] at hsame
  rw [← HN.out.2.2]
  have e0 : src.length - src.length = 0 := Nat.sub_self _
  rw [e0]
  have HS := Lib.hid hsame
  have HF1 := Lib.hid hf
  clear hX hown hbt hsame hf e0
  go_wp2_with fail
  refine HS.out.mono ?_
  rintro e w2 ⟨rfl, rfl⟩
  go_wp2_with fail
  go_ret
  exact ⟨rfl, HF1.out⟩

end Go.Proofs.YthfncdfcklbigaaDoor
