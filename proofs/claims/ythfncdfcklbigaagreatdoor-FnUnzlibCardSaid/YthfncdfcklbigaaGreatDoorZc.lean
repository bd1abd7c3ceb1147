/-
  Several texts in one: Drl Zrd Znr Unz Unp Rds UnzL Zpl Lit.
-/
import Derived.Test.YthfncdfcklbigaaGreatDoorPd
import Derived.Test.YthfncdfcklbigaaGreatDoorZb
import Derived.Test.YthfncdfcklbigaaGreatDoorPc
import Derived.Test.YthfncdfcklbigaaGreatDoorPa
import Derived.Test.YthfncdfcklbigaaGreatDoorWa
set_option linter.unusedVariables false
set_option linter.unusedSimpArgs false
namespace Go.Proofs.YthfncdfcklbigaaGreatDoor
open Go.RowKit Go.IntWalk Flate
set_option maxRecDepth 100000
structure ReaderL (T fn F N0 : Nat) (M : Nat → Prop) (FH : List UInt8) (I : Nat → World → Prop) (J : Value → World → Prop) : Prop where
 meth : ∀ (n : Nat) (a : Addr) (w : World), (method (n + 1) T (.pointer (some a)) "Read").run Tryz.prog w = .ok (fn, .pointer (some a)) w
 enter : ∀ (args : Array Value) (w : World), (callFunc fn args).run Tryz.prog w = .ok (.enter fn args) w
 low : ∀ b, M b → b < N0
 read : ∀ (k : Nat) (w : World) (BX L : Nat), I k w → NewBuf w N0 BX L → 1 ≤ L → L ≤ 1048576 → Calls Tryz.prog fn #[.pointer (some ⟨F, 0, none⟩), .slice (some ⟨BX, 0, none⟩) L L] w (RdPost M FH I J k BX L w)
 keep : ∀ (k : Nat) (w w' : World), I k w → Frm (fun b _ => N0 ≤ b ∧ ByteBlock w b) w w' → I k w'
 keepJ : ∀ (v : Value) (w w' : World), J v w → Frm (fun b _ => N0 ≤ b ∧ ByteBlock w b) w w' → J v w'
set_option maxHeartbeats 4000000 in
theorem drainL_any (w : World) (T fn F : Nat) (M : Nat → Prop) (FH : List UInt8) (I : Nat → World → Prop) (J : Value → World → Prop) (hR : ReaderL T fn F w.heap.size M FH I J) (k0 : Nat) (hk0 : k0 ≤ FH.length) (hI : I k0 w) (hlen : FH.length ≤ 70368744177664)
 (sb : Option Addr) (sn sc : Nat) (hsz : Sizes w w.heap.size M (.slice sb sn sc)) : Calls Tryz.prog 30 #[.iface T (.pointer (some ⟨F, 0, none⟩)), .slice sb sn sc] w (Drained w.heap.size M FH k0 J w) := by
 have HR := zHi hR
 have HI := zHi hI
 have HSZ := zHi hsz
 have HK := zHi (zAi hk0 hlen)
 obtain ⟨N0, hN0⟩ : ∃ N0, N0 = w.heap.size := ⟨_, rfl⟩
 have HN0 := zHi hN0
 rw [← hN0] at HR HSZ ⊢
 have hmeth := HR.out.meth
 have henter := HR.out.enter
 clear hR hI hsz hk0 hlen hN0
 go_enter Tryz.func30, Tryz.ntmps30
 go_wp2_with fail
 go_loopg [6, 7] (FH.length + 1 - k0) (fun gk out i wr => DrInv N0 M FH k0 I w gk out i wr)
 case atStart => exact ⟨k0, 0, Nat.le_refl _, HK.out.1, Nat.zero_le _, rfl, rfl, by rw [Nat.sub_self, List.take_zero]; exact Row.nil _ _ _ _ _, HI.out, Frm.refl _ _⟩
 case round =>
  obtain ⟨k, n, hk, hkl, hn, hgk, rfl, hown, hIk, hF⟩ := hrel; have hlen := HK.out.2; have b1 : (n : Int) ≤ 70368744177664 := by omega
  have HO := zHi (zAi hk (zAi hkl (zAi hn (zAi hgk (zAi hown (zAi hIk hF)))))); clear hk hkl hn hgk hown hIk hF HI hlen; have hz : Sizes wr N0 M (.slice sb sn sc) := by
   rcases HSZ.out with h | ⟨SB, so, ln, cap, h1, h2, h3, h4, h5, h6⟩
   · exact .inl h
   · exact .inr ⟨SB, so, ln, cap, h1, h2, h3, h4, h5, fun j hj => by obtain ⟨u, u1, u2, u3⟩ := h6 j hj; exact ⟨u, u1, u2, HO.out.2.2.2.2.2.2.keep u3 h5⟩⟩
  go_upto_if 16 with (fail)
  go_cut [8] (fun nn wq => ∃ L : Nat, nn = .int .i64 (L : Int) ∧ 1 ≤ L ∧ L ≤ 1000 ∧ wr = wq)
  case first =>
   rcases hz with ⟨zb, zc, hz⟩ | ⟨SB, so, ln, cap, hz, hz1, hz2, hz3, hz4, hz5⟩
   · injection hz with z1 z2 z3; subst z1 z2 z3; go_wp2_with fail
     go_meet
     case rel => exact ⟨512, rfl, by omega, by omega, rfl⟩
   · injection hz with z1 z2 z3; subst z1 z2 z3; obtain ⟨q, hq⟩ : ∃ q, q = n % sn := ⟨_, rfl⟩; have hql : q < sn := by rw [hq]; exact Nat.mod_lt _ (by omega)
     obtain ⟨u, u1, u2, hu⟩ := hz5 q hql; have e1 : (n : Int) % (sn : Int) = (q : Int) := by rw [hq]; omega
     have c1 : (1 : Int) ≤ (sn : Int) := by omega
     have c2 : (sn : Int) ≤ 2147483647 := by omega
     have c3 : 0 < sn := by omega
     have HU := zHi (zAi u1 u2); clear hq hz1 hz2 hz3 hz4 hz5 u1 u2; go_wp2_with fail
     go_meet
     case rel => exact ⟨u, rfl, HU.out.1, HU.out.2, rfl⟩
  case rest =>
  obtain ⟨L, rfl, hL1, hL2, rfl⟩ := hcut; obtain ⟨hk, hkl, hn, hgk, hown, hIk, hF⟩ := HO.out; have hlen := HK.out.2; clear hz HO; go_upto_region 7 with (fail)
  refine wp_region_lit ?_; refine wpList_run (by rfl) (by rfl) ?_
  refine wpList_bytes (by rfl) _ _ (by rfl) .i64 .i64 L (by rfl) (by rfl) (by omega) ?_
  intro w2 hw2; obtain ⟨BX, hBX⟩ : ∃ BX, BX = wr.heap.size := ⟨_, rfl⟩; rw [← hBX]; have hN : N0 ≤ BX := by rw [hBX, HN0.out]; exact hF.size
  have hf2 : Frm (fun _ _ => False) wr w2 := by rw [hw2]; exact (Frm.refl _ _).alloc _
  have hcb : ∀ j, w2.cell? ⟨BX, j, none⟩ = (madeCells #[.int .u8 0] L)[j]? := fun j => by rw [hw2, hBX]; exact cells_at (heap_alloc_new wr _)
  have hNB : NewBuf w2 N0 BX L := by
   refine ⟨hN, fun j hj => ⟨0, by rw [hw2, hBX]; exact new_row _ _ _ _ _ hj⟩, fun o v hv => ?_, fun j => by rw [hw2, hBX, World.frozen?_alloc_new]⟩
   rw [hcb] at hv; have hj : o < L := by have := (Array.getElem?_eq_some_iff.1 hv).1; rw [size_madeCells] at this; exact this
   have := new_row wr (.int .u8 0) 5 L o hj; rw [← hcb, hw2, hBX, this] at hv; exact ⟨0, (Option.some.inj hv).symm⟩
  have hI2 : I k w2 := HR.out.keep k wr w2 hIk (hf2.mono fun b o e => e.elim)
  have hown2 : Own w2 N0 u6 ((FH.drop k0).take (k - k0)) := hown.keep hf2 (fun g o _ e => e)
  have hgB : ∀ g, u6.ownBlock = some g → N0 ≤ g ∧ g < BX := fun g hg => by rw [hBX]; exact hown.lt g hg
  have HX := zHi (zAi hk (zAi hkl (zAi hn (zAi hgk (zAi hF (zAi hL1 (zAi hL2 (zAi hlen hN)))))))); have HB := zHi hgB; have HO2 := zHi hown2; have HI2 := zHi (zAi hI2 hNB); have HF2 := zHi hf2; have HBX := zHi hBX; clear hk hkl hn hgk hown hIk hF hL1 hL2 hlen hN hf2 hcb hNB hI2 hown2 hgB hw2 hBX; go_wp2_with fail
  refine (HR.out.read k w2 BX L HI2.out.1 HI2.out.2 HX.out.2.2.2.2.2.1 (by have := HX.out.2.2.2.2.2.2.1; omega)).mono ?_
  rintro e w3 ⟨m, errv, rfl, hmL, hf3, hcells, hend⟩; have HE := zHi hend; have HC := zHi hcells; have HF3 := zHi hf3; have hown3 : Own w3 N0 u6 ((FH.drop k0).take (k - k0)) := HO2.out.keep hf3 (fun g o hg q => by
   obtain ⟨g1, g2⟩ := HB.out g hg; rcases q with q | q
   · have := HR.out.low g q; omega
   · omega)
  have hkm : k + m ≤ FH.length := by
   rcases hend with ⟨_, _, h, _⟩ | ⟨_, h, _⟩ <;> omega
  have hl0 : ((FH.drop k0).take (k - k0)).length = k - k0 := by
   obtain ⟨hk, hkl, _⟩ := HX.out; simp only [List.length_take, List.length_drop]; omega
  have hnl : ((List.range m).map fun j => FH.getD (k + j) 0).length = m := by simp
  obtain ⟨v', w4, hrun, hown4, hf4, hob⟩ := append_bytes w3 N0 u6 _ hown3 ⟨BX, 0, none⟩ rfl L ((List.range m).map fun j => FH.getD (k + j) 0) (fun j hj => by
   rw [hnl] at hj; have := hcells j hj
   simpa using this) (by rw [hl0, hnl]; have := HX.out.2.2.2.2.2.2.2.1; omega) (by have := HX.out.2.2.2.2.1.size; have := HF2.out.size; have := hf3.size; rw [HN0.out]; omega)
  rw [hnl] at hrun; have hsl := run_head BX L m hmL; have htake : (FH.drop k0).take (k - k0) ++ (List.range m).map (fun j => FH.getD (k + j) 0) = (FH.drop k0).take (k + m - k0) := by
   obtain ⟨hk, hkl, _⟩ := HX.out; have := take_more (FH.drop k0) (k - k0) m (by rw [List.length_drop]; omega)
   rw [show k - k0 + m = k + m - k0 by omega] at this
   rw [← this]
   congr 1
   apply List.map_congr_left
   intro j _; simp only [List.getD_eq_getElem?_getD, List.getElem?_drop]; rw [show k0 + (k - k0 + j) = k + j by omega]
  rw [htake] at hown4; have HO4 := zHi hown4; have HF4 := zHi hf4; have HKM := zHi hkm; have hby : Frm (SBy' w3 N0) w3 w4 := hf4.mono fun b o q => ⟨(HB.out b q).1, fun o' v' hv' => hown3.kind b q o' v' hv'⟩
  have HBY := zHi hby; have hFall : Frm (fun b _ => M b) w w4 := by
   obtain ⟨_, _, _, _, hF, _⟩ := HX.out; have h1 : Frm (fun b _ => M b) w w2 := hF.trans (HF2.out.mono fun b o e => e.elim)
   have h2 : Frm (fun b _ => M b) w w3 := h1.trans' hf3 (fun x o hx q => by
    rcases q with q | q
    · exact q
    · exfalso; rw [q, HBX.out] at hx; have := hF.size; omega)
   exact h2.trans' hf4 (fun x o hx q => by have := (HB.out x q).1; rw [HN0.out] at this; omega)
  have HFA := zHi hFall; clear hend hcells hf3 hown3 hkm hl0 hnl hown4 hf4 hob hmL htake hby hFall; have hrun0 := fun ty => hrun ty
  clear hrun; go_upto_region 10 with (at_builtin; refine wpList_append_by (by rfl) (.tmp 32) (.tmp 35) 22 (by rfl) _ _ (by rfl) (by rfl) (hrun0 _) ?_)
  clear hrun0 hsl; rcases HE.out with ⟨rfl, hm1, _, hI3⟩ | ⟨herr, hkl3, hJ3⟩
  · have HI3 := zHi (zAi hm1 hI3); clear hm1 hI3; go_wp2_with fail
    go_roundg (FH.length + 1 - (k + m))
    case measure => obtain ⟨hk, hkl, hn, hgk, _⟩ := HX.out; have := HI3.out.1; have := HKM.out; omega
    case rel =>
     obtain ⟨hk, hkl, hn, hgk, _⟩ := HX.out; have := HI3.out.1; exact ⟨k + m, n + 1, by omega, HKM.out, by omega, rfl, by go_num, HO4.out, HR.out.keep _ _ _ HI3.out.2 HBY.out, HFA.out⟩
  · have hJ4 := HR.out.keepJ _ _ _ hJ3 HBY.out; have HJ := zHi (zAi hkl3 hJ4); clear hkl3 hJ3 hJ4; have hfin : (FH.drop k0).take (k + m - k0) = FH.drop k0 := by
     rw [HJ.out.1]; exact List.take_of_length_le (by rw [List.length_drop]; omega)
    have HFIN := zHi hfin; clear hfin; have HER := zHi herr; rcases herr with ⟨q, rfl⟩ | ⟨x, rfl⟩
    all_goals
     go_wp2_with fail
     go_ret2
     refine ⟨_, _, rfl, ?_, HJ.out.2, HER.out, HFA.out⟩; have := HO4.out; rw [HFIN.out] at this; exact this
theorem neq_of_equal {P : Program} {t : TypeId} {x y : Value} {w : World} {b : Bool} (hx : (∃ u v, x = .iface u v) ∨ x = .nilIface) (hy : ∃ u v, y = .iface u v) (h : (binOp .eql t x y).run P w = .ok (.bool b) w) : (binOp .neq t x y).run P w = .ok (.bool (!b)) w := by
 obtain ⟨u, v, rfl⟩ := hy
 rcases hx with ⟨u', v', rfl⟩ | rfl
 all_goals
  simp only [binOp] at h ⊢; simp only [Sem.run_bind] at h ⊢
  generalize (Op.equal t _ _).run P w = r at h ⊢
  cases r <;> simp [Result.andThen] at h ⊢
  all_goals exact h
def ZEnd (p : Ps) (src' : List UInt8) (er : Err) (P : Nat) (X : List UInt8) (v : Value) (pos : Nat) : Prop :=
 er = .eof ∧ (src'.length < P + 4 ∧ v = errAt p.U ∧ pos = src'.length ∨ P + 4 ≤ src'.length ∧ pos = P + 4 ∧ (be4At src' P = adler X ∧ v = errAt p.E ∨ be4At src' P ≠ adler X ∧ v = errAt p.C)) ∨
 er = .cut ∧ v = errAt p.U ∧ pos = P ∨ er = .corrupt ∧ (∃ x : Nat, v = corruptAt x) ∧ pos = P
def IZ (Z A F C K0 : Nat) (p : Ps) (d0 : DS) (x0 : Cfg × List UInt8) (FH : List UInt8) (k : Nat) (w : World) : Prop :=
 Hid (IFl F C p d0 x0 k w) ∧ Env w C p ∧ (∃ s, ZR w Z (rdrZ d0.R) (decV F) (digV A) .nilIface s) ∧ Dig w A ((FH.drop K0).take (k - K0)) ∧ K0 ≤ k ∧ k ≤ FH.length
def JZ (Z A F C K0 : Nat) (p : Ps) (d0 : DS) (er : Err) (P : Nat) (FH : List UInt8) (v : Value) (w : World) : Prop :=
 Env w C p ∧ ∃ d s, Dec w F d ∧ Same d0 d ∧ ZR w Z (rdrZ d0.R) (decV F) (digV A) v s ∧ ZEnd p d0.src er P (FH.drop K0) v d.pos ∧ (v = errAt p.E → d.err = errAt p.E) ∧ C ≤ F ∧ C ≤ d.HB ∧ C ≤ d.BB ∧ C ≤ d.CB
structure ZFix (Z A F C N0 K0 : Nat) (p : Ps) (d0 : DS) (x0 : Cfg × List UInt8) (er : Err) (P : Nat) (FH : List UInt8) : Prop where
 fin : Flate.Reach d0.src x0 (.done er P, FH)
 x0 : CfgOK d0.src x0.1
 low : LowD F d0 N0
 cN : C ≤ N0
 zN : Z < N0
 aN : A < N0
 cZ : C ≤ Z
 cA : C ≤ A
 aZ : A ≠ Z
 mdZ : ¬ MD F d0 Z
 mdA : ¬ MD F d0 A
 bZ : ∀ a, d0.base = some a → a.block ≠ Z
 bA : ∀ a, d0.base = some a → a.block ≠ A
 k0 : K0 ≤ FH.length
 few : FH.length ≤ 70368744177664
theorem MD.same {F : Nat} {d d' : DS} (hs : Same d d') {b : Nat} : MD F d' b ↔ MD F d b := by
 unfold MD; rw [hs.R, hs.HB, hs.BB, hs.CB]
theorem IFl.turn {F C : Nat} {p : Ps} {d0 : DS} {x0 : Cfg × List UInt8} {k : Nat} {w w' : World} {S : Nat → Nat → Prop} (h : IFl F C p d0 x0 k w) (hf : Frm S w w') (hS : ∀ b o, S b o → C ≤ b ∧ ¬ MD F d0 b ∧ (∀ a, d0.base = some a → a.block ≠ b) ∧ NoTab w b) : IFl F C p d0 x0 k w' := by
 obtain ⟨d, H, n, x, h⟩ := h
 exact ⟨d, H, n, x, h.nt hf fun b o q => by
  obtain ⟨h1, h2, h3, h4⟩ := hS b o q; exact ⟨h1, fun e => h2 ((MD.same h.same).1 e), fun a ha => h3 a (by rw [← h.same.base]; exact ha), h4⟩⟩
theorem JFl.turn {F C : Nat} {p : Ps} {d0 : DS} {x0 : Cfg × List UInt8} {er : Err} {P : Nat} {FH : List UInt8} {v : Value} {w w' : World} {S : Nat → Nat → Prop} (h : JFl F C p d0 x0 er P FH v w) (hf : Frm S w w') (hS : ∀ b o, S b o → C ≤ b ∧ ¬ MD F d0 b ∧ (∀ a, d0.base = some a → a.block ≠ b) ∧ NoTab w b) : JFl F C p d0 x0 er P FH v w' := by
 obtain ⟨hv, d, n, h, h2, h3⟩ := h
 exact ⟨hv, d, n, h.nt hf fun b o q => by
  obtain ⟨h1, h2, h3, h4⟩ := hS b o q; exact ⟨h1, fun e => h2 ((MD.same h.same).1 e), fun a ha => h3 a (by rw [← h.same.base]; exact ha), h4⟩, h2, h3⟩
theorem JFl.env {F C : Nat} {p : Ps} {d0 : DS} {x0 : Cfg × List UInt8} {er : Err} {P : Nat} {FH : List UInt8} {v : Value} {w : World} (h : JFl F C p d0 x0 er P FH v w) : Env w C p := by
 obtain ⟨hv, d, n, h, _⟩ := h
 exact h.st.env
theorem IFl.env {F C : Nat} {p : Ps} {d0 : DS} {x0 : Cfg × List UInt8} {k : Nat} {w : World} (h : IFl F C p d0 x0 k w) : Env w C p := by
 obtain ⟨d, H, n, x, h⟩ := h
 exact h.st.env
theorem neq_types (y : Nat) (p : Addr) (w : World) : (binOp .neq 53 (corruptAt y) (errAt p)).run Tryz.prog w = .ok (.bool true) w := by
 obtain ⟨ms, hi⟩ := underlyingError
 exact neq_of_equal (.inl ⟨_, _, rfl⟩) ⟨_, _, rfl⟩ (run_eql_iface_types (P := Tryz.prog) 88 194 (.int .i64 (y : Int)) (.pointer (some p)) hi (by decide) w)
theorem neq_nil (p : Addr) (w : World) : (binOp .neq 53 .nilIface (errAt p)).run Tryz.prog w = .ok (.bool true) w := by
 obtain ⟨ms, hi⟩ := underlyingError
 exact neq_of_equal (.inr rfl) ⟨_, _, rfl⟩ (run_eql_iface_nil_left (P := Tryz.prog) (w := w) 194 (.pointer (some p)) hi)
theorem neq_same (p : Addr) (w : World) : (binOp .neq 53 (errAt p) (errAt p)).run Tryz.prog w = .ok (.bool false) w := neq_of_equal (.inl ⟨_, _, rfl⟩) ⟨_, _, rfl⟩ (eql_same p w)
theorem bytes_of_cells {w : World} {BX m k : Nat} {FH : List UInt8} (h : ∀ j, j < m → w.cell? ⟨BX, j, none⟩ = some (byteV (FH.getD (k + j) 0))) : Bytes w (some ⟨BX, 0, none⟩) ((List.range m).map fun j => FH.getD (k + j) 0) :=
 ⟨rfl, fun j hj => by
  have hj' : j < m := by simpa using hj
  rw [Nat.zero_add]; have := h j hj'
  simpa using this⟩
theorem dig_more {FH : List UInt8} {K0 k m : Nat} (h0 : K0 ≤ k) (hm : k + m ≤ FH.length) : (FH.drop K0).take (k - K0) ++ (List.range m).map (fun j => FH.getD (k + j) 0) = (FH.drop K0).take (k + m - K0) := by
 have := take_more (FH.drop K0) (k - K0) m (by rw [List.length_drop]; omega)
 rw [show k - K0 + m = k + m - K0 by omega] at this
 rw [← this]
 congr 1
 apply List.map_congr_left
 intro j _
 simp only [List.getD_eq_getElem?_getD, List.getElem?_drop]
 rw [show K0 + (k - K0 + j) = k + j by omega]
def ZRd1 (Z A F C K0 : Nat) (p : Ps) (d0 : DS) (x0 : Cfg × List UInt8) (er : Err) (P : Nat) (FH : List UInt8) (k BX kk : Nat) (w : World) (m : Nat) (errv : Value) (wq : World) : Prop :=
 k + m ≤ FH.length ∧ Env wq C p ∧ (∀ j, j < m → wq.cell? ⟨BX, j, none⟩ = some (byteV (FH.getD (k + j) 0))) ∧ (∃ s, ZR wq Z (rdrZ d0.R) (decV F) (digV A) errv s) ∧ Dig wq A ((FH.drop K0).take (kk - K0)) ∧ Frm (fun b _ => (MD F d0 b ∨ b = Z ∨ b = A) ∨ b = BX) w wq ∧
  (errv = .nilIface ∧ 1 ≤ m ∧ Hid (IFl F C p d0 x0 (k + m) wq) ∨ k + m = FH.length ∧ Hid (JFl F C p d0 x0 er P FH errv wq))
def ZRes (F C : Nat) (p : Ps) (d0 : DS) (x0 : Cfg × List UInt8) (er : Err) (P : Nat) (FH : List UInt8) (k m : Nat) (errv : Value) (w1 : World) : Prop :=
 errv = .nilIface ∧ 1 ≤ m ∧ k + m ≤ FH.length ∧ IFl F C p d0 x0 (k + m) w1 ∨ ((∃ q, errv = errAt q) ∨ ∃ x : Nat, errv = corruptAt x) ∧ k + m = FH.length ∧ JFl F C p d0 x0 er P FH errv w1
theorem zrd_first {Z A F C N0 K0 : Nat} {p : Ps} {d0 : DS} {x0 : Cfg × List UInt8} {er : Err} {P : Nat} {FH : List UInt8} (hX : ZFix Z A F C N0 K0 p d0 x0 er P FH) {k : Nat} {w w1 : World} {BX L m : Nat} {errv : Value} (hI : IZ Z A F C K0 p d0 x0 FH k w) (hB : NewBuf w N0 BX L) (hLB : Z < BX ∧ A < BX ∧ 1 ≤ L ∧ L ≤ 1048576)
 (hf : Frm (fun b _ => MD F d0 b ∨ b = BX) w w1) (hm : m ≤ L) (hc : ∀ j, j < m → w1.cell? ⟨BX, j, none⟩ = some (byteV (FH.getD (k + j) 0)))
 (hend : ZRes F C p d0 x0 er P FH k m errv w1) :
 ∃ (m' : Nat) (e' : Value), Value.int .i64 (m : Int) = .int .i64 (m' : Int) ∧ m' ≤ L ∧ ZRd1 Z A F C K0 p d0 x0 er P FH k BX k w m' e' (w1.setCell ⟨Z, 3, none⟩ errv) := by
 obtain ⟨hIF, henv, ⟨s, hz⟩, hdig, hk0, hkl⟩ := hI
 have hZM : ¬ (MD F d0 Z ∨ Z = BX) := by
  rintro (h | h)
  · exact hX.mdZ h
  · omega
 have hAM : ¬ (MD F d0 A ∨ A = BX) := by
  rintro (h | h)
  · exact hX.mdA h
  · omega
 have hz1 := hz.keep hf (fun _ => hZM)
 have hz2 := hz1.set_e errv
 have hs : Frm (fun b _ => b = Z) w1 (w1.setCell ⟨Z, 3, none⟩ errv) := (Frm.refl _ _).setCell (.inl rfl) _
 have hBZ : BX ≠ Z := by omega
 have hN0 := hX.zN
 have hnt1 : NoTab w1 Z := hz1.noTab (.inl ⟨_, _, rfl⟩) (.inl ⟨_, _, rfl⟩) (.inl ⟨_, _, rfl⟩) (.inr rfl)
 have hturn : ∀ b o, (fun (b : Nat) (_ : Nat) => b = Z) b o → C ≤ b ∧ ¬ MD F d0 b ∧ (∀ a, d0.base = some a → a.block ≠ b) ∧ NoTab w1 b := by
  rintro b o rfl; exact ⟨hX.cZ, hX.mdZ, hX.bZ, hnt1⟩
 have hdig2 : Dig (w1.setCell ⟨Z, 3, none⟩ errv) A ((FH.drop K0).take (k - K0)) := (hdig.keep hf (fun _ => hAM)).keep hs (fun _ e => hX.aZ e)
 have hfr : Frm (fun b _ => (MD F d0 b ∨ b = Z ∨ b = A) ∨ b = BX) w (w1.setCell ⟨Z, 3, none⟩ errv) := (hf.mono fun b o e => e.elim (fun h => .inl (.inl h)) .inr).trans (hs.mono fun b o e => .inl (.inr (.inl e)))
 have hc2 : ∀ j, j < m → (w1.setCell ⟨Z, 3, none⟩ errv).cell? ⟨BX, j, none⟩ = some (byteV (FH.getD (k + j) 0)) := fun j hj => hs.keep (hc j hj) (fun e => hBZ e)
 rcases hend with ⟨rfl, h1, h2, h3⟩ | ⟨h1, h2, h3⟩
 · have h4 := h3.turn hs hturn; exact ⟨m, .nilIface, rfl, hm, h2, h4.env, hc2, ⟨s, hz2⟩, hdig2, hfr, .inl ⟨rfl, h1, zHi h4⟩⟩
 · have h4 := JFl.turn h3 hs hturn; exact ⟨m, errv, rfl, hm, by omega, h4.env, hc2, ⟨s, hz2⟩, hdig2, hfr, .inr ⟨h2, zHi h4⟩⟩
theorem zrd_second {Z A F C N0 K0 : Nat} {p : Ps} {d0 : DS} {x0 : Cfg × List UInt8} {er : Err} {P : Nat} {FH : List UInt8} (hX : ZFix Z A F C N0 K0 p d0 x0 er P FH) {k : Nat} {w wc w2 : World} {BX L m : Nat} {errv : Value} (hk0 : K0 ≤ k) (hLB : Z < BX ∧ A < BX ∧ 1 ≤ L ∧ L ≤ 1048576)
 (h : ZRd1 Z A F C K0 p d0 x0 er P FH k BX k w m errv wc) (hd : Dig w2 A ((FH.drop K0).take (k - K0) ++ (List.range m).map fun j => FH.getD (k + j) 0)) (hf : Frm (fun b o => b = A ∧ o = 0) wc.drew w2) : ZRd1 Z A F C K0 p d0 x0 er P FH k BX (k + m) w m errv w2 := by
 obtain ⟨hkm, henv, hc, ⟨s, hz⟩, hdig, hfr, hend⟩ := h
 have hw : Frm (fun b _ => b = A) wc w2 := ((Frm.refl _ _).drew).trans (hf.mono fun b o e => e.1)
 have hnt : NoTab wc A := hdig.noTab
 have hturn : ∀ b o, (fun (b : Nat) (_ : Nat) => b = A) b o → C ≤ b ∧ ¬ MD F d0 b ∧ (∀ a, d0.base = some a → a.block ≠ b) ∧ NoTab wc b := by
  rintro b o rfl; exact ⟨hX.cA, hX.mdA, hX.bA, hnt⟩
 have hBA : BX ≠ A := by omega
 refine ⟨hkm, henv.keep hw (fun b o e => by rw [e]; exact hX.cA), fun j hj => hw.keep (hc j hj) hBA, ⟨s, hz.keep hw (fun o e => hX.aZ e.symm)⟩, (dig_more hk0 hkm) ▸ hd, hfr.trans (hw.mono fun b o e => .inl (.inr (.inr e))), ?_⟩
 rcases hend with ⟨h1, h2, h3⟩ | ⟨h1, h2⟩
 · exact .inl ⟨h1, h2, zHi (h3.out.turn hw hturn)⟩
 · exact .inr ⟨h1, zHi (JFl.turn h2.out hw hturn)⟩
theorem Dec.keep_src {S : Nat → Nat → Prop} {w w' : World} {F : Nat} {d : DS} (h : Dec w F d) (hf : Frm S w w') (hF : ∀ o, ¬ S F o) (hH : ∀ o, ¬ S d.HB o) {q : Nat} (hs : Src w' d.R d.base d.src q) : Dec w' F { d with pos := q } := by
 have k : ∀ {o : Nat} {v : Value}, w.cell? ⟨F, o, none⟩ = Option.some v → w'.cell? ⟨F, o, none⟩ = Option.some v := fun hc => hf.keep hc (hF _)
 have hlt := h.lt
 have hH0 := cell_lt (h.win 0 (by omega))
 have hB0 : d.BB < w.heap.size := by obtain ⟨v, hv⟩ := Option.isSome_iff_exists.1 (h.bb 0 (by omega)); exact cell_lt hv
 have hC0 : d.CB < w.heap.size := by obtain ⟨v, hv⟩ := Option.isSome_iff_exists.1 (h.cb 0 (by omega)); exact cell_lt hv
 exact ⟨k h.r, k h.rBuf, k h.roff, k h.b, k h.nb, k h.bits, k h.cbits, k h.hist, k h.wr, k h.rd, k h.full, k h.u0, k h.u1, k h.u2, k h.u3, k h.step, k h.ss, k h.fin, k h.err, k h.toRead, k h.hl, k h.hd, k h.cl, k h.cd, fun o h1 h2 => (hf.live F o hlt).trans (h.tl o h1 h2), fun o => (hf.froz F o hlt).trans (h.fr o), hs, fun i hi => hf.keep (h.win i hi) (hH i), fun o => (hf.froz _ o hH0).trans (h.frH o), fun i hi => (hf.live _ i hB0).trans (h.bb i hi), fun i hi => (hf.live _ i hC0).trans (h.cb i hi), fun o => (hf.froz _ o hB0).trans (h.frB o), fun o => (hf.froz _ o hC0).trans (h.frC o), h.dist, h.far⟩
theorem jz_of {Z A F C N0 K0 : Nat} {p : Ps} {d0 : DS} {x0 : Cfg × List UInt8} {er : Err} {P : Nat} {FH : List UInt8} (hX : ZFix Z A F C N0 K0 p d0 x0 er P FH) {w1 wf : World} {v1 v : Value} {s : Nat → UInt8} {pos : Nat} (hJ : JFl F C p d0 x0 er P FH v1 w1) (hz : ZR wf Z (rdrZ d0.R) (decV F) (digV A) v s)
 (hf : Frm (fun b _ => b = Z ∨ b = A ∨ b = d0.R) w1 wf) (hs : Src wf d0.R d0.base d0.src pos) (hE : ZEnd p d0.src er P (FH.drop K0) v pos) (hv : v = errAt p.E → v1 = errAt p.E) : JZ Z A F C K0 p d0 er P FH v wf := by
 obtain ⟨_, d, n, h, hpos, herr⟩ := hJ
 have hD := h.st.dec
 have hsm := h.same
 have hRF := hD.neRF
 have hRH := hD.neRH
 rw [← hsm.R] at hf
 rw [← hsm.R, ← hsm.base, ← hsm.src] at hs
 have hmZ : ¬ MD F d Z := fun e => hX.mdZ ((MD.same hsm).1 e)
 have hmA : ¬ MD F d A := fun e => hX.mdA ((MD.same hsm).1 e)
 unfold MD at hmZ hmA
 simp only [not_or] at hmZ hmA
 have hD' := hD.keep_src hf (fun o e => by
  rcases e with e | e | e
  · exact hmZ.1 e.symm
  · exact hmA.1 e.symm
  · exact hRF e.symm) (fun o e => by
  rcases e with e | e | e
  · exact hmZ.2.2.1 e.symm
  · exact hmA.2.2.1 e.symm
  · exact hRH e.symm) hs
 refine ⟨h.st.env.keep hf (fun b o e => ?_), { d with pos := pos }, s, hD', ⟨hsm.R, hsm.base, hsm.src, hsm.BB, hsm.CB, hsm.HB⟩, hz, hE, fun e => ?_, h.st.cF, h.st.cH, h.st.cB, h.st.cC⟩
 · rcases e with e | e | e
   · rw [e]; exact hX.cZ
   · rw [e]; exact hX.cA
   · rw [e]; exact h.st.cR
 · rw [← hv e]; exact herr
def ZRd3 (Z A F : Nat) (p : Ps) (d0 : DS) (P : Nat) (w2 : World) (k4 : Nat) (wq : World) : Prop :=
 ∃ s', k4 = Nat.min (d0.src.length - P) 4 ∧ ZR wq Z (rdrZ d0.R) (decV F) (digV A) (errAt p.E) s' ∧ Src wq d0.R d0.base d0.src (P + k4) ∧ (∀ j, j < k4 → s' j = d0.src.getD (P + j) 0) ∧ Frm (fun b _ => b = Z ∨ b = d0.R) w2 wq
theorem zrd_ok {Z A F C N0 K0 : Nat} {p : Ps} {d0 : DS} {x0 : Cfg × List UInt8} {er : Err} {P : Nat} {FH : List UInt8} (hX : ZFix Z A F C N0 K0 p d0 x0 er P FH) {k : Nat} {w w2 w' : World} {BX L m : Nat} (hk0 : K0 ≤ k) (hmL : m ≤ L) (h : ZRd1 Z A F C K0 p d0 x0 er P FH k BX (k + m) w m .nilIface w2) (hm1 : 1 ≤ m) (hI : Hid (IFl F C p d0 x0 (k + m) w2)) (hf : Frm (fun _ _ => False) w2 w') :
 RdPost (fun b => MD F d0 b ∨ b = Z ∨ b = A) FH (IZ Z A F C K0 p d0 x0 FH) (JZ Z A F C K0 p d0 er P FH) k BX L w (.returned (.tuple #[.int .i64 (m : Int), .nilIface])) w' := by
 obtain ⟨hkm, henv, hc, ⟨s, hz⟩, hdig, hfr, _⟩ := h
 have hI' := hI.out.turn hf (fun b o e => e.elim)
 exact ⟨m, .nilIface, rfl, hmL, hfr.trans (hf.mono fun b o e => e.elim), fun j hj => hf.keep (hc j hj) (fun e => e), .inl ⟨rfl, hm1, hkm, zHi hI', hI'.env, ⟨s, hz.keep hf (fun _ e => e)⟩, hdig.keep hf (fun _ e => e), by omega, hkm⟩⟩
theorem zrd_end {Z A F C N0 K0 : Nat} {p : Ps} {d0 : DS} {x0 : Cfg × List UInt8} {er : Err} {P : Nat} {FH : List UInt8} (hX : ZFix Z A F C N0 K0 p d0 x0 er P FH) {k : Nat} {w w2 w' : World} {BX L m : Nat} {v1 v : Value} {s : Nat → UInt8} {pos : Nat} (hB : N0 ≤ BX) (hmL : m ≤ L) (h : ZRd1 Z A F C K0 p d0 x0 er P FH k BX (k + m) w m v1 w2) (hfin : k + m = FH.length) (hJ : JFl F C p d0 x0 er P FH v1 w2)
 (hf : Frm (fun b _ => b = Z ∨ b = d0.R) w2 w') (hz : ZR w' Z (rdrZ d0.R) (decV F) (digV A) v s) (hs : Src w' d0.R d0.base d0.src pos) (hE : ZEnd p d0.src er P (FH.drop K0) v pos) (hv : v = errAt p.E → v1 = errAt p.E) :
 RdPost (fun b => MD F d0 b ∨ b = Z ∨ b = A) FH (IZ Z A F C K0 p d0 x0 FH) (JZ Z A F C K0 p d0 er P FH) k BX L w (.returned (.tuple #[.int .i64 (m : Int), v])) w' := by
 obtain ⟨hkm, henv, hc, _, hdig, hfr, _⟩ := h
 have hRN := hX.low.R
 have hZN := hX.zN
 have hj := jz_of hX hJ hz (hf.mono fun b o e => e.elim .inl (fun e => .inr (.inr e))) hs hE hv
 have hk : (∃ q, v = errAt q) ∨ ∃ x : Nat, v = corruptAt x := by
  rcases hE with ⟨_, h⟩ | ⟨_, h, _⟩ | ⟨_, h, _⟩
  · rcases h with ⟨_, h, _⟩ | ⟨_, _, h⟩
    · exact .inl ⟨_, h⟩
    · rcases h with ⟨_, h⟩ | ⟨_, h⟩
      · exact .inl ⟨_, h⟩
      · exact .inl ⟨_, h⟩
  · exact .inl ⟨_, h⟩
  · exact .inr h
 exact ⟨m, v, rfl, hmL, hfr.trans (hf.mono fun b o e => .inl (e.elim (fun e => .inr (.inl e)) (fun e => .inl (.inr (.inl e))))), fun j hj => hf.keep (hc j hj) (fun e => by omega), .inr ⟨hk, hfin, hj⟩⟩
theorem JFl.src {F C : Nat} {p : Ps} {d0 : DS} {x0 : Cfg × List UInt8} {er : Err} {P : Nat} {FH : List UInt8} {v : Value} {w : World} (h : JFl F C p d0 x0 er P FH v w) : Src w d0.R d0.base d0.src P ∧ C ≤ d0.R := by
 obtain ⟨hv, d, n, h, hp, _⟩ := h
 have := h.st.dec.so
 rw [h.same.R, h.same.base, h.same.src, hp] at this
 exact ⟨this, by rw [← h.same.R]; exact h.st.cR⟩
theorem zrd_src {w w' : World} {R : Nat} {base : Option Addr} {src : List UInt8} {q : Nat} (h : Src w R base src q) (hf : Frm (fun _ _ => False) w w') : Src w' R base src q := h.keep hf (fun _ e => e) (fun _ _ _ _ e => e)
theorem src_set {w : World} {Z R : Nat} {base : Option Addr} {src : List UInt8} {q n : Nat} {v : Value} (h : Src w R base src q) (hRZ : R ≠ Z) (hb : ∀ a, base = some a → a.block ≠ Z) : Src ((w.setCell ⟨Z, 3, none⟩ v).drewN n) R base src q :=
 h.keep (S := fun b _ => b = Z) (((Frm.refl _ _).setCell (.inl rfl) _).drewN _) (fun o e => hRZ e) (fun a ha j _ e => hb a ha e)
theorem readZ3 {w : World} {Z R C : Nat} {p : Ps} {base : Option Addr} {src : List UInt8} {pos : Nat} {r dv dig err : Value} {s : Nat → UInt8} (hz : ZR w Z r dv dig err s) (hs : Src w R base src pos) (he : Env w C p) (hCR : C ≤ R) (hCZ : C ≤ Z) (hRZ : R ≠ Z) (hfar : ∀ a, base = some a → a.block ≠ Z)
 (ev : Value) (k : Nat) (hk : k = Nat.min (src.length - pos) 4) (hev : ev = if k = 4 then .nilIface else if k = 0 then errAt p.E else errAt p.U) :
 Calls Tryz.prog 55 #[rdrZ R, .slice (some ⟨Z, 4, none⟩) 4 4] w fun e w' => e = .returned (.tuple #[.int .i64 (k : Int), ev]) ∧ ∃ s', ZR w' Z r dv dig err s' ∧ Src w' R base src (pos + k) ∧ (∀ j, j < k → s' j = src.getD (pos + j) 0) ∧ Frm (fun b _ => b = Z ∨ b = R) w w' := by
 refine (readFull_any w R base src pos Z 4 4 4 C p hs he hCR hCZ (by omega) (by omega) (by omega) (Ne.symm hRZ) (fun a ha => Ne.symm (hfar a ha)) (fun j hj => by rw [hz.s j (by omega)]; rfl) (fun j _ => hz.fr _)).mono ?_
 rintro e w' ⟨k', hk', rfl, hP⟩
 obtain rfl : k = k' := by rw [hk, hk']
 have hkn : k ≤ 4 := by rw [hk]; exact Nat.min_le_right _ _
 obtain ⟨hz', hs', hf'⟩ := hz.read hP hRZ hkn (by omega)
 rw [← hev]
 exact ⟨rfl, _, hz', hs', fun j hj => if_pos hj, hf'⟩
set_option maxHeartbeats 4000000 in
theorem zread_any {Z A F C N0 K0 : Nat} {p : Ps} {d0 : DS} {x0 : Cfg × List UInt8} {er : Err} {P : Nat} {FH : List UInt8} (hX : ZFix Z A F C N0 K0 p d0 x0 er P FH) (k : Nat) (w : World) (BX L : Nat) (hI : IZ Z A F C K0 p d0 x0 FH k w) (hB : NewBuf w N0 BX L) (hL1 : 1 ≤ L) (hL2 : L ≤ 1048576) :
 Calls Tryz.prog 119 #[.pointer (some ⟨Z, 0, none⟩), .slice (some ⟨BX, 0, none⟩) L L] w (RdPost (fun b => MD F d0 b ∨ b = Z ∨ b = A) FH (IZ Z A F C K0 p d0 x0 FH) (JZ Z A F C K0 p d0 er P FH) k BX L w) := by
 have HX := zHi hX
 have HI := zHi hI
 have HB := zHi hB
 obtain ⟨hIF, henv, ⟨s, hz⟩, hdig, hk0, hkl⟩ := hI
 have z1 := hz.d
 have z3 := hz.e
 have f3 := hz.fr 3
 have hrd := (flate_reader (p := p) hX.fin hX.x0 hX.low hX.cN).read k w BX L L hIF.out hB hL1 hL2
 have HRD := zHi hrd
 have hZB : Z < BX := by have := hB.lo; have := hX.zN; omega
 have hAB : A < BX := by have := hB.lo; have := hX.aN; omega
 have c1 : (L : Int) ≤ 1048576 := by omega
 have HLB := zHi (zAi hZB (zAi hAB (zAi hL1 hL2)))
 clear hX hB hIF henv hdig hk0 hkl hrd hZB hAB hL1 hL2
 go_enter Tryz.func119, Tryz.ntmps119
 go_upto_region 4 with (fail)
 go_cut [6] (fun mv wq => ∃ (m : Nat) (errv : Value), mv = .int .i64 (m : Int) ∧ m ≤ L ∧ ZRd1 Z A F C K0 p d0 x0 er P FH k BX k w m errv wq)
 case first =>
  go_wp2_with fail
  refine HRD.out.mono ?_; rintro e w1 ⟨m, errv, rfl, hm, hf1, hcells, hend⟩; have hend' : ZRes F C p d0 x0 er P FH k m errv w1 := hend; have HE1 := zHi (zAi hm (zAi hcells hend')); have hZM : ¬ ((MD F d0 Z) ∨ Z = BX) := by
   rintro (h | h)
   · exact HX.out.mdZ h
   · have := HLB.out.1; omega
  have z3' := hf1.keep z3 hZM; have f3' := (hf1.froz Z 3 (cell_lt z3)).trans f3; have HF1 := zHi (zAi hf1 hZM); have hsh : errv = .nilIface ∨ (∃ q, errv = errAt q) ∨ ∃ x : Nat, errv = corruptAt x := by
   rcases hend with h | h
   · exact .inl h.1
   · exact .inr h.1
  clear hm hcells hend hend' hf1 hZM; rcases hsh with rfl | ⟨q, rfl⟩ | ⟨x, rfl⟩
  all_goals
   go_wp2_with fail
   go_meet
   case rel => exact zrd_first HX.out HI.out HB.out HLB.out HF1.out.1 HE1.out.1 HE1.out.2.1 HE1.out.2.2
 case rest =>
  obtain ⟨m, errv, rfl, hmL, hZ⟩ := hcut; obtain ⟨w1, rfl⟩ : ∃ x, x = wc := ⟨_, rfl⟩; have HM := zHi (zAi hmL hZ); have henvc := hZ.2.1; obtain ⟨_, _, hc, ⟨s1, hz1⟩, hdig, _, _⟩ := hZ; have z2 := hz1.g; have hnl : ((List.range m).map fun j => FH.getD (k + j) 0).length = m := by simp
  have hw := digWrite_any w1.drew A _ (hdig.keep ((Frm.refl (fun _ _ => False) _).drew) (fun _ e => e)) (some ⟨BX, 0, none⟩) ((List.range m).map fun j => FH.getD (k + j) 0) L (bytes_of_cells fun j hj => hc j hj) (by rw [hnl]; exact hmL) (by rw [hnl]; have := HLB.out.2.2.2; omega)
  rw [hnl] at hw; have HW := zHi hw; have c2 : (m : Int) ≤ (L : Int) := by omega
  clear hw hc hz1 hdig hnl hmL henvc z1 z3 f3 HRD; apply_assumption; go_upto_region 5 with (fail)
  go_cut [40] (fun _ wq => ZRd1 Z A F C K0 p d0 x0 er P FH k BX (k + m) w m errv wq)
  case first =>
   (refine region_tail 9 (by kernel_rfl) (by kernel_rfl) ?_; simp only [List.take_succ_cons, List.take_zero, List.drop_succ_cons, List.drop_zero]; (repeat still_step); refine wpStill_nil ?_)
   go_wp2_with fail
   refine HW.out.mono ?_; rintro e w2 ⟨rfl, hd2, hf2⟩; have H2 := zHi (zAi hd2 hf2); clear hd2 hf2; go_wp2_with fail
   go_meet
   case rel => exact zrd_second HX.out HI.out.2.2.2.2.1 HLB.out HM.out.2 H2.out.1 H2.out.2
  case rest =>
   clear HW z2; obtain ⟨w2, rfl⟩ : ∃ x, x = wc := ⟨_, rfl⟩; have H2 := zHi hcut; obtain ⟨hkm, henv2, hc, ⟨s2, hz2⟩, hdig, hfr, hend⟩ := hcut; have z3 := hz2.e; have cE := henv2.eof; clear hkm hc hz2 hdig hfr; rcases hend with ⟨rfl, hm1, hI2⟩ | ⟨hfin, hJ2⟩
   · have HI2 := zHi (zAi hm1 hI2); have hq := fun w => neq_nil p.E w
     clear hm1 hI2; go_wp2_with fail
     (go_quiet (fail))
     go_wp2_with fail
     (go_quiet (fail))
     go_wp2_with fail
     go_ret2
     exact zrd_ok HX.out HI.out.2.2.2.2.1 HM.out.1 H2.out HI2.out.1 HI2.out.2 (by (repeat (first | exact Frm.refl _ _ | refine Frm.drewN ?_ _ | refine Frm.drew ?_ | refine Frm.alloc ?_ _ | refine Frm.setCell ?_ (by simp) _)))
   · have HJ2 := zHi (zAi hfin hJ2); have hJ3 := hJ2.out.1
     cases er with
     | cut =>
      obtain rfl : errv = errAt p.U := hJ3; have hq := fun n => neq_of_equal (.inl ⟨_, _, rfl⟩) ⟨_, _, rfl⟩ (eql_other (henv2.keep (S := fun _ _ => False) ((Frm.refl _ _).drewN n) (fun _ _ e => e.elim)) (x := p.U) (y := p.E) (by simp [Ps.all]) (by simp [Ps.all]) (by have := henv2.nodup; simp [Ps.all] at this; exact fun e => this.1.1 e.symm))
      clear hfin hJ2 henv2; go_wp2_with fail
      (go_quiet (fail))
      go_wp2_with fail
      (go_quiet (fail))
      go_wp2_with fail
      go_ret2
      obtain ⟨_, _, _, ⟨s, hz⟩, _⟩ := H2.out; exact zrd_end HX.out HB.out.lo HM.out.1 H2.out HJ2.out.1 HJ2.out.2.out (by (repeat (first | exact Frm.refl _ _ | refine Frm.drewN ?_ _ | refine Frm.drew ?_ | refine Frm.alloc ?_ _ | refine Frm.setCell ?_ (by simp) _))) (hz.keep (S := fun _ _ => False) (by (repeat (first | exact Frm.refl _ _ | refine Frm.drewN ?_ _ | refine Frm.drew ?_ | refine Frm.alloc ?_ _ | refine Frm.setCell ?_ (by simp) _))) (fun _ e => e)) (zrd_src HJ2.out.2.out.src.1 (by (repeat (first | exact Frm.refl _ _ | refine Frm.drewN ?_ _ | refine Frm.drew ?_ | refine Frm.alloc ?_ _ | refine Frm.setCell ?_ (by simp) _)))) (.inr (.inl ⟨rfl, rfl, rfl⟩)) (fun e => e)
     | corrupt =>
      obtain ⟨x, rfl⟩ := hJ3; have hq := fun w => neq_types x p.E w
      clear hfin hJ2 henv2; go_wp2_with fail
      (go_quiet (fail))
      go_wp2_with fail
      (go_quiet (fail))
      go_wp2_with fail
      go_ret2
      obtain ⟨_, _, _, ⟨s, hz⟩, _⟩ := H2.out; exact zrd_end HX.out HB.out.lo HM.out.1 H2.out HJ2.out.1 HJ2.out.2.out (by (repeat (first | exact Frm.refl _ _ | refine Frm.drewN ?_ _ | refine Frm.drew ?_ | refine Frm.alloc ?_ _ | refine Frm.setCell ?_ (by simp) _))) (hz.keep (S := fun _ _ => False) (by (repeat (first | exact Frm.refl _ _ | refine Frm.drewN ?_ _ | refine Frm.drew ?_ | refine Frm.alloc ?_ _ | refine Frm.setCell ?_ (by simp) _))) (fun _ e => e)) (zrd_src HJ2.out.2.out.src.1 (by (repeat (first | exact Frm.refl _ _ | refine Frm.drewN ?_ _ | refine Frm.drew ?_ | refine Frm.alloc ?_ _ | refine Frm.setCell ?_ (by simp) _)))) (.inr (.inr ⟨rfl, ⟨x, rfl⟩, rfl⟩)) (fun e => e)
     | eof =>
      obtain rfl : errv = errAt p.E := hJ3; have hq := fun w => neq_same p.E w
      clear hfin hJ2; go_wp2_with fail
      (go_quiet (fail))
      go_upto_region 8 with (fail)
      obtain ⟨w3, hw3⟩ : ∃ w3, w3 = w2.drewN nq := ⟨_, rfl⟩; have hF3 : Frm (fun _ _ => False) w2 w3 := by rw [hw3]; exact (Frm.refl _ _).drewN _
      rw [← hw3]; clear hw3; obtain ⟨_, _, _, ⟨s2, hz2⟩, _⟩ := H2.out; have hz3 := hz2.keep hF3 (fun _ e => e)
      have z0 := hz3.r; have hs3 := zrd_src HJ2.out.2.out.src.1 hF3; have hRZ : d0.R ≠ Z := fun e => HX.out.mdZ (.inr (.inl e.symm))
      have hRF := readZ3 (hz3.keep ((Frm.refl (fun _ _ => False) _).drew) (fun _ e => e)) hs3.drew ((henv2.keep hF3 (fun _ _ e => e.elim)).keep (S := fun _ _ => False) ((Frm.refl _ _).drew) (fun _ _ e => e.elim)) HJ2.out.2.out.src.2 HX.out.cZ hRZ HX.out.bZ
      obtain ⟨k4, hk⟩ : ∃ k, k = Nat.min (d0.src.length - P) 4 := ⟨_, rfl⟩; have hev := readEv2 p k4 4; have HRF := zHi (fun ev => hRF ev k4 hk)
      have HK := zHi (zAi hk (zAi hF3 hRZ)); clear hRF hk hF3 hz3 hs3 hRZ hz2 z3 cE henv2; go_cut [8] (fun ev wq => ∃ k4, ev = (if k4 = 4 then Value.nilIface else if k4 = 0 then errAt p.E else errAt p.U) ∧ ZRd3 Z A F p d0 P w2 k4 wq)
      case first =>
       rcases hev with hev | ⟨q, hev⟩
       all_goals
        have HRE := zHi (HRF.out _ hev.symm); have HEV := zHi hev; clear hev HRF
        go_region_with (go_at_call 55; refine HRE.out.mono ?_; rintro e w4 ⟨rfl, hZ3⟩)
        have HZ3 := zHi hZ3; clear hZ3; go_wp2_with fail
        go_meet
        case rel =>
         obtain ⟨s', h1, h2, h3, h4⟩ := HZ3.out; exact ⟨k4, HEV.out.symm, s', HK.out.1, h1, h2, h3, (HK.out.2.1.mono fun b o e => e.elim).trans (((Frm.refl _ _).drew).trans h4)⟩
      case rest =>
       clear hev HRF; obtain ⟨k4, rfl, hZ3⟩ := hcut; obtain ⟨w4, rfl⟩ : ∃ x, x = wc := ⟨_, rfl⟩; have HZ3 := zHi hZ3; obtain ⟨s4, hk4, hz4, hs4, hsj, hf4⟩ := hZ3; have henv4 : Env w4 C p := (H2.out.2.1).keep hf4 (fun b o e => by have := HX.out.cZ; have := HJ2.out.2.out.src.2; omega)
       have z2 := hz4.g; have z3 := hz4.e; have f3 := hz4.fr 3; have cE := henv4.eof; have cU := henv4.unx; have cC := henv4.sum; have hg := henv4.g; have hcZ := HX.out.cZ; have n0 : Z ≠ 0 := by omega
       have n4 : Z ≠ 4 := by omega
       have n3 : Z ≠ 3 := by omega
       have hle := hs4.le; obtain ⟨m1, m2, m3⟩ := min_cases (d0.src.length - P) 4; rw [← hk4] at m1 m2 m3; have HV := zHi henv4; clear hg hcZ henv4 hk4; apply_assumption
       by_cases hk : k4 = 4
       · rw [if_pos hk]; have q0 : w4.cell? ⟨Z, 4, none⟩ = some (byteV (d0.src.getD P 0)) := by
          have := hz4.s 0 (by omega)
          rwa [hsj 0 (by omega)] at this
         have q1 : w4.cell? ⟨Z, 5, none⟩ = some (byteV (d0.src.getD (P + 1) 0)) := by
          have := hz4.s 1 (by omega)
          rwa [hsj 1 (by omega)] at this
         have q2 : w4.cell? ⟨Z, 6, none⟩ = some (byteV (d0.src.getD (P + 2) 0)) := by
          have := hz4.s 2 (by omega)
          rwa [hsj 2 (by omega)] at this
         have q3 : w4.cell? ⟨Z, 7, none⟩ = some (byteV (d0.src.getD (P + 3) 0)) := by
          have := hz4.s 3 (by omega)
          rwa [hsj 3 (by omega)] at this
         have H32 := uint32_any w4.drew Z 4 4 4 (by omega) _ _ _ _ (d0.src.getD P 0).toBitVec.isLt (d0.src.getD (P + 1) 0).toBitVec.isLt (d0.src.getD (P + 2) 0).toBitVec.isLt (d0.src.getD (P + 3) 0).toBitVec.isLt q0 q1 q2 q3
         obtain ⟨g, hgg⟩ : ∃ g, g = be4At d0.src P := ⟨_, rfl⟩; have H32' := zHi ((show be4 (d0.src.getD P 0).toNat (d0.src.getD (P + 1) 0).toNat (d0.src.getD (P + 2) 0).toNat (d0.src.getD (P + 3) 0).toNat = g from hgg.symm) ▸ H32)
         have HG := zHi (zAi hgg (zAi hs4 (zAi hk (zAi hz4 (zAi hf4 (show P + 4 ≤ d0.src.length by omega))))))
         clear H32 hgg hs4 hle m1 m2 m3 q0 q1 q2 q3 hk cU n4 hsj hz4 hf4; go_upto_region 14 with (fail)
         (refine region_tail 5 (by kernel_rfl) (by kernel_rfl) ?_; simp only [List.take_succ_cons, List.take_zero, List.drop_succ_cons, List.drop_zero]; (repeat still_step); refine wpStill_nil ?_)
         go_wp2_with fail
         refine H32'.out.mono ?_; rintro e w6 ⟨rfl, hf6⟩; have hf46 : Frm (fun _ _ => False) w4 w6 := ((Frm.refl _ _).drew).trans hf6
         have z2 := hf46.keep z2 (fun e => e)
         have f3 : w6.frozen? ⟨Z, 3, none⟩ = false := (hf46.froz Z 3 (cell_lt z3)).trans f3; have z3 := hf46.keep z3 (fun e => e)
         have cC := hf46.keep cC (fun e => e)
         have cE := hf46.keep cE (fun e => e)
         have hdg : Dig w6 A (FH.drop K0) := by
          obtain ⟨_, _, _, _, hd, _⟩ := H2.out; rw [List.take_of_length_le (by rw [List.length_drop]; have := HJ2.out.1; omega)] at hd
          exact (hd.keep HG.out.2.2.2.2.1 (fun _ e => e.elim HX.out.aZ (fun e => HX.out.mdA (.inr (.inl e))))).keep hf46 (fun _ e => e)
         have hsm := digSum_any w6 A _ hdg; obtain ⟨S, hS⟩ : ∃ S, S = adler (FH.drop K0) := ⟨_, rfl⟩; rw [← hS] at hsm; have HSM := zHi hsm; have HF6 := zHi (zAi hf46 hS); clear hf6 hf46 hdg hsm hS; go_wp2_with fail
         refine HSM.out.mono ?_; rintro e w7 ⟨rfl, rfl⟩
         by_cases hgS : g = S
         · subst hgS; go_wp2_with fail
           (go_quiet (fail))
           go_wp2_with fail
           go_ret2
           obtain ⟨hgg, hs4, hk, hz4, hf4, hP4⟩ := HG.out; obtain ⟨hf46, hS⟩ := HF6.out; exact zrd_end HX.out HB.out.lo HM.out.1 H2.out HJ2.out.1 HJ2.out.2.out (hf4.trans ((hf46.drewN _).mono fun b o e => e.elim)) (hz4.keep (hf46.drewN _) (fun _ e => e)) (zrd_src (hk ▸ hs4) (hf46.drewN _)) (.inl ⟨rfl, .inr ⟨hP4, rfl, .inl ⟨by rw [← hgg, ← hS], rfl⟩⟩⟩) (fun e => e)
         · have t1 : ((g : Int) != (S : Int)) = true := by simp; omega
           have HGS := zHi hgS; clear hgS; go_wp2_with fail
           (go_quiet (fail))
           go_wp2_with fail
           go_ret2
           obtain ⟨hgg, hs4, hk, hz4, hf4, hP4⟩ := HG.out; obtain ⟨hf46, hS⟩ := HF6.out; have hz6 := (hz4.keep hf46 (fun _ e => e)).set_e (errAt p.C)
           exact zrd_end HX.out HB.out.lo HM.out.1 H2.out HJ2.out.1 HJ2.out.2.out ((hf4.trans (hf46.mono fun b o e => e.elim)).trans (((Frm.refl _ _).setCell (.inl (.inl rfl)) _).drewN _)) (hz6.keep (S := fun _ _ => False) (by (repeat (first | exact Frm.refl _ _ | refine Frm.drewN ?_ _ | refine Frm.drew ?_ | refine Frm.alloc ?_ _ | refine Frm.setCell ?_ (by simp) _))) (fun _ e => e)) (src_set (zrd_src (hk ▸ hs4) hf46) HK.out.2.2 HX.out.bZ) (.inl ⟨rfl, .inr ⟨hP4, rfl, .inr ⟨by rw [← hgg, ← hS]; exact HGS.out, rfl⟩⟩⟩) (fun _ => rfl)
       · rw [if_neg hk]; have hU : P + k4 = d0.src.length ∧ d0.src.length < P + 4 := by omega
         have HG := zHi (zAi hs4 (zAi hz4 (zAi hf4 hU))); clear hs4 hle m1 m2 m3 hsj hz4 hf4 hU hk z2 cC n3
         by_cases hk0 : k4 = 0
         · rw [if_pos hk0]; have hq := fun w => eql_same p.E w
           go_wp2_with fail
           (go_quiet (fail))
           go_wp2_with fail
           go_ret2
           obtain ⟨hs4, hz4, hf4, hU⟩ := HG.out; exact zrd_end HX.out HB.out.lo HM.out.1 H2.out HJ2.out.1 HJ2.out.2.out (hf4.trans (((Frm.refl _ _).setCell (.inl (.inl rfl)) _).drewN _)) ((hz4.set_e _).keep (S := fun _ _ => False) (by (repeat (first | exact Frm.refl _ _ | refine Frm.drewN ?_ _ | refine Frm.drew ?_ | refine Frm.alloc ?_ _ | refine Frm.setCell ?_ (by simp) _))) (fun _ e => e)) (src_set hs4 HK.out.2.2 HX.out.bZ) (.inl ⟨rfl, .inl ⟨hU.2, rfl, hU.1⟩⟩) (fun _ => rfl)
         · rw [if_neg hk0]; have hq := fun n => eql_other (HV.out.keep (S := fun _ _ => False) ((Frm.refl _ _).drewN n) (fun _ _ e => e.elim)) (x := p.U) (y := p.E) (by simp [Ps.all]) (by simp [Ps.all]) (by have := HV.out.nodup; simp [Ps.all] at this; exact fun e => this.1.1 e.symm)
           have hq0 := eql_other HV.out (x := p.U) (y := p.E) (by simp [Ps.all]) (by simp [Ps.all]) (by have := HV.out.nodup; simp [Ps.all] at this; exact fun e => this.1.1 e.symm)
           go_wp2_with fail
           (go_quiet (fail))
           go_wp2_with fail
           go_ret2
           obtain ⟨hs4, hz4, hf4, hU⟩ := HG.out; exact zrd_end HX.out HB.out.lo HM.out.1 H2.out HJ2.out.1 HJ2.out.2.out (hf4.trans (((Frm.refl _ _).setCell (.inl (.inl rfl)) _).drewN _)) ((hz4.set_e _).keep (S := fun _ _ => False) (by (repeat (first | exact Frm.refl _ _ | refine Frm.drewN ?_ _ | refine Frm.drew ?_ | refine Frm.alloc ?_ _ | refine Frm.setCell ?_ (by simp) _))) (fun _ e => e)) (src_set hs4 HK.out.2.2 HX.out.bZ) (.inl ⟨rfl, .inl ⟨hU.2, rfl, hU.1⟩⟩) (fun _ => rfl)
theorem flate_closeM (n : Nat) (a : Addr) (w : World) : (method (n + 1) 161 (.pointer (some a)) "Close").run Tryz.prog w = .ok (129, .pointer (some a)) w := by kernel_rfl
theorem flate_closeE (args : Array Value) (w : World) : (callFunc 129 args).run Tryz.prog w = .ok (.enter 129 args) w := by kernel_rfl
theorem zclose_any {Z A F C K0 : Nat} {p : Ps} {d0 : DS} {er : Err} {P : Nat} {FH : List UInt8} (w : World) (hJ : JZ Z A F C K0 p d0 er P FH (errAt p.E) w) (hCZ : C ≤ Z) :
 Calls Tryz.prog 118 #[.pointer (some ⟨Z, 0, none⟩)] w fun e w' => e = .returned .nilIface ∧ Frm (fun b _ => b = Z) w w' := by
 obtain ⟨henv, d, s, hD, hsm, hz, hE, hde, _⟩ := hJ
 have z1 := hz.d
 have z3 := hz.e
 have f3 := hz.fr 3
 have cE := henv.eof
 have hg := henv.g
 have n0 : Z ≠ 0 := by omega
 have hq := fun w => neq_same p.E w
 have hm := flate_closeM
 have hen := flate_closeE
 have HZ := zHi hz
 have HD := zHi (zAi (hde rfl) (zAi hD henv))
 clear hz hD hE hde hsm henv hg
 go_enter Tryz.func118, Tryz.ntmps118
 go_wp2_with fail
 (go_quiet (fail))
 go_wp2_with fail
 refine (close_eof (w.drewN nq) F C p (HD.out.2.2.keep (S := fun _ _ => False) ((Frm.refl _ _).drewN _) (fun _ _ e => e.elim)) (by have := HD.out.2.1.err; rw [HD.out.1] at this; exact this)).mono ?_
 rintro e w1 ⟨rfl, n1, rfl⟩
 go_wp2_with fail
 go_ret
 exact ⟨rfl, (((Frm.refl _ _).drewN _).setCell (.inl rfl) _)⟩
theorem zlib_meth (n : Nat) (a : Addr) (w : World) : (method (n + 1) 80 (.pointer (some a)) "Read").run Tryz.prog w = .ok (119, .pointer (some a)) w := by kernel_rfl
theorem zlib_enter (args : Array Value) (w : World) : (callFunc 119 args).run Tryz.prog w = .ok (.enter 119 args) w := by kernel_rfl
theorem zlib_reader {Z A F C N0 K0 : Nat} {p : Ps} {d0 : DS} {x0 : Cfg × List UInt8} {er : Err} {P : Nat} {FH : List UInt8} (hX : ZFix Z A F C N0 K0 p d0 x0 er P FH) :
 ReaderL 80 119 Z N0 (fun b => MD F d0 b ∨ b = Z ∨ b = A) FH (IZ Z A F C K0 p d0 x0 FH) (JZ Z A F C K0 p d0 er P FH) where
 meth := zlib_meth
 enter := zlib_enter
 low := by
  have hl := hX.low; rintro b ((rfl | rfl | rfl | rfl | rfl) | rfl | rfl)
  · exact hl.F
  · exact hl.R
  · exact hl.H
  · exact hl.B
  · exact hl.C
  · exact hX.zN
  · exact hX.aN
 read := fun k w BX L hI hB h1 h2 => zread_any hX k w BX L hI hB h1 h2
 keep := by
  intro k w w' ⟨hI, henv, ⟨s, hz⟩, hdig, h1, h2⟩ hf; have hl := hX.low; have hcN := hX.cN; have hzN := hX.zN; have haN := hX.aN; have h3 := hI.out.turn hf (fun b o q => ⟨by omega, by
   rintro (e | e | e | e | e)
   · have := hl.F; omega
   · have := hl.R; omega
   · have := hl.H; omega
   · have := hl.B; omega
   · have := hl.C; omega, fun a ha e => by have := hl.S a ha; omega, q.2.noTab⟩)
  exact ⟨zHi h3, h3.env, ⟨s, hz.keep hf (fun o q => by omega)⟩, hdig.keep hf (fun o q => by omega), h1, h2⟩
 keepJ := by
  intro v w w' ⟨henv, d, s, hD, hsm, hz, hE, hde, hc⟩ hf; have hl := hX.low.same hsm; have hcN := hX.cN; have hzN := hX.zN; exact ⟨henv.keep hf (fun b o q => by omega), d, s, hD.keep hf (fun o q => by have := hl.F; omega) (fun o q => by have := hl.R; omega) (fun o q => by have := hl.H; omega) (fun a ha j _ q => by have := hl.S a ha; omega), hsm, hz.keep hf (fun o q => by omega), hE, hde, hc⟩
abbrev zrV (Z : Nat) : Value := .iface 80 (.pointer (some ⟨Z, 0, none⟩))
def ZNew (w : World) (C : Nat) (p : Ps) (R : Nat) (base : Option Addr) (src dict : List UInt8) (e : Ending) (w' : World) : Prop :=
 (∃ f q, zhead src dict = .inl (f, q) ∧ e = .returned (.tuple #[.nilIface, zerr p f]) ∧ Src w' R base src q ∧ Frm (fun b _ => b = R) w w') ∨
 ∃ Z q D F d A s, zhead src dict = .inr (q, D) ∧ e = .returned (.tuple #[zrV Z, .nilIface]) ∧ w.heap.size ≤ Z ∧ q ≤ src.length ∧ Hid (RS F C p d (.next ⟨0, 0⟩, tail32 D) (tail32 D).length w' d (tail32 D) 0 (.next ⟨0, 0⟩, tail32 D)) ∧ d.R = R ∧ d.base = base ∧ d.src = src.drop q ∧
  ZR w' Z (rdrZ R) (decV F) (digV A) .nilIface s ∧ Dig w' A [] ∧ ¬ MD F d Z ∧ ¬ MD F d A ∧ A ≠ Z ∧ w.heap.size ≤ A ∧ (∀ b, MD F d b → b < A) ∧ Frm (fun b _ => b = R) w w' ∧ ∀ b, MD F d b → b = R ∨ w.heap.size ≤ b
theorem znew_of {w w1 w2 : World} {C : Nat} {p : Ps} {R : Nat} {base : Option Addr} {src dict : List UInt8} {Z : Nat} {e : Ending} (hZ : w.heap.size = Z) (hf : Frm (fun _ _ => False) w w1) (h : ZFail p w1 Z R base src dict e w2 ∨ ZDone w1 C p Z R base src dict (isNilV .nilIface) (fun _ => False) e w2) :
 (∃ f, e = .returned (zerr p f) ∧ f ≠ 0 ∧ ZNew w C p R base src dict (.returned (.tuple #[.nilIface, zerr p f])) w2) ∨ e = .returned .nilIface ∧ ZNew w C p R base src dict (.returned (.tuple #[zrV Z, .nilIface])) w2 := by
 have key : ∀ {S : Nat → Nat → Prop}, Frm S w1 w2 → (∀ b o, S b o → b = Z ∨ b = R) → Frm (fun b _ => b = R) w w2 := fun hs hS => (hf.mono fun _ _ e => e.elim).trans' hs (fun x o hx q => (hS x o q).elim (fun e => by omega) (fun e => e))
 rcases h with ⟨f, q, h1, rfl, h3, h4⟩ | ⟨q, D, D', F, d, A, s, rfl, h1, h2, h3, h4, h5, h6, h7, h8, h9, h10, h11, h12, h13, h14, h15, h16⟩
 · refine .inl ⟨f, rfl, ?_, .inl ⟨f, q, h1, rfl, h3, key h4 fun b o e => e⟩⟩
   unfold zhead at h1; split at h1
   · injection h1 with h; injection h; omega
   · split at h1
     · injection h1 with h; injection h; omega
     · split at h1
       · split at h1
         · injection h1 with h; injection h; omega
         · split at h1
           · simp at h1
           · injection h1 with h; injection h; omega
       · simp at h1
 · simp only [isNilV, if_true] at h2; subst h2; refine .inr ⟨rfl, .inr ⟨Z, q, D', F, d, A, s, h1, rfl, by omega, h3, h4, h5, h6, h7, h8, h9, h10, h11, h12, Nat.le_trans hf.size h13, h14, key h15 fun b o e => ?_, fun b hb => ?_⟩⟩
   · rcases e with e | e | e
     · exact .inl e
     · exact .inr e
     · exact e.elim
   · rcases h16 b hb with e | e | e
     · exact .inl e
     · exact e.elim
     · exact .inr (Nat.le_trans hf.size e)
theorem zr_new {w w1 : World} {t : TypeId} (h : w.alloc (.cells #[.nilIface, .nilIface, .nilIface, .nilIface, .int .u8 0, .int .u8 0, .int .u8 0, .int .u8 0] t) = w1) : ZR w1 w.heap.size .nilIface .nilIface .nilIface .nilIface (fun _ => 0) := by
 have hc : ∀ j, w1.cell? ⟨w.heap.size, j, none⟩ = (#[Value.nilIface, .nilIface, .nilIface, .nilIface, .int .u8 0, .int .u8 0, .int .u8 0, .int .u8 0] : Array Value)[j]? := fun j => by rw [← h]; exact cells_at (heap_alloc_new w _)
 refine ⟨hc 0, hc 1, hc 2, hc 3, fun j hj => ?_, fun o => by rw [← h, World.frozen?_alloc_new], fun o ho => ?_⟩
 · rw [hc]
   match j, hj with
   | 0, _ => rfl
   | 1, _ => rfl
   | 2, _ => rfl
   | 3, _ => rfl
 · rw [hc]; exact Array.getElem?_eq_none (by simpa using ho)
set_option maxHeartbeats 4000000 in
theorem newReaderDictZ_any (w : World) (C : Nat) (p : Ps) (he : Env w C p) (R : Nat) (base : Option Addr) (src : List UInt8) (hR : C ≤ R) (hs : Src w R base src 0) (hblt : ∀ a, base = some a → a.block < w.heap.size)
 (dbase : Option Addr) (dict : List UInt8) (dcap : Nat) (hdb : Bytes w dbase dict) (hdc : dict.length ≤ dcap) (hdl : dict.length ≤ 4294967296) (hdF : ∀ a, dbase = some a → a.block ≠ R) (hdlt : ∀ a, dbase = some a → a.block < w.heap.size) :
 Calls Tryz.prog 27 #[rdrZ R, .slice dbase dict.length dcap] w (ZNew w C p R base src dict) := by
 have HA := zHi (zAi he (zAi hR (zAi hs (zAi hblt (zAi hdb (zAi hdc (zAi hdl (zAi hdF hdlt))))))))
 obtain ⟨n, hn⟩ : ∃ n, n = dict.length := ⟨_, rfl⟩
 rw [← hn]
 have HN := zHi hn
 clear he hR hs hblt hdb hdc hdl hdF hdlt hn
 go_enter Tryz.func27, Tryz.ntmps27
 go_wp2_with fail
 obtain ⟨w1, hw1⟩ : ∃ w1, w.alloc (.cells #[.nilIface, .nilIface, .nilIface, .nilIface, .int .u8 0, .int .u8 0, .int .u8 0, .int .u8 0] 87) = w1 := ⟨_, rfl⟩
 have hz := zr_new hw1
 have hf : Frm (fun _ _ => False) w w1 := by rw [← hw1]; exact (Frm.refl _ _).alloc _
 rw [hw1]
 obtain ⟨Z, hZ⟩ : ∃ Z, w.heap.size = Z := ⟨_, rfl⟩
 rw [hZ] at hz ⊢
 obtain ⟨he, hR, hs, hblt, hdb, hdc, hdl, hdF, hdlt⟩ := HA.out
 have hRl := hs.lt
 have hrs := zreset_any w1 Z C p (he.keep hf (fun _ _ e => e.elim)) (by rw [← hZ]; exact he.le) _ _ _ _ _ hz R base src hR (hs.keep hf (fun _ e => e) (fun _ _ _ _ e => e)) (by omega) (fun a ha => by have := hblt a ha; omega) (fun a ha => Nat.lt_of_lt_of_le (hblt a ha) hf.size)
  dbase dict dcap (hdb.keep hf (fun _ _ _ _ e => e)) hdc hdl (fun a ha => ⟨by have := hdlt a ha; omega, hdF a ha⟩) (fun a ha => Nat.lt_of_lt_of_le (hdlt a ha) hf.size) (fun _ => False) (.inl rfl)
 rw [← HN.out] at hrs
 have HRS := zHi hrs
 have HF := zHi hf
 clear he hR hs hblt hdb hdc hdl hdF hdlt hRl hrs hf hz hw1
 refine HRS.out.mono ?_
 intro e w2 hpost
 rcases znew_of hZ HF.out hpost with ⟨f, rfl, hf0, hnew⟩ | ⟨rfl, hnew⟩
 · have HNEW := zHi hnew; have he : ∃ q, zerr p f = errAt q := by
    unfold zerr; split
    · exact ⟨_, rfl⟩
    · split
      · exact ⟨_, rfl⟩
      · exact ⟨_, rfl⟩
   obtain ⟨q, hq⟩ := he; rw [hq] at HNEW ⊢; clear hpost hnew hq hf0; go_wp2_with fail
   go_ret2
   exact HNEW.out
 · have HNEW := zHi hnew; clear hpost hnew; go_wp2_with fail
   go_ret2
   exact HNEW.out
theorem newReaderZ_any (w : World) (C : Nat) (p : Ps) (he : Env w C p) (R : Nat) (base : Option Addr) (src : List UInt8) (hR : C ≤ R) (hs : Src w R base src 0) (hblt : ∀ a, base = some a → a.block < w.heap.size) :
 Calls Tryz.prog 26 #[rdrZ R] w (ZNew w C p R base src []) := by
 have h := newReaderDictZ_any w C p he R base src hR hs hblt none [] 0 (by constructor <;> simp) (by simp) (by simp) (by simp) (by simp)
 have HH := zHi h
 clear h he hR hs hblt
 go_enter Tryz.func26, Tryz.ntmps26
 go_wp2_with fail
 refine HH.out.mono ?_
 intro e w2 hpost
 have HP := zHi hpost
 rcases hpost with ⟨f, q, _, rfl, _⟩ | ⟨Z, q, D, F, d, A, s, _, rfl, _⟩
 · go_wp2_with fail
   go_ret2
   exact HP.out
 · go_wp2_with fail
   go_ret2
   exact HP.out
end Go.Proofs.YthfncdfcklbigaaGreatDoor
namespace Go.Proofs.YthfncdfcklbigaaGreatDoor
open Flate
def Unz (src D : List UInt8) (f p : Nat) (X : List UInt8) : Prop :=
 match zhead src D with
 | .inl (g, q) => f = g ∧ p = q ∧ X = []
 | .inr (q, D') => ∃ er P, Infl (src.drop q) D' er P X ∧
  (er = .eof ∧ (src.length < q + P + 4 ∧ f = 4 ∧ p = src.length ∨ q + P + 4 ≤ src.length ∧ p = q + P + 4 ∧ f = (if be4At src (q + P) = adler X then 0 else 3)) ∨
   er = .cut ∧ f = 4 ∧ p = q + P ∨ er = .corrupt ∧ f = 5 ∧ p = q + P)
def four (n : Nat) : List UInt8 := [UInt8.ofNat (n / 16777216), UInt8.ofNat (n / 65536), UInt8.ofNat (n / 256), UInt8.ofNat n]
theorem four_len (n : Nat) : (four n).length = 4 := rfl
theorem be4_four (n : Nat) (h : n < 4294967296) : be4 (UInt8.ofNat (n / 16777216)).toNat (UInt8.ofNat (n / 65536)).toNat (UInt8.ofNat (n / 256)).toNat (UInt8.ofNat n).toNat = n := by
 unfold be4
 simp only [UInt8.toNat_ofNat']
 omega
theorem getD_mid (A B : List UInt8) (j : Nat) : (A ++ B).getD (A.length + j) 0 = B.getD j 0 := by
 rw [List.getD_eq_getElem?_getD, List.getElem?_append_right (by omega), show A.length + j - A.length = j by omega, ← List.getD_eq_getElem?_getD]
theorem be4At_four (A B : List UInt8) (n : Nat) (h : n < 4294967296) : be4At (A ++ (four n ++ B)) A.length = n := by
 unfold be4At
 have e := fun j => getD_mid A (four n ++ B) j
 have e0 := e 0
 rw [Nat.add_zero] at e0
 rw [e0, e 1, e 2, e 3]
 exact be4_four n h
theorem zhead_no {a b : UInt8} {S D : List UInt8} (h : hdrOk a b = true) (hb : ¬ b.toNat / 32 % 2 = 1) : zhead (a :: b :: S) D = .inr (2, []) := by
 unfold zhead
 rw [if_neg (by simp), if_neg (by simp [h]), if_neg (by exact hb)]
theorem zhead_has {a b : UInt8} {S D : List UInt8} {n : Nat} (h : hdrOk a b = true) (hb : b.toNat / 32 % 2 = 1) (hn : n < 4294967296) : zhead (a :: b :: (four n ++ S)) D = if n = adler D then .inr (6, D) else .inl (2, 6) := by
 unfold zhead
 rw [if_neg (by simp), if_neg (by simp [h]), if_pos (by exact hb), if_neg (by simp [four_len])]
 have : be4At (a :: b :: (four n ++ S)) 2 = n := be4At_four [a, b] S n hn
 rw [this]
theorem unz_infl {src D D' : List UInt8} {q P : Nat} {X : List UInt8} (hh : zhead src D = .inr (q, D')) (hi : Infl (src.drop q) D' .eof P X) (hl : q + P + 4 ≤ src.length) (hs : be4At src (q + P) = adler X) : Unz src D 0 (q + P + 4) X := by
 unfold Unz
 rw [hh]
 exact ⟨.eof, P, hi, .inl ⟨rfl, .inr ⟨hl, rfl, by rw [if_pos hs]⟩⟩⟩
theorem unz_stream {A B D D' : List UInt8} {X m : List UInt8} (hh : zhead (A ++ (B ++ (four (adler X) ++ m))) D = .inr (A.length, D')) (hi : Infl (B ++ (four (adler X) ++ m)) D' .eof B.length X) :
 Unz (A ++ (B ++ (four (adler X) ++ m))) D 0 (A.length + B.length + 4) X := by
 refine unz_infl hh (by rw [List.drop_left]; exact hi) (by simp only [List.length_append, four_len]; omega) ?_
 have := be4At_four (A ++ B) m (adler X) (adler_lt X)
 rw [List.append_assoc, List.length_append] at this
 exact this
theorem Unz.unique {src D : List UInt8} {f f' p p' : Nat} {X X' : List UInt8} (h : Unz src D f p X) (k : Unz src D f' p' X') : f' = f ∧ p' = p ∧ X' = X := by
 unfold Unz at h k
 split at h
 · rename_i g q he; rw [he] at k; simp only at k; exact ⟨k.1.trans h.1.symm, k.2.1.trans h.2.1.symm, k.2.2.trans h.2.2.symm⟩
 · rename_i q D' he; rw [he] at k; simp only at k; obtain ⟨er, P, h1, h2⟩ := h; obtain ⟨er', P', k1, k2⟩ := k; obtain ⟨rfl, rfl, rfl⟩ := h1.unique k1; refine ⟨?_, ?_, rfl⟩
   · rcases h2 with ⟨a1, a2⟩ | ⟨a1, a2, a3⟩ | ⟨a1, a2, a3⟩
     · subst a1; rcases k2 with ⟨_, b2⟩ | ⟨b1, _⟩ | ⟨b1, _⟩
       · rcases a2 with ⟨c1, c2, c3⟩ | ⟨c1, c2, c3⟩
         · rcases b2 with ⟨d1, d2, d3⟩ | ⟨d1, d2, d3⟩
           · omega
           · omega
         · rcases b2 with ⟨d1, d2, d3⟩ | ⟨d1, d2, d3⟩
           · omega
           · rw [c3, d3]
       · simp at b1
       · simp at b1
     · subst a1; rcases k2 with ⟨b1, _⟩ | ⟨_, b2, b3⟩ | ⟨b1, _⟩
       · simp at b1
       · omega
       · simp at b1
     · subst a1; rcases k2 with ⟨b1, _⟩ | ⟨b1, _⟩ | ⟨_, b2, b3⟩
       · simp at b1
       · simp at b1
       · omega
   · rcases h2 with ⟨a1, a2⟩ | ⟨a1, a2, a3⟩ | ⟨a1, a2, a3⟩
     · subst a1; rcases k2 with ⟨_, b2⟩ | ⟨b1, _⟩ | ⟨b1, _⟩
       · omega
       · simp at b1
       · simp at b1
     · subst a1; rcases k2 with ⟨b1, _⟩ | ⟨_, b2, b3⟩ | ⟨b1, _⟩
       · simp at b1
       · omega
       · simp at b1
     · subst a1; rcases k2 with ⟨b1, _⟩ | ⟨b1, _⟩ | ⟨_, b2, b3⟩
       · simp at b1
       · simp at b1
       · omega
end Go.Proofs.YthfncdfcklbigaaGreatDoor
namespace Go.Proofs.YthfncdfcklbigaaGreatDoor
open Go.RowKit Go.IntWalk Flate
set_option maxRecDepth 100000
def UnzPost (w : World) (src D : List UInt8) (e : Ending) (w' : World) : Prop :=
 ∃ v f P X, Unz src D f P X ∧ e = .returned (.tuple #[v, .int .i64 (f : Int), .int .i64 ((src.length - P : Nat) : Int)]) ∧ Own w' w.heap.size v X ∧ Frm (fun _ _ => False) w w'
def UnzE (src' : List UInt8) (er : Err) (P : Nat) (X : List UInt8) (f pos : Nat) : Prop :=
 (er = .eof ∧ (src'.length < P + 4 ∧ f = 4 ∧ pos = src'.length ∨ P + 4 ≤ src'.length ∧ pos = P + 4 ∧ f = (if be4At src' P = adler X then 0 else 3))) ∨
 er = .cut ∧ f = 4 ∧ pos = P ∨ er = .corrupt ∧ f = 5 ∧ pos = P
theorem getD_drop' (src : List UInt8) (q j : Nat) : (src.drop q).getD j 0 = src.getD (q + j) 0 := by
 rw [List.getD_eq_getElem?_getD, List.getD_eq_getElem?_getD, List.getElem?_drop]
theorem be4At_drop (src : List UInt8) (q P : Nat) : be4At (src.drop q) P = be4At src (q + P) := by
 unfold be4At
 rw [getD_drop', getD_drop', getD_drop', getD_drop']
 simp only [Nat.add_assoc]
theorem unz_of {src D0 D : List UInt8} {q P f pos : Nat} {er : Err} {X : List UInt8} (hh : zhead src D0 = .inr (q, D)) (hq : q ≤ src.length) (hi : Infl (src.drop q) D er P X) (hE : UnzE (src.drop q) er P X f pos) : Unz src D0 f (q + pos) X := by
 unfold Unz
 rw [hh]
 refine ⟨er, P, hi, ?_⟩
 unfold UnzE at hE
 rw [be4At_drop, List.length_drop] at hE
 rcases hE with ⟨h1, ⟨h2, h3, h4⟩ | ⟨h2, h3, h4⟩⟩ | ⟨h1, h2, h3⟩ | ⟨h1, h2, h3⟩
 · exact .inl ⟨h1, .inl ⟨by omega, h3, by omega⟩⟩
 · exact .inl ⟨h1, .inr ⟨by omega, by omega, h4⟩⟩
 · exact .inr (.inl ⟨h1, h2, by omega⟩)
 · exact .inr (.inr ⟨h1, h2, by omega⟩)
theorem zend_cases {p : Ps} {C : Nat} {src' : List UInt8} {er : Err} {P : Nat} {X : List UInt8} {v : Value} {pos : Nat} {w : World} (he : Env w C p) (hE : ZEnd p src' er P X v pos) :
 v = errAt p.E ∧ UnzE src' er P X 0 pos ∨ ∃ f : Nat, (binOp .eql 53 v (errAt p.E)).run Tryz.prog w = .ok (.bool false) w ∧ Calls Tryz.prog 28 #[v] w (fun e w' => e = .returned (.int .i64 (f : Int)) ∧ w = w') ∧ ((∃ q, v = errAt q) ∨ ∃ x : Nat, v = corruptAt x) ∧ UnzE src' er P X f pos := by
 have hn := he.nodup
 rcases hE with ⟨rfl, ⟨h2, rfl, h4⟩ | ⟨h2, h3, ⟨h4, rfl⟩ | ⟨h4, rfl⟩⟩⟩ | ⟨rfl, rfl, h3⟩ | ⟨rfl, ⟨x, rfl⟩, h3⟩
 · exact .inr ⟨4, eql_other he (by simp [Ps.all]) (by simp [Ps.all]) (by intro e; simp [Ps.all, e] at hn), faultOf_unx w he, .inl ⟨_, rfl⟩, .inl ⟨rfl, .inl ⟨h2, rfl, h4⟩⟩⟩
 · exact .inl ⟨rfl, .inl ⟨rfl, .inr ⟨h2, h3, by rw [if_pos h4]⟩⟩⟩
 · exact .inr ⟨3, eql_other he (by simp [Ps.all]) (by simp [Ps.all]) (by intro e; simp [Ps.all, e] at hn), faultOf_sum w he, .inl ⟨_, rfl⟩, .inl ⟨rfl, .inr ⟨h2, h3, by rw [if_neg h4]⟩⟩⟩
 · exact .inr ⟨4, eql_other he (by simp [Ps.all]) (by simp [Ps.all]) (by intro e; simp [Ps.all, e] at hn), faultOf_unx w he, .inl ⟨_, rfl⟩, .inr (.inl ⟨rfl, rfl, h3⟩)⟩
 · obtain ⟨ms, hi⟩ := underlyingError; exact .inr ⟨5, run_eql_iface_types (P := Tryz.prog) 88 194 (.int .i64 (x : Int)) (.pointer (some p.E)) hi (by decide) w, faultOf_corrupt w he x, .inr ⟨x, rfl⟩, .inr (.inr ⟨rfl, rfl, h3⟩)⟩
theorem zhead_faults {src D : List UInt8} {f q : Nat} (h : zhead src D = .inl (f, q)) : f = 4 ∨ f = 1 ∨ f = 2 := by
 unfold zhead at h
 split at h
 · injection h with h; injection h; omega
 · split at h
   · injection h with h; injection h; omega
   · split at h
     · split at h
       · injection h with h; injection h; omega
       · split at h
         · simp at h
         · injection h with h; injection h; omega
     · simp at h
theorem zerr_fault {p : Ps} {C : Nat} {w : World} (he : Env w C p) {f : Nat} (hf : f = 4 ∨ f = 1 ∨ f = 2) : ∃ q, zerr p f = errAt q ∧ Calls Tryz.prog 28 #[errAt q] w (fun e w' => e = .returned (.int .i64 (f : Int)) ∧ w = w') := by
 rcases hf with rfl | rfl | rfl
 · exact ⟨_, rfl, faultOf_unx w he⟩
 · exact ⟨_, rfl, faultOf_hdr w he⟩
 · exact ⟨_, rfl, faultOf_dic w he⟩
def ZGot (w : World) (C : Nat) (p : Ps) (base : Option Addr) (src D0 : List UInt8) (sv r err : Value) (wq : World) : Prop :=
 ∃ R, sv = .pointer (some ⟨R, 0, none⟩) ∧ w.heap.size ≤ R ∧ Frm (fun _ _ => False) w wq ∧ Env wq C p ∧
  ((∃ f q, zhead src D0 = .inl (f, q) ∧ r = .nilIface ∧ err = zerr p f ∧ Src wq R base src q) ∨
   ∃ Z q D F d A s, zhead src D0 = .inr (q, D) ∧ r = zrV Z ∧ err = .nilIface ∧ w.heap.size ≤ Z ∧ q ≤ src.length ∧ Hid (RS F C p d (.next ⟨0, 0⟩, tail32 D) (tail32 D).length wq d (tail32 D) 0 (.next ⟨0, 0⟩, tail32 D)) ∧ d.R = R ∧ d.base = base ∧ d.src = src.drop q ∧
    ZR wq Z (rdrZ R) (decV F) (digV A) .nilIface s ∧ Dig wq A [] ∧ ¬ MD F d Z ∧ ¬ MD F d A ∧ A ≠ Z ∧ w.heap.size ≤ A ∧ ∀ b, MD F d b → w.heap.size ≤ b)
theorem zgot_of {w w1 w2 : World} {C : Nat} {p : Ps} {R : Nat} {base : Option Addr} {src D0 : List UInt8} {r err : Value} (hR : w.heap.size ≤ R) (hC : C ≤ w.heap.size) (hf : Frm (fun _ _ => False) w w1) (he : Env w1 C p) (h : ZNew w1 C p R base src D0 (.returned (.tuple #[r, err])) w2) : ZGot w C p base src D0 (.pointer (some ⟨R, 0, none⟩)) r err w2 := by
 have key : Frm (fun b _ => b = R) w1 w2 → Frm (fun _ _ => False) w w2 ∧ Env w2 C p := fun hs => ⟨hf.trans' hs (fun x o hx q => by omega), he.keep hs (fun b o e => by omega)⟩
 rcases h with ⟨f, q, h1, h2, h3, h4⟩ | ⟨Z, q, D, F, d, A, s, h1, h2, h3, h4, h5, h6, h7, h8, h9, h10, h11, h12, h13, h14, h15, h16, h17⟩
 · injection h2 with h2; injection h2 with h2; simp at h2; exact ⟨R, rfl, hR, (key h4).1, (key h4).2, .inl ⟨f, q, h1, h2.1, h2.2, h3⟩⟩
 · injection h2 with h2; injection h2 with h2; simp at h2; exact ⟨R, rfl, hR, (key h16).1, (key h16).2, .inr ⟨Z, q, D, F, d, A, s, h1, h2.1, h2.2, Nat.le_trans hf.size h3, h4, h5, h6, h7, h8, h9, h10, h11, h12, h13, Nat.le_trans hf.size h14, fun b hb => (h17 b hb).elim (fun e => by omega) (fun e => Nat.le_trans hf.size e)⟩⟩
theorem zlib_closeM (n : Nat) (a : Addr) (w : World) : (method (n + 1) 80 (.pointer (some a)) "Close").run Tryz.prog w = .ok (118, .pointer (some a)) w := by kernel_rfl
theorem zlib_closeE (args : Array Value) (w : World) : (callFunc 118 args).run Tryz.prog w = .ok (.enter 118 args) w := by kernel_rfl
set_option maxHeartbeats 4000000 in
theorem unpack_long (w : World) (C : Nat) (p : Ps) (he : Env w C p) (base : Option Addr) (src : List UInt8) (cap : Nat) (hs : Bt w base src cap) (hsl : src.length ≤ 1099511627776) (dbase : Option Addr) (dict : List UInt8) (dcap : Nat) (hd : Bt w dbase dict dcap) (hdl : dict.length ≤ 4294967296) (has : Bool) (hxl : ∀ q D er P X, zhead src (if has then dict else []) = .inr (q, D) → Infl (src.drop q) D er P X → X.length ≤ 52776558133248)
 (sb : Option Addr) (sn sc : Nat) (hsz : Sizes w w.heap.size (fun _ => False) (.slice sb sn sc)) :
 Calls Tryz.prog 14 #[.slice base src.length cap, .slice dbase dict.length dcap, .bool has, .slice sb sn sc] w (UnzPost w src (if has then dict else [])) := by
 have HE := zHi he
 have HS := zHi hs
 have HD := zHi hd
 have HL := zHi (zAi hsl hdl)
 have HZ := zHi hsz
 clear he hs hd hsl hdl hsz
 obtain ⟨DD, hDD⟩ : ∃ DD, DD = if has then dict else [] := ⟨_, rfl⟩
 rw [← hDD] at hxl ⊢
 have HXL := zHi hxl
 clear hxl
 have HDD := zHi hDD
 clear hDD
 obtain ⟨n1, hn1⟩ : ∃ n1, n1 = src.length := ⟨_, rfl⟩
 obtain ⟨n2, hn2⟩ : ∃ n2, n2 = dict.length := ⟨_, rfl⟩
 rw [← hn1, ← hn2]
 have HN := zHi (zAi hn1 hn2)
 clear hn1 hn2
 go_enter Tryz.func14, Tryz.ntmps14
 go_wp2_with fail
 refine (bytesNewReader_any _ _ _ _).mono ?_
 rintro e w1 ⟨rfl, hw1⟩
 obtain ⟨R, hR⟩ : ∃ R, R = w.heap.size := ⟨_, rfl⟩
 rw [← hR]
 have hsrc : Src w1 R base src 0 := by
  rw [← hw1, hR, HN.out.1]; exact newSrc HS.out.bytes HS.out.hcap (by have := HL.out.1; omega) HS.out.lt
 have hf1 : Frm (fun _ _ => False) w w1 := by rw [← hw1]; exact (Frm.refl _ _).alloc _
 have he1 : Env w1 C p := HE.out.keep hf1 (fun _ _ e => e.elim)
 have H1 := zHi (zAi hf1 (zAi he1 (zAi hR.symm HE.out.le)))
 have HNR := zHi (newReaderZ_any w1 C p he1 R base src (by rw [hR]; exact HE.out.le) hsrc (fun a ha => Nat.lt_of_lt_of_le (HS.out.lt a ha) hf1.size))
 clear hw1 hsrc hf1 he1 hR
 go_upto_region 2 with (fail)
 go_cut [12, 13] (fun r err wq => ZGot w C p base src [] (.pointer (some ⟨R, 0, none⟩)) r err wq)
 case first =>
  go_wp2_with fail
  refine HNR.out.mono ?_; intro e w2 hpost; have HP := zHi hpost; rcases hpost with ⟨f, q, _, rfl, _⟩ | ⟨Z, q, D, F, d, A, s, _, rfl, _⟩
  · go_wp2_with fail
    go_meet
    case rel => exact zgot_of (Nat.le_of_eq H1.out.2.2.1) H1.out.2.2.2 H1.out.1 H1.out.2.1 HP.out
  · go_wp2_with fail
    go_meet
    case rel => exact zgot_of (Nat.le_of_eq H1.out.2.2.1) H1.out.2.2.2 H1.out.1 H1.out.2.1 HP.out
 case rest =>
 have HG := zHi hcut
 obtain ⟨w2, rfl⟩ : ∃ x, x = wc := ⟨_, rfl⟩
 clear hcut HNR
 apply_assumption
 go_upto_if 22 with (fail)
 go_cut [11, 12, 13] (fun sv r err wq => ZGot w C p base src DD sv r err wq)
 case first =>
  cases has with
  | false =>
   go_wp2_with fail
   go_meet
   case rel =>
    have hD0 : DD = [] := HDD.out; rw [hD0]; exact HG.out
  | true =>
   go_wp2_with fail
   refine (bytesNewReader_any _ _ _ _).mono ?_; rintro e w3 ⟨rfl, hw3⟩; obtain ⟨R3, hR3⟩ : ∃ R3, R3 = w2.heap.size := ⟨_, rfl⟩; rw [← hR3]; have hF2 : Frm (fun _ _ => False) w w2 := by obtain ⟨_, _, _, h, _⟩ := HG.out; exact h
   have he2 : Env w2 C p := by obtain ⟨_, _, _, _, h, _⟩ := HG.out; exact h
   have hsrc : Src w3 R3 base src 0 := by
    rw [← hw3, hR3, HN.out.1]; exact newSrc (HS.out.keep hF2).bytes HS.out.hcap (by have := HL.out.1; omega) (HS.out.keep hF2).lt
   have hf3 : Frm (fun _ _ => False) w2 w3 := by rw [← hw3]; exact (Frm.refl _ _).alloc _
   have he3 : Env w3 C p := he2.keep hf3 (fun _ _ e => e.elim)
   have hf03 := hF2.trans hf3; have hR3' : w.heap.size ≤ R3 := by rw [hR3]; exact hF2.size
   have hnd := newReaderDictZ_any w3 C p he3 R3 base src (Nat.le_trans HE.out.le hR3') hsrc (fun a ha => Nat.lt_of_lt_of_le (HS.out.lt a ha) hf03.size) dbase dict dcap (HD.out.keep hf03).bytes HD.out.hcap HL.out.2 (fun a ha => by have := HD.out.lt a ha; omega) (fun a ha => Nat.lt_of_lt_of_le (HD.out.lt a ha) hf03.size)
   rw [← HN.out.2] at hnd; have HND := zHi hnd; have H3 := zHi (zAi hf03 (zAi he3 hR3')); clear hw3 hR3 hF2 he2 hsrc hf3 he3 hf03 hR3' hnd; go_wp2_with fail
   refine HND.out.mono ?_; intro e w4 hpost; have HP := zHi hpost; have hD0 : DD = dict := HDD.out; have HD0 := zHi hD0; rcases hpost with ⟨f, q, _, rfl, _⟩ | ⟨Z, q, D, F, d, A, s, _, rfl, _⟩
   · clear hD0; go_wp2_with fail
     go_meet
     case rel => rw [HD0.out]; exact zgot_of H3.out.2.2 HE.out.le H3.out.1 H3.out.2.1 HP.out
   · clear hD0; go_wp2_with fail
     go_meet
     case rel => rw [HD0.out]; exact zgot_of H3.out.2.2 HE.out.le H3.out.1 H3.out.2.1 HP.out
 case rest =>
 clear HG
 obtain ⟨R4, rfl, hR4, hf4, he4, hgot⟩ := hcut
 obtain ⟨w5, rfl⟩ : ∃ x, x = wc := ⟨_, rfl⟩
 have H4 := zHi (zAi hR4 (zAi hf4 he4))
 clear hR4 hf4 he4
 rcases hgot with ⟨f, q, hh, rfl, rfl, hsq⟩ | ⟨Z, q, D, F, d, A, s, hh, rfl, rfl, hrest⟩
 · obtain ⟨x, hx, hfo⟩ := zerr_fault H4.out.2.2 (zhead_faults hh); rw [hx]; have HFO := zHi hfo; have HQ := zHi (zAi hh hsq); clear hx hfo hh hsq; apply_assumption; go_wp2_with fail
   refine HFO.out.mono ?_; rintro e w6 ⟨rfl, rfl⟩; go_wp2_with fail
   refine (len_any _ R4 base src q HQ.out.2).mono ?_; rintro e w7 ⟨rfl, nq2, rfl⟩; go_wp2_with fail
   go_ret3
   exact ⟨_, f, q, [], by unfold Unz; rw [HQ.out.1]; exact ⟨rfl, rfl, rfl⟩, rfl, Row.nil _ _ _ _ _, H4.out.2.1.drewN _⟩
 · obtain ⟨hZ, hq, hRS, hdR, hdb, hds, hz, hdig, hmZ, hmA, hAZ, hA, hM⟩ := hrest; obtain ⟨er, P, X, hinf, hP, hX⟩ := infl_ex (src.drop q) D; have hbl : ∀ a, d.base = some a → a.block < w.heap.size := fun a ha => by rw [hdb] at ha; exact HS.out.lt a ha
   have hCw := HE.out.le; have hRw := H4.out.1; have hlow := hRS.out.low (fun a ha => Nat.lt_of_lt_of_le (hbl a ha) H4.out.2.1.size)
   have hsl := HL.out.1; have htl : (tail32 D).length ≤ 32768 := by unfold tail32; rw [List.length_drop]; omega
   have hfix : ZFix Z A F C w5.heap.size (tail32 D).length p d (.next ⟨0, 0⟩, tail32 D) er P (tail32 D ++ X) :=
    { fin := by rw [hds]; exact hinf
      x0 := start_ok _ (tail32 D)
      low := hlow
      cN := Nat.le_trans hCw H4.out.2.1.size
      zN := cell_lt hz.r
      aN := cell_lt hdig.c
      cZ := Nat.le_trans hCw hZ
      cA := Nat.le_trans hCw hA
      aZ := hAZ
      mdZ := hmZ
      mdA := hmA
      bZ := fun a ha => by have := hbl a ha; omega
      bA := fun a ha => by have := hbl a ha; omega
      k0 := by rw [List.length_append]; omega
      few := by rw [List.length_append]; have := HXL.out _ _ _ _ _ hh hinf; omega }
   have hI : IZ Z A F C (tail32 D).length p d (.next ⟨0, 0⟩, tail32 D) (tail32 D ++ X) (tail32 D).length w5 :=
    ⟨zHi ⟨d, _, _, _, hRS.out⟩, H4.out.2.2, ⟨s, by rw [hdR]; exact hz⟩, by rw [Nat.sub_self, List.take_zero]; exact hdig, Nat.le_refl _, hfix.k0⟩
   have hMw : ∀ b, (MD F d b ∨ b = Z ∨ b = A) → w.heap.size ≤ b := fun b hb => by
    rcases hb with h | h | h
    · exact hM b h
    · omega
    · omega
   have hsz : Sizes w5 w5.heap.size (fun b => MD F d b ∨ b = Z ∨ b = A) (.slice sb sn sc) := by
    rcases HZ.out with h | ⟨SB, so, ln, cap', h1, h2, h3, h4, h5, h6⟩
    · exact .inl h
    · exact .inr ⟨SB, so, ln, cap', h1, h2, h3, Nat.lt_of_lt_of_le h4 H4.out.2.1.size, fun e => by have := hMw _ e; omega, fun j hj => by obtain ⟨u, u1, u2, u3⟩ := h6 j hj; exact ⟨u, u1, u2, H4.out.2.1.keep u3 (fun e => e)⟩⟩
   have hdr := drainL_any w5 80 119 Z _ (tail32 D ++ X) _ _ (zlib_reader hfix) (tail32 D).length hfix.k0 hI hfix.few sb sn sc hsz; have HDR := zHi hdr; have hRZ : R4 ≠ Z := fun e => hmZ (.inr (.inl (by rw [hdR]; exact e.symm)))
   have HX := zHi (zAi hinf (zAi hh (zAi hq (zAi hds (zAi hdR (zAi hdb (zAi hMw (zAi hfix.cZ (zAi hRZ hfix.zN))))))))); clear hZ hq hRS hdR hdb hds hz hdig hmZ hmA hAZ hA hM hinf hP hX hbl hCw hRw hlow hsl htl hfix hI hMw hsz hdr hh hRZ; apply_assumption; go_wp2_with fail
   refine HDR.out.mono ?_; rintro e w6 ⟨v, errv, rfl, hown, hJ, hkind, hf6⟩; have HJ := zHi hJ; obtain ⟨henv, d6, s6, hD6, hsm6, hz6, hE, _⟩ := hJ; obtain ⟨hinf, hh, hq, hds, hdR, hdb, hMw, hCZ, hRZ, hZN⟩ := HX.out; have hsrc : Src w6 R4 base (src.drop q) d6.pos := by
    have := hD6.so; rw [hsm6.R, hsm6.base, hsm6.src, hdR, hdb, hds] at this; exact this
   have hf06 : Frm (fun _ _ => False) w w6 := H4.out.2.1.trans' hf6 (fun x o hx e => by have := hMw x e; omega)
   have hown' : Own w6 w.heap.size v X := by
    have := hown; rw [List.drop_left] at this; exact this.lower H4.out.2.1.size
   rw [hds, List.drop_left] at hE; have hlq : (src.drop q).length - d6.pos = src.length - (q + d6.pos) := by rw [List.length_drop]; omega
   have g0 := henv.eof; have HEND := zHi (zAi hsrc (zAi hf06 (zAi hown' hlq))); rcases zend_cases henv hE with ⟨rfl, hue⟩ | ⟨f, hq2, hfo, hk2, hue⟩
   · have hunz := unz_of hh hq hinf hue; have HU := zHi hunz; have hq3 := fun w => eql_same p.E w
     have HCL := zHi (zclose_any w6 HJ.out hCZ); have hZsrc : R4 ≠ Z ∧ ∀ a, base = some a → a.block ≠ Z := by
      have hz' := hMw Z (.inr (.inl rfl)); exact ⟨hRZ, fun a ha => by have := HS.out.lt a ha; omega⟩
     have HOW := zHi (zAi hown (zAi hZN (hMw Z (.inr (.inl rfl))))); have hm := zlib_closeM; have hen := zlib_closeE; clear hown hE hsm6 hD6 hz6 henv hinf hh hq hds hdR hdb hMw hCZ hRZ hZN hsrc hf06 hown' hlq hue hunz hf6 hkind; go_wp2_with fail
     refine HCL.out.mono ?_; rintro e w7 ⟨rfl, hf7⟩; have HF7 := zHi hf7; clear hf7; go_wp2_with fail
     refine (faultOf_nil _).mono ?_; rintro e w8 ⟨rfl, rfl⟩; go_wp2_with fail
     refine (len_any _ R4 base (src.drop q) d6.pos (HEND.out.1.keep HF7.out (fun o e => hZsrc.1 e) (fun a ha j _ e => hZsrc.2 a ha e))).mono ?_
     rintro e w9 ⟨rfl, nq2, rfl⟩; go_wp2_with fail
     go_ret3
     obtain ⟨ho1, ho2, ho3⟩ := HOW.out; rw [List.drop_left] at ho1; exact ⟨v, 0, q + d6.pos, X, HU.out, congrArg (fun m : Nat => Ending.returned (.tuple #[v, .int .i64 ((0 : Nat) : Int), .int .i64 (m : Int)])) (Nat.sub_sub _ _ _), ((ho1.keep HF7.out (fun g o hg e => by have := (ho1.lt g hg).1; omega)).lower H4.out.2.1.size).drewN _, (HEND.out.2.1.trans' HF7.out (fun x o hx e => by omega)).drewN _⟩
   · have hunz := unz_of hh hq hinf hue; have HU := zHi hunz; have HFO := zHi hfo; clear hown hE hsm6 hD6 hz6 henv hinf hh hq hds hdR hdb hMw hCZ hRZ hZN hsrc hf06 hown' hlq hue hunz hf6 hkind hfo; rcases hk2 with ⟨x, rfl⟩ | ⟨x, rfl⟩
     all_goals
      go_wp2_with fail
      refine HFO.out.mono ?_; rintro e w7 ⟨rfl, rfl⟩; go_wp2_with fail
      refine (len_any _ R4 base (src.drop q) d6.pos HEND.out.1).mono ?_; rintro e w9 ⟨rfl, nq2, rfl⟩; go_wp2_with fail
      go_ret3
      exact ⟨v, f, q + d6.pos, X, HU.out, congrArg (fun m : Nat => Ending.returned (.tuple #[v, .int .i64 (f : Int), .int .i64 (m : Int)])) (Nat.sub_sub _ _ _), HEND.out.2.2.1.drewN _, HEND.out.2.1.drewN _⟩
end Go.Proofs.YthfncdfcklbigaaGreatDoor
namespace Go.Proofs.YthfncdfcklbigaaGreatDoor
open Go.RowKit Flate
set_option maxRecDepth 100000
theorem reads_long (w : World) (C : Nat) (p : Ps) (he : Env w C p) (base : Option Addr) (src : List UInt8) (cap : Nat) (hs : Bt w base src cap) (hsl : src.length ≤ 1099511627776) (dbase : Option Addr) (dict : List UInt8) (dcap : Nat) (hd : Bt w dbase dict dcap) (hdl : dict.length ≤ 4294967296) (has : Bool) (hxl : ∀ q D er P X, zhead src (if has then dict else []) = .inr (q, D) → Infl (src.drop q) D er P X → X.length ≤ 52776558133248)
 (wb : Option Addr) (want : List UInt8) (wc : Nat) (hw : Bt w wb want wc) (hinf : Unz src (if has then dict else []) 0 src.length want) (hne : 0 < src.length) :
 Calls Tryz.prog 16 #[.slice base src.length cap, .slice dbase dict.length dcap, .bool has, .slice wb want.length wc] w fun e w' => e = .returned (.bool true) ∧ Frm (fun _ _ => False) w w' := by
 have HI := zHi (unpack_long w C p he base src cap hs hsl dbase dict dcap hd hdl has hxl none 0 0 (nilSizes _ _ _))
 have HW := zHi hw
 have HF := zHi hinf
 clear he hs hsl hd hdl hw hinf hxl
 obtain ⟨n1, hn1⟩ : ∃ n1, n1 = src.length := ⟨_, rfl⟩
 obtain ⟨n2, hn2⟩ : ∃ n2, n2 = dict.length := ⟨_, rfl⟩
 obtain ⟨n3, hn3⟩ : ∃ n3, n3 = want.length := ⟨_, rfl⟩
 rw [← hn1] at hne
 rw [← hn1, ← hn2] at HI ⊢
 rw [← hn3]
 have HN := zHi (zAi hn1 (zAi hn2 hn3))
 clear hn1 hn2 hn3
 go_enter Tryz.func16, Tryz.ntmps16
 go_wp2_with fail
 refine HI.out.mono ?_
 rintro e w1 ⟨v, f, P, X, hX, rfl, hown, hf⟩
 obtain ⟨rfl, rfl, rfl⟩ := HF.out.unique hX
 obtain ⟨b, cap', rfl, hbt⟩ := hown.bt
 have hsame := same_any w1 b wb X X cap' wc hbt.bytes (HW.out.keep hf).bytes
 rw [← HN.out.2.2, sameB_refl] at hsame
 rw [← HN.out.2.2]
 have e0 : src.length - src.length = 0 := Nat.sub_self _
 rw [e0]
 have HS := zHi hsame
 have HF1 := zHi hf
 clear hX hown hbt hsame hf e0
 go_wp2_with fail
 refine HS.out.mono ?_
 rintro e w2 ⟨rfl, rfl⟩
 go_wp2_with fail
 go_ret
 exact ⟨rfl, HF1.out⟩
end Go.Proofs.YthfncdfcklbigaaGreatDoor
namespace Go.Proofs.YthfncdfcklbigaaGreatDoor
open Flate
def zstream (a b : UInt8) (has : Bool) (D : List UInt8) (L : List Bool) (X : List UInt8) : List UInt8 :=
 a :: b :: ((if has then four (adler D) else []) ++ (pack L ++ four (adler X)))
theorem zstream_len (a b : UInt8) (has : Bool) (D : List UInt8) (L : List Bool) (X : List UInt8) : (zstream a b has D L X).length = 6 + (if has then 4 else 0) + (pack L).length := by
 unfold zstream
 cases has
 · simp [four_len]; omega
 · simp [four_len]; omega
theorem unz_z {a b : UInt8} {has : Bool} {D Dr : List UInt8} {L : List Bool} {X m : List UInt8} (h : hdrOk a b = true) (hb : b.toNat / 32 % 2 = 1 ↔ has = true) (hDr : has = true → Dr = D) (hd : Flate.Data (lastOf (if has then D else [])) L (lastOf (if has then D else []) ++ X)) :
 Unz (zstream a b has D L X ++ m) Dr 0 (zstream a b has D L X).length X := by
 rw [zstream_len]
 cases has with
 | false =>
  have e : zstream a b false D L X ++ m = [a, b] ++ (pack L ++ (four (adler X) ++ m)) := by simp [zstream]
  rw [e]; have := unz_stream (A := [a, b]) (B := pack L) (D := Dr) (D' := []) (X := X) (m := m) (zhead_no h (fun q => by have := hb.1 q; simp at this)) (data_infl hd _)
  have e2 : 6 + (if false = true then 4 else 0) + (pack L).length = [a, b].length + (pack L).length + 4 := by simp; omega
  rw [e2]; exact this
 | true =>
  obtain rfl := hDr rfl; have e : zstream a b true Dr L X ++ m = (a :: b :: four (adler Dr)) ++ (pack L ++ (four (adler X) ++ m)) := by simp [zstream]
  rw [e]; have hz : zhead (a :: b :: (four (adler Dr) ++ (pack L ++ (four (adler X) ++ m)))) Dr = .inr (6, Dr) := by rw [zhead_has h (hb.2 rfl) (adler_lt Dr), if_pos rfl]
  have := unz_stream (A := a :: b :: four (adler Dr)) (B := pack L) (D := Dr) (D' := Dr) (X := X) (m := m) hz (data_infl hd _); have e2 : 6 + (if true = true then 4 else 0) + (pack L).length = (a :: b :: four (adler Dr)).length + (pack L).length + 4 := by simp [four_len]; omega
  rw [e2]; exact this
theorem unz_other {a b : UInt8} {D Dr S : List UInt8} (h : hdrOk a b = true) (hb : b.toNat / 32 % 2 = 1) (hne : adler D ≠ adler Dr) : Unz (a :: b :: (four (adler D) ++ S)) Dr 2 6 [] := by
 unfold Unz
 rw [zhead_has h hb (adler_lt D), if_neg hne]
 exact ⟨rfl, rfl, rfl⟩
theorem infl_more {B m X : List UInt8} {P : Nat} (h : Infl B [] .eof P X) : Infl (B ++ m) [] .eof P X := by
 obtain ⟨e', p', X', k, _, _⟩ := infl_ex (B ++ m) []
 obtain ⟨q, _⟩ := infl_ahead h k
 obtain ⟨rfl, rfl, rfl⟩ := q (by simp)
 exact k
theorem unz_cut {a b : UInt8} {L : List Bool} {X : List UInt8} (h : hdrOk a b = true) (hb : ¬ b.toNat / 32 % 2 = 1) (hd : Flate.Data [] L X) {k : Nat} (hk : k < (zstream a b false [] L X).length) :
 ∃ p Y, Unz ((zstream a b false [] L X).take k) [] 4 p Y ∧ Y.length ≤ X.length := by
 have hd' : Flate.Data (lastOf []) L (lastOf [] ++ X) := hd
 have hi := data_infl hd' []
 rw [List.append_nil] at hi
 rw [zstream_len] at hk
 have e : zstream a b false [] L X = a :: b :: (pack L ++ four (adler X)) := by simp [zstream]
 rw [e]
 match k, hk with
 | 0, _ => exact ⟨0, [], by simp [Unz, zhead], Nat.zero_le _⟩
 | 1, _ => exact ⟨1, [], by simp [Unz, zhead], Nat.zero_le _⟩
 | k + 2, hk =>
  simp only [List.take_succ_cons]; have hl : (pack L ++ four (adler X)).length = (pack L).length + 4 := by rw [List.length_append, four_len]
  simp only [Bool.false_eq_true, if_false] at hk
  by_cases hc : k < (pack L).length
  · have e1 : (pack L ++ four (adler X)).take k = (pack L).take k := by rw [List.take_append_of_le_length (by omega)]
    rw [e1]; obtain ⟨Y, Z, h1, hYZ⟩ := infl_prefix hi hc; refine ⟨2 + k, Y, ?_, by rw [hYZ, List.length_append]; omega⟩
    unfold Unz; rw [zhead_no h hb]; exact ⟨.cut, k, h1, .inr (.inl ⟨rfl, rfl, rfl⟩)⟩
  · have e1 : (pack L ++ four (adler X)).take k = pack L ++ (four (adler X)).take (k - (pack L).length) := by rw [List.take_append, List.take_of_length_le (by omega)]
    refine ⟨(a :: b :: (pack L ++ four (adler X)).take k).length, X, ?_, Nat.le_refl _⟩; unfold Unz; rw [zhead_no h hb]; refine ⟨.eof, (pack L).length, ?_, .inl ⟨rfl, .inl ⟨?_, rfl, rfl⟩⟩⟩
    · show Infl ((pack L ++ four (adler X)).take k) [] .eof _ _
      rw [e1]; exact infl_more hi
    · simp only [List.length_cons, List.length_take, hl]; omega
theorem unz_badhead {a b : UInt8} {S D : List UInt8} (h : hdrOk a b = false) : Unz (a :: b :: S) D 1 2 [] := by
 unfold Unz zhead
 rw [if_neg (by simp), if_pos (by simpa using h)]
 exact ⟨rfl, rfl, rfl⟩
theorem unz_sum {a b : UInt8} {L : List Bool} {X : List UInt8} {c0 c1 c2 c3 : UInt8} (h : hdrOk a b = true) (hb : ¬ b.toNat / 32 % 2 = 1) (hd : Flate.Data [] L X) (hs : be4 c0.toNat c1.toNat c2.toNat c3.toNat ≠ adler X) :
 Unz (a :: b :: (pack L ++ [c0, c1, c2, c3])) [] 3 (6 + (pack L).length) X := by
 have hd' : Flate.Data (lastOf []) L (lastOf [] ++ X) := hd
 have hi := data_infl hd' [c0, c1, c2, c3]
 have hbe : be4At (a :: b :: (pack L ++ [c0, c1, c2, c3])) (2 + (pack L).length) = be4 c0.toNat c1.toNat c2.toNat c3.toNat := by
  have e := fun j => getD_mid ([a, b] ++ pack L) [c0, c1, c2, c3] j
  have el : ([a, b] ++ pack L).length = 2 + (pack L).length := by simp; omega
  have e0 := e 0; rw [Nat.add_zero] at e0; have ea : a :: b :: (pack L ++ [c0, c1, c2, c3]) = [a, b] ++ pack L ++ [c0, c1, c2, c3] := by simp
  unfold be4At; rw [ea, ← el, e0, e 1, e 2, e 3]; rfl
 unfold Unz
 rw [zhead_no h hb]
 refine ⟨.eof, (pack L).length, hi, .inl ⟨rfl, .inr ⟨?_, by omega, ?_⟩⟩⟩
 · simp; omega
 · rw [hbe, if_neg hs]
theorem be4_ne {x0 x1 x2 x3 y0 y1 y2 y3 : UInt8} (h : be4 x0.toNat x1.toNat x2.toNat x3.toNat = be4 y0.toNat y1.toNat y2.toNat y3.toNat) : x0 = y0 ∧ x1 = y1 ∧ x2 = y2 ∧ x3 = y3 := by
 have a0 := x0.toNat_lt; have a1 := x1.toNat_lt; have a2 := x2.toNat_lt; have a3 := x3.toNat_lt
 have b0 := y0.toNat_lt; have b1 := y1.toNat_lt; have b2 := y2.toNat_lt; have b3 := y3.toNat_lt
 unfold be4 at h
 exact ⟨UInt8.toNat_inj.1 (by omega), UInt8.toNat_inj.1 (by omega), UInt8.toNat_inj.1 (by omega), UInt8.toNat_inj.1 (by omega)⟩
theorem four_be4 (n : Nat) (h : n < 4294967296) : ∃ c0 c1 c2 c3 : UInt8, four n = [c0, c1, c2, c3] ∧ be4 c0.toNat c1.toNat c2.toNat c3.toNat = n := ⟨_, _, _, _, rfl, be4_four n h⟩
theorem unz_flip {a b : UInt8} {L : List Bool} {X : List UInt8} (h : hdrOk a b = true) (hb : ¬ b.toNat / 32 % 2 = 1) (hd : Flate.Data [] L X) {j : Nat} (hj : j < 4) {y : UInt8} (hy : y ≠ (zstream a b false [] L X).getD ((zstream a b false [] L X).length - 1 - j) 0) :
 Unz ((zstream a b false [] L X).set ((zstream a b false [] L X).length - 1 - j) y) [] 3 (6 + (pack L).length) X := by
 obtain ⟨c0, c1, c2, c3, hf, hn⟩ := four_be4 (adler X) (adler_lt X)
 have e : zstream a b false [] L X = ([a, b] ++ pack L) ++ [c0, c1, c2, c3] := by simp [zstream, hf]
 have el : ([a, b] ++ pack L).length = 2 + (pack L).length := by simp; omega
 have es : (([a, b] ++ pack L) ++ [c0, c1, c2, c3]).length - 1 - j = ([a, b] ++ pack L).length + (3 - j) := by rw [List.length_append]; simp only [List.length_cons, List.length_nil]; omega
 rw [e, es, getD_mid] at hy
 rw [e, es, List.set_append_right _ _ (by omega), Nat.add_sub_cancel_left]
 have fin : ∀ d0 d1 d2 d3 : UInt8, [c0, c1, c2, c3].set (3 - j) y = [d0, d1, d2, d3] → ¬ (d0 = c0 ∧ d1 = c1 ∧ d2 = c2 ∧ d3 = c3) → Unz ([a, b] ++ pack L ++ [c0, c1, c2, c3].set (3 - j) y) [] 3 (6 + (pack L).length) X := by
  intro d0 d1 d2 d3 h1 h2; rw [h1]; have := unz_sum (c0 := d0) (c1 := d1) (c2 := d2) (c3 := d3) h hb hd (fun q => h2 (be4_ne (q.trans hn.symm)))
  have ea : a :: b :: (pack L ++ [d0, d1, d2, d3]) = [a, b] ++ pack L ++ [d0, d1, d2, d3] := by simp
  rw [ea] at this; exact this
 match j, hj with
 | 0, _ => exact fin c0 c1 c2 y rfl (fun q => hy q.2.2.2)
 | 1, _ => exact fin c0 c1 y c3 rfl (fun q => hy q.2.2.1)
 | 2, _ => exact fin c0 y c2 c3 rfl (fun q => hy q.2.1)
 | 3, _ => exact fin y c1 c2 c3 rfl (fun q => hy q.1)
theorem zhead_prefix {a b : UInt8} {S : List UInt8} {k : Nat} (h : hdrOk a b = true) (hb : ¬ b.toNat / 32 % 2 = 1) (hk : 2 ≤ k) : zhead ((a :: b :: S).take k) [] = .inr (2, []) := by
 match k, hk with
 | k + 2, _ =>
  simp only [List.take_succ_cons]; exact zhead_no h hb
end Go.Proofs.YthfncdfcklbigaaGreatDoor
namespace Go.Proofs.YthfncdfcklbigaaGreatDoor
open Flate
set_option maxRecDepth 100000
theorem sstep_two (src : List UInt8) (c : Cfg) (H K : List UInt8) :
 ((sstep src (c, H)).1 = (sstep src (c, K)).1 ∧ ∃ n, (sstep src (c, H)).2.length = H.length + n ∧ (sstep src (c, K)).2.length = K.length + n) ∨ (∃ p, sstep src (c, H) = (.done .corrupt p, H)) ∨ ∃ p, sstep src (c, K) = (.done .corrupt p, K) := by
 have st : ∀ last pos n, ((stRest src last pos n H).1 = (stRest src last pos n K).1 ∧ ∃ m, (stRest src last pos n H).2.length = H.length + m ∧ (stRest src last pos n K).2.length = K.length + m) := by
  intro last pos n; unfold stRest; split
  · exact ⟨rfl, _, by rw [List.length_append], by rw [List.length_append]⟩
  · exact ⟨rfl, _, by rw [List.length_append], by rw [List.length_append]⟩
 cases c with
 | done e p => exact .inl ⟨rfl, 0, rfl, rfl⟩
 | next r =>
  refine .inl ?_
  show (nextStep src r H).1 = (nextStep src r K).1 ∧ ∃ n, (nextStep src r H).2.length = H.length + n ∧ (nextStep src r K).2.length = K.length + n
  unfold nextStep
  cases hf : fill src.length 3 r with
  | mk t r1 =>
   cases t with
   | false => exact ⟨rfl, 0, rfl, rfl⟩
   | true =>
    simp only; split
    · unfold storedStep; split
      · exact ⟨rfl, 0, rfl, rfl⟩
      · split
        · exact ⟨rfl, 0, rfl, rfl⟩
        · exact st _ _ _
    · split
      · exact ⟨rfl, 0, rfl, rfl⟩
      · split
        · cases readHuff src { r1 with at_ := r1.at_ + 3 } with
          | bad e r' => exact ⟨rfl, 0, rfl, rfl⟩
          | ok v r3 => exact ⟨rfl, 0, rfl, rfl⟩
        · exact ⟨rfl, 0, rfl, rfl⟩
 | huff last r T D =>
  show ((huffStep src last r T D H).1 = (huffStep src last r T D K).1 ∧ ∃ n, (huffStep src last r T D H).2.length = H.length + n ∧ (huffStep src last r T D K).2.length = K.length + n) ∨ (∃ p, huffStep src last r T D H = (.done .corrupt p, H)) ∨ ∃ p, huffStep src last r T D K = (.done .corrupt p, K)
  unfold huffStep
  cases symbol src T r with
  | bad e r' => exact .inl ⟨rfl, 0, rfl, rfl⟩
  | ok v r1 =>
   simp only
   by_cases h1 : v < 256
   · rw [if_pos h1, if_pos h1]; exact .inl ⟨rfl, 1, by simp, by simp⟩
   · rw [if_neg h1, if_neg h1]
     by_cases h2 : v = 256
     · rw [if_pos h2, if_pos h2]; exact .inl ⟨rfl, 0, rfl, rfl⟩
     · rw [if_neg h2, if_neg h2]
       cases pair src D v r1 with
       | bad e r' => exact .inl ⟨rfl, 0, rfl, rfl⟩
       | ok nd r' =>
        obtain ⟨n, d⟩ := nd; simp only
        by_cases h3 : H.length < d
        · rw [if_pos h3]; exact .inr (.inl ⟨_, rfl⟩)
        · by_cases h4 : K.length < d
          · rw [if_pos h4]; exact .inr (.inr ⟨_, rfl⟩)
          · rw [if_neg h3, if_neg h4]; exact .inl ⟨rfl, n, lz_length _ _ _, lz_length _ _ _⟩
theorem sstep_grows (src : List UInt8) (c : Cfg) (H : List UInt8) : H.length ≤ (sstep src (c, H)).2.length := by
 rcases sstep_two src c H H with ⟨_, n, h, _⟩ | ⟨p, h⟩ | ⟨p, h⟩
 · omega
 · rw [h]; exact Nat.le_refl _
 · rw [h]; exact Nat.le_refl _
theorem reach_grows {src : List UInt8} {x y : Cfg × List UInt8} (h : Flate.Reach src x y) : x.2.length ≤ y.2.length := by
 induction h with
 | refl => exact Nat.le_refl _
 | @step c d _ ih => exact Nat.le_trans (sstep_grows src c.1 c.2) ih
theorem reach_two {src : List UInt8} {x y : Cfg × List UInt8} (h : Flate.Reach src x y) : ∀ {p : Nat} {F : List UInt8}, y = (.done .eof p, F) → ∀ {K : List UInt8} {f : Err} {q : Nat} {G : List UInt8}, Flate.Reach src (x.1, K) (.done f q, G) → G.length + x.2.length ≤ F.length + K.length := by
 induction h with
 | refl c =>
  intro p F hy K f q G k; subst hy; have := k.done; simp only [Prod.mk.injEq] at this; rw [this.2]; simp only; omega
 | @step c d hd ih =>
  intro p F hy K f q G k; have hg := reach_grows hd; have k2 := k.back (Flate.Reach.one src (c.1, K)); rcases sstep_two src c.1 c.2 K with ⟨h1, n, h2, h3⟩ | ⟨p', h1⟩ | ⟨p', h1⟩
  · have e : sstep src (c.1, K) = ((sstep src c).1, (sstep src (c.1, K)).2) := by
     have h1' : (sstep src c).1 = (sstep src (c.1, K)).1 := h1; rw [h1']
    rw [e] at k2; have := ih hy k2; have h2' : (sstep src c).2.length = c.2.length + n := h2; omega
  · have h1' : sstep src c = (.done .corrupt p', c.2) := h1; rw [h1'] at hd; have := hd.done; rw [hy] at this; simp at this
  · rw [h1] at k2; have := k2.done; simp only [Prod.mk.injEq] at this; have e := this.2; have hs := sstep_grows src c.1 c.2; have hs' : c.2.length ≤ (sstep src c).2.length := hs; rw [hy] at hg; simp only at hg; rw [e]; omega
theorem infl_two {src D E : List UInt8} {p q : Nat} {f : Err} {X Y : List UInt8} (h : Infl src D .eof p X) (k : Infl src E f q Y) : Y.length ≤ X.length := by
 have h' : Flate.Reach src (Flate.start (lastOf D)) (.done .eof p, lastOf D ++ X) := h
 have k' : Flate.Reach src ((Flate.start (lastOf D)).1, lastOf E) (.done f q, lastOf E ++ Y) := k
 have := reach_two h' rfl k'
 simp only [Flate.start, List.length_append] at this
 omega
theorem infl_four {B m X : List UInt8} {P : Nat} (h : Infl (B ++ m) [] .eof P X) : be4At (B ++ m) 0 ≠ 1 ∨ (B ++ m).length < 5 := by
 by_cases hl : (B ++ m).length < 5
 · exact .inr hl
 refine .inl fun hb => ?_
 obtain ⟨S, hS⟩ : ∃ S, S = B ++ m := ⟨_, rfl⟩
 rw [← hS] at h hb hl
 obtain ⟨a, b, c, d, e, l, rfl⟩ : ∃ a b c d e l, S = a :: b :: c :: d :: e :: l := by
  rcases S with _ | ⟨a, S⟩
  · simp at hl
  rcases S with _ | ⟨b, S⟩
  · simp at hl
  rcases S with _ | ⟨c, S⟩
  · simp at hl
  rcases S with _ | ⟨d, S⟩
  · simp at hl
  rcases S with _ | ⟨e, S⟩
  · simp at hl
  exact ⟨a, b, c, d, e, S, rfl⟩
 have hb' : be4 a.toNat b.toNat c.toNat d.toNat = 1 := hb
 have h1 : (1 : Nat) = be4 (0 : UInt8).toNat (0 : UInt8).toNat (0 : UInt8).toNat (1 : UInt8).toNat := by decide
 obtain ⟨rfl, rfl, rfl, rfl⟩ := be4_ne (hb'.trans h1)
 have h' : Flate.Reach (0 :: 0 :: 0 :: 1 :: e :: l) (Flate.start (lastOf [])) (.done .eof P, lastOf [] ++ X) := h
 have k := h'.back (Flate.Reach.one _ _)
 have s := stored_first false 0 0 1 e l (lastOf [])
 simp only [Bool.false_eq_true, if_false] at s
 have he := e.toNat_lt
 have z0 : (0 : UInt8).toNat = 0 := rfl
 have z1 : (1 : UInt8).toNat = 1 := rfl
 rw [s, if_pos (by rw [z0, z1]; omega)] at k
 have := k.done
 simp at this
theorem unz_asks {a' b' : UInt8} {L : List Bool} {X : List UInt8} (h : hdrOk a' b' = true) (hb' : b'.toNat / 32 % 2 = 1) (hd : Flate.Data [] L X) (hpos : 0 < (pack L).length) : ∃ f p, Unz (a' :: b' :: (pack L ++ four (adler X))) [] f p [] ∧ f ≠ 1 := by
 have hd' : Flate.Data (lastOf []) L (lastOf [] ++ X) := hd
 have hi := data_infl hd' (four (adler X))
 unfold Unz zhead
 rw [if_neg (by simp), if_neg (by simp [h]), if_pos (by exact hb')]
 by_cases hl : (a' :: b' :: (pack L ++ four (adler X))).length < 6
 · rw [if_pos hl]; exact ⟨4, _, ⟨rfl, rfl, rfl⟩, by omega⟩
 · rw [if_neg hl]; have e : be4At (a' :: b' :: (pack L ++ four (adler X))) 2 = be4At (pack L ++ four (adler X)) 0 := rfl; have hne : be4At (pack L ++ four (adler X)) 0 ≠ 1 := by
    rcases infl_four hi with q | q
    · exact q
    · exfalso
      simp only [List.length_append, four_len] at q; omega
   rw [e, if_neg (show ¬ be4At (pack L ++ four (adler X)) 0 = adler [] from hne)]
   exact ⟨2, 6, ⟨rfl, rfl, rfl⟩, by omega⟩
def hdrJ (A B : Nat) : Nat := (31 - (A * 256 + B) % 31) % 31
theorem hdrOk_nat {A B : Nat} (hA : A < 256) (hB : B < 256) : hdrOk (UInt8.ofNat A) (UInt8.ofNat B) = decide (A % 16 = 8 ∧ A / 16 ≤ 7 ∧ (A * 256 + B) % 31 = 0) := by
 unfold hdrOk
 rw [show (UInt8.ofNat A).toNat = A by simp; omega, show (UInt8.ofNat B).toNat = B by simp; omega]
theorem hdr_found {k B : Nat} (hk : k < 8) (hB : B + 30 < 256) : hdrOk (UInt8.ofNat (8 + 16 * k)) (UInt8.ofNat (B + hdrJ (8 + 16 * k) B)) = true ∧ hdrJ (8 + 16 * k) B ≤ 30 := by
 have hj : hdrJ (8 + 16 * k) B ≤ 30 := by unfold hdrJ; omega
 refine ⟨?_, hj⟩
 rw [hdrOk_nat (by omega) (by omega)]
 simp only [decide_eq_true_eq]
 unfold hdrJ
 omega
theorem hdr_before {k B j : Nat} (hk : k < 8) (hB : B + 30 < 256) (hj : j < hdrJ (8 + 16 * k) B) : hdrOk (UInt8.ofNat (8 + 16 * k)) (UInt8.ofNat (B + j)) = false := by
 have hj' : hdrJ (8 + 16 * k) B ≤ 30 := by unfold hdrJ; omega
 rw [hdrOk_nat (by omega) (by omega)]
 simp only [decide_eq_false_iff_not]
 unfold hdrJ at hj
 omega
theorem unz_little : Unz [0x78, 0x9c, 3, 0, 0, 0, 0, 1] [] 0 8 [] := by
 have hb : Blk 0 [] true ([true] ++ enc 1 2 ++ bodyBits fixedLens fixedDist []) (toksRun [] []) := .fixed trivial
 have hd : Flate.Data [] ([true] ++ enc 1 2 ++ bodyBits fixedLens fixedDist []) [] := ⟨[], [], _, rfl, .nil, hb⟩
 have hp : pack ([true] ++ enc 1 2 ++ bodyBits fixedLens fixedDist []) = [3, 0] := by decide +kernel
 have hz : zstream 0x78 0x9c false [] ([true] ++ enc 1 2 ++ bodyBits fixedLens fixedDist []) [] = [0x78, 0x9c, 3, 0, 0, 0, 0, 1] := by
  unfold zstream; rw [hp]; rfl
 have := unz_z (a := 0x78) (b := 0x9c) (has := false) (D := []) (Dr := []) (X := []) (m := []) (by decide) (by decide) (fun q => by simp at q) (L := [true] ++ enc 1 2 ++ bodyBits fixedLens fixedDist []) hd
 rw [hz] at this
 exact this
theorem unz_hxl {src D : List UInt8} {f p : Nat} {X : List UInt8} (h : Unz src D f p X) (hl : X.length ≤ 52776558133248) : ∀ q D' er P Y, zhead src D = .inr (q, D') → Infl (src.drop q) D' er P Y → Y.length ≤ 52776558133248 := by
 intro q D' er P Y hz hi
 unfold Unz at h
 rw [hz] at h
 obtain ⟨er', P', h1, _⟩ := h
 obtain ⟨_, _, e⟩ := h1.unique hi
 rw [e]; exact hl
theorem zs_two {a b : UInt8} {D E X : List UInt8} {L : List Bool} (h : hdrOk a b = true) (hb : b.toNat / 32 % 2 = 1) (hd : Flate.Data (lastOf D) L (lastOf D ++ X)) : ∀ q D' er P Y, zhead (zstream a b true D L X) E = .inr (q, D') → Infl ((zstream a b true D L X).drop q) D' er P Y → Y.length ≤ X.length := by
 intro q D' er P Y hz hi
 have e : zstream a b true D L X = a :: b :: (four (adler D) ++ (pack L ++ four (adler X))) := rfl
 rw [e, zhead_has h hb (adler_lt D)] at hz
 split at hz
 · simp only [Sum.inr.injEq, Prod.mk.injEq] at hz; obtain ⟨rfl, rfl⟩ := hz; have e2 : (zstream a b true D L X).drop 6 = pack L ++ four (adler X) := rfl; rw [e2] at hi; exact infl_two (data_infl hd _) hi
 · simp at hz
end Go.Proofs.YthfncdfcklbigaaGreatDoor
namespace Go.Proofs.YthfncdfcklbigaaGreatDoor
open Go.RowKit Go.IntWalk Flate
set_option maxRecDepth 100000
theorem little_any (w : World) (C : Nat) (p : Ps) (he : Env w C p) :
 Calls Tryz.prog 16 #[.slice (some ⟨w.heap.size, 0, none⟩) 8 8, .slice none 0 0, .bool false, .slice none 0 0] (w.alloc (.cells #[.int .u8 120, .int .u8 156, .int .u8 3, .int .u8 0, .int .u8 0, .int .u8 0, .int .u8 0, .int .u8 1] 5)) fun e w' => e = .returned (.bool true) ∧ Frm (fun _ _ => False) w w' := by
 have hf : Frm (fun _ _ => False) w (w.alloc (.cells #[.int .u8 120, .int .u8 156, .int .u8 3, .int .u8 0, .int .u8 0, .int .u8 0, .int .u8 0, .int .u8 1] 5)) := (Frm.refl _ _).alloc _
 have hb := bytes_new w #[.int .u8 120, .int .u8 156, .int .u8 3, .int .u8 0, .int .u8 0, .int .u8 0, .int .u8 0, .int .u8 1] 5 [0x78, 0x9c, 3, 0, 0, 0, 0, 1] (fun j hj => by
  match j, hj with
  | 0, _ => rfl
  | 1, _ => rfl
  | 2, _ => rfl
  | 3, _ => rfl
  | 4, _ => rfl
  | 5, _ => rfl
  | 6, _ => rfl
  | 7, _ => rfl)
 have := reads_long (w.alloc (.cells #[.int .u8 120, .int .u8 156, .int .u8 3, .int .u8 0, .int .u8 0, .int .u8 0, .int .u8 0, .int .u8 1] 5)) C p (he.keep hf (fun _ _ e => e.elim)) (some ⟨w.heap.size, 0, none⟩) [0x78, 0x9c, 3, 0, 0, 0, 0, 1] 8 ⟨hb, by simp, fun a ha => by obtain rfl := Option.some.inj ha; simp, by simp⟩ (by simp) none [] 0 (bt_nil _) (by simp) false (unz_hxl unz_little (by simp)) none [] 0 (bt_nil _) unz_little (by simp)
 exact this.mono fun e w' ⟨h1, h2⟩ => ⟨h1, hf.trans h2⟩
end Go.Proofs.YthfncdfcklbigaaGreatDoor
