/-
  THE WALKS OF 'bytes.NewReader', 'Len' AND 'drain', which reads to the end, whatever the reader.
-/
import Derived.Test.YthfncdfcklbigaaDoorOwn
import Derived.Test.YthfncdfcklbigaaDoorState
import Derived.IntWalk
import Derived.Test.YthfncdfcklbigaaDoorMade
set_option linter.unusedVariables false
set_option linter.unusedSimpArgs false
namespace Go.Proofs.YthfncdfcklbigaaDoor
open Go.RowKit Go.IntWalk Flate
set_option maxRecDepth 100000

theorem bytesNewReader_any (w : World) (base : Option Addr) (n cap : Nat) :
    Calls Tryd.prog 33 #[.slice base n cap] w fun e w' => e = .returned (.pointer (some ⟨w.heap.size, 0, none⟩)) ∧ w.alloc (.cells #[.slice base n cap, .int .i64 0, .int .i64 (-1)] 99) = w' := by
  go_enter Tryd.func33, Tryd.ntmps33
  go_wp2
  go_ret
  exact ⟨rfl, rfl⟩

/-- A new source. -/
theorem newSrc {w : World} {base : Option Addr} {src : List UInt8} {cap : Nat} (hb : Bytes w base src) (hcap : src.length ≤ cap) (hlen : src.length ≤ 1099511627776) (hlt : ∀ a, base = some a → a.block < w.heap.size) :
    Src (w.alloc (.cells #[.slice base src.length cap, .int .i64 0, .int .i64 (-1)] 99)) w.heap.size base src 0 := by
  have hc : ∀ o, (w.alloc (.cells #[.slice base src.length cap, .int .i64 0, .int .i64 (-1)] 99)).cell? ⟨w.heap.size, o, none⟩ = (#[.slice base src.length cap, .int .i64 0, .int .i64 (-1)] : Array Value)[o]? := fun o => cells_at (heap_alloc_new w _)
  refine ⟨⟨cap, 0, src.length, 0, by omega, rfl, (hc 0).trans rfl, hcap, (hc 1).trans rfl, ?_, hlen⟩, ⟨_, (hc 2).trans rfl⟩, fun o => World.frozen?_alloc_new (w := w) .., Nat.zero_le _, hlen, fun a ha e => ?_⟩
  · have hb' := hb.keep (S := fun _ _ => False) ((Frm.refl _ _).alloc (.cells #[.slice base src.length cap, .int .i64 0, .int .i64 (-1)] 99)) (fun a ha j _ e => e)
    cases base with
    | none => exact ⟨hb', rfl⟩
    | some a => exact ⟨hb'.1, fun j hj => by rw [Nat.zero_add]; exact hb'.2 j hj⟩
  · have := hlt a ha; omega

theorem len_any (w : World) (R : Nat) (base : Option Addr) (src : List UInt8) (pos : Nat) (h : Src w R base src pos) :
    Calls Tryd.prog 38 #[.pointer (some ⟨R, 0, none⟩)] w fun e w' => e = .returned (.int .i64 ((src.length - pos : Nat) : Int)) ∧ ∃ n, w' = w.drewN n := by
  obtain ⟨⟨cap, off, N, Q, hNN, hQQ, hs, hcap, hi, _, hN2⟩, _, _, hle, hfew, _⟩ := h
  have hNQ : src.length - pos = N - Q := by omega
  have hQN : Q ≤ N := by omega
  rw [hNQ]
  clear hNN hQQ hNQ hle hfew
  by_cases hq : N ≤ Q
  · have e1 : N - Q = 0 := by omega
    rw [e1]
    have hd : decide (N ≤ Q) = true := by simp; omega
    go_enter Tryd.func38, Tryd.ntmps38
    go_wp2_with fail
    (go_quiet (fail))
    go_wp2_with fail
    go_ret
    exact ⟨rfl, nq, rfl⟩
  · have hd : decide (N ≤ Q) = false := by simp; omega
    obtain ⟨q, hqq⟩ : ∃ q, q = N - Q := ⟨_, rfl⟩
    rw [← hqq]
    have b1 : (N : Int) ≤ 1099511627776 := by omega
    have b2 : (Q : Int) ≤ (N : Int) := by omega
    have e1 : IntKind.i64.wrap ((N : Int) - (Q : Int)) = (q : Int) := by
      rw [i64_in _ (by omega)]; omega
    have E1 := Lib.hid e1
    have HQ := Lib.hid hqq
    clear e1 hqq hq hQN hN2
    go_enter Tryd.func38, Tryd.ntmps38
    go_wp2_with fail
    (go_quiet (fail))
    go_wp2_with fail
    (go_quiet (fail))
    go_wp2_with fail
    go_ret
    refine ⟨?_, _, World.drewN_drewN _ _ _⟩
    exact congrArg (fun z => Ending.returned (.int .i64 z)) (by have := HQ.out; omega : (N : Int) - (Q : Int) = (q : Int))

/-! ### What is asked of a reader -/

/-- What 'Read' of a reader gives that has k of its bytes FH behind it. -/
def RdPost (M : Nat → Prop) (FH : List UInt8) (I : Nat → World → Prop) (J : Value → World → Prop) (k BX L : Nat) (w : World) (e : Ending) (w' : World) : Prop :=
  ∃ (m : Nat) (errv : Value), e = .returned (.tuple #[.int .i64 (m : Int), errv]) ∧ m ≤ L ∧ Frm (fun b _ => M b ∨ b = BX) w w' ∧ (∀ j, j < m → w'.cell? ⟨BX, j, none⟩ = some (byteV (FH.getD (k + j) 0))) ∧
    (errv = .nilIface ∧ 1 ≤ m ∧ k + m ≤ FH.length ∧ I (k + m) w' ∨ ((∃ q, errv = errAt q) ∨ ∃ x : Nat, errv = corruptAt x) ∧ k + m = FH.length ∧ J errv w')

/-- A buffer that is new. -/
structure NewBuf (w : World) (N0 BX L : Nat) : Prop where
  lo : N0 ≤ BX
  cell : ∀ j, j < L → ∃ u : UInt8, w.cell? ⟨BX, j, none⟩ = some (byteV u)
  all : ByteBlock w BX
  froz : ∀ j, w.frozen? ⟨BX, j, none⟩ = false

/-- A reader: its method 'Read', function fn of the type T; what lies in it (M: its blocks, all below N0). -/
structure Reader (T fn F N0 : Nat) (M : Nat → Prop) (FH : List UInt8) (I : Nat → World → Prop) (J : Value → World → Prop) : Prop where
  meth : ∀ (n : Nat) (a : Addr) (w : World), (method (n + 1) T (.pointer (some a)) "Read").run Tryd.prog w = .ok (fn, .pointer (some a)) w
  enter : ∀ (args : Array Value) (w : World), (callFunc fn args).run Tryd.prog w = .ok (.enter fn args) w
  low : ∀ b, M b → b < N0
  read : ∀ (k : Nat) (w : World) (BX L cap : Nat), I k w → NewBuf w N0 BX L → 1 ≤ L → L ≤ 1048576 → Calls Tryd.prog fn #[.pointer (some ⟨F, 0, none⟩), .slice (some ⟨BX, 0, none⟩) L cap] w (RdPost M FH I J k BX L w)
  keep : ∀ (k : Nat) (w w' : World), I k w → Frm (fun b _ => N0 ≤ b ∧ ByteBlock w b) w w' → I k w'
  keepJ : ∀ (v : Value) (w w' : World), J v w → Frm (fun b _ => N0 ≤ b ∧ ByteBlock w b) w w' → J v w'

abbrev SBy' (w : World) (N0 : Nat) (b _ : Nat) : Prop := N0 ≤ b ∧ ByteBlock w b

/-- How many bytes are asked for: nothing is said, or numbers from 1 to 1000. -/
def Sizes (w : World) (N0 : Nat) (M : Nat → Prop) (v : Value) : Prop :=
  (∃ zb zc, v = .slice zb 0 zc) ∨ ∃ SB so ln cap, v = .slice (some ⟨SB, so, none⟩) ln cap ∧ 1 ≤ ln ∧ ln ≤ 2147483647 ∧ SB < N0 ∧ ¬ M SB ∧ ∀ j, j < ln → ∃ u : Nat, 1 ≤ u ∧ u ≤ 1000 ∧ w.cell? ⟨SB, so + j, none⟩ = some (.int .i64 (u : Int))

/-- What 'drain' gives. -/
def Drained (N0 : Nat) (M : Nat → Prop) (FH : List UInt8) (k0 : Nat) (J : Value → World → Prop) (w : World) (e : Ending) (w' : World) : Prop :=
  ∃ v errv, e = .returned (.tuple #[v, errv]) ∧ Own w' N0 v (FH.drop k0) ∧ J errv w' ∧ ((∃ q, errv = errAt q) ∨ ∃ x : Nat, errv = corruptAt x) ∧ Frm (fun b _ => M b) w w'

theorem run_head (BX L m : Nat) (hm : m ≤ L) (w : World) : (Instr.sliceAt 22 (.slice (some ⟨BX, 0, none⟩) L L) none (some (.int .i64 (m : Int))) none).run Tryd.prog w = .ok (.slice (some ⟨BX, 0, none⟩) m L) w := by
  have hsz : ∀ w : World, (sizeOf (Tryd.prog.elem 22)).run Tryd.prog w = .ok 1 w := fun w => by kernel_rfl
  have hu : Tryd.prog.underlying 22 = some (.slice (Tryd.prog.elem 22)) := by kernel_rfl
  rw [run_sliceAt_slice w _ _ _ _ _ hu, run_slice_h w _ _ _ _ hu _ _ (by omega) (by omega), hsz]
  simp only [Result.andThen, sliced, Int.toNat_natCast, Nat.sub_zero]
  by_cases h : L = 0
  · rw [if_pos h]
  · rw [if_neg h]; simp [Addr.add]

/-- A loop's head. -/
def DrInv (N0 : Nat) (M : Nat → Prop) (FH : List UInt8) (k0 : Nat) (I : Nat → World → Prop) (w : World) (g : Nat) (out i : Value) (wr : World) : Prop :=
  ∃ k n : Nat, k0 ≤ k ∧ k ≤ FH.length ∧ n ≤ k ∧ g = FH.length + 1 - k ∧ i = .int .i64 (n : Int) ∧ Own wr N0 out ((FH.drop k0).take (k - k0)) ∧ I k wr ∧ Frm (fun b _ => M b) w wr

theorem take_more (l : List UInt8) (a m : Nat) (h : a + m ≤ l.length) : l.take a ++ (List.range m).map (fun j => l.getD (a + j) 0) = l.take (a + m) := by
  apply List.ext_getElem
  · simp; omega
  · intro i h1 h2
    simp only [List.length_append, List.length_take, List.length_map, List.length_range] at h1
    by_cases hi : i < a
    · rw [List.getElem_append_left (by simp; omega)]; simp
    · rw [List.getElem_append_right (by simp; omega)]
      simp only [List.getElem_map, List.getElem_range, List.length_take, List.getElem_take]
      rw [List.getD_eq_getElem?_getD, List.getElem?_eq_getElem (by omega)]
      simp only [Option.getD_some]
      congr 1; omega

set_option maxHeartbeats 4000000 in
theorem drain_any (w : World) (T fn F : Nat) (M : Nat → Prop) (FH : List UInt8) (I : Nat → World → Prop) (J : Value → World → Prop) (hR : Reader T fn F w.heap.size M FH I J) (k0 : Nat) (hk0 : k0 ≤ FH.length) (hI : I k0 w) (hlen : FH.length ≤ 70368744177664)
    (sb : Option Addr) (sn sc : Nat) (hsz : Sizes w w.heap.size M (.slice sb sn sc)) : Calls Tryd.prog 36 #[.iface T (.pointer (some ⟨F, 0, none⟩)), .slice sb sn sc] w (Drained w.heap.size M FH k0 J w) := by
  have HR := Lib.hid hR
  have HI := Lib.hid hI
  have HSZ := Lib.hid hsz
  have HK := Lib.hid (And.intro hk0 hlen)
  obtain ⟨N0, hN0⟩ : ∃ N0, N0 = w.heap.size := ⟨_, rfl⟩
  have HN0 := Lib.hid hN0
  rw [← hN0] at HR HSZ ⊢
  have hmeth := HR.out.meth
  have henter := HR.out.enter
  clear hR hI hsz hk0 hlen hN0
  go_enter Tryd.func36, Tryd.ntmps36
  go_wp2_with fail
  go_loopg [6, 7] (FH.length + 1 - k0) (fun gk out i wr => DrInv N0 M FH k0 I w gk out i wr)
  case atStart => exact ⟨k0, 0, Nat.le_refl _, HK.out.1, Nat.zero_le _, rfl, rfl, by rw [Nat.sub_self, List.take_zero]; exact Row.nil _ _ _ _ _, HI.out, Frm.refl _ _⟩
  case round =>
    obtain ⟨k, n, hk, hkl, hn, hgk, rfl, hown, hIk, hF⟩ := hrel
    have hlen := HK.out.2
    have b1 : (n : Int) ≤ 70368744177664 := by omega
    have HO := Lib.hid (And.intro hk (And.intro hkl (And.intro hn (And.intro hgk (And.intro hown (And.intro hIk hF))))))
    clear hk hkl hn hgk hown hIk hF HI hlen
    have hz : Sizes wr N0 M (.slice sb sn sc) := by
      rcases HSZ.out with h | ⟨SB, so, ln, cap, h1, h2, h3, h4, h5, h6⟩
      · exact .inl h
      · exact .inr ⟨SB, so, ln, cap, h1, h2, h3, h4, h5, fun j hj => by obtain ⟨u, u1, u2, u3⟩ := h6 j hj; exact ⟨u, u1, u2, HO.out.2.2.2.2.2.2.keep u3 h5⟩⟩
    go_upto_if 16 with (fail)
    go_cut [8] (fun nn wq => ∃ L : Nat, nn = .int .i64 (L : Int) ∧ 1 ≤ L ∧ L ≤ 1000 ∧ wr = wq)
    case first =>
      rcases hz with ⟨zb, zc, hz⟩ | ⟨SB, so, ln, cap, hz, hz1, hz2, hz3, hz4, hz5⟩
      · injection hz with z1 z2 z3
        subst z1 z2 z3
        go_wp2_with fail
        go_meet
        case rel => exact ⟨512, rfl, by omega, by omega, rfl⟩
      · injection hz with z1 z2 z3
        subst z1 z2 z3
        obtain ⟨q, hq⟩ : ∃ q, q = n % sn := ⟨_, rfl⟩
        have hql : q < sn := by rw [hq]; exact Nat.mod_lt _ (by omega)
        obtain ⟨u, u1, u2, hu⟩ := hz5 q hql
        have e1 : (n : Int) % (sn : Int) = (q : Int) := by rw [hq]; omega
        have c1 : (1 : Int) ≤ (sn : Int) := by omega
        have c2 : (sn : Int) ≤ 2147483647 := by omega
        have c3 : 0 < sn := by omega
        have HU := Lib.hid (And.intro u1 u2)
        clear hq hz1 hz2 hz3 hz4 hz5 u1 u2
        go_wp2_with fail
        go_meet
        case rel => exact ⟨u, rfl, HU.out.1, HU.out.2, rfl⟩
    case rest =>
    obtain ⟨L, rfl, hL1, hL2, rfl⟩ := hcut
    obtain ⟨hk, hkl, hn, hgk, hown, hIk, hF⟩ := HO.out
    have hlen := HK.out.2
    clear hz HO
    go_upto_region 7 with (fail)
    refine wp_region_lit ?_
    refine wpList_run (by rfl) (by rfl) ?_
    refine wpList_bytes (by rfl) _ _ (by rfl) .i64 .i64 L (by rfl) (by rfl) (by omega) ?_
    intro w2 hw2
    obtain ⟨BX, hBX⟩ : ∃ BX, BX = wr.heap.size := ⟨_, rfl⟩
    rw [← hBX]
    have hN : N0 ≤ BX := by rw [hBX, HN0.out]; exact hF.size
    have hf2 : Frm (fun _ _ => False) wr w2 := by rw [hw2]; exact (Frm.refl _ _).alloc _
    have hcb : ∀ j, w2.cell? ⟨BX, j, none⟩ = (madeCells #[.int .u8 0] L)[j]? := fun j => by rw [hw2, hBX]; exact cells_at (heap_alloc_new wr _)
    have hNB : NewBuf w2 N0 BX L := by
      refine ⟨hN, fun j hj => ⟨0, by rw [hw2, hBX]; exact new_row _ _ _ _ _ hj⟩, fun o v hv => ?_, fun j => by rw [hw2, hBX, World.frozen?_alloc_new]⟩
      rw [hcb] at hv
      have hj : o < L := by have := (Array.getElem?_eq_some_iff.1 hv).1; rw [size_madeCells] at this; exact this
      have := new_row wr (.int .u8 0) 5 L o hj
      rw [← hcb, hw2, hBX, this] at hv
      exact ⟨0, (Option.some.inj hv).symm⟩
    have hI2 : I k w2 := HR.out.keep k wr w2 hIk (hf2.mono fun b o e => e.elim)
    have hown2 : Own w2 N0 u6 ((FH.drop k0).take (k - k0)) := hown.keep hf2 (fun g o _ e => e)
    have hgB : ∀ g, u6.ownBlock = some g → N0 ≤ g ∧ g < BX := fun g hg => by rw [hBX]; exact hown.lt g hg
    have HX := Lib.hid (And.intro hk (And.intro hkl (And.intro hn (And.intro hgk (And.intro hF (And.intro hL1 (And.intro hL2 (And.intro hlen hN))))))))
    have HB := Lib.hid hgB
    have HO2 := Lib.hid hown2
    have HI2 := Lib.hid (And.intro hI2 hNB)
    have HF2 := Lib.hid hf2
    have HBX := Lib.hid hBX
    clear hk hkl hn hgk hown hIk hF hL1 hL2 hlen hN hf2 hcb hNB hI2 hown2 hgB hw2 hBX
    go_wp2_with fail
    refine (HR.out.read k w2 BX L L HI2.out.1 HI2.out.2 HX.out.2.2.2.2.2.1 (by have := HX.out.2.2.2.2.2.2.1; omega)).mono ?_
    rintro e w3 ⟨m, errv, rfl, hmL, hf3, hcells, hend⟩
    have HE := Lib.hid hend
    have HC := Lib.hid hcells
    have HF3 := Lib.hid hf3
    have hown3 : Own w3 N0 u6 ((FH.drop k0).take (k - k0)) := HO2.out.keep hf3 (fun g o hg q => by
      obtain ⟨g1, g2⟩ := HB.out g hg
      rcases q with q | q
      · have := HR.out.low g q; omega
      · omega)
    have hkm : k + m ≤ FH.length := by
      rcases hend with ⟨_, _, h, _⟩ | ⟨_, h, _⟩ <;> omega
    have hl0 : ((FH.drop k0).take (k - k0)).length = k - k0 := by
      obtain ⟨hk, hkl, _⟩ := HX.out
      simp only [List.length_take, List.length_drop]; omega
    have hnl : ((List.range m).map fun j => FH.getD (k + j) 0).length = m := by simp
    obtain ⟨v', w4, hrun, hown4, hf4, hob⟩ := append_bytes w3 N0 u6 _ hown3 ⟨BX, 0, none⟩ rfl L ((List.range m).map fun j => FH.getD (k + j) 0) (fun j hj => by
      rw [hnl] at hj
      have := hcells j hj
      simpa using this) (by rw [hl0, hnl]; have := HX.out.2.2.2.2.2.2.2.1; omega) (by have := HX.out.2.2.2.2.1.size; have := HF2.out.size; have := hf3.size; rw [HN0.out]; omega)
    rw [hnl] at hrun
    have hsl := run_head BX L m hmL
    have htake : (FH.drop k0).take (k - k0) ++ (List.range m).map (fun j => FH.getD (k + j) 0) = (FH.drop k0).take (k + m - k0) := by
      obtain ⟨hk, hkl, _⟩ := HX.out
      have := take_more (FH.drop k0) (k - k0) m (by rw [List.length_drop]; omega)
      rw [show k - k0 + m = k + m - k0 by omega] at this
      rw [← this]
      congr 1
      apply List.map_congr_left
      intro j _
      simp only [List.getD_eq_getElem?_getD, List.getElem?_drop]
      rw [show k0 + (k - k0 + j) = k + j by omega]
    rw [htake] at hown4
    have HO4 := Lib.hid hown4
    have HF4 := Lib.hid hf4
    have HKM := Lib.hid hkm
    have hby : Frm (SBy' w3 N0) w3 w4 := hf4.mono fun b o q => ⟨(HB.out b q).1, fun o' v' hv' => hown3.kind b q o' v' hv'⟩
    have HBY := Lib.hid hby
    have hFall : Frm (fun b _ => M b) w w4 := by
      obtain ⟨_, _, _, _, hF, _⟩ := HX.out
      have h1 : Frm (fun b _ => M b) w w2 := hF.trans (HF2.out.mono fun b o e => e.elim)
      have h2 : Frm (fun b _ => M b) w w3 := h1.trans' hf3 (fun x o hx q => by
        rcases q with q | q
        · exact q
        · exfalso; rw [q, HBX.out] at hx; have := hF.size; omega)
      exact h2.trans' hf4 (fun x o hx q => by have := (HB.out x q).1; rw [HN0.out] at this; omega)
    have HFA := Lib.hid hFall
    clear hend hcells hf3 hown3 hkm hl0 hnl hown4 hf4 hob hmL htake hby hFall
    have hrun0 := fun ty => hrun ty
    clear hrun
    go_upto_region 10 with (at_builtin; refine wpList_append_by (by rfl) (.tmp 32) (.tmp 35) 22 (by rfl) _ _ (by rfl) (by rfl) (hrun0 _) ?_)
    clear hrun0 hsl
    rcases HE.out with ⟨rfl, hm1, _, hI3⟩ | ⟨herr, hkl3, hJ3⟩
    · have HI3 := Lib.hid (And.intro hm1 hI3)
      clear hm1 hI3
      go_wp2_with fail
      go_roundg (FH.length + 1 - (k + m))
      case measure => obtain ⟨hk, hkl, hn, hgk, _⟩ := HX.out; have := HI3.out.1; have := HKM.out; omega
      case rel =>
        obtain ⟨hk, hkl, hn, hgk, _⟩ := HX.out
        have := HI3.out.1
        exact ⟨k + m, n + 1, by omega, HKM.out, by omega, rfl, by go_num, HO4.out, HR.out.keep _ _ _ HI3.out.2 HBY.out, HFA.out⟩
    · have hJ4 := HR.out.keepJ _ _ _ hJ3 HBY.out
      have HJ := Lib.hid (And.intro hkl3 hJ4)
      clear hkl3 hJ3 hJ4
      have hfin : (FH.drop k0).take (k + m - k0) = FH.drop k0 := by
        rw [HJ.out.1]; exact List.take_of_length_le (by rw [List.length_drop]; omega)
      have HFIN := Lib.hid hfin
      clear hfin
      have HER := Lib.hid herr
      rcases herr with ⟨q, rfl⟩ | ⟨x, rfl⟩
      all_goals
        go_wp2_with fail
        go_ret2
        refine ⟨_, _, rfl, ?_, HJ.out.2, HER.out, HFA.out⟩
        have := HO4.out
        rw [HFIN.out] at this
        exact this

end Go.Proofs.YthfncdfcklbigaaDoor
