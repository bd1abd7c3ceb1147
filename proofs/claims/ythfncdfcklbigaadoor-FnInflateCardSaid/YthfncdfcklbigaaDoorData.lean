/-
  THE WALKS OF STORED BLOCKS: 'copyData', 'dataBlock'.
-/
import Derived.Test.YthfncdfcklbigaaDoorFin
import Derived.Test.YthfncdfcklbigaaDoorRead
set_option linter.unusedVariables false
set_option linter.unusedSimpArgs false
namespace Go.Proofs.YthfncdfcklbigaaDoor
open Go.RowKit Flate
set_option maxRecDepth 100000

/-- Behind a call that has turned the source, the window and the small buffer. -/
theorem Dec.set_io {w w' : World} {F : Nat} {d : DS} (h : Dec w F d) (hf : Frm (fun b o => b = d.R ∨ b = d.HB ∨ b = F ∧ 1041 ≤ o ∧ o < 1045) w w') {q : Nat} (hs : Src w' d.R d.base d.src q) (g : Nat → UInt8)
    (hw : ∀ i, i < 32768 → w'.cell? ⟨d.HB, i, none⟩ = some (.int .u8 ((g i).toNat : Int))) (v0 v1 v2 v3 : UInt8) (h0 : w'.cell? ⟨F, 1041, none⟩ = some (.int .u8 (v0.toNat : Int))) (h1 : w'.cell? ⟨F, 1042, none⟩ = some (.int .u8 (v1.toNat : Int)))
    (h2 : w'.cell? ⟨F, 1043, none⟩ = some (.int .u8 (v2.toNat : Int))) (h3 : w'.cell? ⟨F, 1044, none⟩ = some (.int .u8 (v3.toNat : Int))) : Dec w' F { d with pos := q, g := g, u0 := v0, u1 := v1, u2 := v2, u3 := v3 } := by
  have hRF := h.neRF
  have hHF := h.neHF
  have k : ∀ {o : Nat} {v : Value}, w.cell? ⟨F, o, none⟩ = some v → (o < 1041 ∨ 1045 ≤ o) → w'.cell? ⟨F, o, none⟩ = some v := fun hc ho => hf.keep hc (fun e => by omega)
  have hlt := h.lt
  have hH0 := cell_lt (h.win 0 (by omega))
  have hB0 : d.BB < w.heap.size := by obtain ⟨v, hv⟩ := Option.isSome_iff_exists.1 (h.bb 0 (by omega)); exact cell_lt hv
  have hC0 : d.CB < w.heap.size := by obtain ⟨v, hv⟩ := Option.isSome_iff_exists.1 (h.cb 0 (by omega)); exact cell_lt hv
  exact ⟨k h.r (by omega), k h.rBuf (by omega), k h.roff (by omega), k h.b (by omega), k h.nb (by omega), k h.bits (by omega), k h.cbits (by omega), k h.hist (by omega), k h.wr (by omega), k h.rd (by omega), k h.full (by omega), h0, h1, h2, h3,
    k h.step (by omega), k h.ss (by omega), k h.fin (by omega), k h.err (by omega), k h.toRead (by omega), k h.hl (by omega), k h.hd (by omega), k h.cl (by omega), k h.cd (by omega), fun o h1 h2 => (hf.live F o hlt).trans (h.tl o h1 h2), fun o => (hf.froz F o hlt).trans (h.fr o), hs, hw,
    fun o => (hf.froz _ o hH0).trans (h.frH o), fun i hi => (hf.live _ i hB0).trans (h.bb i hi), fun i hi => (hf.live _ i hC0).trans (h.cb i hi), fun o => (hf.froz _ o hB0).trans (h.frB o), fun o => (hf.froz _ o hC0).trans (h.frC o), h.dist, h.far⟩

/-- What a step does. -/
def StepPost (w : World) (F C : Nat) (p : Ps) (d : DS) (k : Nat) (m : Nat) (x : Cfg × List UInt8) (e : Ending) (w' : World) : Prop :=
  e = .returned (.tuple #[]) ∧ ∃ d' H' n' x', St w' F C p d' H' k n' ∧ Mode w' F p d' H' x' ∧ Flate.Reach d.src x x' ∧ Same d d' ∧ (d'.wr < 32768 ∧ (0 < n' → d'.rd = d'.wr)) ∧ (0 < n' ∨ dmu d' < m) ∧ Frm (SA F d) w w'

/-- A step that begins with other stores. -/
theorem StepPost.from_ {w w1 w' : World} {F C : Nat} {p : Ps} {d d1 : DS} {k m : Nat} {x : Cfg × List UInt8} {e : Ending} (h : StepPost w1 F C p d1 k m x e w') (hs : Same d d1) (hf : Frm (SA F d) w w1) : StepPost w F C p d k m x e w' := by
  obtain ⟨h1, d', H', n', x', h2, h3, h4, h5, h6, h7, h8⟩ := h
  exact ⟨h1, d', H', n', x', h2, h3, by rw [← hs.src]; exact h4, hs.trans h5, h6, h7, hf.trans (h8.mono fun b o e => hs.SA e)⟩

/-- The bytes that a read lays into the window. -/
def layG (g : Nat → UInt8) (wr k pos : Nat) (src : List UInt8) : Nat → UInt8 := fun i => if wr ≤ i ∧ i < wr + k then src.getD (pos + (i - wr)) 0 else g i

/-- Behind a read into the window. -/
theorem Dec.read_win {w w' : World} {F : Nat} {d : DS} {k : Nat} (h : Dec w F d) (hP : ReadPost w d.R d.base d.src d.pos d.HB d.wr k w') : Dec w' F { d with pos := d.pos + k, g := layG d.g d.wr k d.pos d.src } := by
  obtain ⟨hS, hf, hc⟩ := hP
  have hRF := h.neRF
  have hHF := h.neHF
  have kF : ∀ {o : Nat} {v : Value}, w.cell? ⟨F, o, none⟩ = some v → w'.cell? ⟨F, o, none⟩ = some v := fun hc => hf.keep hc (fun e => by omega)
  refine h.set_io (hf.mono fun b o e => ?_) hS _ (fun i hi => ?_) _ _ _ _ (kF h.u0) (kF h.u1) (kF h.u2) (kF h.u3)
  · rcases e with e | e
    · exact .inl e
    · exact .inr (.inl e.1)
  · unfold layG
    split
    · rename_i hi2
      have := hc (i - d.wr) (by omega)
      rw [show d.wr + (i - d.wr) = i by omega] at this
      exact this
    · rename_i hi2
      exact hf.keep (h.win i hi) (fun e => by have := h.neRH; omega)

theorem WinB.read {g : Nat → UInt8} {wr k pos : Nat} {src H : List UInt8} (h : WinB g wr H) (hk : wr + k ≤ 32768) (hp : pos + k ≤ src.length) : WinB (layG g wr k pos src) (wr + k) (H ++ (src.drop pos).take k) := by
  have hl : ((src.drop pos).take k).length = k := by rw [List.length_take, List.length_drop]; omega
  have := h.lay (g' := layG g wr k pos src) (vs := (src.drop pos).take k) (by rw [hl]; exact hk) (fun j hj => by
    rw [hl] at hj
    unfold layG
    rw [if_pos (by omega), show wr + j - wr = j by omega]
    simp only [List.getD_eq_getElem?_getD, List.getElem?_take, List.getElem?_drop]
    rw [if_pos hj]) (fun i hi ho => by
    rw [hl] at ho
    unfold layG
    rw [if_neg (by omega)])
  rw [hl] at this
  exact this

theorem stRest_add {src : List UInt8} {last : Bool} {pos n m : Nat} {H : List UInt8} (hm : m ≤ n) : stRest src last pos n H = stRest src last (pos + m) (n - m) (H ++ (src.drop pos).take m) := by
  have e1 : pos + m + (n - m) = pos + n := by omega
  have e2 : (src.drop pos).take m ++ src.drop (pos + m) = src.drop pos := by rw [← List.drop_drop]; exact List.take_append_drop _ _
  have e3 : (src.drop pos).take n = (src.drop pos).take m ++ (src.drop (pos + m)).take (n - m) := by
    rw [← List.drop_drop]
    conv => lhs; rw [show n = m + (n - m) by omega]
    exact List.take_add
  unfold stRest
  rw [e1]
  split
  · rw [List.append_assoc, e3]
  · rw [List.append_assoc, e2]

/-- What the steps turn of the source, the window and the fields. -/
def SX (F : Nat) (d : DS) (b o : Nat) : Prop := b = d.R ∨ b = d.HB ∨ b = F ∧ (o < 5 ∨ 1035 ≤ o)

theorem SX.ok {w : World} {F C : Nat} {p : Ps} {d : DS} {H : List UInt8} {k n : Nat} (h : St w F C p d H k n) : SW1 F C (SX F d) := by
  have h1 := h.dec.neRF
  have h2 := h.dec.neHF
  have h3 := h.cR
  have h4 := h.cH
  have h5 := h.cF
  rintro b o (rfl | rfl | ⟨rfl, e⟩)
  · exact ⟨h3, fun e => absurd e h1⟩
  · exact ⟨h4, fun e => absurd e h2⟩
  · exact ⟨h5, fun _ => e⟩

theorem SX.sa {F : Nat} {d : DS} {b o : Nat} (h : SX F d b o) : SA F d b o := by
  rcases h with e | e | e
  · exact .inr (.inl e)
  · exact .inr (.inr (.inl e))
  · exact .inl e.1

/-- Behind a piece written into the window. -/
theorem St.write {S : Nat → Nat → Prop} {w w' : World} {F C : Nat} {p : Ps} {d d' : DS} {H V : List UInt8} {k : Nat} (h : St w F C p d H k 0) (hD : Dec w' F d') (hf : Frm S w w') (hS : SW1 F C S) (hs : Same d d')
    (hwin : WinB d'.g d'.wr (H ++ V)) (hwr : d'.wr = d.wr + V.length) (hrd : d'.rd = d.rd) (hfu : d'.full = d.full) (ht : d'.toRead = d.toRead) : St w' F C p d' (H ++ V) k 0 := by
  have hb : ∀ b o, S b o → C ≤ b := fun b o x => (hS b o x).1
  have hp : ∀ x, 5 ≤ x → x < 1035 → ¬ S F x := fun x h1 h2 e => by have := (hS F x e).2 rfl; omega
  have h1 := h.rd
  have hsum : k + 0 + (d'.wr - d'.rd) = (H ++ V).length := by
    have := h.out.sum
    rw [hwr, hrd, List.length_append]; omega
  obtain ⟨_, base, cap, o2, o3, _⟩ := h.out
  refine ⟨h.env.keep hf hb, h.cF, by rw [hs.R]; exact h.cR, by rw [hs.HB]; exact h.cH, by rw [hs.BB]; exact h.cB, by rw [hs.CB]; exact h.cC, hD, hwin, by rw [hrd, hwr]; omega, by rw [hrd]; exact h.rd2,
    fun e => ?_, fun e => ?_, ⟨hsum, base, cap, by rw [ht]; exact o2, o3, .inl rfl⟩, h.pre1.keep hf (fun x a b => hp x a (by omega)), h.pre2.keep hf (fun x a b => hp x (by omega) (by omega))⟩
  · rw [List.length_append]; have := h.ful (by rw [← hfu]; exact e); omega
  · rw [List.length_append, hwr]; have := h.nful (by rw [← hfu]; exact e); omega

set_option maxHeartbeats 1000000 in
theorem readFull_zero (w : World) (R : Nat) (base : Option Addr) (src : List UInt8) (pos X xo n cap : Nat) (p : Ps) (h : Src w R base src pos) (hn : n = 0) :
    Calls Tryd.prog 80 #[.iface 55 (.pointer (some ⟨R, 0, none⟩)), .slice (some ⟨X, xo, none⟩) n cap] w (FullPost p w R base src pos X xo n) := by
  have HN := Lib.hid hn
  have e1 : ¬ (0 : Int) < (n : Int) := by omega
  have e6 : (n : Int) ≤ 0 := by omega
  clear hn
  have key : Calls Tryd.prog 99 #[.iface 55 (.pointer (some ⟨R, 0, none⟩)), .slice (some ⟨X, xo, none⟩) n cap, .int .i64 (n : Int)] w (FullPost p w R base src pos X xo n) := by
    go_enter Tryd.func99, Tryd.ntmps99
    go_wp2_with fail
    go_loopw [6, 7] (fun nv ev wr => nv = .int .i64 0 ∧ ev = .nilIface ∧ wr = w) (fun _ _ _ => 0)
    case atStart => exact ⟨rfl, rfl, rfl⟩
    case round =>
      obtain ⟨rfl, rfl, rfl⟩ := hrel
      go_wp2_with fail
      go_ret2
      exact ⟨0, by rw [HN.out]; simp, by rw [if_pos HN.out.symm]; rfl, ReadPost.zero h X xo⟩
  go_enter Tryd.func80, Tryd.ntmps80
  go_wp2_with fail
  refine key.mono ?_
  rintro e w1 ⟨k, hk, rfl, hP⟩
  have hkn : k = n := by rw [HN.out] at hk ⊢; simp at hk; exact hk
  rw [if_pos hkn]
  have HK := Lib.hid hk
  have HKN := Lib.hid hkn
  clear hk hkn
  go_wp2_with fail
  go_ret2
  exact ⟨k, HK.out, by rw [if_pos HKN.out]; rfl, hP⟩

set_option maxHeartbeats 2000000 in
theorem copyData_any (w : World) (F C : Nat) (p : Ps) (d : DS) (H : List UInt8) (k n m : Nat) (x : Cfg × List UInt8) (h : St w F C p d H k 0) (he : d.err = .nilIface) (hd : d = d.put ⟨8 * d.pos, d.pos⟩) (hcl : d.cl = (n : Int)) (hn : n ≤ 65535)
    (hw : d.wr < 32768) (hs1 : SS1 d H) (hx : stRest d.src d.fin d.pos n H = x) (hm : d.pos + n ≤ d.src.length → 2 * (8 * d.src.length + 1 - 8 * (d.pos + n)) + 1 < m) (hm0 : 0 < m) :
    Calls Tryd.prog 90 #[.pointer (some ⟨F, 0, none⟩)] w (StepPost w F C p d k m x) := by
  have hD := h.dec
  have c0 := hD.r
  have c52 := hD.cl
  rw [hcl] at c52
  have f52 := hD.fr 1052
  have HH := Lib.hid h
  have HDP := Lib.hid hd
  have HX := Lib.hid hx
  have HDD := Lib.hid hD
  have HS1 := Lib.hid hs1
  clear hs1
  have b1 : (n : Int) ≤ 65535 := by omega
  obtain ⟨L, hL⟩ : ∃ L, L = 32768 - d.wr := ⟨_, rfl⟩
  obtain ⟨M, hM⟩ : ∃ M, M = if n < L then n else L := ⟨_, rfl⟩
  have hL1 : 1 ≤ L ∧ L ≤ 32768 := by omega
  have hM1 : M ≤ n ∧ M ≤ L ∧ (M = n ∨ M = L) := by rw [hM]; split <;> omega
  have b2 : (L : Int) ≤ 32768 := by omega
  have HL := Lib.hid hL
  have HM := Lib.hid hM
  clear h hd hx hD hM
  go_enter Tryd.func90, Tryd.ntmps90
  go_wp2_with fail
  refine (writeSlice_any w F d HDD.out hw).mono ?_
  rintro e w1 ⟨rfl, m1, rfl⟩
  rw [← hL]
  clear hL
  go_upto_if 15 with (fail)
  go_cut [2] (fun s wq => s = .slice (some ⟨d.HB, d.wr, none⟩) M L ∧ ∃ q, wq = w.drewN q)
  case first =>
    by_cases hg : n < L
    · have e1 : (n : Int) < (L : Int) := by omega
      have hMn : M = n := by rw [HM.out, if_pos hg]
      have e2 : n ≤ L := by omega
      have HMn := Lib.hid hMn
      clear hMn hM1
      go_wp2_with fail
      go_meet
      case rel => exact ⟨by rw [HMn.out], _, rfl⟩
    · have e1 : ¬ (n : Int) < (L : Int) := by omega
      have hMn : M = L := by rw [HM.out, if_neg hg]
      have HMn := Lib.hid hMn
      clear hMn hM1
      go_wp2_with fail
      go_meet
      case rel => exact ⟨by rw [HMn.out], _, rfl⟩
  case rest =>
    obtain ⟨rfl, q1, rfl⟩ := hcut
    have hHBR := HDD.out.neRH.symm
    have hRd : Calls Tryd.prog 80 #[.iface 55 (.pointer (some ⟨d.R, 0, none⟩)), .slice (some ⟨d.HB, d.wr, none⟩) M L] (w.drewN q1) (FullPost p (w.drewN q1) d.R d.base d.src d.pos d.HB d.wr M) := by
      by_cases h0 : M = 0
      · exact readFull_zero _ _ _ _ _ _ _ _ _ _ (HDD.out.so.drewN q1) h0
      · exact readFull_any _ _ _ _ _ _ _ _ _ C _ (HDD.out.so.drewN q1) (HH.out.env.keep (S := fun _ _ => False) ((Frm.refl _ _).drewN q1) (fun _ _ e => e.elim)) HH.out.cR HH.out.cH (by omega) (by omega) (by omega) hHBR
          (fun a ha e => HDD.out.far a ha (by rw [← e]; simp)) (fun j hj => by
            show (w.cell? _).isSome = true
            rw [HDD.out.win (d.wr + j) (by have := HL.out; omega)]; rfl) (fun j _ => HDD.out.frH _)
    go_wp2_with fail
    refine hRd.mono ?_
    rintro e w2 ⟨K, hK, rfl, hP⟩
    obtain ⟨m1', m2', m3'⟩ := min_cases (d.src.length - d.pos) M
    rw [← hK] at m1' m2' m3'
    have hle := HDD.out.so.le
    have hD2 := (HDD.out.drewN q1).read_win hP
    have hP2 : ReadPost w d.R d.base d.src d.pos d.HB d.wr K w2 := ⟨hP.1, (((Frm.refl _ _).drewN q1).mono (fun _ _ e => e)).trans hP.2.1, hP.2.2⟩
    have hB2 := WinB.read (pos := d.pos) (src := d.src) HH.out.win (show d.wr + K ≤ 32768 by have := HL.out; omega) (by omega)
    have d2 := hD2.roff
    have d52 := hD2.cl
    have d48 := hD2.err
    have d45 := hD2.step
    have d49 := hD2.toRead
    simp only at d2 d52 d48 d45 d49
    have hro : d.roff = d.pos := congrArg DS.roff HDP.out
    have hnb : d.nb = 0 := by have := congrArg DS.nb HDP.out; rw [this]; unfold DS.put Br.nb; simp only; omega
    have hb0 : d.b = 0 := by have := congrArg DS.b HDP.out; rw [this]; unfold DS.put Br.b Br.nb; simp only; rw [Nat.sub_self, bv_zero]
    rw [hro] at d2
    rw [hcl] at d52
    have hfew := HDD.out.so.few
    have b3 : (d.pos : Int) ≤ 1099511627776 := by omega
    have b4 : (K : Int) ≤ (M : Int) := by omega
    have b5 : (M : Int) ≤ (L : Int) := by omega
    have b6 : (M : Int) ≤ (n : Int) := by omega
    have g2 := hD2.fr 2
    have g52 := hD2.fr 1052
    have hf2 : Frm (SX F d) w w2 := hP2.2.1.mono fun b o e => e.elim .inl (fun e => .inr (.inl e.1))
    have HD2 := Lib.hid hD2
    have HB2 := Lib.hid hB2
    have HF2 := Lib.hid hf2
    have HK := Lib.hid hK
    have HMM := Lib.hid m3'
    have HM1 := Lib.hid hM1
    have HPW := Lib.hid hP2
    clear hP hP2 hD2 hB2 hf2 hK m3' hM1 m1' m2' hRd
    have hlK : ((d.src.drop d.pos).take K).length = K := by
      rw [List.length_take, List.length_drop]; have := (min_cases (d.src.length - d.pos) M).1; have := HK.out; omega
    have hwK : d.wr + K ≤ 32768 := by have := HL.out; have := HM1.out; omega
    obtain ⟨wr2, hwr2⟩ : ∃ wr2, wr2 = d.wr + K := ⟨_, rfl⟩
    have hlt2 : K = M ∨ K < M ∧ d.pos + K = d.src.length := by have := HMM.out; have := HK.out; have := (min_cases (d.src.length - d.pos) M).1; have := (min_cases (d.src.length - d.pos) M).2.1; omega
    obtain ⟨ev, hev⟩ : ∃ ev : Value, ev = (if K = M then .nilIface else if K = 0 then errAt p.E else errAt p.U) := ⟨_, rfl⟩
    rw [← hev]
    have HEV := Lib.hid hev
    have HLT2 := Lib.hid hlt2
    clear hev hlt2
    go_wp2_with fail
    obtain ⟨w3, hw3⟩ : ∃ w3, w3 = (w2.setCell ⟨F, 2, none⟩ (.int .i64 ((d.pos : Int) + (K : Int)))).setCell ⟨F, 1052, none⟩ (.int .i64 ((n : Int) - (K : Int))) := ⟨_, rfl⟩
    have hf3 : Frm (SX F d) w2 w3 := by rw [hw3]; exact (((Frm.refl _ _).setCell (.inl (.inr (.inr ⟨rfl, by simp⟩))) _).setCell (.inl (.inr (.inr ⟨rfl, by simp⟩))) _)
    have hD3 := (HD2.out.set_roff (d.pos + K)).set_cl ((n : Int) - (K : Int))
    rw [show ((d.pos + K : Nat) : Int) = (d.pos : Int) + (K : Int) by omega, ← hw3] at hD3
    rw [← hw3]
    refine (writeMark_any w3 F _ hD3 (by simp only; omega) K (by omega)).mono ?_
    rintro e w4 ⟨rfl, hD4, hf4⟩
    have hf5 : Frm (SX F d) w w4 := (HF2.out.trans hf3).trans (hf4.mono fun b o e => .inr (.inr ⟨e.1, by omega⟩))
    have hS4 := HH.out.write hD4 hf5 (SX.ok HH.out) ⟨rfl, rfl, rfl, rfl, rfl, rfl⟩ HB2.out (by simp only; rw [hlK]) rfl rfl rfl
    have hpK : d.pos + K ≤ d.src.length := by have := HK.out; have := (min_cases (d.src.length - d.pos) M).1; omega
    simp only at hD4
    rw [← hwr2] at hD4 hS4
    rw [← hwr2] at hwK
    have HS4 := Lib.hid hS4
    have HF5 := Lib.hid hf5
    have e45 := hD4.step
    have e49 := hD4.toRead
    have e52 := hD4.cl
    have k45 := hD4.fr 1045
    have k49 := hD4.fr 1049
    simp only at e45 e49 e52
    have HD4 := Lib.hid hD4
    have HWR2 := Lib.hid hwr2
    clear hf5 hS4 hD3 hf3 hf4 hD4 c0 c52 f52 d2 d52 d48 d45 d49 g2 g52
    have hxx : stRest d.src d.fin (d.pos + K) (n - K) (H ++ (d.src.drop d.pos).take K) = x := by
      rw [← HX.out]; exact (stRest_add (by have := HM1.out; omega)).symm
    have HXX := Lib.hid hxx
    have hrd := HH.out.rd
    have hrd2 := HH.out.rd2
    clear hxx hwr2
    have hnK : (n : Int) - (K : Int) = ((n - K : Nat) : Int) := by omega
    have HNK := Lib.hid hnK
    clear hnK
    by_cases hKM : K = M
    · have hev := HEV.out
      rw [if_pos hKM] at hev
      subst hev
      have HKM := Lib.hid hKM
      clear hKM
      by_cases hfu : wr2 = 32768
      · have e1 : ((32768 : Int) - (wr2 : Int) == 0) = true := by simp; omega
        have e2 : d.rd ≤ wr2 := by have := HWR2.out; omega
        have HFU := Lib.hid hfu
        clear hfu
        go_wp2_with fail
        refine (availWrite_any w4 F _ HD4.out (by simp only; omega)).mono ?_
        rintro e w5 ⟨rfl, m5, rfl⟩
        simp only
        go_wp2_with fail
        refine (readFlush_any _ F _ (HD4.out.drewN m5) (by simp only; omega) (by simp only; omega) (by simp only; omega)).mono ?_
        rintro e w6 ⟨rfl, hD6, hf6⟩
        have hlF := HD4.out.lt
        have r49 : w6.cell? ⟨F, 1049, none⟩ = some d.toRead := hf6.keep e49 (by omega)
        have r45 : w6.cell? ⟨F, 1045, none⟩ = some d.step := hf6.keep e45 (by omega)
        have s49 : w6.frozen? ⟨F, 1049, none⟩ = false := (hf6.froz F 1049 hlF).trans k49
        have s45 : w6.frozen? ⟨F, 1045, none⟩ = false := (hf6.froz F 1045 hlF).trans k45
        have HD6 := Lib.hid hD6
        have HF6 := Lib.hid hf6
        simp only
        clear hD6 hf6 e49 e45 e52 k45 k49
        go_wp2_with fail
        go_end0
        obtain ⟨w7, hw7⟩ : ∃ w7, w7 = (w6.setCell ⟨F, 1049, none⟩ (.slice (some ⟨d.HB, d.rd, none⟩) (wr2 - d.rd) (32768 - d.rd))).setCell ⟨F, 1045, none⟩ (fnV 90) := ⟨_, rfl⟩
        obtain ⟨d4, hd4⟩ : ∃ d4 : DS, d4 = { d with pos := d.pos + K, g := layG d.g d.wr K d.pos d.src, roff := d.pos + K, cl := (n : Int) - (K : Int), wr := wr2 } := ⟨_, rfl⟩
        have hS4 : St w4 F C p d4 (H ++ (d.src.drop d.pos).take K) k 0 := by rw [hd4]; exact HS4.out
        have hD7' := (show Dec w6 F d4.flushed by rw [hd4]; exact HD6.out).set_toRead (.slice (some ⟨d.HB, d.rd, none⟩) (wr2 - d.rd) (32768 - d.rd)) |>.set_step (fnV 90)
        rw [← hw7] at hD7' ⊢
        obtain ⟨fs, fp, fg⟩ := flushed_same d4
        obtain ⟨f1, f2, f3, f4, f5, f6, f7', f8', _⟩ := flushed_more d4
        have hf7 : Frm (SX F d) w4 w7 := by
          refine (((Frm.refl _ _).drewN m5).trans (HF6.out.mono fun b o e => .inr (.inr ⟨e.1, by omega⟩))).trans ?_
          rw [hw7]
          exact ((Frm.refl _ _).setCell (.inl (.inr (.inr ⟨rfl, by simp⟩))) _).setCell (.inl (.inr (.inr ⟨rfl, by simp⟩))) _
        have s4 : Same d d4 := by rw [hd4]; exact ⟨rfl, rfl, rfl, rfl, rfl, rfl⟩
        obtain ⟨g1, g2, g3⟩ := hS4.flush hD7' hf7 (SX.ok HH.out) ⟨fs.R, fs.base, fs.src, fs.BB, fs.CB, fs.HB⟩ fg rfl rfl rfl (by rw [hd4])
        refine ⟨rfl, _, _, _, x, g1, ?_, .refl _, ⟨fs.R.trans s4.R, fs.base.trans s4.base, fs.src.trans s4.src, fs.BB.trans s4.BB, fs.CB.trans s4.CB, fs.HB.trans s4.HB⟩, ⟨g2, fun _ => g3⟩, .inl ?_, (HF5.out.trans hf7).mono fun b o e => SX.sa e⟩
        · refine mode_data (n := n - K) (f1.trans (by rw [hd4]; exact he)) rfl (f3.trans (by rw [hd4]; exact HNK.out)) (by omega) ?_ ?_ ?_
          · exact put_edge (f4.trans (by rw [hd4]; exact hb0)) (f5.trans (by rw [hd4]; exact hnb)) (f6.trans ((show d4.roff = d4.pos by rw [hd4]).trans fp.symm)) rfl
          · exact HS1.out.same (f7'.trans (by rw [hd4])) (f8'.trans (by rw [hd4])) (by simp)
          · show stRest d4.flushed.src d4.flushed.fin d4.flushed.pos (n - K) _ = x
            rw [fs.src, f2, fp, hd4]; exact HXX.out
        · rw [hd4]; have := HFU.out; simp only; omega
      · have e1 : ((32768 : Int) - (wr2 : Int) == 0) = false := by simp; omega
        have e2 : ¬ (0 : Int) < (n : Int) - (K : Int) := by have := HM1.out; have := HKM.out; have := HWR2.out; have := HL.out; omega
        have e3 : wr2 < 32768 := by omega
        have hKn : K = n := by omega
        have HKN := Lib.hid hKn
        clear hfu hKn
        go_wp2_with fail
        refine (availWrite_any w4 F _ HD4.out (by simp only; omega)).mono ?_
        rintro e w5 ⟨rfl, m5, rfl⟩
        simp only
        go_wp2_with fail
        obtain ⟨d4, hd4⟩ : ∃ d4 : DS, d4 = { d with pos := d.pos + K, g := layG d.g d.wr K d.pos d.src, roff := d.pos + K, cl := (n : Int) - (K : Int), wr := wr2 } := ⟨_, rfl⟩
        have hS4 : St w4 F C p d4 (H ++ (d.src.drop d.pos).take K) k 0 := by rw [hd4]; exact HS4.out
        have s4 : Same d d4 := by rw [hd4]; exact ⟨rfl, rfl, rfl, rfl, rfl, rfl⟩
        have hf7 : Frm (SX F d) w4 (w4.drewN m5) := (Frm.refl _ _).drewN m5
        have hS5 := hS4.of (hS4.dec.drewN m5) hf7 (SX.ok HH.out) (Same.refl _) ⟨rfl, rfl, rfl, rfl, rfl⟩
        have hpl : d.pos + n ≤ d.src.length := by rw [← HKN.out]; exact hpK
        refine (finishBlock_any _ F C p d4 _ k 0 ⟨8 * (d.pos + n), d.pos + n⟩ hS5 (put_edge (by rw [hd4]; exact hb0) (by rw [hd4]; exact hnb) (by rw [hd4, HKN.out]) (by rw [hd4, HKN.out])) ⟨Nat.le_refl _, by rw [s4.src]; exact hpl⟩ (by unfold Br.nb; simp only; omega) (by rw [hd4]; exact he) (by rw [hd4]; exact e3) (.inl rfl) ((HS1.out.same (by rw [hd4]) (by rw [hd4]) (by simp)).zero (by rw [hd4, HKN.out]; simp))).mono ?_
        rintro e w6 ⟨rfl, d6, n6, hS6, hM6, hs6, hw6, hm6, hf6⟩
        have HX6 := Lib.hid hd4
        clear hd4
        go_wp2_with fail
        go_end0
        have hd4 := HX6.out
        have hxe : (more d4.fin ⟨8 * (d.pos + n), d.pos + n⟩, H ++ (d.src.drop d.pos).take K) = x := by
          rw [← HX.out, HKN.out, hd4]
          unfold stRest
          rw [if_pos hpl]
        refine ⟨rfl, d6, _, n6, x, hS6, by rw [← hxe]; exact hM6, .refl _, s4.trans hs6, hw6, .inr ?_, ((HF5.out.trans hf7).mono fun b o e => SX.sa e).trans (hf6.mono fun b o e => .inl e.1)⟩
        have := hm hpl
        rw [s4.src] at hm6
        have hm7 : dmu d6 ≤ 2 * (8 * d.src.length + 1 - 8 * (d.pos + n)) + 1 := hm6
        omega
    · have hlt2 := HLT2.out
      have hlt3 : K < M ∧ d.pos + K = d.src.length := by omega
      obtain ⟨q, hq, hqe⟩ : ∃ q, (q = p.E ∨ q = p.U) ∧ ev = errAt q := by
        have := HEV.out
        rw [if_neg hKM] at this
        by_cases h0 : K = 0
        · exact ⟨p.E, .inl rfl, by rw [this, if_pos h0]⟩
        · exact ⟨p.U, .inr rfl, by rw [this, if_neg h0]⟩
      subst hqe
      have e48 := HD4.out.err
      have k48 := HD4.out.fr 1048
      clear hlt2 hKM
      go_wp2_with fail
      refine (noEOF_any w4 C p HS4.out.env q hq).mono ?_
      rintro e w5 ⟨rfl, rfl⟩
      go_wp2_with fail
      go_end0
      have hf7 : Frm (SX F d) w4 (w4.setCell ⟨F, 1048, none⟩ (errAt p.U)) := (Frm.refl _ _).setCell (.inl (.inr (.inr ⟨rfl, by simp⟩))) _
      refine ⟨rfl, _, _, 0, x, HS4.out.of (HD4.out.set_err (errAt p.U)) hf7 (SX.ok HH.out) ⟨rfl, rfl, rfl, rfl, rfl, rfl⟩ ⟨rfl, rfl, rfl, rfl, rfl⟩, ?_, .refl _, ⟨rfl, rfl, rfl, rfl, rfl, rfl⟩, ⟨by have := HWR2.out; have := HL.out; have := HM1.out; simp only; omega, fun q => absurd q (by omega)⟩, .inr hm0, (HF5.out.trans hf7).mono fun b o e => SX.sa e⟩
      have hxe : (Cfg.done .cut d.src.length, H ++ (d.src.drop d.pos).take K) = x := by
        rw [← HXX.out]
        unfold stRest
        rw [if_neg (by have := HM1.out; omega), hlt3.2, List.drop_length, List.append_nil]
      rw [← hxe]
      exact .inl ⟨rfl, rfl, hlt3.2⟩

end Go.Proofs.YthfncdfcklbigaaDoor
