/-
  THE WALK OF 'nextBlock'.
-/
import Derived.Test.YthfncdfcklbigaaDoorHuff
import Derived.Test.YthfncdfcklbigaaDoorRh
import Derived.Test.YthfncdfcklbigaaDoorFixed
set_option linter.unusedVariables false
set_option linter.unusedSimpArgs false
namespace Go.Proofs.YthfncdfcklbigaaDoor
open Go.RowKit Flate
set_option maxRecDepth 100000

theorem Dec.err_nil {w : World} {F : Nat} {d : DS} (h : Dec w F d) (he : d.err = .nilIface) : Dec (w.setCell ⟨F, 1048, none⟩ .nilIface) F d := by
  have := h.set_err .nilIface
  have e : ({ d with err := .nilIface } : DS) = d := by rw [← he]
  rwa [e] at this

/-- More bits are being fetched, 'err' is laid each time. -/
def NB (w : World) (F : Nat) (d : DS) (r : Br) (n gk : Nat) (wr : World) : Prop :=
  ∃ r', Dec wr F (d.put r') ∧ r'.ok d.src ∧ r'.nb ≤ 22 ∧ fill d.src.length n r' = fill d.src.length n r ∧ Frm (SX F d) w wr ∧ gk = d.src.length - r'.pos

theorem bits3 {src : List UInt8} {r : Br} (h : 3 ≤ r.nb) {bb b1 b2 : Nat} (hb : bb = r.b src) (h1 : b1 = bb / 2) (h2 : b2 = b1 / 4) :
    bb % 2 = bv src r.at_ 1 ∧ b1 % 4 = bv src (r.at_ + 1) 2 ∧ b2 = ({ r with at_ := r.at_ + 3 } : Br).b src := by
  have e := b_mod (src := src) (r := r) (n := 1) (by omega)
  have s1 := b_skip (src := src) (r := r) (n := 1) (by omega)
  have n1 : ({ r with at_ := r.at_ + 1 } : Br).nb = r.nb - 1 := by unfold Br.nb; simp only; omega
  have e1 := b_mod (src := src) (r := { r with at_ := r.at_ + 1 }) (n := 2) (by rw [n1]; omega)
  have s2 := b_skip (src := src) (r := { r with at_ := r.at_ + 1 }) (n := 2) (by rw [n1]; omega)
  simp only [Nat.add_assoc, Nat.reduceAdd, Nat.reducePow] at e s1 e1 s2
  rw [← hb, ← h1] at s1
  rw [← s1, ← h2] at s2
  rw [← hb] at e
  rw [← s1] at e1
  exact ⟨e, e1, s2⟩

theorem next_cut {src : List UInt8} {r r' : Br} {H : List UInt8} (h : getBits src 3 r = .bad .cut r') : nextStep src r H = (.done .cut r'.pos, H) := by
  unfold getBits at h
  unfold nextStep
  cases hf : fill src.length 3 r with
  | mk t q =>
    rw [hf] at h
    cases t with
    | false => simp only [Rd.bad.injEq, true_and] at h; rw [h]
    | true => simp at h

theorem next_go {src : List UInt8} {r r1 r2 : Br} {H : List UInt8} {last : Bool} {t : Nat} (h : fill src.length 3 r = (true, r1)) (h2 : r2 = { r1 with at_ := r1.at_ + 3 }) (hl : last = (bv src r1.at_ 1 == 1)) (ht : t = bv src (r1.at_ + 1) 2) :
    nextStep src r H = if t = 0 then storedStep src last r2.pos H else if t = 1 then (.huff last r2 fixedTab none, H) else if t = 2 then
      match readHuff src r2 with
      | .bad e r' => (.done e r'.pos, H)
      | .ok (T, D) r3 => (.huff last r3 T (some D), H)
    else (.done .corrupt r2.pos, H) := by
  unfold nextStep
  rw [h, h2, hl, ht]
  rfl

theorem StepPost.step {w w' : World} {F C : Nat} {p : Ps} {d : DS} {k m : Nat} {x y : Cfg × List UInt8} {e : Ending} (h : StepPost w F C p d k m y e w') (hx : sstep d.src x = y) : StepPost w F C p d k m x e w' := by
  obtain ⟨h1, d', H', n', x', h2, h3, h4, h5⟩ := h
  exact ⟨h1, d', H', n', x', h2, h3, .step (by rw [hx]; exact h4), h5⟩

theorem fixedTab_ok : fixedTab.OK := ((initTab_law fixedLens_le (by rw [fixedLens_length]; omega)).2 fixedTab initFixed).1

/-- An end in a fault. -/
theorem step_done {w w' : World} {F C : Nat} {p : Ps} {d d' : DS} {H : List UInt8} {k m : Nat} {x : Cfg × List UInt8} {e : Err} (hS : St w' F C p d' H k 0) (hs : Same d d') (hw : d'.wr < 32768) (hv : ErrV p e d'.err) (hx : x = (.done e d'.pos, H)) (hf : Frm (SA F d) w w') (hm : 0 < m) :
    StepPost w F C p d k m x (.returned (.tuple #[])) w' := by
  refine ⟨rfl, d', H, 0, x, hS, by rw [hx]; exact .inl ⟨hv, rfl, rfl⟩, .refl _, hs, ⟨hw, fun q => absurd q (by omega)⟩, .inr ?_, hf⟩
  have : dmu d' = 0 := by
    unfold dmu
    cases e with
    | eof => rw [hv]
    | cut => rw [hv]
    | corrupt => obtain ⟨y, hv⟩ := hv; rw [hv]
  omega

theorem put_tabs {d : DS} {r : Br} (h : d = d.put r) (a b : Value) : ({ d with hl := a, hd := b } : DS) = ({ d with hl := a, hd := b } : DS).put r := by
  conv => lhs; rw [h]
  rfl

set_option maxHeartbeats 4000000 in
theorem nextBlock_any (w : World) (F C : Nat) (p : Ps) (d : DS) (H : List UInt8) (k m : Nat) (r : Br) (h : St w F C p d H k 0) (he : d.err = .nilIface) (hw : d.wr < 32768) (hd : d = d.put r) (hr : r.ok d.src) (hnb : r.nb ≤ 22) (hs0 : SS0 d H)
    (hm : 2 * (8 * d.src.length + 1 - r.at_) + 1 ≤ m) :
    Calls Tryd.prog 56 #[.pointer (some ⟨F, 0, none⟩)] w (StepPost w F C p d k m (.next r, H)) := by
  have hI0 : RI w F C p d H k w r := ⟨by rw [← hd]; exact h, hr, hnb, Frm.refl _ _⟩
  have HI0 := Lib.hid hI0
  have HS0 := Lib.hid hs0
  have HHH := Lib.hid h
  have hm0 : 0 < m := by omega
  have HM := Lib.hid hm
  clear h hd hr hnb hI0 hs0 hm
  go_enter Tryd.func56, Tryd.ntmps56
  go_upto_block 0 with (fail)
  go_cut [10] (fun _ wq => ∃ r1, fill d.src.length 3 r = (true, r1) ∧ 3 ≤ r1.nb ∧ RI w F C p d H k wq r1)
  case first => as_aux_lemma =>
    go_wp2_with fail
    go_loopg [10] (d.src.length - r.pos) (fun gk _ wr => NB w F d r 3 gk wr)
    case atStart => exact ⟨r, HI0.out.st.dec, HI0.out.ok, HI0.out.nb, rfl, Frm.refl _ _, rfl⟩
    case round =>
      obtain ⟨r', hD', ho', hn', hfl', hf', hgk⟩ := hrel
      obtain ⟨nv, hnv⟩ : ∃ nv, nv = r'.nb := ⟨_, rfl⟩
      have q4 : wr.cell? ⟨F, 4, none⟩ = some (.int .u64 (nv : Int)) := by rw [hnv]; exact hD'.nb
      have b6 : (nv : Int) ≤ 22 := by omega
      by_cases hlt : 3 ≤ r'.nb
      · have e4 : decide ((nv : Int) < 3) = false := by simp; omega
        have hfe : fill d.src.length 3 r = (true, r') := by rw [← hfl', fill_has hlt]
        have hI1 : RI w F C p d H k wr r' := ⟨HI0.out.st.of hD' hf' (SX.ok (d := d.put r) HI0.out.st) ⟨rfl, rfl, rfl, rfl, rfl, rfl⟩ ⟨rfl, rfl, rfl, rfl, rfl⟩, ho', hn', hf'.mono fun b o e => SX.sa e⟩
        have HFE := Lib.hid hfe
        have HI1 := Lib.hid hI1
        have HLT := Lib.hid hlt
        clear hfl' hf' hD' hn' hnv hlt ho' hfe hI1 hgk
        go_wp2_with fail
        go_meet
        case rel => exact ⟨r', HFE.out, HLT.out, HI1.out⟩
      · have e4 : decide ((nv : Int) < 3) = true := by simp; omega
        by_cases hp : r'.pos < d.src.length
        · have hmb := MB.call_more hD' ho' rfl (Frm.refl _ _) hlt (by omega) hp
          have HMB := Lib.hid hmb
          have HF' := Lib.hid hf'
          have HFL := Lib.hid hfl'
          have HGK := Lib.hid hgk
          have HLN := Lib.hid (leftN_of hD')
          clear hmb hfl' hf' hD' hn' hnv hlt ho' hgk
          go_wp2_with fail
          refine HMB.out.mono ?_
          rintro e wm ⟨rfl, HM⟩
          obtain ⟨⟨r2, hD2, ho2, hn2, hfl2, hf2⟩, hln⟩ := HM.out
          have c48 := hD2.err
          have g48 := hD2.fr 1048
          have HD2 := Lib.hid hD2
          have HX := Lib.hid (And.intro ho2 (And.intro hn2 (And.intro hfl2 (And.intro hf2 hln))))
          clear hD2 ho2 hn2 hfl2 hf2 hln
          go_wp2_with fail
          go_roundg (d.src.length - r2.pos)
          case measure =>
            have h1 := HLN.out
            have h2 := leftN_of HD2.out
            obtain ⟨_, _, _, _, h3⟩ := HX.out
            have h1' : leftN d.src.length d.R wr = d.src.length - r'.pos := h1
            have h2' : leftN d.src.length d.R wm = d.src.length - r2.pos := h2
            have := HGK.out
            omega
          case rel =>
            obtain ⟨g1, g2, g3, g4, _⟩ := HX.out
            exact ⟨r2, HD2.out.err_nil he, g1, g2, g3.trans HFL.out, (HF'.out.trans (g4.mono fun b o e => SB_x e)).setCell (.inl (.inr (.inr ⟨rfl, by simp⟩))) _, rfl⟩
        · have hmb := MB.call_end (p := p) (C := C) (w := wr) (n := 3) (r := r') (HI0.out.st.env.keep hf' (fun b o e => ((SX.ok (d := d.put r) HI0.out.st) b o e).1)) HI0.out.st.cR HI0.out.st.cF hD' ho' rfl (Frm.refl _ _) hlt hp
          have HMB := Lib.hid hmb
          have HF' := Lib.hid hf'
          have HFL := Lib.hid hfl'
          have HO := Lib.hid (And.intro ho' (And.intro hlt hp))
          clear hmb hf' hfl' hD' hn' hp hnv hlt ho' hgk
          go_wp2_with fail
          refine HMB.out.mono ?_
          rintro e wm ⟨rfl, hDm, HGC⟩
          have p48 := hDm.err
          have t48 := hDm.fr 1048
          have HDm := Lib.hid hDm
          clear hDm q4
          go_wp2_with fail
          go_end0
          obtain ⟨hgc, hfm⟩ := HGC.out
          obtain ⟨o1, o2, o3⟩ := HO.out
          have hgc2 : getBits d.src 3 r = .bad .cut r' := getBits_cut HFL.out o2 (by have := o1.2; omega) o1
          have hf2 : Frm (SX F d) w (wm.setCell ⟨F, 1048, none⟩ (errAt p.U)) := (HF'.out.trans (hfm.mono fun b o e => SB_x e)).setCell (.inl (.inr (.inr ⟨rfl, by simp⟩))) _
          have hS := HI0.out.st.of (HDm.out.set_err (errAt p.U)) hf2 (SX.ok (d := d.put r) HI0.out.st) ⟨rfl, rfl, rfl, rfl, rfl, rfl⟩ ⟨rfl, rfl, rfl, rfl, rfl⟩
          exact (step_done (d := d) (e := .cut) (H := H) (x := (.done .cut r'.pos, H)) hS ⟨rfl, rfl, rfl, rfl, rfl, rfl⟩ hw rfl rfl (hf2.mono fun b o e => SX.sa e) hm0).step (show sstep d.src (.next r, H) = _ from next_cut hgc2)
  case rest =>
  as_aux_lemma =>
  obtain ⟨r1, hf1, hn3, hI1⟩ := hcut
  generalize wc = w1 at hI1 ⊢
  obtain ⟨bb, hbb⟩ : ∃ bb, bb = r1.b d.src := ⟨_, rfl⟩
  obtain ⟨b1, hb1⟩ : ∃ b1, b1 = bb / 2 := ⟨_, rfl⟩
  obtain ⟨b2, hb2⟩ : ∃ b2, b2 = b1 / 4 := ⟨_, rfl⟩
  obtain ⟨x1, x2, x3⟩ := bits3 hn3 hbb hb1 hb2
  obtain ⟨lb, hlb⟩ : ∃ lb, lb = bb % 2 := ⟨_, rfl⟩
  obtain ⟨ty, hty⟩ : ∃ ty, ty = b1 % 4 := ⟨_, rfl⟩
  obtain ⟨last, hlast⟩ : ∃ last : Bool, last = (lb == 1) := ⟨_, rfl⟩
  obtain ⟨r2, hr2⟩ : ∃ r2 : Br, r2 = { r1 with at_ := r1.at_ + 3 } := ⟨_, rfl⟩
  obtain ⟨nv, hnv⟩ : ∃ nv, nv = r1.nb := ⟨_, rfl⟩
  obtain ⟨nb2, hnb2⟩ : ∃ nb2, nb2 = r1.nb - 3 := ⟨_, rfl⟩
  have hgo := next_go (H := H) (last := last) hf1 hr2 (by rw [hlast, hlb, x1]) (hty.trans x2)
  have hb24 : bb < 2 ^ 22 := by
    have h1 := bv_lt d.src r1.at_ r1.nb
    have h2 : 2 ^ r1.nb ≤ 2 ^ 22 := Nat.pow_le_pow_right (by omega) hI1.nb
    rw [hbb]; unfold Br.b; omega
  have y1 : bits .and .u32 (bb : Int) 1 = (lb : Int) := by rw [show (1 : Int) = ((2 : Nat) : Int) - 1 from rfl, mask_bits bb 1 2 rfl (by omega) (by omega), hlb]
  have y2 : bits .and .u32 (b1 : Int) 3 = (ty : Int) := by rw [show (3 : Int) = ((4 : Nat) : Int) - 1 from rfl, mask_bits b1 2 4 rfl (by omega) (by omega), hty]
  have y3 : (bb : Int) / 2 = (b1 : Int) := by rw [hb1]; rfl
  have y4 : (b1 : Int) / 4 = (b2 : Int) := by rw [hb2]; rfl
  have y5 : (bb : Int) ≤ 4194304 := by omega
  have y6 : (b1 : Int) ≤ 4194304 := by omega
  have y7 : ((lb : Int) == 1) = last := by rw [hlast, Bool.eq_iff_iff]; simp; omega
  have y8 : (nv : Int) - 3 = (nb2 : Int) := by omega
  have y9 : (nv : Int) ≤ 22 := by have := hI1.nb; omega
  have y10 : (lb : Int) ≤ 1 := by omega
  have y11 : (ty : Int) ≤ 3 := by omega
  have Y11 := Lib.hid (show ty ≤ 3 by omega)
  have c3 : w1.cell? ⟨F, 3, none⟩ = some (.int .u32 (bb : Int)) := by rw [hbb]; exact hI1.st.dec.b
  have c4 : w1.cell? ⟨F, 4, none⟩ = some (.int .u64 (nv : Int)) := by rw [hnv]; exact hI1.st.dec.nb
  have c47 := hI1.st.dec.fin
  have g3 := hI1.st.dec.fr 3
  have g4 := hI1.st.dec.fr 4
  have g47 := hI1.st.dec.fr 1047
  obtain ⟨k1, k2⟩ := skip_ok hI1.ok hn3
  obtain ⟨d3, hd3⟩ : ∃ d3 : DS, d3 = { d.put r2 with fin := last } := ⟨_, rfl⟩
  obtain ⟨w3, hw3⟩ : ∃ w3, w3 = (((w1.setCell ⟨F, 1047, none⟩ (.bool last)).setCell ⟨F, 3, none⟩ (.int .u32 (b1 : Int))).setCell ⟨F, 3, none⟩ (.int .u32 (b2 : Int))).setCell ⟨F, 4, none⟩ (.int .u64 (nb2 : Int)) := ⟨_, rfl⟩
  have hf3 : Frm (SX F d) w1 w3 := by
    rw [hw3]
    exact ((((Frm.refl _ _).setCell (.inl (.inr (.inr ⟨rfl, by simp⟩))) _).setCell (.inl (.inr (.inr ⟨rfl, by simp⟩))) _).setCell (.inl (.inr (.inr ⟨rfl, by simp⟩))) _).setCell (.inl (.inr (.inr ⟨rfl, by simp⟩))) _
  have hD3 : Dec w3 F d3 := by
    have hD := (((hI1.st.dec.set_fin last).set_b b1).set_b b2).set_nb nb2
    rw [← hw3] at hD
    have e1 : b2 = r2.b d.src := by rw [hr2]; exact x3
    have e2 : nb2 = r2.nb := by rw [hr2, k2]; exact hnb2
    have e3 : d3 = { d.put r1 with fin := last, b := b2, nb := nb2 } := by rw [hd3]; unfold DS.put; rw [← e1, ← e2, hr2]
    rw [e3]; exact hD
  have s3 : Same d d3 := by rw [hd3]; exact ⟨rfl, rfl, rfl, rfl, rfl, rfl⟩
  have hS3 : St w3 F C p d3 H k 0 := hI1.st.of hD3 hf3 (SX.ok (d := d.put r1) hI1.st) (by rw [hd3]; exact ⟨rfl, rfl, rfl, rfl, rfl, rfl⟩) (by rw [hd3]; exact ⟨rfl, rfl, rfl, rfl, rfl⟩)
  have hF3 : Frm (SA F d) w w3 := hI1.frm.trans (hf3.mono fun b o e => SX.sa e)
  have hr2ok : r2.ok d.src := by rw [hr2]; exact k1
  have hr2nb : r2.nb ≤ 22 := by rw [hr2, k2]; have := hI1.nb; omega
  have hat : r.at_ + 3 ≤ r2.at_ := by
    have := (fill_ok HI0.out.ok hf1).2.1
    rw [hr2]; simp only; omega
  have q1 : d3.err = .nilIface := by rw [hd3]; exact he
  have q2 : d3.wr < 32768 := by rw [hd3]; exact hw
  have q3 : d3.fin = last := by rw [hd3]
  have q4 : d3 = d3.put r2 := by rw [hd3]; rfl
  have q5 : SS0 d3 H := HS0.out.same (by rw [hd3]; rfl) (by rw [hd3]; rfl) (by rw [hd3]; rfl) (Nat.le_refl _)
  have HD3 := Lib.hid (And.intro hS3 (And.intro hF3 (And.intro s3 (And.intro hr2ok (And.intro hr2nb (And.intro hat (And.intro q1 (And.intro q2 (And.intro q3 (And.intro q4 q5))))))))))
  have HGO := Lib.hid (show sstep d.src (.next r, H) = _ from hgo)
  have HW3 := Lib.hid hw3
  clear hbb hb1 hb2 x1 x2 x3 hlb hty hlast hr2 hnv hnb2 hgo hb24 k1 k2 hd3 hw3 hf3 hD3 s3 hS3 hF3 hr2ok hr2nb hat q1 q2 q3 q4 q5 hf1 hn3 hI1
  go_upto_region 8 with (fail)
  rw [← HW3.out]
  clear c3 c4 c47 g3 g4 g47 y1 y2 y3 y4 y5 y6 y7 y8 y9 y10
  by_cases t0 : ty = 0
  · as_aux_lemma =>
    have e0 : ((ty : Int) == 0) = true := by simp; omega
    obtain ⟨hS3, hF3, s3, k1, k2, hat, q1, q2, q3, q4, q5⟩ := HD3.out
    have hgo := HGO.out
    rw [if_pos t0] at hgo
    have HG := Lib.hid hgo
    have hpos : d3.pos = r2.pos := congrArg DS.pos q4
    have hcall := dataBlock_any w3 F C p d3 H k m (storedStep d.src last r2.pos H) hS3 q1 (by rw [congrArg DS.roff q4, hpos]; rfl) q2 q5 (by rw [q3, hpos, s3.src]) (fun hle => by
      have h1 := HM.out
      have h2 := k1.1
      rw [s3.src, hpos] at *
      omega) hm0
    have HC := Lib.hid hcall
    clear t0 hS3 hF3 s3 k1 k2 hat q1 q2 q3 q4 q5 hgo hpos hcall
    go_wp2_with fail
    refine HC.out.mono ?_
    intro e w4 hP
    obtain rfl : e = .returned (.tuple #[]) := hP.1
    have HP := Lib.hid hP
    clear hP
    go_wp2_with fail
    go_end0
    exact (HP.out.from_ HD3.out.2.2.1 HD3.out.2.1).step HG.out
  have e0 : ((ty : Int) == 0) = false := by simp; omega
  by_cases t1 : ty = 1
  · as_aux_lemma =>
    have e1 : ((ty : Int) == 1) = true := by simp; omega
    have hgo := HGO.out
    rw [if_neg t0, if_pos t1] at hgo
    have HG := Lib.hid hgo
    clear t0 t1 hgo
    have c50 := HD3.out.1.dec.hl
    have g50 := HD3.out.1.dec.fr 1050
    go_wp2_with fail
    refine (fixedHuffman_any w3).mono ?_
    rintro e w4 ⟨B, hB, rfl, hT, hf⟩
    obtain ⟨hS3, hF3, s3, k1, k2, hat, q1, q2, q3, q4, q5⟩ := HD3.out
    have hf' : Frm (SX F d3) w3 w4 := hf.mono fun b o e => e.elim
    have hD4 : Dec w4 F d3 := hS3.dec.keep hf (fun o e => e.elim) (fun o e => e) (fun o e => e) (fun a _ j _ e => e)
    have hS4 : St w4 F C p d3 H k 0 := hS3.of hD4 hf' (SX.ok hS3) (Same.refl _) ⟨rfl, rfl, rfl, rfl, rfl⟩
    have c50' := hD4.hl
    have c51' := hD4.hd
    have g50' := hD4.fr 1050
    have g51' := hD4.fr 1051
    have HT := Lib.hid hT
    have HS4 := Lib.hid hS4
    have HF4 := Lib.hid hf
    have HBB := Lib.hid hB
    have HNL := Lib.hid ((show RI w3 F C p d3 H k w3 r2 from ⟨by rw [← q4]; exact hS3, by rw [s3.src]; exact k1, k2, Frm.refl _ _⟩).new)
    clear hf hf' hD4 hS4 hT hB hS3 hF3 s3 k1 k2 hat q1 q2 q3 q4 q5 c50 g50
    go_wp2_with fail
    obtain ⟨w5, hw5⟩ : ∃ w5, w5 = (w4.setCell ⟨F, 1050, none⟩ (.pointer (some ⟨B, 0, none⟩))).setCell ⟨F, 1051, none⟩ (.pointer none) := ⟨_, rfl⟩
    rw [← hw5]
    obtain ⟨hS3, hF3, s3, k1, k2, hat, q1, q2, q3, q4, q5⟩ := HD3.out
    obtain ⟨d5, hd5⟩ : ∃ d5 : DS, d5 = { d3 with hl := .pointer (some ⟨B, 0, none⟩), hd := .pointer none } := ⟨_, rfl⟩
    have hf5 : Frm (SX F d3) w4 w5 := by rw [hw5]; exact ((Frm.refl _ _).setCell (.inl (.inr (.inr ⟨rfl, by simp⟩))) _).setCell (.inl (.inr (.inr ⟨rfl, by simp⟩))) _
    have hD5 : Dec w5 F d5 := by rw [hw5, hd5]; exact (HS4.out.dec.set_hl _).set_hd _
    have s5 : Same d3 d5 := by rw [hd5]; exact ⟨rfl, rfl, rfl, rfl, rfl, rfl⟩
    have hS5 : St w5 F C p d5 H k 0 := HS4.out.of hD5 hf5 (SX.ok HS4.out) s5 (by rw [hd5]; exact ⟨rfl, rfl, rfl, rfl, rfl⟩)
    obtain ⟨n1, n2, n3, n4, n5⟩ := HNL.out B HBB.out
    have hTB : TabAt w5 B 0 fixedTab (LinkB F d3) := (HT.out.mono HNL.out).keep hf5 (fun x _ _ e => by
      rcases e with e | e | e
      · exact n2 e
      · exact n3 e
      · exact n1 e.1) (fun b hb x e => by
      rcases e with e | e | e
      · exact hb.2.1 e
      · exact hb.2.2.1 e
      · exact hb.1 e.1)
    have hN : LinkB F d5 = LinkB F d3 := by funext b; unfold LinkB; rw [s5.R, s5.HB, s5.BB, s5.CB]
    have hTabs : Tabs w5 F d5 fixedTab none := by
      refine ⟨⟨B, 0, by rw [hd5], by rw [hN]; exact hTB, fixedTab_ok, by rw [s5.R]; exact n2, by rw [s5.HB]; exact n3, by rw [s5.BB]; exact n4, by rw [s5.CB]; exact n5, fun e => absurd e n1⟩, by rw [hd5]⟩
    have hcall := huffmanBlock_any w5 F C p d5 H k m last r2 fixedTab none H hS5 (by rw [hd5]; exact q1) (by rw [hd5]; exact q2) (by rw [hd5]; exact q3) (by rw [s5.src, s3.src]; exact k1) k2 (by rw [hd5]; exact put_tabs q4 _ _) hTabs (by
        have hq : SS0 d5 H := q5.same (by rw [hd5]) (by rw [hd5]) (by rw [hd5]) (Nat.le_refl _)
        rcases hq with hq | ⟨hq, hc, D', a1, a2, a3, a4⟩
        · exact .inl ⟨hq, rfl⟩
        · exact .inr ⟨hq, 0, D', hc, a1, by omega, a2, a3, a4, (lz_zero H D').symm⟩) (by rw [s5.src, s3.src]; have := HM.out; omega)
    have HC := Lib.hid hcall
    have HFF := Lib.hid (show Frm (SA F d) w w5 from (hF3.trans (HF4.out.mono fun b o e => e.elim)).trans (hf5.mono fun b o e => s3.SA (SX.sa e)))
    have HSS := Lib.hid (s3.trans s5)
    clear hw5 hd5 hf5 hD5 s5 hS5 n1 n2 n3 n4 n5 hTB hN hTabs hcall hS3 hF3 s3 k1 k2 hat q1 q2 q3 q4 q5 c50' c51' g50' g51'
    go_wp2_with fail
    refine HC.out.mono ?_
    intro e w6 hP
    obtain rfl : e = .returned (.tuple #[]) := hP.1
    have HP := Lib.hid hP
    clear hP
    go_wp2_with fail
    go_end0
    exact (HP.out.from_ HSS.out HFF.out).step HG.out
  have e1 : ((ty : Int) == 1) = false := by simp; omega
  by_cases t2 : ty = 2
  · as_aux_lemma =>
    have e2 : ((ty : Int) == 2) = true := by simp; omega
    have hgo := HGO.out
    rw [if_neg t0, if_neg t1, if_pos t2] at hgo
    have HG := Lib.hid hgo
    have hcall := readHuffman_any w3 F C p d3 H k r2 HD3.out.1 HD3.out.2.2.2.2.2.2.2.2.2.1 (by rw [HD3.out.2.2.1.src]; exact HD3.out.2.2.2.1) HD3.out.2.2.2.2.1
    rw [HD3.out.2.2.1.src] at hcall
    have hgood := readHuff_good HD3.out.2.2.2.1 HD3.out.2.2.2.2.1
    have HC := Lib.hid hcall
    have HGOOD := Lib.hid hgood
    clear t0 t1 t2 hgo hcall hgood
    go_wp2_with fail
    refine HC.out.mono ?_
    intro e w4 hP
    cases hRH : readHuff d.src r2 with
    | bad er rb =>
      rw [hRH] at hP
      have hg := HG.out
      rw [hRH] at hg
      have HG2 := Lib.hid hg
      obtain ⟨v, d4, rfl, hv, hS4, s4, hp4, hwr4, hf4⟩ := hP
      have c48 := hS4.dec.err
      have g48 := hS4.dec.fr 1048
      have HS4 := Lib.hid (And.intro hv (And.intro hS4 (And.intro s4 (And.intro hp4 (And.intro hwr4 hf4)))))
      have hvv : (∃ q, v = errAt q) ∨ ∃ x : Nat, v = corruptAt x := by
        cases er with
        | eof => exact .inl ⟨_, hv⟩
        | cut => exact .inl ⟨_, hv⟩
        | corrupt => exact .inr hv
      have hend : StepPost w F C p d k m (.next r, H) (.returned (.tuple #[])) (w4.setCell ⟨F, 1048, none⟩ v) := by
        obtain ⟨hS3, hF3, s3, k1, k2, hat, q1, q2, q3, q4, q5⟩ := HD3.out
        have hf5 : Frm (SX F d4) w4 (w4.setCell ⟨F, 1048, none⟩ v) := (Frm.refl _ _).setCell (.inl (.inr (.inr ⟨rfl, by simp⟩))) _
        have hS5 := hS4.of (hS4.dec.set_err v) hf5 (SX.ok hS4) ⟨rfl, rfl, rfl, rfl, rfl, rfl⟩ ⟨rfl, rfl, rfl, rfl, rfl⟩
        have s5 := s3.trans s4
        exact (step_done (d := d) (e := er) (x := (.done er rb.pos, H)) hS5 ⟨s5.R, s5.base, s5.src, s5.BB, s5.CB, s5.HB⟩ (by simp only; rw [hwr4]; exact q2) hv (by rw [← hp4]) ((hF3.trans (hf4.mono fun b o e => s3.SA e)).trans (hf5.mono fun b o e => s5.SA (SX.sa e))) hm0).step HG2.out
      have HEND := Lib.hid hend
      clear hv hS4 s4 hp4 hwr4 hf4 hg hRH hend
      rcases hvv with ⟨q, rfl⟩ | ⟨x, rfl⟩
      · go_wp2_with fail
        go_end0
        exact HEND.out
      · go_wp2_with fail
        go_end0
        exact HEND.out
    | ok TD r3 =>
      obtain ⟨T, D⟩ := TD
      rw [hRH] at hP
      have hg := HG.out
      rw [hRH] at hg
      have HG2 := Lib.hid hg
      have hgood := HGOOD.out
      rw [hRH] at hgood
      have HGD := Lib.hid hgood
      obtain ⟨rfl, hI4, hT1, hT2⟩ := hP
      have c48 := hI4.st.dec.err
      have c50 := hI4.st.dec.hl
      have c51 := hI4.st.dec.hd
      have g48 := hI4.st.dec.fr 1048
      have g50 := hI4.st.dec.fr 1050
      have g51 := hI4.st.dec.fr 1051
      have HI4 := Lib.hid hI4
      have HT1 := Lib.hid hT1
      have HT2 := Lib.hid hT2
      clear hg hRH hgood hI4 hT1 hT2
      go_wp2_with fail
      obtain ⟨w5, hw5⟩ : ∃ w5, w5 = ((w4.setCell ⟨F, 1048, none⟩ .nilIface).setCell ⟨F, 1050, none⟩ (.pointer (some ⟨F, 5, none⟩))).setCell ⟨F, 1051, none⟩ (.pointer (some ⟨F, 520, none⟩)) := ⟨_, rfl⟩
      rw [← hw5]
      obtain ⟨hS3, hF3, s3, k1, k2, hat, q1, q2, q3, q4, q5⟩ := HD3.out
      obtain ⟨⟨o1, o2⟩, gk1, gk2, gk3⟩ := HGD.out
      obtain ⟨d5, hd5⟩ : ∃ d5 : DS, d5 = { d3.put r3 with hl := .pointer (some ⟨F, 5, none⟩), hd := .pointer (some ⟨F, 520, none⟩) } := ⟨_, rfl⟩
      have hf5 : Frm (SX F d3) w4 w5 := by rw [hw5]; exact (((Frm.refl _ _).setCell (.inl (.inr (.inr ⟨rfl, by simp⟩))) _).setCell (.inl (.inr (.inr ⟨rfl, by simp⟩))) _).setCell (.inl (.inr (.inr ⟨rfl, by simp⟩))) _
      have hD5 : Dec w5 F d5 := by rw [hw5, hd5]; exact ((HI4.out.st.dec.err_nil q1).set_hl _).set_hd _
      have s5 : Same d3 d5 := by rw [hd5]; exact ⟨rfl, rfl, rfl, rfl, rfl, rfl⟩
      have hS5 : St w5 F C p d5 H k 0 := HI4.out.st.of hD5 hf5 (SX.ok (d := d3.put r3) HI4.out.st) (by rw [hd5]; exact ⟨rfl, rfl, rfl, rfl, rfl, rfl⟩) (by rw [hd5]; exact ⟨rfl, rfl, rfl, rfl, rfl⟩)
      have hN : LinkB F d5 = LinkB F d3 := by funext b; unfold LinkB; rw [s5.R, s5.HB, s5.BB, s5.CB]
      have nBF := hD5.neBF
      have nCF := hD5.neCF
      have nRF := hD5.neRF
      have nHF := hD5.neHF
      have hkeep : ∀ (o : Nat) (T : Tab), 5 ≤ o → o + 515 ≤ 1035 → TabAt w4 F o T (LinkB F d3) → TabAt w5 F o T (LinkB F d5) := fun o T h1 h2 hT => by
        rw [hN]
        rw [s5.R] at nRF
        rw [s5.HB] at nHF
        exact hT.keep hf5 (fun x h3 h4 e => by
          rcases e with e | e | e
          · exact nRF e.symm
          · exact nHF e.symm
          · omega) (fun b hb x e => by
          rcases e with e | e | e
          · exact hb.2.1 e
          · exact hb.2.2.1 e
          · exact hb.1 e.1)
      have hTabs : Tabs w5 F d5 T (some D) :=
        ⟨⟨F, 5, by rw [hd5], hkeep 5 T (by omega) (by omega) HT1.out, o1, fun e => nRF e.symm, fun e => nHF e.symm, fun e => nBF e.symm, fun e => nCF e.symm, fun _ => by omega⟩,
         ⟨F, 520, by rw [hd5], hkeep 520 D (by omega) (by omega) HT2.out, o2, fun e => nRF e.symm, fun e => nHF e.symm, fun e => nBF e.symm, fun e => nCF e.symm, fun _ => by omega⟩⟩
      have hcall := huffmanBlock_any w5 F C p d5 H k m last r3 T (some D) H hS5 (by rw [hd5]; exact q1) (by rw [hd5]; exact q2) (by rw [hd5]; exact q3) (by rw [s5.src, s3.src]; exact gk1) gk3 (by rw [hd5]; exact put_tabs (d := d3.put r3) rfl _ _) hTabs (by
          have hq : SS0 d5 H := q5.same (by rw [hd5]; rfl) (by rw [hd5]; rfl) (by rw [hd5]; rfl) (Nat.le_refl _)
          rcases hq with hq | ⟨hq, hc, D', a1, a2, a3, a4⟩
          · exact .inl ⟨hq, rfl⟩
          · exact .inr ⟨hq, 0, D', hc, a1, by omega, a2, a3, a4, (lz_zero H D').symm⟩) (by rw [s5.src, s3.src]; have := HM.out; omega)
      have HC2 := Lib.hid hcall
      have HFF := Lib.hid (show Frm (SA F d) w w5 from (hF3.trans (HI4.out.frm.mono fun b o e => s3.SA e)).trans (hf5.mono fun b o e => s3.SA (SX.sa e)))
      have HSS := Lib.hid (s3.trans s5)
      clear hw5 hd5 hf5 hD5 s5 hS5 hN hkeep hTabs hcall hS3 hF3 s3 k1 k2 hat q1 q2 q3 q4 q5 o1 o2 gk1 gk2 gk3 nBF nCF nRF nHF c48 c50 c51 g48 g50 g51
      go_wp2_with fail
      refine HC2.out.mono ?_
      intro e w6 hP
      obtain rfl : e = .returned (.tuple #[]) := hP.1
      have HP := Lib.hid hP
      clear hP
      go_wp2_with fail
      go_end0
      exact (HP.out.from_ HSS.out HFF.out).step HG2.out
  · as_aux_lemma =>
    have e2 : ((ty : Int) == 2) = false := by simp; omega
    have hgo := HGO.out
    rw [if_neg t0, if_neg t1, if_neg t2] at hgo
    have HG := Lib.hid hgo
    have c2 : w3.cell? ⟨F, 2, none⟩ = some (.int .i64 (r2.pos : Int)) := by
      obtain ⟨hS3, hF3, s3, k1, k2, hat, q1, q2, q3, q4, q5⟩ := HD3.out
      have := hS3.dec.roff
      rw [congrArg DS.roff q4] at this
      exact this
    have c48 := HD3.out.1.dec.err
    have g48 := HD3.out.1.dec.fr 1048
    clear t0 t1 t2 hgo
    go_wp2_with fail
    go_end0
    obtain ⟨hS3, hF3, s3, k1, k2, hat, q1, q2, q3, q4, q5⟩ := HD3.out
    have hf5 : Frm (SX F d3) w3 (w3.setCell ⟨F, 1048, none⟩ (corruptAt r2.pos)) := (Frm.refl _ _).setCell (.inl (.inr (.inr ⟨rfl, by simp⟩))) _
    have hS5 := hS3.of (hS3.dec.set_err (corruptAt r2.pos)) hf5 (SX.ok hS3) ⟨rfl, rfl, rfl, rfl, rfl, rfl⟩ ⟨rfl, rfl, rfl, rfl, rfl⟩
    have hpos : d3.pos = r2.pos := congrArg DS.pos q4
    exact (step_done (d := d) (e := .corrupt) (x := (.done .corrupt r2.pos, H)) hS5 ⟨s3.R, s3.base, s3.src, s3.BB, s3.CB, s3.HB⟩ q2 ⟨r2.pos, rfl⟩ (by rw [← hpos]) (hF3.trans (hf5.mono fun b o e => s3.SA (SX.sa e))) hm0).step HG.out

end Go.Proofs.YthfncdfcklbigaaDoor
