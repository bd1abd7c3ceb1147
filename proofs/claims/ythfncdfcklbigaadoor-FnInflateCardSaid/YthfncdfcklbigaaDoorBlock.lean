/-
  THE WALK OF 'dataBlock'.
-/
import Derived.Test.YthfncdfcklbigaaDoorData
import Derived.Test.YthfncdfcklbigaaDoorStr
import Derived.Test.YthfncdfcklbigaaDoorStored
import Derived.Laws.DeepNot64
import Derived.Deep.RegionWith
set_option linter.unusedVariables false
set_option linter.unusedSimpArgs false
namespace Go.Proofs.YthfncdfcklbigaaDoor
open Go.RowKit Flate
set_option maxRecDepth 100000

theorem getD_at (src : List UInt8) (i : Nat) (h : i < src.length) : src.getD i 0 = src[i] := by rw [List.getD_eq_getElem?_getD, List.getElem?_eq_getElem h]; rfl

set_option maxHeartbeats 2000000 in
theorem dataBlock_any (w : World) (F C : Nat) (p : Ps) (d : DS) (H : List UInt8) (k m : Nat) (x : Cfg × List UInt8) (h : St w F C p d H k 0) (he : d.err = .nilIface) (hro : d.roff = d.pos)
    (hw : d.wr < 32768) (hs0 : SS0 d H) (hx : storedStep d.src d.fin d.pos H = x) (hm : d.pos + 4 ≤ d.src.length → 2 * (8 * d.src.length + 1 - 8 * (d.pos + 4)) + 1 < m) (hm0 : 0 < m) :
    Calls Tryd.prog 74 #[.pointer (some ⟨F, 0, none⟩)] w (StepPost w F C p d k m x) := by
  have HS00 := Lib.hid hs0
  clear hs0
  have hD := h.dec
  have c0 := hD.r
  have c3 := hD.b
  have c4 := hD.nb
  have f3 := hD.fr 3
  have f4 := hD.fr 4
  have HH := Lib.hid h
  have HX := Lib.hid hx
  have hD2 := (hD.set_nb 0).set_b 0
  obtain ⟨w2, hw2⟩ : ∃ w2, w2 = (w.setCell ⟨F, 4, none⟩ (.int .u64 0)).setCell ⟨F, 3, none⟩ (.int .u32 0) := ⟨_, rfl⟩
  rw [show ((w.setCell ⟨F, 4, none⟩ (.int .u64 ((0 : Nat) : Int))).setCell ⟨F, 3, none⟩ (.int .u32 ((0 : Nat) : Int))) = w2 from hw2.symm] at hD2
  have hf2 : Frm (SX F d) w w2 := by rw [hw2]; exact ((Frm.refl _ _).setCell (.inl (.inr (.inr ⟨rfl, by simp⟩))) _).setCell (.inl (.inr (.inr ⟨rfl, by simp⟩))) _
  have hne := hD.neRF
  have hRd : Calls Tryd.prog 80 #[.iface 55 (.pointer (some ⟨d.R, 0, none⟩)), .slice (some ⟨F, 1041, none⟩) 4 4] w2.drew (FullPost p w2.drew d.R d.base d.src d.pos F 1041 4) := by
    refine readFull_any _ _ _ _ _ _ _ _ _ C _ hD2.so.drew (h.env.keep hf2.drew (fun b o e => ((SX.ok h) b o e).1)) h.cR h.cF (by omega) (by omega) (by omega) (Ne.symm hne) (fun a ha e => hD.far a ha (by rw [← e]; simp)) (fun j hj => ?_) (fun j _ => hD2.fr _)
    show (w2.cell? _).isSome = true
    match j, hj with
    | 0, _ => rw [hD2.u0]; rfl
    | 1, _ => rw [show 1041 + 1 = 1042 from rfl, hD2.u1]; rfl
    | 2, _ => rw [show 1041 + 2 = 1043 from rfl, hD2.u2]; rfl
    | 3, _ => rw [show 1041 + 3 = 1044 from rfl, hD2.u3]; rfl
    | j + 4, hj => omega
  have hRd' : Calls Tryd.prog 80 #[.iface 55 (.pointer (some ⟨d.R, 0, none⟩)), .slice (some ⟨F, 1041, none⟩) 4 4] w2.drew (fun e w3 => ∃ (K : Nat) (ev : Value), e = .returned (.tuple #[.int .i64 (K : Int), ev]) ∧
      Hid (K = Nat.min (d.src.length - d.pos) 4 ∧ ev = (if K = 4 then .nilIface else if K = 0 then errAt p.E else errAt p.U) ∧ ReadPost w2.drew d.R d.base d.src d.pos F 1041 K w3)) :=
    hRd.mono fun e w3 ⟨K, h1, h2, h3⟩ => ⟨K, _, h2, Lib.hid ⟨h1, rfl, h3⟩⟩
  have HRd := Lib.hid hRd'
  have HD2 := Lib.hid hD2
  have HF2 := Lib.hid hf2
  have k0 : w2.cell? ⟨F, 0, none⟩ = some (.iface 55 (.pointer (some ⟨d.R, 0, none⟩))) := hD2.r
  clear h hx hRd hRd' hD hD2 hf2
  go_enter Tryd.func74, Tryd.ntmps74
  go_upto_region 2 with (fail)
  rw [← hw2]
  clear hw2
  go_region_with (go_at_call 80; refine HRd.out.mono ?_; rintro e w3 ⟨K, ev, rfl, HP⟩)
  obtain ⟨hK, hev, hS3, hf3, hc3⟩ := HP.out
  obtain ⟨m1', m2', m3'⟩ := min_cases (d.src.length - d.pos) 4
  rw [← hK] at m1' m2' m3'
  have hle := HH.out.dec.so.le
  obtain ⟨v, hv⟩ : ∃ v : Nat → UInt8, v = fun j => if j < K then d.src.getD (d.pos + j) 0 else (if j = 0 then d.u0 else if j = 1 then d.u1 else if j = 2 then d.u2 else d.u3) := ⟨_, rfl⟩
  have hRF := HH.out.dec.neRF
  have hHF := HH.out.dec.neHF
  have hRH := HH.out.dec.neRH
  have hcv : ∀ j u, j < 4 → w2.cell? ⟨F, 1041 + j, none⟩ = some (.int .u8 (u : UInt8).toNat) → (¬ j < K → v j = u) → w3.cell? ⟨F, 1041 + j, none⟩ = some (.int .u8 ((v j).toNat : Int)) := by
    intro j u hj hu hvj
    by_cases hjk : j < K
    · rw [hv]; simp only; rw [if_pos hjk]; exact hc3 j hjk
    · rw [hvj hjk]; exact hf3.keep hu (fun e => by omega)
  have hD3 := HD2.out.drew.set_io (hf3.mono fun b o e => e.elim .inl (fun e => .inr (.inr ⟨e.1, by omega⟩))) hS3 d.g (fun i hi => hf3.keep (HD2.out.win i hi) (fun e => e.elim (fun q => hRH q.symm) (fun q => hHF q.1))) (v 0) (v 1) (v 2) (v 3)
    (hcv 0 d.u0 (by omega) HD2.out.u0 (fun e => by rw [hv]; simp only; rw [if_neg e]; rfl)) (hcv 1 d.u1 (by omega) HD2.out.u1 (fun e => by rw [hv]; simp only; rw [if_neg e]; rfl))
    (hcv 2 d.u2 (by omega) HD2.out.u2 (fun e => by rw [hv]; simp only; rw [if_neg e]; rfl)) (hcv 3 d.u3 (by omega) HD2.out.u3 (fun e => by rw [hv]; simp only; rw [if_neg e]; rfl))
  have hf23 : Frm (SX F d) w w3 := HF2.out.trans ((((Frm.refl (SX F d) w2).drew).trans (hf3.mono fun b o e => e.elim .inl (fun e => .inr (.inr ⟨e.1, by omega⟩)))))
  have d2 := hD3.roff
  have d48 := hD3.err
  have g2 := hD3.fr 2
  have g48 := hD3.fr 1048
  simp only at d2 d48
  rw [hro] at d2
  have hfew := HH.out.dec.so.few
  have b3 : (d.pos : Int) ≤ 1099511627776 := by omega
  have b4 : (K : Int) ≤ 4 := by omega
  have HD3 := Lib.hid hD3
  have HF23 := Lib.hid hf23
  have HV := Lib.hid hv
  have HEV := Lib.hid hev
  have HK := Lib.hid hK
  have HMM := Lib.hid m3'
  clear hcv hD3 hf23 hS3 hf3 hc3 hev hK HP c0 c3 c4 f3 f4 k0 m3' hv
  obtain ⟨w4, hw4⟩ : ∃ w4, w4 = w3.setCell ⟨F, 2, none⟩ (.int .i64 ((d.pos : Int) + (K : Int))) := ⟨_, rfl⟩
  have hD4 := HD3.out.set_roff (d.pos + K)
  rw [show ((d.pos + K : Nat) : Int) = (d.pos : Int) + (K : Int) by omega, ← hw4] at hD4
  have hf4 : Frm (SX F d) w w4 := by rw [hw4]; exact HF23.out.setCell (.inl (.inr (.inr ⟨rfl, by simp⟩))) _
  have HD4 := Lib.hid hD4
  have HF4 := Lib.hid hf4
  have HW4 := Lib.hid hw4
  have e48 := hD4.err
  have k48 := hD4.fr 1048
  have e41 := hD4.u0
  have e42 := hD4.u1
  have e43 := hD4.u2
  have e44 := hD4.u3
  have e52 := hD4.cl
  have k52 := hD4.fr 1052
  have e49 := hD4.toRead
  have k49 := hD4.fr 1049
  have e2 := hD4.roff
  simp only at e48 e41 e42 e43 e44 e52 e49 e2
  clear hD4 hf4 hw4
  by_cases hK4 : K = 4
  · have hev := HEV.out
    rw [if_pos hK4] at hev
    subst hev
    have HK4 := Lib.hid hK4
    clear hK4
    obtain ⟨a0, ha0⟩ : ∃ a, a = (v 0).toNat := ⟨_, rfl⟩
    obtain ⟨a1, ha1⟩ : ∃ a, a = (v 1).toNat := ⟨_, rfl⟩
    obtain ⟨a2, ha2⟩ : ∃ a, a = (v 2).toNat := ⟨_, rfl⟩
    obtain ⟨a3, ha3⟩ : ∃ a, a = (v 3).toNat := ⟨_, rfl⟩
    rw [← ha0] at e41
    rw [← ha1] at e42
    rw [← ha2] at e43
    rw [← ha3] at e44
    have l0 : (a0 : Int) ≤ 255 := by have := (v 0).toNat_lt; omega
    have l1 : (a1 : Int) ≤ 255 := by have := (v 1).toNat_lt; omega
    have l2 : (a2 : Int) ≤ 255 := by have := (v 2).toNat_lt; omega
    have l3 : (a3 : Int) ≤ 255 := by have := (v 3).toNat_lt; omega
    have hor : ∀ x y : Nat, x ≤ 255 → y ≤ 255 → bits .or .i64 (x : Int) ((y : Int) * 256) = ((x + 256 * y : Nat) : Int) := by
      intro x y hx hy
      rw [show (y : Int) * 256 = ((y * 256 : Nat) : Int) by omega, i64_or_nat _ _ (by omega) (by omega), Nat.or_comm, nat_join 8 _ _ (by omega) (by omega)]
      congr 1; omega
    have o1 := hor a0 a1 (by omega) (by omega)
    have o2 := hor a2 a3 (by omega) (by omega)
    obtain ⟨n, hn⟩ : ∃ n, n = a0 + 256 * a1 := ⟨_, rfl⟩
    obtain ⟨n2, hn2⟩ : ∃ n, n = a2 + 256 * a3 := ⟨_, rfl⟩
    rw [← hn] at o1
    rw [← hn2] at o2
    have l4 : (n : Int) ≤ 65535 := by omega
    have l5 : (n2 : Int) ≤ 65535 := by omega
    have hpl : d.pos + 4 ≤ d.src.length := by have := HK4.out; omega
    have hb1 : bv d.src (8 * d.pos) 16 = n := by
      have hvj : ∀ j, j < 4 → v j = d.src.getD (d.pos + j) 0 := fun j hj => by rw [HV.out]; simp only; rw [if_pos (by have := HK4.out; omega)]
      rw [bv_two _ _ (by omega), hn, ha0, ha1, hvj 0 (by omega), hvj 1 (by omega), getD_at _ _ (by omega), getD_at _ _ (by omega)]; rfl
    have hb2 : bv d.src (8 * d.pos + 16) 16 = n2 := by
      have hvj : ∀ j, j < 4 → v j = d.src.getD (d.pos + j) 0 := fun j hj => by rw [HV.out]; simp only; rw [if_pos (by have := HK4.out; omega)]
      rw [show 8 * d.pos + 16 = 8 * (d.pos + 2) by omega, bv_two _ _ (by omega), hn2, ha2, ha3, hvj 2 (by omega), hvj 3 (by omega), getD_at _ _ (by omega), getD_at _ _ (by omega)]
    have HB1 := Lib.hid hb1
    have HB2 := Lib.hid hb2
    have HK3 := Lib.hid hpl
    have e5 : IntKind.u16.wrap (bits .xor .i64 (if IntKind.i64.signed = true then -1 else 9223372036854775807) (n : Int)) = 65535 - (n : Int) := by
      rw [if_pos (show IntKind.i64.signed = true from rfl), i64_not n (by omega), IntKind.wrap_u16]; omega
    clear hb1 hb2 hpl hn hn2 hor ha0 ha1 ha2 ha3
    go_upto_region 4 with (fail)
    rw [← HW4.out]
    go_wp2_with fail
    (go_quiet (fail))
    generalize nq = qa
    go_wp2_with fail
    (go_quiet (fail))
    obtain ⟨qq, hqq⟩ : ∃ qq, qq = qa + nq := ⟨_, rfl⟩
    obtain ⟨d4, hd4⟩ : ∃ d4 : DS, d4 = { d with pos := d.pos + K, roff := d.pos + K, b := 0, nb := 0, u0 := v 0, u1 := v 1, u2 := v 2, u3 := v 3 } := ⟨_, rfl⟩
    have hD4 : Dec w4 F d4 := by rw [hd4]; exact HD4.out
    have s4 : Same d d4 := by rw [hd4]; exact ⟨rfl, rfl, rfl, rfl, rfl, rfl⟩
    have hS4 : St w4 F C p d4 H k 0 := HH.out.of hD4 HF4.out (SX.ok HH.out) s4 (by rw [hd4]; exact ⟨rfl, rfl, rfl, rfl, rfl⟩)
    have q1 : d4.wr = d.wr := by rw [hd4]
    have q2 : d4.rd = d.rd := by rw [hd4]
    have q3 : d4.HB = d.HB := by rw [hd4]
    have q4 : d4.err = .nilIface := by rw [hd4]; exact he
    have q5 : d4.b = 0 ∧ d4.nb = 0 ∧ d4.roff = d.pos + K ∧ d4.pos = d.pos + K ∧ d4.fin = d.fin := by rw [hd4]; exact ⟨rfl, rfl, rfl, rfl, rfl⟩
    have HSS := Lib.hid (And.intro hS4 (And.intro s4 (And.intro q3 q5)))
    have HD4' := Lib.hid hD4
    have HS0 := Lib.hid (show SS0 d4 H from HS00.out.same (by rw [hd4]) (by rw [hd4]) (by rw [hd4]) (Nat.le_refl _))
    clear hS4 s4 q3 q5 hD4 hd4
    have hxx : x = if n + n2 ≠ 65535 then (.done .corrupt (d.pos + 4), H) else stRest d.src d.fin (d.pos + 4) n H := by
      rw [← HX.out]
      unfold storedStep
      rw [HB1.out, HB2.out, if_neg (by have := HK3.out; omega)]
    have HXX := Lib.hid hxx
    clear hxx
    by_cases hbad : n + n2 = 65535
    · have e7 : ((n2 : Int) != 65535 - (n : Int)) = false := by simp; omega
      by_cases hn0 : n = 0
      · have e8 : ((n : Int) == 0) = true := by simp; omega
        have HN0 := Lib.hid hn0
        have HBAD := Lib.hid hbad
        clear hn0 hbad
        go_wp2_with fail
        rw [← hqq]
        refine (readFlush_any _ F d4 (HD4'.out.drewN qq) (by rw [q1]; omega) (by rw [q1, q2]; exact HH.out.rd) (by rw [q2]; exact HH.out.rd2)).mono ?_
        rintro e w6 ⟨rfl, hD6, hf6⟩
        rw [show (if d4.wr = 32768 then { d4 with wr := 0, rd := 0, full := true } else { d4 with rd := d4.wr } : DS) = d4.flushed from rfl] at hD6
        have hlF := HD4'.out.lt
        have r49 : w6.cell? ⟨F, 1049, none⟩ = some d.toRead := hf6.keep e49 (by omega)
        have s49 : w6.frozen? ⟨F, 1049, none⟩ = false := (hf6.froz F 1049 hlF).trans k49
        have HD6 := Lib.hid hD6
        have HF6 := Lib.hid hf6
        have HQ1 := Lib.hid q1
        have HQ2 := Lib.hid q2
        clear hD6 hf6 e49 k49 q1 q2 hqq
        go_wp2_with fail
        obtain ⟨w7, hw7⟩ : ∃ w7, w7 = w6.setCell ⟨F, 1049, none⟩ (.slice (some ⟨d4.HB, d4.rd, none⟩) (d4.wr - d4.rd) (32768 - d4.rd)) := ⟨_, rfl⟩
        obtain ⟨hS4, s4, q3, q5⟩ := HSS.out
        have hD7 := HD6.out.set_toRead (.slice (some ⟨d4.HB, d4.rd, none⟩) (d4.wr - d4.rd) (32768 - d4.rd))
        rw [← hw7] at hD7 ⊢
        obtain ⟨fs, fp, fg⟩ := flushed_same d4
        obtain ⟨f1, f2, f3, f4, f5, f6, f7', f8', _⟩ := flushed_more d4
        have hf7 : Frm (SX F d) w4 w7 := by
          refine (((Frm.refl _ _).drewN qq).trans (HF6.out.mono fun b o e => .inr (.inr ⟨e.1, by omega⟩))).trans ?_
          rw [hw7]
          exact (Frm.refl _ _).setCell (.inl (.inr (.inr ⟨rfl, by simp⟩))) _
        obtain ⟨g1, g2, g3⟩ := hS4.flush hD7 hf7 (SX.ok HH.out) ⟨fs.R, fs.base, fs.src, fs.BB, fs.CB, fs.HB⟩ fg rfl rfl rfl rfl
        have hp4 : d4.pos = d.pos + 4 := by rw [q5.2.2.2.1, HK4.out]
        refine (finishBlock_any w7 F C p _ H k _ ⟨8 * (d.pos + 4), d.pos + 4⟩ g1 (put_edge (f4.trans q5.1) (f5.trans q5.2.1) (f6.trans (by rw [q5.2.2.1, HK4.out])) (fp.trans hp4)) ⟨Nat.le_refl _, by show d.pos + 4 ≤ d4.flushed.src.length; rw [fs.src, s4.src]; exact HK3.out⟩
          (by unfold Br.nb; simp only; omega) (f1.trans q4) g2 (.inr g3.symm) (HS0.out.same f7' f8' f3 (Nat.le_refl _))).mono ?_
        rintro e w8 ⟨rfl, d8, n8, hS8, hM8, hs8, hw8, hm8, hf8⟩
        have HM8 := Lib.hid hM8
        have HS7 : Same d d4.flushed := s4.trans fs
        clear hM8 g1 hD7 q5 hS4
        go_wp2_with fail
        go_end0
        have hxe : (more d4.flushed.fin ⟨8 * (d.pos + 4), d.pos + 4⟩, H) = x := by
          rw [HXX.out, if_neg (by have := HBAD.out; omega), HN0.out]
          unfold stRest
          rw [if_pos HK3.out, f2, HSS.out.2.2.2.2.2.2.2, List.take_zero, List.append_nil]
        refine ⟨rfl, d8, H, n8, x, hS8, by rw [← hxe]; exact HM8.out, .refl _, ⟨hs8.R.trans HS7.R, hs8.base.trans HS7.base, hs8.src.trans HS7.src, hs8.BB.trans HS7.BB, hs8.CB.trans HS7.CB, hs8.HB.trans HS7.HB⟩, hw8, .inr ?_,
          ((HF4.out.trans hf7).mono fun b o e => SX.sa e).trans (hf8.mono fun b o e => .inl e.1)⟩
        have hm9 : dmu d8 ≤ 2 * (8 * d4.flushed.src.length + 1 - 8 * (d.pos + 4)) + 1 := hm8
        rw [HS7.src] at hm9
        have := hm HK3.out
        omega
      · have e8 : ((n : Int) == 0) = false := by simp; omega
        have HBAD := Lib.hid hbad
        clear hbad
        go_wp2_with fail
        rw [← hqq]
        obtain ⟨w7, hw7⟩ : ∃ w7, w7 = (w4.drewN qq).setCell ⟨F, 1052, none⟩ (.int .i64 (n : Int)) := ⟨_, rfl⟩
        obtain ⟨hS4, s4, q3, q5⟩ := HSS.out
        have hD7 := (hS4.dec.drewN qq).set_cl (n : Int)
        rw [← hw7] at hD7 ⊢
        have hf7 : Frm (SX F d) w4 w7 := by rw [hw7]; exact ((Frm.refl _ _).drewN qq).setCell (.inl (.inr (.inr ⟨rfl, by simp⟩))) _
        have hS7 := hS4.of hD7 hf7 (SX.ok HH.out) ⟨rfl, rfl, rfl, rfl, rfl, rfl⟩ ⟨rfl, rfl, rfl, rfl, rfl⟩
        have hp4 : d4.pos = d.pos + 4 := by rw [q5.2.2.2.1, HK4.out]
        have hr4 : d4.roff = d4.pos := by rw [q5.2.2.1, q5.2.2.2.1]
        refine (copyData_any w7 F C p _ H k n m x hS7 q4 (put_edge q5.1 q5.2.1 hr4 rfl) rfl (by omega) (by simp only; rw [q1]; exact hw) (HS0.out.one.same rfl rfl (Nat.le_refl _)) ?_ ?_ hm0).mono ?_
        · show stRest d4.src d4.fin d4.pos n H = x
          rw [HXX.out, if_neg (by have := HBAD.out; omega), s4.src, q5.2.2.2.2, hp4]
        · show d4.pos + n ≤ d4.src.length → 2 * (8 * d4.src.length + 1 - 8 * (d4.pos + n)) + 1 < m
          rw [hp4, s4.src]
          intro hle2
          have := hm HK3.out
          omega
        · rintro e w8 hP8
          have HP8 := Lib.hid (hP8.from_ (w := w) (d := d) ⟨s4.R, s4.base, s4.src, s4.BB, s4.CB, s4.HB⟩ ((HF4.out.trans hf7).mono fun b o e => SX.sa e))
          obtain ⟨rfl, _⟩ := hP8
          clear hD7 hS7 q5 hS4
          go_wp2_with fail
          go_end0
          exact HP8.out
    · have e7 : ((n2 : Int) != 65535 - (n : Int)) = true := by simp; omega
      have HBAD := Lib.hid hbad
      go_wp2_with fail
      go_end0
      rw [← hqq]
      obtain ⟨hS4, s4, q3, q5⟩ := HSS.out
      have hf7 : Frm (SX F d) w4 ((w4.drewN qq).setCell ⟨F, 1048, none⟩ (corruptAt (d.pos + K))) := ((Frm.refl _ _).drewN qq).setCell (.inl (.inr (.inr ⟨rfl, by simp⟩))) _
      refine ⟨rfl, _, H, 0, x, hS4.of ((hS4.dec.drewN qq).set_err (corruptAt (d.pos + K))) hf7 (SX.ok HH.out) ⟨rfl, rfl, rfl, rfl, rfl, rfl⟩ ⟨rfl, rfl, rfl, rfl, rfl⟩, ?_, .refl _, ⟨s4.R, s4.base, s4.src, s4.BB, s4.CB, s4.HB⟩, ⟨by simp only; rw [q1]; exact hw, fun q => absurd q (by omega)⟩, .inr hm0, (HF4.out.trans hf7).mono fun b o e => SX.sa e⟩
      rw [HXX.out, if_pos HBAD.out]
      exact .inl ⟨⟨d.pos + K, rfl⟩, rfl, by simp only; rw [q5.2.2.2.1, HK4.out]⟩
  · obtain ⟨q, hq, hqe⟩ : ∃ q, (q = p.E ∨ q = p.U) ∧ ev = errAt q := by
      have := HEV.out
      rw [if_neg hK4] at this
      by_cases h0 : K = 0
      · exact ⟨p.E, .inl rfl, by rw [this, if_pos h0]⟩
      · exact ⟨p.U, .inr rfl, by rw [this, if_neg h0]⟩
    subst hqe
    go_upto_region 4 with (fail)
    rw [← HW4.out]
    go_wp2_with fail
    refine (noEOF_any w4 C p (HH.out.env.keep HF4.out (fun b o e => ((SX.ok HH.out) b o e).1)) q hq).mono ?_
    rintro e w5 ⟨rfl, rfl⟩
    go_wp2_with fail
    go_end0
    have hf7 : Frm (SX F d) w4 (w4.setCell ⟨F, 1048, none⟩ (errAt p.U)) := (Frm.refl _ _).setCell (.inl (.inr (.inr ⟨rfl, by simp⟩))) _
    refine ⟨rfl, _, H, 0, x, HH.out.of (HD4.out.set_err (errAt p.U)) (HF4.out.trans hf7) (SX.ok HH.out) ⟨rfl, rfl, rfl, rfl, rfl, rfl⟩ ⟨rfl, rfl, rfl, rfl, rfl⟩, ?_, .refl _, ⟨rfl, rfl, rfl, rfl, rfl, rfl⟩, ⟨hw, fun q => absurd q (by omega)⟩, .inr hm0, (HF4.out.trans hf7).mono fun b o e => SX.sa e⟩
    rw [← HX.out]
    unfold storedStep
    have := HMM.out
    rw [if_pos (by omega)]
    exact .inl ⟨rfl, rfl, by simp only; omega⟩

end Go.Proofs.YthfncdfcklbigaaDoor
