/-
  THE WALK OF 'impl.Inflate': it gives what 'Infl' says.
-/
import Derived.Test.YthfncdfcklbigaaDoorInflK
set_option linter.unusedVariables false
set_option linter.unusedSimpArgs false
namespace Go.Proofs.YthfncdfcklbigaaDoor
open Go.RowKit Flate
set_option maxRecDepth 100000

set_option maxHeartbeats 4000000 in
theorem inflate_long (w : World) (C : Nat) (p : Ps) (he : Env w C p) (base : Option Addr) (src : List UInt8) (cap : Nat) (hs : Bt w base src cap) (hsl : src.length ≤ 1099511627776) (dbase : Option Addr) (dict : List UInt8) (dcap : Nat) (hd : Bt w dbase dict dcap) (hdl : dict.length ≤ 4294967296) (has : Bool) (hxl : ∀ e p X, Infl src (if has then dict else []) e p X → X.length ≤ 52776558133248)
    (sb : Option Addr) (sn sc : Nat) (hsz : Sizes w w.heap.size (fun _ => False) (.slice sb sn sc)) :
    Calls Tryd.prog 17 #[.slice base src.length cap, .slice dbase dict.length dcap, .bool has, .slice sb sn sc] w (InflPost w src (if has then dict else [])) := by
  have HE := Lib.hid he
  have HS := Lib.hid hs
  have HD := Lib.hid hd
  have HL := Lib.hid (And.intro hsl hdl)
  have HXL := Lib.hid hxl
  have HZ := Lib.hid hsz
  clear he hs hd hsl hdl hsz hxl
  obtain ⟨DD, hDD⟩ : ∃ DD, DD = if has then dict else [] := ⟨_, rfl⟩
  rw [← hDD] at HXL ⊢
  have HDD := Lib.hid hDD
  clear hDD
  obtain ⟨n1, hn1⟩ : ∃ n1, n1 = src.length := ⟨_, rfl⟩
  obtain ⟨n2, hn2⟩ : ∃ n2, n2 = dict.length := ⟨_, rfl⟩
  rw [← hn1, ← hn2]
  have HN := Lib.hid (And.intro hn1 hn2)
  clear hn1 hn2
  go_enter Tryd.func17, Tryd.ntmps17
  go_wp2_with fail
  refine (bytesNewReader_any _ _ _ _).mono ?_
  rintro e w1 ⟨rfl, hw1⟩
  obtain ⟨R, hR⟩ : ∃ R, R = w.heap.size := ⟨_, rfl⟩
  rw [← hR]
  have hsrc : Src w1 R base src 0 := by
    rw [← hw1, hR, HN.out.1]
    exact newSrc HS.out.bytes HS.out.hcap (by have := HL.out.1; omega) HS.out.lt
  have hf1 : Frm (fun _ _ => False) w w1 := by rw [← hw1]; exact (Frm.refl _ _).alloc _
  have he1 : Env w1 C p := HE.out.keep hf1 (fun _ _ e => e.elim)
  have hCR : C ≤ R := by rw [hR]; exact HE.out.le
  have hbl1 : ∀ a, base = some a → a.block < w1.heap.size := fun a ha => Nat.lt_of_lt_of_le (HS.out.lt a ha) hf1.size
  have hds := Bt.keep HD.out hf1
  have H1 := Lib.hid (And.intro hsrc (And.intro hf1 (And.intro he1 (And.intro hCR (And.intro hbl1 hds)))))
  have HR := Lib.hid hR
  clear hw1 hsrc hf1 he1 hCR hbl1 hds hR
  go_wp2_with fail
  refine (newReader_any w1 C p R base src H1.out.2.2.1 H1.out.2.2.2.1 H1.out.1 H1.out.2.2.2.2.1).mono ?_
  rintro e w2 ⟨F1, d1, hF1, rfl, hP1⟩
  have HF1 := Lib.hid hF1
  clear hF1
  go_upto_if 19 with (fail)
  go_cut [12] (fun r wq => ∃ F d, r = .iface 121 (.pointer (some ⟨F, 0, none⟩)) ∧ Hid (R < F ∧ RS F C p d (.next ⟨0, 0⟩, tail32 DD) (tail32 DD).length wq d (tail32 DD) 0 (.next ⟨0, 0⟩, tail32 DD) ∧ d.R = R ∧ d.base = base ∧ d.src = src ∧ d.HB = F + 3 ∧ d.BB = F + 1 ∧ d.CB = F + 2 ∧ Frm (fun _ _ => False) w wq))
  case first =>
    cases has with
    | false =>
      go_wp2_with fail
      go_meet
      case rel =>
        obtain ⟨h1, h2, h3, h4, h5, h6, h7, h8⟩ := hP1.out
        have hD0 : DD = [] := HDD.out
        rw [hD0]
        exact ⟨F1, d1, rfl, Lib.hid ⟨Nat.lt_of_lt_of_le (H1.out.1.lt) HF1.out, h1, h2, h3, h4, h5, h6, h7, H1.out.2.1.trans h8⟩⟩
    | true =>
      obtain ⟨h1, h2, h3, h4, h5, h6, h7, h8⟩ := hP1.out
      have hdr := newReaderDict_any w2 C p R base src (H1.out.2.2.1.keep h8 (fun _ _ e => e.elim)) H1.out.2.2.2.1 (H1.out.1.keep h8 (fun o e => e) (fun a ha j _ e => e)) (fun a ha => Nat.lt_of_lt_of_le (H1.out.2.2.2.2.1 a ha) h8.size) dbase dict dcap (H1.out.2.2.2.2.2.keep h8).bytes H1.out.2.2.2.2.2.hcap (by have := HL.out.2; omega) (H1.out.2.2.2.2.2.keep h8).lt
      rw [← HN.out.2] at hdr
      have HDR := Lib.hid hdr
      have HF8 := Lib.hid h8
      clear h1 h2 h3 h4 h5 h6 h7 h8 hdr
      go_wp2_with fail
      refine HDR.out.mono ?_
      rintro e w3 ⟨F2, d2, hF2, rfl, hP2⟩
      have HF2 := Lib.hid hF2
      clear hF2
      go_wp2_with fail
      go_meet
      case rel =>
        obtain ⟨h1, h2, h3, h4, h5, h6, h7, h8⟩ := hP2.out
        have hD0 : DD = dict := HDD.out
        rw [hD0]
        exact ⟨F2, d2, rfl, Lib.hid ⟨Nat.lt_of_lt_of_le (H1.out.1.lt) (Nat.le_trans HF8.out.size HF2.out), h1, h2, h3, h4, h5, h6, h7, (H1.out.2.1.trans HF8.out).trans h8⟩⟩
  case rest =>
  obtain ⟨F, d, rfl, hH⟩ := hcut
  obtain ⟨hRF, hRS, hdR, hdb, hds, hdH, hdB, hdC, hFw⟩ := hH.out
  have hbl : ∀ a, d.base = some a → a.block < wc.heap.size := fun a ha => by
    rw [hdb] at ha
    exact Nat.lt_of_lt_of_le (HS.out.lt a ha) hFw.size
  have hlow := hRS.low hbl
  have hCw : C ≤ wc.heap.size := Nat.le_trans HE.out.le hFw.size
  obtain ⟨er, P, X, hinf, hP, hX⟩ := infl_ex src DD
  have hfin : Flate.Reach d.src (.next ⟨0, 0⟩, tail32 DD) (.done er P, tail32 DD ++ X) := by rw [hds]; exact hinf
  have hrd := flate_reader (p := p) hfin (start_ok _ (tail32 DD)) hlow hCw
  have hlen : (tail32 DD ++ X).length ≤ 70368744177664 := by
    rw [List.length_append]
    have h1 : (tail32 DD).length ≤ 32768 := by unfold tail32; rw [List.length_drop]; omega
    have h2 := HXL.out _ _ _ hinf
    omega
  have hsz : Sizes wc wc.heap.size (MD F d) (.slice sb sn sc) := by
    rcases HZ.out with h | ⟨SB, so, ln, cap', h1, h2, h3, h4, h5, h6⟩
    · exact .inl h
    · have hR := HR.out
      refine .inr ⟨SB, so, ln, cap', h1, h2, h3, Nat.lt_of_lt_of_le h4 hFw.size, ?_, fun j hj => by obtain ⟨u, u1, u2, u3⟩ := h6 j hj; exact ⟨u, u1, u2, hFw.keep u3 (fun e => e)⟩⟩
      unfold MD
      omega
  have hdr := drain_any wc 121 130 F (MD F d) (tail32 DD ++ X) _ _ hrd (tail32 DD).length (by rw [List.length_append]; omega) ⟨d, _, _, _, hRS⟩ hlen sb sn sc hsz
  have HDR := Lib.hid hdr
  have HX := Lib.hid (And.intro hinf (And.intro hP (And.intro hFw (And.intro hRF (And.intro hdR (And.intro hdb (And.intro hds (And.intro hdH (And.intro hdB hdC)))))))))
  clear hRF hRS hdR hdb hds hdH hdB hdC hFw hbl hlow hCw hinf hP hX hfin hrd hlen hsz hdr
  apply_assumption
  go_wp2_with fail
  refine HDR.out.mono ?_
  rintro e w4 ⟨v, errv, rfl, hown, hJ, herr, hf4⟩
  obtain ⟨hev, d4, n4, hRS4, hpos4, herr4⟩ := hJ
  obtain ⟨hinf, hP, hFw, hRF, hdR, hdb, hds, hdH, hdB, hdC⟩ := HX.out
  have hf04 : Frm (fun _ _ => False) w w4 := hFw.trans' hf4 (fun x o hx q => by
    have hR := HR.out
    unfold MD at q
    omega)
  have hown' : Own w4 w.heap.size v X := by
    have := hown
    rw [List.drop_left] at this
    exact this.lower hFw.size
  have hsrc4 : Src w4 R base src P := by
    have := hRS4.st.dec.so
    rw [hRS4.same.R, hRS4.same.base, hRS4.same.src, hdR, hdb, hds, hpos4] at this
    exact this
  have henv4 := hRS4.st.env
  have c48 := hRS4.st.dec.err
  rw [herr4] at c48
  have HEND := Lib.hid (And.intro hinf (And.intro hf04 (And.intro hown' (And.intro hsrc4 henv4))))
  clear hinf hP hFw hRF hdR hdb hds hdH hdB hdC hf04 hown' hsrc4 hRS4 hpos4 herr4 hown hf4 herr
  have g0 := henv4.eof
  have HN1 := HN.out.1
  cases er with
  | eof =>
    have hev : errv = errAt p.E := hev
    subst hev
    have hq := fun w => eql_same p.E w
    have HC := Lib.hid (close_eof w4 F C p henv4 c48)
    clear henv4 c48
    go_wp2_with fail
    refine HC.out.mono ?_
    rintro e w5 ⟨rfl, nq, rfl⟩
    go_wp2_with fail
    refine (faultOf_nil _).mono ?_
    rintro e w6 ⟨rfl, rfl⟩
    go_wp2_with fail
    refine (len_any _ R base src P (HEND.out.2.2.2.1.drewN nq)).mono ?_
    rintro e w7 ⟨rfl, nq2, rfl⟩
    go_wp2_with fail
    go_ret3
    obtain ⟨hinf, hf04, hown', _, _⟩ := HEND.out
    exact ⟨v, .eof, P, X, hinf, rfl, hown'.drewN _, hf04.drewN _⟩
  | cut =>
    have hev : errv = errAt p.U := hev
    subst hev
    have hn := henv4.nodup
    have hq := eql_other henv4 (x := p.U) (y := p.E) (by simp [Ps.all]) (by simp [Ps.all]) (by intro e; simp [Ps.all, e] at hn)
    clear henv4 c48 hn
    go_wp2_with fail
    refine (faultOf_unx _ HEND.out.2.2.2.2).mono ?_
    rintro e w6 ⟨rfl, rfl⟩
    go_wp2_with fail
    refine (len_any _ R base src P HEND.out.2.2.2.1).mono ?_
    rintro e w7 ⟨rfl, nq2, rfl⟩
    go_wp2_with fail
    go_ret3
    obtain ⟨hinf, hf04, hown', _, _⟩ := HEND.out
    exact ⟨v, .cut, P, X, hinf, rfl, hown'.drewN _, hf04.drewN _⟩
  | corrupt =>
    obtain ⟨y, hev⟩ : ∃ y : Nat, errv = corruptAt y := hev
    subst hev
    obtain ⟨ms, hi⟩ := underlyingError
    have hty := run_eql_iface_types (P := Tryd.prog) 125 197 (.int .i64 (y : Int)) (.pointer (some p.E)) hi (by decide)
    clear henv4 c48 hi
    go_wp2_with fail
    refine (faultOf_corrupt _ HEND.out.2.2.2.2 y).mono ?_
    rintro e w6 ⟨rfl, rfl⟩
    go_wp2_with fail
    refine (len_any _ R base src P HEND.out.2.2.2.1).mono ?_
    rintro e w7 ⟨rfl, nq2, rfl⟩
    go_wp2_with fail
    go_ret3
    obtain ⟨hinf, hf04, hown', _, _⟩ := HEND.out
    exact ⟨v, .corrupt, P, X, hinf, rfl, hown'.drewN _, hf04.drewN _⟩

theorem inflate_any (w : World) (C : Nat) (p : Ps) (he : Env w C p) (base : Option Addr) (src : List UInt8) (cap : Nat) (hs : Bt w base src cap) (hsl : src.length ≤ 17179869184) (dbase : Option Addr) (dict : List UInt8) (dcap : Nat) (hd : Bt w dbase dict dcap) (hdl : dict.length ≤ 4294967296) (has : Bool)
    (sb : Option Addr) (sn sc : Nat) (hsz : Sizes w w.heap.size (fun _ => False) (.slice sb sn sc)) :
    Calls Tryd.prog 17 #[.slice base src.length cap, .slice dbase dict.length dcap, .bool has, .slice sb sn sc] w (InflPost w src (if has then dict else [])) :=
  inflate_long w C p he base src cap hs (by omega) dbase dict dcap hd hdl has (fun e p X h => by have := h.le.2; omega) sb sn sc hsz

end Go.Proofs.YthfncdfcklbigaaDoor
