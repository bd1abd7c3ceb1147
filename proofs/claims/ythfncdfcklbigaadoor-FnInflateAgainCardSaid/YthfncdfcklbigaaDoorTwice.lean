/-
  THE WALK OF 'impl.InflateTwice': a reader that is reset gives of the second source what a new one gives.
-/
import Derived.Test.YthfncdfcklbigaaDoorInflate
import Derived.Test.YthfncdfcklbigaaDoorReset
set_option linter.unusedVariables false
set_option linter.unusedSimpArgs false
namespace Go.Proofs.YthfncdfcklbigaaDoor
open Go.RowKit Flate
set_option maxRecDepth 100000

theorem asResetter (a : Addr) (w : World) : (Instr.typeAssert (.iface 121 (.pointer (some a))) 58 96 false).run Tryd.prog w = .ok (.iface 121 (.pointer (some a))) w := by kernel_rfl

theorem infl_len {src D X : List UInt8} (hs : src.length ≤ 17179869184) (hX : X.length ≤ 258 * (8 * src.length + 1)) : (tail32 D ++ X).length ≤ 70368744177664 := by
  rw [List.length_append]
  have h1 : (tail32 D).length ≤ 32768 := by unfold tail32; rw [List.length_drop]; omega
  omega

set_option maxHeartbeats 4000000 in
theorem twice_any (w : World) (C : Nat) (p : Ps) (he : Env w C p) (abase : Option Addr) (asrc : List UInt8) (acap : Nat) (ha : Bt w abase asrc acap) (hal : asrc.length ≤ 17179869184) (base : Option Addr) (src : List UInt8) (cap : Nat) (hs : Bt w base src cap) (hsl : src.length ≤ 17179869184) (dbase : Option Addr) (dict : List UInt8) (dcap : Nat) (hd : Bt w dbase dict dcap) (hdl : dict.length ≤ 4294967296) :
    Calls Tryd.prog 32 #[.slice abase asrc.length acap, .slice base src.length cap, .slice dbase dict.length dcap] w (InflPost w src dict) := by
  have HE := Lib.hid he
  have HA := Lib.hid ha
  have HS := Lib.hid hs
  have HD := Lib.hid hd
  have HL := Lib.hid (And.intro hal (And.intro hsl hdl))
  clear he ha hs hd hal hsl hdl
  obtain ⟨n0, hn0⟩ : ∃ n0, n0 = asrc.length := ⟨_, rfl⟩
  obtain ⟨n1, hn1⟩ : ∃ n1, n1 = src.length := ⟨_, rfl⟩
  obtain ⟨n2, hn2⟩ : ∃ n2, n2 = dict.length := ⟨_, rfl⟩
  rw [← hn0, ← hn1, ← hn2]
  have HN := Lib.hid (And.intro hn0 (And.intro hn1 hn2))
  clear hn0 hn1 hn2
  go_enter Tryd.func32, Tryd.ntmps32
  go_wp2_with fail
  refine (bytesNewReader_any _ _ _ _).mono ?_
  rintro e w1 ⟨rfl, hw1⟩
  obtain ⟨R0, hR0⟩ : ∃ R0, R0 = w.heap.size := ⟨_, rfl⟩
  rw [← hR0]
  have hsrc : Src w1 R0 abase asrc 0 := by
    rw [← hw1, hR0, HN.out.1]
    exact newSrc HA.out.bytes HA.out.hcap (by have := HL.out.1; omega) HA.out.lt
  have hf1 : Frm (fun _ _ => False) w w1 := by rw [← hw1]; exact (Frm.refl _ _).alloc _
  have hnr := newReader_any w1 C p R0 abase asrc (HE.out.keep hf1 (fun _ _ e => e.elim)) (by rw [hR0]; exact HE.out.le) hsrc (fun a ha => Nat.lt_of_lt_of_le (HA.out.lt a ha) hf1.size)
  have HNR := Lib.hid hnr
  have HF1 := Lib.hid hf1
  have HR0 := Lib.hid hR0
  clear hw1 hsrc hf1 hnr hR0
  go_wp2_with fail
  refine HNR.out.mono ?_
  rintro e w2 ⟨F, d, hF, rfl, hP⟩
  obtain ⟨hRS, hdR, hdb, hds, hdH, hdB, hdC, hf2⟩ := hP.out
  have hFw := HF1.out.trans hf2
  have hlow := hRS.low (fun a ha => by rw [hdb] at ha; exact Nat.lt_of_lt_of_le (HA.out.lt a ha) hFw.size)
  have hCw : C ≤ w2.heap.size := Nat.le_trans HE.out.le hFw.size
  obtain ⟨er0, P0, X0, hinf0, hP0, hX0⟩ := infl_ex asrc []
  have hfin0 : Flate.Reach d.src (.next ⟨0, 0⟩, tail32 []) (.done er0 P0, tail32 [] ++ X0) := by rw [hds]; exact hinf0
  have hdr := drain_any w2 121 130 F (MD F d) (tail32 [] ++ X0) _ _ (flate_reader (p := p) hfin0 (start_ok _ (tail32 [])) hlow hCw) (tail32 []).length (by rw [List.length_append]; omega) ⟨d, _, _, _, hRS⟩ (infl_len HL.out.1 hX0) none 0 0 (.inl ⟨_, _, rfl⟩)
  have HDR := Lib.hid hdr
  have HX := Lib.hid (And.intro hF (And.intro hdR (And.intro hdb (And.intro hds (And.intro hdH (And.intro hdB (And.intro hdC hFw)))))))
  clear hF hP hRS hdR hdb hds hdH hdB hdC hf2 hFw hlow hCw hinf0 hP0 hX0 hfin0 hdr
  go_wp2_with fail
  refine HDR.out.mono ?_
  rintro e w3 ⟨v3, errv3, rfl, hown3, hJ3, herr3, hf3⟩
  obtain ⟨hev3, d3, n3, hRS3, hpos3, herr3'⟩ := hJ3
  have HRS3 := Lib.hid (And.intro hRS3 hf3)
  clear hown3 hev3 hRS3 hpos3 herr3' herr3 hf3
  go_wp2_with fail
  refine (bytesNewReader_any _ _ _ _).mono ?_
  rintro e w4 ⟨rfl, hw4⟩
  obtain ⟨hRS3, hf3⟩ := HRS3.out
  obtain ⟨hF, hdR, hdb, hds, hdH, hdB, hdC, hFw⟩ := HX.out
  have hFl : w.heap.size ≤ F := Nat.le_trans HF1.out.size hF
  have hf03 : Frm (fun _ _ => False) w w3 := hFw.trans' hf3 (fun x o hx q => by
    have hR := HR0.out
    unfold MD at q
    omega)
  obtain ⟨R, hR⟩ : ∃ R, R = w3.heap.size := ⟨_, rfl⟩
  rw [← hR]
  have hf34 : Frm (fun _ _ => False) w3 w4 := by rw [← hw4]; exact (Frm.refl _ _).alloc _
  have hf04 := hf03.trans hf34
  have hsrc : Src w4 R base src 0 := by
    rw [← hw4, hR, HN.out.2.1]
    exact newSrc (HS.out.keep hf03).bytes HS.out.hcap (by have := HL.out.2.1; omega) (HS.out.keep hf03).lt
  have hD4 : Dec w4 F d3 := hRS3.st.dec.keep hf34 (fun o e => e.elim) (fun o e => e.elim) (fun o e => e.elim) (fun a ha j _ e => e.elim)
  have sm := hRS3.same
  have hRF : F < w3.heap.size := cell_lt hRS3.st.dec.r
  have hlH : d3.HB < w3.heap.size := cell_lt (hRS3.st.dec.win 0 (by omega))
  obtain ⟨vb, hvb⟩ := Option.isSome_iff_exists.1 (hRS3.st.dec.bb 0 (by omega))
  obtain ⟨vc, hvc⟩ := Option.isSome_iff_exists.1 (hRS3.st.dec.cb 0 (by omega))
  have hlB := cell_lt hvb
  have hlC := cell_lt hvc
  have e1 := sm.HB
  have e2 := sm.BB
  have e3 := sm.CB
  have hcw := HE.out.le
  have hrs := reset_any w4 F C p (HE.out.keep hf04 (fun _ _ e => e.elim)) d3 hD4 hRS3.st.cF hRS3.st.cH hRS3.st.cB hRS3.st.cC R base src (by rw [hR]; exact Nat.le_trans HE.out.le hf03.size) hsrc ⟨by omega, by omega, by omega, by omega⟩
    (fun a ha => by
      have h1 := HS.out.lt a ha
      have h2 := hf03.size
      simp only [List.mem_cons, List.not_mem_nil, or_false, not_or]
      omega)
    dbase dict dcap (HD.out.keep hf04).bytes HD.out.hcap HL.out.2.2 (fun a ha => by have := HD.out.lt a ha; omega) (fun a ha => by have := HD.out.lt a ha; omega)
  rw [← HN.out.2.2] at hrs
  have hFlH : w.heap.size ≤ d3.HB := by omega
  have HRS := Lib.hid hrs
  have hRle : w.heap.size ≤ R := by rw [hR]; exact hf03.size
  have HRLE := Lib.hid hRle
  have HF4 := Lib.hid (And.intro hf04 (And.intro hFl (And.intro hFlH (And.intro e1 (And.intro e2 e3)))))
  have HR := Lib.hid hR
  have has := asResetter
  clear hRS3 hf3 hF hdR hdb hds hdH hdB hdC hFw hFl hf03 hR hf34 hf04 hsrc hD4 sm hRF hlH hvb hvc hlB hlC e1 e2 e3 hcw hrs hFlH hw4 hRle
  go_wp2_with fail
  refine HRS.out.mono ?_
  rintro e w5 ⟨rfl, hf5, d5, hRS5, q1, q2, q3, q4, q5, q6⟩
  clear has
  obtain ⟨hf04, hFl, hFlH, e1, e2, e3⟩ := HF4.out
  have hf05 : Frm (fun _ _ => False) w w5 := hf04.trans' hf5 (fun x o hx q => by omega)
  have hbl : ∀ a, d5.base = some a → a.block < w5.heap.size := fun a ha => by
    rw [q2] at ha
    exact Nat.lt_of_lt_of_le (HS.out.lt a ha) hf05.size
  have hlow := hRS5.low hbl
  have hCw : C ≤ w5.heap.size := Nat.le_trans HE.out.le hf05.size
  obtain ⟨er, P, X, hinf, hP, hX⟩ := infl_ex src dict
  have hfin : Flate.Reach d5.src (.next ⟨0, 0⟩, tail32 dict) (.done er P, tail32 dict ++ X) := by rw [q3]; exact hinf
  have hdr := drain_any w5 121 130 F (MD F d5) (tail32 dict ++ X) _ _ (flate_reader (p := p) hfin (start_ok _ (tail32 dict)) hlow hCw) (tail32 dict).length (by rw [List.length_append]; omega) ⟨d5, _, _, _, hRS5⟩ (infl_len HL.out.2.1 hX) none 0 0 (.inl ⟨_, _, rfl⟩)
  obtain ⟨hFx, _, _, _, hdHx, hdBx, hdCx, _⟩ := HX.out
  have hlows : w.heap.size ≤ d5.R ∧ w.heap.size ≤ d5.HB ∧ w.heap.size ≤ d5.BB ∧ w.heap.size ≤ d5.CB := by
    have hR := HR.out
    have := HX.out.2.2.2.2.2.2.2.size
    refine ⟨?_, by omega, by omega, by omega⟩
    rw [q1]
    exact HRLE.out
  have HDR2 := Lib.hid hdr
  have HY := Lib.hid (And.intro hinf (And.intro hf05 (And.intro hlows (And.intro q1 (And.intro q2 q3)))))
  clear hf5 hRS5 q1 q2 q3 q4 q5 q6 hf04 hFl hFlH e1 e2 e3 hf05 hbl hlow hCw hinf hP hX hfin hdr hFx hdHx hdBx hdCx hlows
  go_wp2_with fail
  refine HDR2.out.mono ?_
  rintro e w6 ⟨v, errv, rfl, hown, hJ, herr, hf6⟩
  obtain ⟨hev, d6, n6, hRS6, hpos6, herr6⟩ := hJ
  obtain ⟨hinf, hf05, hlows, q1, q2, q3⟩ := HY.out
  have hf06 : Frm (fun _ _ => False) w w6 := hf05.trans' hf6 (fun x o hx q => by
    have hFl := HF4.out.2.1
    unfold MD at q
    omega)
  have hown' : Own w6 w.heap.size v X := by
    have := hown
    rw [List.drop_left] at this
    exact this.lower hf05.size
  have hsrc6 : Src w6 R base src P := by
    have := hRS6.st.dec.so
    rw [hRS6.same.R, hRS6.same.base, hRS6.same.src, q1, q2, q3, hpos6] at this
    exact this
  have henv6 := hRS6.st.env
  have HEND := Lib.hid (And.intro hinf (And.intro hf06 (And.intro hown' (And.intro hsrc6 henv6))))
  clear hinf hf05 hlows q1 q2 q3 hf06 hown' hsrc6 hRS6 hpos6 herr6 hown hf6 herr
  have g0 := henv6.eof
  have HN1 := Lib.hid HN.out.2.1
  cases er with
  | eof =>
    have hev : errv = errAt p.E := hev
    subst hev
    have hq := fun w => eql_same p.E w
    clear henv6
    go_wp2_with fail
    refine (faultOf_nil _).mono ?_
    rintro e w7 ⟨rfl, rfl⟩
    go_wp2_with fail
    refine (len_any _ R base src P HEND.out.2.2.2.1).mono ?_
    rintro e w8 ⟨rfl, nq2, rfl⟩
    go_wp2_with fail
    go_ret3
    obtain ⟨hinf, hf06, hown', _, _⟩ := HEND.out
    exact ⟨v, .eof, P, X, hinf, rfl, hown'.drewN _, hf06.drewN _⟩
  | cut =>
    have hev : errv = errAt p.U := hev
    subst hev
    have hn := henv6.nodup
    have hq := eql_other henv6 (x := p.U) (y := p.E) (by simp [Ps.all]) (by simp [Ps.all]) (by intro e; simp [Ps.all, e] at hn)
    clear henv6 hn
    go_wp2_with fail
    refine (faultOf_unx _ HEND.out.2.2.2.2).mono ?_
    rintro e w7 ⟨rfl, rfl⟩
    go_wp2_with fail
    refine (len_any _ R base src P HEND.out.2.2.2.1).mono ?_
    rintro e w8 ⟨rfl, nq2, rfl⟩
    go_wp2_with fail
    go_ret3
    obtain ⟨hinf, hf06, hown', _, _⟩ := HEND.out
    exact ⟨v, .cut, P, X, hinf, rfl, hown'.drewN _, hf06.drewN _⟩
  | corrupt =>
    obtain ⟨y, hev⟩ : ∃ y : Nat, errv = corruptAt y := hev
    subst hev
    obtain ⟨ms, hi⟩ := underlyingError
    have hty := run_eql_iface_types (P := Tryd.prog) 125 197 (.int .i64 (y : Int)) (.pointer (some p.E)) hi (by decide)
    clear henv6 hi
    go_wp2_with fail
    refine (faultOf_corrupt _ HEND.out.2.2.2.2 y).mono ?_
    rintro e w7 ⟨rfl, rfl⟩
    go_wp2_with fail
    refine (len_any _ R base src P HEND.out.2.2.2.1).mono ?_
    rintro e w8 ⟨rfl, nq2, rfl⟩
    go_wp2_with fail
    go_ret3
    obtain ⟨hinf, hf06, hown', _, _⟩ := HEND.out
    exact ⟨v, .corrupt, P, X, hinf, rfl, hown'.drewN _, hf06.drewN _⟩

end Go.Proofs.YthfncdfcklbigaaDoor
