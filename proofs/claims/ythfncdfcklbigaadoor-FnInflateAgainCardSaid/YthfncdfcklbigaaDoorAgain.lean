/-
  'laws.FnInflateAgain', walked: a reader that is reset reads another source, with a dictionary, as a new one does.
-/
import Derived.Test.YthfncdfcklbigaaDoorLaw
import Derived.Test.YthfncdfcklbigaaDoorTwice
set_option linter.unusedVariables false
set_option linter.unusedSimpArgs false
namespace Go.Proofs.YthfncdfcklbigaaDoor
open Go.RowKit Flate
set_option maxRecDepth 100000

theorem fnInflateAgain_any (w : World) (C : Nat) (p : Ps) (he : Env w C p) (abase : Option Addr) (asrc : List UInt8) (acap : Nat) (ha : Bt w abase asrc acap) (base : Option Addr) (src : List UInt8) (cap : Nat) (hs : Bt w base src cap) (dbase : Option Addr) (dict : List UInt8) (dcap : Nat) (hd : Bt w dbase dict dcap) :
    Calls Tryd.prog 16 #[.slice abase asrc.length acap, .slice base src.length cap, .slice dbase dict.length dcap] w fun e w' => e = .returned (.bool true) ∧ Frm (fun _ _ => False) w w' := by
  have HE := Lib.hid he
  have HA := Lib.hid ha
  have HS := Lib.hid hs
  have HD := Lib.hid hd
  clear he ha hs hd
  obtain ⟨n1, hn1⟩ : ∃ n1, n1 = asrc.length := ⟨_, rfl⟩
  obtain ⟨n2, hn2⟩ : ∃ n2, n2 = src.length := ⟨_, rfl⟩
  obtain ⟨n3, hn3⟩ : ∃ n3, n3 = dict.length := ⟨_, rfl⟩
  rw [← hn1, ← hn2, ← hn3]
  have HN := Lib.hid (And.intro hn1 (And.intro hn2 hn3))
  clear hn1 hn2 hn3
  go_enter Tryd.func16, Tryd.ntmps16
  by_cases h1 : 2147483647 < n1
  · have t1 : decide ((2147483647 : Int) < (n1 : Int)) = true := by simp; omega
    clear h1
    go_wp2_with fail
    go_ret
    exact ⟨rfl, Frm.refl _ _⟩
  · have t1 : decide ((2147483647 : Int) < (n1 : Int)) = false := by simp; omega
    have H1 := Lib.hid h1
    clear h1
    by_cases h2 : 2147483647 < n2
    · have t2 : decide ((2147483647 : Int) < (n2 : Int)) = true := by simp; omega
      clear h2
      go_wp2_with fail
      go_ret
      exact ⟨rfl, Frm.refl _ _⟩
    · have t2 : decide ((2147483647 : Int) < (n2 : Int)) = false := by simp; omega
      have H2 := Lib.hid h2
      clear h2
      by_cases h3 : 2147483647 < n3
      · have t3 : decide ((2147483647 : Int) < (n3 : Int)) = true := by simp; omega
        clear h3
        go_wp2_with fail
        go_ret
        exact ⟨rfl, Frm.refl _ _⟩
      · have t3 : decide ((2147483647 : Int) < (n3 : Int)) = false := by simp; omega
        have H3 := Lib.hid h3
        clear h3
        have hin := twice_any w C p HE.out abase asrc acap HA.out (by have := H1.out; have := HN.out; omega) base src cap HS.out (by have := H2.out; have := HN.out; omega) dbase dict dcap HD.out (by have := H3.out; have := HN.out; omega)
        rw [← HN.out.1, ← HN.out.2.1, ← HN.out.2.2] at hin
        have HI1 := Lib.hid hin
        clear hin
        go_wp2_with fail
        refine HI1.out.mono ?_
        rintro e w1 ⟨v1, er1, P1, X1, hX1, rfl, hown1, hf1⟩
        obtain ⟨b1, cap1, rfl, hbt1⟩ := hown1.bt
        obtain ⟨m1, hm1⟩ : ∃ m1, m1 = X1.length := ⟨_, rfl⟩
        obtain ⟨rr, hrr⟩ : ∃ rr, rr = src.length - P1 := ⟨_, rfl⟩
        rw [← hm1, ← hrr]
        have hin := inflate_any w1 C p (HE.out.keep hf1 (fun _ _ e => e.elim)) base src cap (HS.out.keep hf1) (by have := H2.out; have := HN.out; omega) dbase dict dcap (HD.out.keep hf1) (by have := H3.out; have := HN.out; omega) true none 0 0 (nilSizes _ _ _)
        rw [← HN.out.2.1, ← HN.out.2.2] at hin
        have HI2 := Lib.hid hin
        have HX := Lib.hid (And.intro hX1 (And.intro hbt1 (And.intro hf1 (And.intro hm1 hrr))))
        clear hX1 hown1 hbt1 hf1 hm1 hrr hin
        go_wp2_with fail
        refine HI2.out.mono ?_
        rintro e w5 ⟨v5, er5, P5, X5, hX5, rfl, hown5, hf5⟩
        obtain ⟨hX1, hbt1, hf1, hm1, hrr⟩ := HX.out
        obtain ⟨rfl, rfl, rfl⟩ := hX1.unique hX5
        rw [← hrr]
        obtain ⟨b5, cap5, rfl, hbt5⟩ := hown5.bt
        rw [← hm1]
        have hf05 : Frm (fun _ _ => False) w w5 := hf1.trans hf5
        have HW := Lib.hid (works_any w5 C p (HE.out.keep hf05 (fun _ _ e => e.elim)))
        have hsame := fun (w6 : World) (hf6 : Frm (fun _ _ => False) w5 w6) => same_any w6 b1 b5 X5 X5 cap1 cap5 ((hbt1.keep hf5).keep hf6).bytes (hbt5.keep hf6).bytes
        rw [sameB_refl, ← hm1] at hsame
        have HB := Lib.hid (And.intro hsame hf05)
        generalize hfn : (faultNum er5) = fn
        clear hX1 hbt1 hf1 hm1 hrr hX5 hown5 hf5 hbt5 hf05 hsame hfn
        go_wp2_with fail
        refine HW.out.mono ?_
        rintro e w6 ⟨rfl, hf6⟩
        have HSM := Lib.hid (HB.out.1 w6 hf6)
        have HF6 := Lib.hid hf6
        clear hf6
        go_wp2_with fail
        refine HSM.out.mono ?_
        rintro e w7 ⟨rfl, rfl⟩
        go_wp2_with fail
        go_ret
        exact ⟨rfl, HB.out.2.trans HF6.out⟩

end Go.Proofs.YthfncdfcklbigaaDoor
