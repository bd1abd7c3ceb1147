/-
  'laws.FnFaults', walked: whatever the bytes are, reading ends well, or cut off, or with a CorruptInputError; it answers true.
-/
import Derived.Test.YthfncdfcklbigaaDoorLaw
set_option linter.unusedVariables false
set_option linter.unusedSimpArgs false
namespace Go.Proofs.YthfncdfcklbigaaDoor
open Go.RowKit Flate
set_option maxRecDepth 100000

theorem fnFaults_any (w : World) (C : Nat) (p : Ps) (he : Env w C p) (base : Option Addr) (src : List UInt8) (cap : Nat) (hs : Bt w base src cap) (dbase : Option Addr) (dict : List UInt8) (dcap : Nat) (hd : Bt w dbase dict dcap) (has : Bool) :
    Calls Tryd.prog 8 #[.slice base src.length cap, .slice dbase dict.length dcap, .bool has] w fun e w' => e = .returned (.bool true) ∧ Frm (fun _ _ => False) w w' := by
  have HE := Lib.hid he
  have HS := Lib.hid hs
  have HD := Lib.hid hd
  clear he hs hd
  obtain ⟨n1, hn1⟩ : ∃ n1, n1 = src.length := ⟨_, rfl⟩
  obtain ⟨n2, hn2⟩ : ∃ n2, n2 = dict.length := ⟨_, rfl⟩
  rw [← hn1, ← hn2]
  have HN := Lib.hid (And.intro hn1 hn2)
  clear hn1 hn2
  go_enter Tryd.func8, Tryd.ntmps8
  by_cases h1 : 2147483647 < n1
  · have t1 : decide ((2147483647 : Int) < (n1 : Int)) = true := by simp; omega
    clear h1
    go_wp2_with fail
    go_ret
    exact ⟨rfl, Frm.refl _ _⟩
  · have t1 : decide ((2147483647 : Int) < (n1 : Int)) = false := by simp; omega
    have H1 := Lib.hid h1
    clear h1
    by_cases h2 : 2147483647 < n2
    · have t2 : decide ((2147483647 : Int) < (n2 : Int)) = true := by simp; omega
      clear h2
      go_wp2_with fail
      go_ret
      exact ⟨rfl, Frm.refl _ _⟩
    · have t2 : decide ((2147483647 : Int) < (n2 : Int)) = false := by simp; omega
      have H2 := Lib.hid h2
      clear h2
      have hin := inflate_any w C p HE.out base src cap HS.out (by have := H1.out; have := HN.out; omega) dbase dict dcap HD.out (by have := H2.out; have := HN.out; omega) has none 0 0 (nilSizes _ _ _)
      rw [← HN.out.1, ← HN.out.2] at hin
      have HI := Lib.hid hin
      clear hin
      go_wp2_with fail
      refine HI.out.mono ?_
      rintro e w1 ⟨v, er, P, X, hX, rfl, hown, hf⟩
      obtain ⟨b, cap', rfl, hbt⟩ := hown.bt
      have HW := Lib.hid (works_any w1 C p (HE.out.keep hf (fun _ _ e => e.elim)))
      have HF := Lib.hid hf
      clear hX hown hbt hf
      cases er
      all_goals
        go_wp2_with fail
        refine HW.out.mono ?_
        rintro e w2 ⟨rfl, hf2⟩
        have HF2 := Lib.hid hf2
        clear hf2
        go_wp2_with fail
        go_ret
        exact ⟨rfl, HF.out.trans HF2.out⟩

end Go.Proofs.YthfncdfcklbigaaDoor
