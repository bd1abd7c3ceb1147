/-
  'laws.FnAhead', walked: if bytes with something behind them are still cut off, the data read of them alone is a prefix of the data read of both.
-/
import Derived.Test.YthfncdfcklbigaaDoorLaw
set_option linter.unusedVariables false
set_option linter.unusedSimpArgs false
namespace Go.Proofs.YthfncdfcklbigaaDoor
open Go.RowKit Flate
set_option maxRecDepth 100000

theorem prefix_take {X Y : List UInt8} : (X ++ Y).take X.length = X := by rw [List.take_append_of_le_length (Nat.le_refl _), List.take_length]

theorem fnAhead_any (w : World) (C : Nat) (p : Ps) (he : Env w C p) (base : Option Addr) (src : List UInt8) (cap : Nat) (hs : Bt w base src cap) (dbase : Option Addr) (more : List UInt8) (dcap : Nat) (hd : Bt w dbase more dcap) :
    Calls Tryd.prog 3 #[.slice base src.length cap, .slice dbase more.length dcap] w fun e w' => e = .returned (.bool true) ∧ Frm (fun _ _ => False) w w' := by
  have HE := Lib.hid he
  have HS := Lib.hid hs
  have HD := Lib.hid hd
  clear he hs hd
  obtain ⟨n1, hn1⟩ : ∃ n1, n1 = src.length := ⟨_, rfl⟩
  obtain ⟨n2, hn2⟩ : ∃ n2, n2 = more.length := ⟨_, rfl⟩
  rw [← hn1, ← hn2]
  have HN := Lib.hid (And.intro hn1 hn2)
  clear hn1 hn2
  go_enter Tryd.func3, Tryd.ntmps3
  by_cases h1 : 2147483647 < n1
  · have t1 : decide ((2147483647 : Int) < (n1 : Int)) = true := by simp; omega
    clear h1
    go_wp2_with fail
    go_ret
    exact ⟨rfl, Frm.refl _ _⟩
  · have t1 : decide ((2147483647 : Int) < (n1 : Int)) = false := by simp; omega
    have H1 := Lib.hid h1
    clear h1
    by_cases h2 : 2147483647 < n2
    · have t2 : decide ((2147483647 : Int) < (n2 : Int)) = true := by simp; omega
      clear h2
      go_wp2_with fail
      go_ret
      exact ⟨rfl, Frm.refl _ _⟩
    · have t2 : decide ((2147483647 : Int) < (n2 : Int)) = false := by simp; omega
      have H2 := Lib.hid h2
      clear h2
      have hin := inflate_any w C p HE.out base src cap HS.out (by have := H1.out; have := HN.out; omega) none [] 0 (bt_nil _) (by simp) false none 0 0 (nilSizes _ _ _)
      rw [← HN.out.1] at hin
      have HI := Lib.hid hin
      clear hin
      go_wp2_with fail
      refine HI.out.mono ?_
      rintro e w1 ⟨v1, er1, P1, X1, hX1, rfl, hown1, hf1⟩
      obtain ⟨b1, cap1, rfl, hbt1⟩ := hown1.bt
      -- the bytes of both
      have ho := own_new w1 [] (by simp)
      simp only [List.map_nil, List.length_nil] at ho
      obtain ⟨W2, hW2⟩ : ∃ W2, W2 = w1.alloc (.cells #[] 5) := ⟨_, rfl⟩
      have ho : Own W2 w1.heap.size (.slice (some ⟨w1.heap.size, 0, none⟩) 0 0) [] := by rw [hW2]; exact ho
      have hf2 : Frm (fun _ _ => False) w1 W2 := by rw [hW2]; exact (Frm.refl _ _).alloc _
      obtain ⟨v3, w3, hrun3, hown3, hfr3, _⟩ := append_bt W2 w1.heap.size _ [] ho base src cap ((HS.out.keep hf1).keep hf2) (by have := H1.out; have := HN.out; simp only [List.length_nil]; omega) hf2.size
      have hf3 := ho.fresh hf2 (Nat.le_refl _) hfr3
      rw [List.nil_append] at hown3
      obtain ⟨v4, w4, hrun4, hown4, hfr4, _⟩ := append_bt w3 w1.heap.size _ src hown3 dbase more dcap ((HD.out.keep hf1).keep hf3) (by have := H1.out; have := H2.out; have := HN.out; omega) hf3.size
      have hf4 := hown3.fresh hf3 (Nat.le_refl _) hfr4
      rw [← HN.out.1] at hrun3
      rw [← HN.out.2] at hrun4
      rw [hW2] at hrun3
      obtain ⟨b4, cap4, rfl, hbt4⟩ := hown4.bt
      have hin := inflate_any w4 C p ((HE.out.keep hf1 (fun _ _ e => e.elim)).keep hf4 (fun _ _ e => e.elim)) b4 (src ++ more) cap4 hbt4 (by have := H1.out; have := H2.out; have := HN.out; rw [List.length_append]; omega) none [] 0 (bt_nil _) (by simp) false none 0 0 (nilSizes _ _ _)
      obtain ⟨n4, hn4⟩ : ∃ n4, n4 = (src ++ more).length := ⟨_, rfl⟩
      rw [← hn4] at hin hrun4
      obtain ⟨m1, hm1⟩ : ∃ m1, m1 = X1.length := ⟨_, rfl⟩
      have HX1 := Lib.hid (And.intro hX1 (And.intro hbt1 (And.intro hf1 (And.intro hf4 hm1))))
      have HI2 := Lib.hid hin
      have hr3 := fun ty => hrun3 ty
      have hr4 := fun ty => hrun4 ty
      rw [← hm1]
      clear hX1 hown1 hbt1 hf1 ho hf2 hfr3 hown3 hf3 hfr4 hown4 hf4 hbt4 hin hn4 hm1 hrun3 hrun4 hW2
      go_wp2_with (at_builtin; first | refine wpList_append_by (by rfl) (.tmp 26) (.tmp 27) 22 (by rfl) _ _ (by rfl) (by rfl) (hr3 _) ?_ | refine wpList_append_by (by rfl) (.tmp 28) (.tmp 29) 22 (by rfl) _ _ (by rfl) (by rfl) (hr4 _) ?_)
      refine HI2.out.mono ?_
      rintro e w5 ⟨v5, er5, P5, X5, hX5, rfl, hown5, hf5⟩
      clear hr3 hr4
      obtain ⟨b5, cap5, rfl, hbt5⟩ := hown5.bt
      obtain ⟨hX1, hbt1, hf1, hf4, hm1⟩ := HX1.out
      obtain ⟨ha1, ha2⟩ := infl_ahead hX1 hX5
      have hf05 : Frm (fun _ _ => False) w w5 := (hf1.trans hf4).trans hf5
      have HW := Lib.hid (works_any w5 C p (HE.out.keep hf05 (fun _ _ e => e.elim)))
      obtain ⟨m5, hm5⟩ : ∃ m5, m5 = X5.length := ⟨_, rfl⟩
      rw [← hm5]
      have hbt1' : Bt w5 b1 X1 cap1 := (hbt1.keep hf4).keep hf5
      by_cases hc : er1 = .cut
      · obtain ⟨Y, hY⟩ := ha2 hc
        subst hc
        have hle : m1 ≤ m5 := by rw [hm1, hm5, hY, List.length_append]; omega
        obtain ⟨b6, hsl, hb6⟩ := run_headO hbt5 m1 (by rw [← hm5]; exact hle)
        rw [← hm5] at hsl
        have HB := Lib.hid (And.intro hbt1' (And.intro hb6 (And.intro hf05 (And.intro hY (And.intro hm1 hm5)))))
        clear hX1 hbt1 hf1 hf4 hm1 ha1 ha2 hf05 hbt1' hbt5 hown5 hX5 hf5 hY hb6 hm5
        go_wp2_with fail
        refine HW.out.mono ?_
        rintro e w6 ⟨rfl, hf6⟩
        have hsame := same_any w6 b1 b6 X1 (X5.take m1) cap1 cap5 (HB.out.1.keep hf6).bytes (HB.out.2.1.keep hf6 (fun a _ j _ e => e))
        have e1 : X5.take m1 = X1 := by rw [HB.out.2.2.2.1, HB.out.2.2.2.2.1]; exact prefix_take
        rw [e1, sameB_refl, ← HB.out.2.2.2.2.1] at hsame
        have HSM := Lib.hid hsame
        have HF6 := Lib.hid hf6
        clear hsame hf6 e1
        go_wp2_with fail
        refine HSM.out.mono ?_
        rintro e w7 ⟨rfl, rfl⟩
        go_wp2_with fail
        go_ret
        exact ⟨rfl, HB.out.2.2.1.trans HF6.out⟩
      · obtain ⟨rfl, rfl, rfl⟩ := ha1 hc
        have HB := Lib.hid (And.intro hbt1' (And.intro hbt5 (And.intro hf05 (And.intro hm1 hm5))))
        clear hX1 hbt1 hf1 hf4 hm1 ha1 ha2 hf05 hbt1' hbt5 hown5 hX5 hf5 hm5
        cases er5
        case cut => exact absurd rfl hc
        all_goals
          clear hc
          go_wp2_with fail
          refine HW.out.mono ?_
          rintro e w6 ⟨rfl, hf6⟩
          have hsame := same_any w6 b1 b5 X5 X5 cap1 cap5 (HB.out.1.keep hf6).bytes (HB.out.2.1.keep hf6).bytes
          rw [sameB_refl] at hsame
          have hs1 : Calls Tryd.prog 19 #[.slice b1 m1 cap1, .slice b5 m5 cap5] w6 fun e w' => e = .returned (.bool true) ∧ w6 = w' := by
            rw [HB.out.2.2.2.1, HB.out.2.2.2.2]; exact hsame
          have HSM := Lib.hid hs1
          have HF6 := Lib.hid hf6
          clear hsame hf6 hs1
          go_wp2_with fail
          refine HSM.out.mono ?_
          rintro e w7 ⟨rfl, rfl⟩
          go_wp2_with fail
          go_ret
          exact ⟨rfl, HB.out.2.2.1.trans HF6.out⟩

end Go.Proofs.YthfncdfcklbigaaDoor
