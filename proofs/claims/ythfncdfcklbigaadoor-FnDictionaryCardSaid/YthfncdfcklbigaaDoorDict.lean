/-
  'laws.FnDictionary', walked: reading behind a dictionary is reading without one behind a stored block that has its bytes.
-/
import Derived.Test.YthfncdfcklbigaaDoorSto
set_option linter.unusedVariables false
set_option linter.unusedSimpArgs false
namespace Go.Proofs.YthfncdfcklbigaaDoor
open Go.RowKit Flate
set_option maxRecDepth 100000

theorem fnDictionary_any (w : World) (C : Nat) (p : Ps) (he : Env w C p) (base : Option Addr) (src : List UInt8) (cap : Nat) (hs : Bt w base src cap) (dbase : Option Addr) (dict : List UInt8) (dcap : Nat) (hd : Bt w dbase dict dcap) :
    Calls Tryd.prog 6 #[.slice base src.length cap, .slice dbase dict.length dcap] w fun e w' => e = .returned (.bool true) ∧ Frm (fun _ _ => False) w w' := by
  have HE := Lib.hid he
  have HS := Lib.hid hs
  have HD := Lib.hid hd
  clear he hs hd
  obtain ⟨n1, hn1⟩ : ∃ n1, n1 = src.length := ⟨_, rfl⟩
  obtain ⟨n2, hn2⟩ : ∃ n2, n2 = dict.length := ⟨_, rfl⟩
  rw [← hn1, ← hn2]
  have HN := Lib.hid (And.intro hn1 hn2)
  clear hn1 hn2
  go_enter Tryd.func6, Tryd.ntmps6
  by_cases h1 : 2147483647 < n1
  · have t1 : decide ((2147483647 : Int) < (n1 : Int)) = true := by simp; omega
    clear h1
    go_wp2_with fail
    go_ret
    exact ⟨rfl, Frm.refl _ _⟩
  · have t1 : decide ((2147483647 : Int) < (n1 : Int)) = false := by simp; omega
    have H1 := Lib.hid h1
    clear h1
    by_cases h2 : 2147483647 < n2
    · have t2 : decide ((2147483647 : Int) < (n2 : Int)) = true := by simp; omega
      clear h2
      go_wp2_with fail
      go_ret
      exact ⟨rfl, Frm.refl _ _⟩
    · have t2 : decide ((2147483647 : Int) < (n2 : Int)) = false := by simp; omega
      have H2 := Lib.hid h2
      clear h2
      by_cases h3 : 65535 < n2
      · have t3 : decide ((65535 : Int) < (n2 : Int)) = true := by simp; omega
        clear h3
        go_wp2_with fail
        go_ret
        exact ⟨rfl, Frm.refl _ _⟩
      · have t3 : decide ((65535 : Int) < (n2 : Int)) = false := by simp; omega
        have hdl : dict.length ≤ 65535 := by have := HN.out.2; omega
        have hsl : src.length ≤ 2147483647 := by have := HN.out.1; have := H1.out; omega
        have HL := Lib.hid (And.intro hdl hsl)
        clear h3
        have hin := inflate_any w C p HE.out base src cap HS.out (by omega) dbase dict dcap HD.out (by omega) true none 0 0 (nilSizes _ _ _)
        rw [← HN.out.1, ← HN.out.2] at hin
        have HI := Lib.hid hin
        clear hin hdl hsl
        go_wp2_with fail
        refine HI.out.mono ?_
        rintro e w1 ⟨v1, er1, P1, X1, hX1, rfl, hown1, hf1⟩
        obtain ⟨b1, cap1, rfl, hbt1⟩ := hown1.bt
        have hst := stored_any w1 dbase dict dcap (HD.out.keep hf1) HL.out.1 false
        obtain ⟨m1, hm1⟩ : ∃ m1, m1 = X1.length := ⟨_, rfl⟩
        obtain ⟨rr, hrr⟩ : ∃ rr, rr = src.length - P1 := ⟨_, rfl⟩
        rw [← HN.out.2] at hst
        rw [← hm1, ← hrr]
        have HST := Lib.hid hst
        have H3 := Lib.hid (And.intro hX1 (And.intro hbt1 (And.intro hf1 (And.intro hm1 hrr))))
        clear hX1 hown1 hbt1 hf1 hst hm1 hrr
        go_wp2_with fail
        refine HST.out.mono ?_
        rintro e w2 ⟨v2, rfl, hown2, hf2⟩
        obtain ⟨hX1, hbt1, hf1, hm1, hrr⟩ := H3.out
        obtain ⟨v3, w3, hrun3, hown3, hfr3, _⟩ := append_bt w2 w1.heap.size _ _ hown2 base src cap ((HS.out.keep hf1).keep hf2) (by rw [stHead_len]; have := HL.out; omega) hf2.size
        have hf3 := hown2.fresh hf2 (Nat.le_refl _) hfr3
        rw [← HN.out.1] at hrun3
        obtain ⟨b3, cap3, rfl, hbt3⟩ := hown3.bt
        obtain ⟨S, hS⟩ : ∃ S, S = stHead false n2 ++ dict ++ src := ⟨_, rfl⟩
        rw [← hS] at hbt3 hrun3
        have hSl : S.length = 5 + dict.length + src.length := by rw [hS, List.length_append, stHead_len]
        have hin := inflate_any w3 C p ((HE.out.keep hf1 (fun _ _ e => e.elim)).keep hf3 (fun _ _ e => e.elim)) b3 S cap3 hbt3 (by have := HL.out; omega) none [] 0 (bt_nil _) (by simp) false none 0 0 (nilSizes _ _ _)
        have hlaw := infl_dict HL.out.1 hX1
        rw [← HN.out.2, ← hS] at hlaw
        obtain ⟨n4, hn4⟩ : ∃ n4, n4 = S.length := ⟨_, rfl⟩
        rw [← hn4] at hin hrun3
        have hr3 := fun ty => hrun3 ty
        obtain ⟨b2, cap2, hv2, _⟩ := hown2.bt
        subst hv2
        obtain ⟨n5, hn5⟩ : ∃ n5, n5 = (stHead false n2 ++ dict).length := ⟨_, rfl⟩
        rw [← hn5] at hr3 ⊢
        have HI2 := Lib.hid (And.intro hin (And.intro hlaw (And.intro hSl (And.intro hf2 (And.intro hf3 hn4)))))
        clear hX1 hbt1 hf1 hm1 hrr hown2 hf2 hrun3 hown3 hfr3 hf3 hbt3 hS hSl hin hlaw hn4 hn5
        go_wp2_with (at_builtin; refine wpList_append_by (by rfl) (.tmp 31) (.tmp 32) 22 (by rfl) _ _ (by rfl) (by rfl) (hr3 _) ?_)
        clear hr3
        refine HI2.out.1.mono ?_
        rintro e w5 ⟨v5, er5, P5, X5, hX5, rfl, hown5, hf5⟩
        obtain ⟨_, hlaw, hSl, hf2, hf3, hn4⟩ := HI2.out
        obtain ⟨rfl, rfl, rfl⟩ := hlaw.unique hX5
        obtain ⟨hX1, hbt1, hf1, hm1, hrr⟩ := H3.out
        have hrest : S.length - (P1 + (5 + n2)) = rr := by have := HN.out.2; rw [hSl, hrr]; omega
        rw [hrest]
        obtain ⟨b5, cap5, rfl, hbt5⟩ := hown5.bt
        have hf05 : Frm (fun _ _ => False) w w5 := (hf1.trans hf3).trans hf5
        have HW := Lib.hid (works_any w5 C p (HE.out.keep hf05 (fun _ _ e => e.elim)))
        obtain ⟨m5, hm5⟩ : ∃ m5, m5 = (dict ++ X1).length := ⟨_, rfl⟩
        rw [← hm5]
        have HB := Lib.hid (And.intro ((hbt1.keep hf3).keep hf5) (And.intro hbt5 (And.intro hf05 (And.intro hm1 (And.intro hm5 (hX1.le.2))))))
        generalize hfn : (faultNum er5) = fn
        clear hX1 hbt1 hf1 hm1 hrr hlaw hSl hf2 hf3 hn4 hX5 hown5 hf5 hrest hbt5 hf05 hm5 hfn
        go_wp2_with fail
        refine HW.out.mono ?_
        rintro e w6 ⟨rfl, hf6⟩
        obtain ⟨hbt1, hbt5, hf05, hm1, hm5, hXl⟩ := HB.out
        have ho := own_new w6 [] (by simp)
        simp only [List.map_nil, List.length_nil] at ho
        obtain ⟨W7, hW7⟩ : ∃ W7, W7 = w6.alloc (.cells #[] 5) := ⟨_, rfl⟩
        have ho : Own W7 w6.heap.size (.slice (some ⟨w6.heap.size, 0, none⟩) 0 0) [] := by rw [hW7]; exact ho
        have hf7 : Frm (fun _ _ => False) w6 W7 := by rw [hW7]; exact (Frm.refl _ _).alloc _
        have hlen := HL.out
        obtain ⟨v8, w8, hrun8, hown8, hfr8, _⟩ := append_bt W7 w6.heap.size _ [] ho dbase dict dcap (((HD.out.keep hf05).keep hf6).keep hf7) (by simp only [List.length_nil]; omega) hf7.size
        have hf8 := ho.fresh hf7 (Nat.le_refl _) hfr8
        rw [List.nil_append] at hown8
        obtain ⟨v9, w9, hrun9, hown9, hfr9, _⟩ := append_bt w8 w6.heap.size _ dict hown8 b1 X1 cap1 ((hbt1.keep hf6).keep hf8) (by omega) hf8.size
        have hf9 := hown8.fresh hf8 (Nat.le_refl _) hfr9
        rw [← HN.out.2, hW7] at hrun8
        rw [← hm1] at hrun9
        obtain ⟨b9, cap9, rfl, hbt9⟩ := hown9.bt
        have hsame := same_any w9 b9 b5 (dict ++ X1) (dict ++ X1) cap9 cap5 hbt9.bytes ((hbt5.keep hf6).keep hf9).bytes
        rw [sameB_refl, ← hm5] at hsame
        rw [← hm5] at hrun9
        have hr8 := fun ty => hrun8 ty
        have hr9 := fun ty => hrun9 ty
        have HSM := Lib.hid hsame
        have HF := Lib.hid ((hf05.trans hf6).trans hf9)
        clear hbt1 hbt5 hf05 hm1 hm5 hXl ho hW7 hf7 hlen hown8 hfr8 hf8 hown9 hfr9 hf9 hrun8 hrun9 hbt9 hsame hf6
        go_wp2_with (at_builtin; first | refine wpList_append_byG (by rfl) (.tmp 50) (.tmp 51) 22 (by rfl) _ _ (by rfl) (by rfl) (hr8 _) ?_ | refine wpList_append_byG (by rfl) (.tmp 52) (.tmp 53) 22 (by rfl) _ _ (by rfl) (by rfl) (hr9 _) ?_)
        clear hr8 hr9
        refine HSM.out.mono ?_
        rintro e w10 ⟨rfl, rfl⟩
        go_wp2_with fail
        go_ret
        exact ⟨rfl, HF.out⟩

end Go.Proofs.YthfncdfcklbigaaDoor
