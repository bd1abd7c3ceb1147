/-
  'laws.FnInflateSizes', walked: it does not matter how many bytes are read each time.
-/
import Derived.Test.YthfncdfcklbigaaDoorInts
import Derived.Test.YthfncdfcklbigaaDoorLaw
import Derived.IntWalk
set_option linter.unusedVariables false
set_option linter.unusedSimpArgs false
namespace Go.Proofs.YthfncdfcklbigaaDoor
open Go.RowKit Flate
set_option maxRecDepth 100000

theorem size_in (x : Int) : 1 ≤ wrap64 ((wrap64 (x.tmod 1000 + 1000)).tmod 1000 + 1) ∧ wrap64 ((wrap64 (x.tmod 1000 + 1000)).tmod 1000 + 1) ≤ 1000 := by
  have h1 : (x.tmod 1000).natAbs < 1000 := by rw [Int.natAbs_tmod]; exact Nat.mod_lt _ (by decide)
  have e1 : wrap64 (x.tmod 1000 + 1000) = x.tmod 1000 + 1000 := IntWalk.wrap64_in _ (by omega)
  rw [e1, Int.tmod_eq_emod_of_nonneg (by omega)]
  have e2 : wrap64 ((x.tmod 1000 + 1000) % 1000 + 1) = (x.tmod 1000 + 1000) % 1000 + 1 := IntWalk.wrap64_in _ (by omega)
  rw [e2]
  omega

/-- A round of 'sizes'. -/
def SzInv (N0 : Nat) (w : World) (n : Nat) (g : Nat) (out i : Value) (wr : World) : Prop :=
  ∃ (k : Nat) (us : List Int), k ≤ n ∧ g = n - k ∧ i = .int .i64 (k : Int) ∧ us.length = k ∧ (∀ u ∈ us, 1 ≤ u ∧ u ≤ 1000) ∧ OwnI wr N0 out us ∧ Frm (fun _ _ => False) w wr

set_option maxHeartbeats 1000000 in
theorem sizes_any (w : World) (base : Option Addr) (l : List Int) (cap : Nat) (hs : It w base l cap) (hl : l.length ≤ 2147483647) :
    Calls Tryd.prog 30 #[.slice base l.length cap] w fun e w' => ∃ v us, e = .returned v ∧ OwnI w' w.heap.size v us ∧ us.length = l.length ∧ (∀ u ∈ us, 1 ≤ u ∧ u ≤ 1000) ∧ Frm (fun _ _ => False) w w' := by
  have HS := Lib.hid hs
  clear hs
  obtain ⟨n, hn⟩ : ∃ n, n = l.length := ⟨_, rfl⟩
  rw [← hn] at hl ⊢
  have HN := Lib.hid (And.intro hn hl)
  have c1 : (n : Int) ≤ 2147483647 := by omega
  clear hn hl
  go_enter Tryd.func30, Tryd.ntmps30
  go_wp2_with fail
  go_loopg [3, 8] (n - 0) (fun g out i wr => SzInv w.heap.size w n g out i wr)
  case atStart => exact ⟨0, [], Nat.zero_le _, rfl, rfl, rfl, fun u hu => absurd hu (by simp), OwnI.nil _ _, Frm.refl _ _⟩
  case round =>
    obtain ⟨k, us, hk, hg, rfl, hus, hu1, hown, hf⟩ := hrel
    have HR := Lib.hid (And.intro hk (And.intro hg (And.intro hus (And.intro hu1 (And.intro hown hf)))))
    clear hg hus hu1 hown hf
    by_cases hlt : k < n
    · obtain ⟨a, ha, hcell⟩ := (HS.out.keep HR.out.2.2.2.2.2).cells k (by have := HN.out.1; omega)
      have hsp := HS.out.spot a ha
      obtain ⟨ab, ao, sp⟩ := a
      simp only at hsp
      subst hsp
      subst ha
      have hw := HS.out.wf (l[k]'(by have := HN.out.1; omega)) (List.getElem_mem _)
      obtain ⟨x, hx⟩ : ∃ x, x = l[k]'(by have := HN.out.1; omega) := ⟨_, rfl⟩
      rw [← hx] at hcell hw
      obtain ⟨x1, x2⟩ := hw
      clear hx
      obtain ⟨hk, hg, hus, hu1, hown, hf⟩ := HR.out
      obtain ⟨v', w', hrun, hown', hf'⟩ := append_int wr w.heap.size u3 us hown (wrap64 ((wrap64 (x.tmod 1000 + 1000)).tmod 1000 + 1)) (by have := HN.out; omega) hf.size
      have hy := size_in x
      have HX := Lib.hid (And.intro hown' (And.intro (hown.fresh hf (Nat.le_refl _) hf') hy))
      have hr := fun ty => hrun ty
      clear hg hus hu1 hown hf hown' hf' hy hrun
      go_wp2_with (at_builtin; refine wpList_append_by (by rfl) (.tmp 12) (.tmp 18) 27 (by rfl) _ _ (by rfl) (by rfl) (hr _) ?_)
      go_roundg (n - (k + 1))
      case measure => have := HR.out.2.1; omega
      case rel =>
        obtain ⟨hk, hg, hus, hu1, hown, hf⟩ := HR.out
        refine ⟨k + 1, us ++ [wrap64 ((wrap64 (x.tmod 1000 + 1000)).tmod 1000 + 1)], by omega, rfl, by go_num, by rw [List.length_append, hus]; rfl, fun u hu => ?_, HX.out.1, HX.out.2.1⟩
        rcases List.mem_append.1 hu with hu | hu
        · exact hu1 u hu
        · rw [List.mem_singleton.1 hu]; exact HX.out.2.2
    · obtain rfl : k = n := by omega
      clear hlt
      have hd : decide (k < k) = false := by simp
      go_wp2_with fail
      go_ret
      obtain ⟨hk, hg, hus, hu1, hown, hf⟩ := HR.out
      exact ⟨_, us, rfl, hown, hus, hu1, hf⟩

theorem sizes_of {w : World} {N0 : Nat} {M : Nat → Prop} {v : Value} {us : List Int} (h : OwnI w N0 v us) (hu : ∀ u ∈ us, 1 ≤ u ∧ u ≤ 1000) (hl : us.length ≤ 2147483647) (hM : ∀ b, ¬ M b) : ∃ b cap, v = .slice b us.length cap ∧ Sizes w w.heap.size M (.slice b us.length cap) := by
  rcases h.cells with ⟨rfl, h0⟩ | ⟨g, cap, rfl, h1, h2, h3, h4⟩
  · exact ⟨none, 0, by rw [h0], .inl ⟨none, 0, by rw [h0]⟩⟩
  · refine ⟨_, cap, rfl, ?_⟩
    by_cases h0 : us.length = 0
    · exact .inl ⟨_, _, by rw [h0]⟩
    · exact .inr ⟨g, 0, us.length, cap, rfl, by omega, hl, h2, hM g, fun j hj => by
        have := h4 j (intV us[j]) (by rw [List.getElem?_map, List.getElem?_eq_getElem hj]; rfl)
        have hb := hu us[j] (List.getElem_mem hj)
        refine ⟨us[j].toNat, by omega, by omega, ?_⟩
        rw [Nat.zero_add, this]
        congr 2; omega⟩

theorem fnInflateSizes_any (w : World) (C : Nat) (p : Ps) (he : Env w C p) (base : Option Addr) (src : List UInt8) (cap : Nat) (hs : Bt w base src cap) (dbase : Option Addr) (dict : List UInt8) (dcap : Nat) (hd : Bt w dbase dict dcap) (has : Bool)
    (ib : Option Addr) (l : List Int) (icap : Nat) (hi : It w ib l icap) :
    Calls Tryd.prog 11 #[.slice base src.length cap, .slice dbase dict.length dcap, .bool has, .slice ib l.length icap] w fun e w' => e = .returned (.bool true) ∧ Frm (fun _ _ => False) w w' := by
  have HE := Lib.hid he
  have HS := Lib.hid hs
  have HD := Lib.hid hd
  have HI := Lib.hid hi
  clear he hs hd hi
  obtain ⟨n1, hn1⟩ : ∃ n1, n1 = src.length := ⟨_, rfl⟩
  obtain ⟨n2, hn2⟩ : ∃ n2, n2 = dict.length := ⟨_, rfl⟩
  obtain ⟨n3, hn3⟩ : ∃ n3, n3 = l.length := ⟨_, rfl⟩
  rw [← hn1, ← hn2, ← hn3]
  have HN := Lib.hid (And.intro hn1 (And.intro hn2 hn3))
  clear hn1 hn2 hn3
  go_enter Tryd.func11, Tryd.ntmps11
  by_cases h1 : 2147483647 < n1
  · have t1 : decide ((2147483647 : Int) < (n1 : Int)) = true := by simp; omega
    clear h1
    go_wp2_with fail
    go_ret
    exact ⟨rfl, Frm.refl _ _⟩
  · have t1 : decide ((2147483647 : Int) < (n1 : Int)) = false := by simp; omega
    have H1 := Lib.hid h1
    clear h1
    by_cases h2 : 2147483647 < n2
    · have t2 : decide ((2147483647 : Int) < (n2 : Int)) = true := by simp; omega
      clear h2
      go_wp2_with fail
      go_ret
      exact ⟨rfl, Frm.refl _ _⟩
    · have t2 : decide ((2147483647 : Int) < (n2 : Int)) = false := by simp; omega
      have H2 := Lib.hid h2
      clear h2
      by_cases h3 : 2147483647 < n3
      · have t3 : decide ((2147483647 : Int) < (n3 : Int)) = true := by simp; omega
        clear h3
        go_wp2_with fail
        go_ret
        exact ⟨rfl, Frm.refl _ _⟩
      · have t3 : decide ((2147483647 : Int) < (n3 : Int)) = false := by simp; omega
        have H3 := Lib.hid h3
        clear h3
        have hin := inflate_any w C p HE.out base src cap HS.out (by have := H1.out; have := HN.out; omega) dbase dict dcap HD.out (by have := H2.out; have := HN.out; omega) has none 0 0 (nilSizes _ _ _)
        rw [← HN.out.1, ← HN.out.2.1] at hin
        have HI1 := Lib.hid hin
        clear hin
        go_wp2_with fail
        refine HI1.out.mono ?_
        rintro e w1 ⟨v1, er1, P1, X1, hX1, rfl, hown1, hf1⟩
        obtain ⟨b1, cap1, rfl, hbt1⟩ := hown1.bt
        obtain ⟨m1, hm1⟩ : ∃ m1, m1 = X1.length := ⟨_, rfl⟩
        obtain ⟨rr, hrr⟩ : ∃ rr, rr = src.length - P1 := ⟨_, rfl⟩
        rw [← hm1, ← hrr]
        have hsz := sizes_any w1 ib l icap (HI.out.keep hf1) (by have := H3.out; have := HN.out; omega)
        rw [← HN.out.2.2] at hsz
        have HSZ := Lib.hid hsz
        have HX := Lib.hid (And.intro hX1 (And.intro hbt1 (And.intro hf1 (And.intro hm1 hrr))))
        clear hX1 hown1 hbt1 hf1 hsz hm1 hrr
        go_wp2_with fail
        refine HSZ.out.mono ?_
        rintro e w2 ⟨v2, us, rfl, hown2, hul, hu, hf2⟩
        obtain ⟨hX1, hbt1, hf1, hm1, hrr⟩ := HX.out
        obtain ⟨ub, ucap, rfl, hS2⟩ := sizes_of (M := fun _ => False) hown2 hu (by have := H3.out; have := HN.out; omega) (fun _ q => q)
        have hf02 := hf1.trans hf2
        have hin := inflate_any w2 C p (HE.out.keep hf02 (fun _ _ e => e.elim)) base src cap (HS.out.keep hf02) (by have := H1.out; have := HN.out; omega) dbase dict dcap (HD.out.keep hf02) (by have := H2.out; have := HN.out; omega) has ub us.length ucap hS2
        rw [← HN.out.1, ← HN.out.2.1] at hin
        obtain ⟨un, hun⟩ : ∃ un, un = us.length := ⟨_, rfl⟩
        rw [← hun] at hin ⊢
        have HI2 := Lib.hid hin
        have HF2 := Lib.hid hf2
        clear hX1 hbt1 hf1 hm1 hrr hown2 hul hu hf2 hS2 hf02 hin hun
        go_wp2_with fail
        refine HI2.out.mono ?_
        rintro e w5 ⟨v5, er5, P5, X5, hX5, rfl, hown5, hf5⟩
        obtain ⟨hX1, hbt1, hf1, hm1, hrr⟩ := HX.out
        obtain ⟨rfl, rfl, rfl⟩ := hX1.unique hX5
        rw [← hrr]
        obtain ⟨b5, cap5, rfl, hbt5⟩ := hown5.bt
        rw [← hm1]
        have hf05 : Frm (fun _ _ => False) w w5 := (hf1.trans HF2.out).trans hf5
        have HW := Lib.hid (works_any w5 C p (HE.out.keep hf05 (fun _ _ e => e.elim)))
        have hsame := fun (w6 : World) (hf6 : Frm (fun _ _ => False) w5 w6) => same_any w6 b1 b5 X5 X5 cap1 cap5 (((hbt1.keep HF2.out).keep hf5).keep hf6).bytes (hbt5.keep hf6).bytes
        rw [sameB_refl, ← hm1] at hsame
        have HB := Lib.hid (And.intro hsame hf05)
        generalize hfn : (faultNum er5) = fn
        clear hX1 hbt1 hf1 hm1 hrr hX5 hown5 hf5 hbt5 hf05 hsame hfn
        go_wp2_with fail
        refine HW.out.mono ?_
        rintro e w6 ⟨rfl, hf6⟩
        have HSM := Lib.hid (HB.out.1 w6 hf6)
        have HF6 := Lib.hid hf6
        clear hf6
        go_wp2_with fail
        refine HSM.out.mono ?_
        rintro e w7 ⟨rfl, rfl⟩
        go_wp2_with fail
        go_ret
        exact ⟨rfl, HB.out.2.trans HF6.out⟩

end Go.Proofs.YthfncdfcklbigaaDoor
