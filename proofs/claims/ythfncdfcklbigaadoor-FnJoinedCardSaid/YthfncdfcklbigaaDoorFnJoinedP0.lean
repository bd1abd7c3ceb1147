/-
  Several texts in one: what the writer and the reader of bits do.
-/
import Derived.Test.YthfncdfcklbigaaDoorWc
import Derived.Test.YthfncdfcklbigaaDoorCk
set_option linter.unusedVariables false
set_option linter.unusedSimpArgs false

/-
  'laws.FnJoined', walked: a stored block ahead of any bytes adds its data in front and changes nothing else.
-/
namespace Go.Proofs.YthfncdfcklbigaaDoor
open Go.RowKit Go.IntWalk Flate
set_option maxRecDepth 100000

theorem joined_infl {data b : List UInt8} {L : List Bool} (hd : data.length ≤ 65535) (h : Flate.Data (lastOf data) L (lastOf data ++ b)) : Infl (stHead false data.length ++ data ++ pack L) [] .eof (stHead false data.length ++ data ++ pack L).length (data ++ b) := by
  have h1 := data_infl h []
  rw [List.append_nil] at h1
  have h2 := infl_dict hd h1
  have e : (pack L).length + (5 + data.length) = (stHead false data.length ++ data ++ pack L).length := by
    rw [List.length_append, stHead_len]; omega
  rw [e] at h2
  exact h2

set_option maxHeartbeats 1000000 in
theorem fnJoined_any (w : World) (C : Nat) (p : Ps) (he : Env w C p) (dbase : Option Addr) (data : List UInt8) (dcap : Nat) (hd : Bt w dbase data dcap) (base : Option Addr) (b : List UInt8) (cap : Nat) (hs : Bt w base b cap) (lb : Option Addr) (l : List Int) (lc : Nat) (hl : It w lb l lc) :
    Calls Tryd.prog 12 #[.slice dbase data.length dcap, .slice base b.length cap, .slice lb l.length lc] w fun e w' => e = .returned (.bool true) ∧ Frm (fun _ _ => False) w w' := by
  have HE := Lib.hid he
  have HS := Lib.hid hs
  have HD := Lib.hid hd
  have HL := Lib.hid hl
  clear he hs hd hl
  obtain ⟨n1, hn1⟩ : ∃ n1, n1 = data.length := ⟨_, rfl⟩
  obtain ⟨n2, hn2⟩ : ∃ n2, n2 = b.length := ⟨_, rfl⟩
  obtain ⟨n3, hn3⟩ : ∃ n3, n3 = l.length := ⟨_, rfl⟩
  rw [← hn1, ← hn2, ← hn3]
  have HN := Lib.hid (And.intro hn1 (And.intro hn2 hn3))
  clear hn1 hn2 hn3
  go_enter Tryd.func12, Tryd.ntmps12
  by_cases h1 : 2147483647 < n1
  · have t1 : decide ((2147483647 : Int) < (n1 : Int)) = true := by simp; omega
    clear h1
    go_wp2_with fail
    go_ret
    exact ⟨rfl, Frm.refl _ _⟩
  have t1 : decide ((2147483647 : Int) < (n1 : Int)) = false := by simp; omega
  by_cases h2 : 2147483647 < n2
  · have t2 : decide ((2147483647 : Int) < (n2 : Int)) = true := by simp; omega
    clear h1 h2
    go_wp2_with fail
    go_ret
    exact ⟨rfl, Frm.refl _ _⟩
  have t2 : decide ((2147483647 : Int) < (n2 : Int)) = false := by simp; omega
  by_cases h3 : 2147483647 < n3
  · have t3 : decide ((2147483647 : Int) < (n3 : Int)) = true := by simp; omega
    clear h1 h2 h3
    go_wp2_with fail
    go_ret
    exact ⟨rfl, Frm.refl _ _⟩
  have t3 : decide ((2147483647 : Int) < (n3 : Int)) = false := by simp; omega
  by_cases h4 : 65535 < n1
  · have t4 : decide ((65535 : Int) < (n1 : Int)) = true := by simp; omega
    clear h1 h2 h3 h4
    go_wp2_with fail
    go_ret
    exact ⟨rfl, Frm.refl _ _⟩
  have t4 : decide ((65535 : Int) < (n1 : Int)) = false := by simp; omega
  have hdl : data.length ≤ 65535 := by have := HN.out.1; omega
  have hbl : b.length ≤ 2147483647 := by have := HN.out.2.1; omega
  have hll : l.length ≤ 2147483647 := by have := HN.out.2.2; omega
  have HB := Lib.hid (And.intro hdl (And.intro hbl hll))
  have hst := stored_any w dbase data dcap HD.out hdl false
  rw [← HN.out.1] at hst
  have HST := Lib.hid hst
  clear h1 h2 h3 h4 hst hdl hbl hll
  go_wp2_with fail
  refine HST.out.mono ?_
  rintro e w1 ⟨v1, rfl, hown1, hf1⟩
  have hdf := deflate_any w1 base b cap (HS.out.keep hf1) dbase data dcap (HD.out.keep hf1) lb l lc (HL.out.keep hf1) HB.out.2.1 (by have := HB.out.1; omega) HB.out.2.2
  rw [← HN.out.1, ← HN.out.2.1, ← HN.out.2.2] at hdf
  have HDF := Lib.hid hdf
  have H1 := Lib.hid (And.intro hown1 hf1)
  clear hdf hown1 hf1
  go_wp2_with fail
  refine HDF.out.mono ?_
  rintro e w2 ⟨v2, L, rfl, hown2, hdata, hpl, hpos, hf2⟩
  obtain ⟨hown1, hf1⟩ := H1.out
  obtain ⟨b2, cp2, rfl, hbt2⟩ := hown2.bt
  have hown12 := hown1.keep hf2 (fun _ _ _ e => e)
  obtain ⟨v3, w3, hr3, hown3, hfr3, _⟩ := append_bt w2 w.heap.size v1 _ hown12 b2 (pack L) cp2 hbt2 (by rw [stHead_len]; have := HB.out.1; omega) (hf1.trans hf2).size
  have hf3 := Own.fresh hown12 (hf1.trans hf2) (Nat.le_refl _) hfr3
  obtain ⟨W4, hW4⟩ : ∃ W4, W4 = w3.alloc (.cells #[] 5) := ⟨_, rfl⟩
  have ho4 : Own W4 w3.heap.size (.slice (some ⟨w3.heap.size, 0, none⟩) 0 0) [] := by rw [hW4]; exact own_new w3 [] (by simp)
  have hf34 : Frm (fun _ _ => False) w3 W4 := by rw [hW4]; exact (Frm.refl _ _).alloc _
  obtain ⟨v5, w5, hr5, ho5, hfr5, _⟩ := append_bt W4 w3.heap.size _ [] ho4 dbase data dcap ((HD.out.keep hf3).keep hf34) (by simp only [List.length_nil]; have := HB.out.1; omega) hf34.size
  have hf5 := ho4.fresh hf34 (Nat.le_refl _) hfr5
  rw [List.nil_append] at ho5
  obtain ⟨v6, w6, hr6, ho6, hfr6, _⟩ := append_bt w5 w3.heap.size v5 data ho5 base b cap ((HS.out.keep hf3).keep hf5) (by have := HB.out; omega) hf5.size
  have hf6 := ho5.fresh hf5 (Nat.le_refl _) hfr6
  obtain ⟨S, hS⟩ : ∃ S, S = stHead false data.length ++ data ++ pack L := ⟨_, rfl⟩
  have hinf := joined_infl HB.out.1 hdata
  have hSl : S.length = 5 + data.length + (pack L).length := by rw [hS, List.length_append, stHead_len]
  rw [HN.out.1, ← hS] at hown3
  rw [← hS] at hinf
  obtain ⟨b3, cp3, rfl, hbt3⟩ := hown3.bt
  obtain ⟨b6, cp6, rfl, hbt6⟩ := ho6.bt
  have hf06 := hf3.trans hf6
  have hin := inflates_long w6 C p (HE.out.keep hf06 (fun _ _ e => e.elim)) b3 S cp3 (hbt3.keep hf6) (by have := HB.out; omega) none [] 0 (bt_nil _) (by simp) false b6 (data ++ b) cp6 hbt6 (by rw [List.length_append]; have := HB.out; omega) hinf (by omega)
  obtain ⟨n4, hn4⟩ : ∃ n4, n4 = (pack L).length := ⟨_, rfl⟩
  obtain ⟨n5, hn5⟩ : ∃ n5, n5 = (data ++ b).length := ⟨_, rfl⟩
  obtain ⟨n6, hn6⟩ : ∃ n6, n6 = S.length := ⟨_, rfl⟩
  rw [← hn4, ← hn6] at hr3
  rw [← hn5] at hr6
  rw [← hn5, ← hn6] at hin
  rw [← HN.out.1, hW4] at hr5
  rw [← HN.out.2.1] at hr6
  have HIN := Lib.hid hin
  have HR := Lib.hid (And.intro (fun ty => hr3 ty) (And.intro (fun ty => hr5 ty) (fun ty => hr6 ty)))
  have HF := Lib.hid hf06
  rw [← hn4]
  clear hown1 hf1 hown2 hdata hpl hpos hf2 hbt2 hown12 hr3 hown3 hfr3 hf3 hW4 ho4 hf34 hr5 ho5 hfr5 hf5 hr6 ho6 hfr6 hf6 hS hinf hSl hbt3 hbt6 hf06 hin hn4 hn5 hn6
  go_wp2_with (at_builtin; first | refine wpList_append_by (by rfl) (.tmp 24) (.tmp 28) 22 (by rfl) _ _ (by rfl) (by rfl) (HR.out.1 _) ?_ | refine wpList_append_by (by rfl) (.tmp 30) (.tmp 31) 22 (by rfl) _ _ (by rfl) (by rfl) (HR.out.2.1 _) ?_ | refine wpList_append_by (by rfl) (.tmp 32) (.tmp 33) 22 (by rfl) _ _ (by rfl) (by rfl) (HR.out.2.2 _) ?_)
  refine HIN.out.mono ?_
  rintro e w7 ⟨rfl, hf7⟩
  have HF7 := Lib.hid hf7
  clear hf7
  go_wp2_with fail
  go_ret
  exact ⟨rfl, HF.out.trans HF7.out⟩

end Go.Proofs.YthfncdfcklbigaaDoor
