/-
  Several texts in one: what the writer and the reader of bits do.
-/
import Derived.Test.YthfncdfcklbigaaDoorWc
import Derived.Test.YthfncdfcklbigaaDoorLaw
set_option linter.unusedVariables false
set_option linter.unusedSimpArgs false

/-
  'laws.FnBlocks', walked: blocks of each kind, written in any way, are read as the data.
-/
namespace Go.Proofs.YthfncdfcklbigaaDoor
open Go.RowKit Go.IntWalk Flate
set_option maxRecDepth 100000

set_option maxHeartbeats 1000000 in
theorem fnBlocks_any (w : World) (C : Nat) (p : Ps) (he : Env w C p) (base : Option Addr) (data : List UInt8) (cap : Nat) (hs : Bt w base data cap) (dbase : Option Addr) (dict : List UInt8) (dcap : Nat) (hd : Bt w dbase dict dcap) (has : Bool) (lb : Option Addr) (l : List Int) (lc : Nat) (hl : It w lb l lc) :
    Calls Tryd.prog 4 #[.slice base data.length cap, .slice dbase dict.length dcap, .bool has, .slice lb l.length lc] w fun e w' => e = .returned (.bool true) ∧ Frm (fun _ _ => False) w w' := by
  have HE := Lib.hid he
  have HS := Lib.hid hs
  have HD := Lib.hid hd
  have HL := Lib.hid hl
  clear he hs hd hl
  obtain ⟨n1, hn1⟩ : ∃ n1, n1 = data.length := ⟨_, rfl⟩
  obtain ⟨n2, hn2⟩ : ∃ n2, n2 = dict.length := ⟨_, rfl⟩
  obtain ⟨n3, hn3⟩ : ∃ n3, n3 = l.length := ⟨_, rfl⟩
  rw [← hn1, ← hn2, ← hn3]
  have HN := Lib.hid (And.intro hn1 (And.intro hn2 hn3))
  clear hn1 hn2 hn3
  go_enter Tryd.func4, Tryd.ntmps4
  by_cases h1 : 2147483647 < n1
  · have t1 : decide ((2147483647 : Int) < (n1 : Int)) = true := by simp; omega
    clear h1
    go_wp2_with fail
    go_ret
    exact ⟨rfl, Frm.refl _ _⟩
  have t1 : decide ((2147483647 : Int) < (n1 : Int)) = false := by simp; omega
  by_cases h2 : 2147483647 < n2
  · have t2 : decide ((2147483647 : Int) < (n2 : Int)) = true := by simp; omega
    clear h1 h2
    go_wp2_with fail
    go_ret
    exact ⟨rfl, Frm.refl _ _⟩
  have t2 : decide ((2147483647 : Int) < (n2 : Int)) = false := by simp; omega
  by_cases h3 : 2147483647 < n3
  · have t3 : decide ((2147483647 : Int) < (n3 : Int)) = true := by simp; omega
    clear h1 h2 h3
    go_wp2_with fail
    go_ret
    exact ⟨rfl, Frm.refl _ _⟩
  have t3 : decide ((2147483647 : Int) < (n3 : Int)) = false := by simp; omega
  have hdl : data.length ≤ 2147483647 := by have := HN.out.1; omega
  have htl : dict.length ≤ 2147483647 := by have := HN.out.2.1; omega
  have hll : l.length ≤ 2147483647 := by have := HN.out.2.2; omega
  have HB := Lib.hid (And.intro hdl (And.intro htl hll))
  clear h1 h2 h3
  obtain ⟨db', dict', dc', hd', hdd, hcase⟩ : ∃ (db' : Option Addr) (dict' : List UInt8) (dc' : Nat), Bt w db' dict' dc' ∧ dict'.length ≤ 2147483647 ∧ (has = false ∧ db' = none ∧ dict' = [] ∧ dc' = 0 ∨ has = true ∧ db' = dbase ∧ dict' = dict ∧ dc' = dcap) := by
    cases has
    · exact ⟨none, [], 0, bt_nil _, by simp, .inl ⟨rfl, rfl, rfl, rfl⟩⟩
    · exact ⟨dbase, dict, dcap, HD.out, htl, .inr ⟨rfl, rfl, rfl, rfl⟩⟩
  have HDD := Lib.hid (And.intro hd' hdd)
  have hdf := deflate_any w base data cap HS.out db' dict' dc' hd' lb l lc HL.out hdl hdd hll
  rw [← HN.out.1, ← HN.out.2.2] at hdf
  have hfin : ∀ (W : World) (v : Value) (L : List Bool), Own W w.heap.size v (pack L) → Flate.Data (lastOf dict') L (lastOf dict' ++ data) → (pack L).length ≤ 549755813888 → 0 < (pack L).length → Frm (fun _ _ => False) w W →
      ∃ b np c, v = .slice b np c ∧ Calls Tryd.prog 20 #[.slice b np c, .slice db' dict'.length dc', .bool has, .slice base n1 cap] W fun e w' => e = .returned (.bool true) ∧ Frm (fun _ _ => False) W w' := by
    intro W v L hown hdata hpl hpos hf
    obtain ⟨b, c, rfl, hbt⟩ := hown.bt
    refine ⟨b, _, c, rfl, ?_⟩
    have hinf := data_infl hdata []
    rw [List.append_nil] at hinf
    have hsel : (if has = true then dict' else []) = dict' := by
      rcases hcase with ⟨rfl, _, rfl, _⟩ | ⟨rfl, _⟩ <;> rfl
    have := inflates_long W C p (HE.out.keep hf (fun _ _ e => e.elim)) b _ c hbt (by omega) db' dict' dc' (HDD.out.1.keep hf) (by omega) has base data cap (HS.out.keep hf) (by omega) (by rw [hsel]; exact hinf) hpos
    rw [← HN.out.1] at this
    exact this
  have HFIN := Lib.hid hfin
  have HDF := Lib.hid hdf
  clear hfin hdf hdl htl hll hd' hdd
  rcases hcase with ⟨rfl, rfl, rfl, rfl⟩ | ⟨rfl, rfl, rfl, rfl⟩
  · have HDF2 := Lib.hid (show Calls Tryd.prog 21 #[.slice base n1 cap, .slice none 0 0, .slice lb n3 lc] w _ from HDF.out)
    go_wp2_with fail
    refine HDF2.out.mono ?_
    rintro e w1 ⟨v, L, rfl, hown, hdata, hpl, hpos, hf1⟩
    obtain ⟨b, np, c, rfl, hin⟩ := HFIN.out w1 v L hown hdata hpl hpos hf1
    have HIN := Lib.hid (show Calls Tryd.prog 20 #[.slice b np c, .slice none 0 0, .bool false, .slice base n1 cap] w1 _ from hin)
    have HF1 := Lib.hid hf1
    clear hown hdata hpl hpos hf1 hin
    go_wp2_with fail
    refine HIN.out.mono ?_
    rintro e w2 ⟨rfl, hf2⟩
    have HF2 := Lib.hid hf2
    clear hf2
    go_wp2_with fail
    go_ret
    exact ⟨rfl, HF1.out.trans HF2.out⟩
  · rw [← HN.out.2.1] at HDF HFIN
    go_wp2_with fail
    refine HDF.out.mono ?_
    rintro e w1 ⟨v, L, rfl, hown, hdata, hpl, hpos, hf1⟩
    obtain ⟨b, np, c, rfl, hin⟩ := HFIN.out w1 v L hown hdata hpl hpos hf1
    have HIN := Lib.hid hin
    have HF1 := Lib.hid hf1
    clear hown hdata hpl hpos hf1 hin
    go_wp2_with fail
    refine HIN.out.mono ?_
    rintro e w2 ⟨rfl, hf2⟩
    have HF2 := Lib.hid hf2
    clear hf2
    go_wp2_with fail
    go_ret
    exact ⟨rfl, HF1.out.trans HF2.out⟩

end Go.Proofs.YthfncdfcklbigaaDoor
