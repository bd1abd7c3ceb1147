/-
  Several texts in one: what the writer and the reader of bits do.
-/
import Derived.Test.YthfncdfcklbigaaDoorLaw
import Derived.Test.YthfncdfcklbigaaDoorRf
set_option linter.unusedVariables false
set_option linter.unusedSimpArgs false

/-
  'laws.FnInflate', walked: any bytes are read as RFC 1951 says.
-/
namespace Go.Proofs.YthfncdfcklbigaaDoor
open Go.RowKit Go.IntWalk Flate
set_option maxRecDepth 100000

set_option maxHeartbeats 1000000 in
theorem fnInflate_any (w : World) (C : Nat) (p : Ps) (he : Env w C p) (base : Option Addr) (src : List UInt8) (cap : Nat) (hs : Bt w base src cap) (dbase : Option Addr) (dict : List UInt8) (dcap : Nat) (hd : Bt w dbase dict dcap) (has : Bool) :
    Calls Tryd.prog 10 #[.slice base src.length cap, .slice dbase dict.length dcap, .bool has] w fun e w' => e = .returned (.bool true) ∧ Frm (fun _ _ => False) w w' := by
  have HE := Lib.hid he
  have HS := Lib.hid hs
  have HD := Lib.hid hd
  clear he hs hd
  obtain ⟨n1, hn1⟩ : ∃ n1, n1 = src.length := ⟨_, rfl⟩
  obtain ⟨n2, hn2⟩ : ∃ n2, n2 = dict.length := ⟨_, rfl⟩
  rw [← hn1, ← hn2]
  have HN := Lib.hid (And.intro hn1 hn2)
  clear hn1 hn2
  go_enter Tryd.func10, Tryd.ntmps10
  by_cases h1 : 2147483647 < n1
  · have t1 : decide ((2147483647 : Int) < (n1 : Int)) = true := by simp; omega
    clear h1
    go_wp2_with fail
    go_ret
    exact ⟨rfl, Frm.refl _ _⟩
  have t1 : decide ((2147483647 : Int) < (n1 : Int)) = false := by simp; omega
  by_cases h2 : 2147483647 < n2
  · have t2 : decide ((2147483647 : Int) < (n2 : Int)) = true := by simp; omega
    clear h1 h2
    go_wp2_with fail
    go_ret
    exact ⟨rfl, Frm.refl _ _⟩
  have t2 : decide ((2147483647 : Int) < (n2 : Int)) = false := by simp; omega
  have hsl : src.length ≤ 2147483647 := by have := HN.out.1; omega
  have htl : dict.length ≤ 2147483647 := by have := HN.out.2; omega
  have c1 : (n1 : Int) ≤ 2147483647 := by omega
  have HL := Lib.hid hsl
  clear h1 h2
  obtain ⟨db', dict', dc', hd', hdd, hcase⟩ : ∃ (db' : Option Addr) (dict' : List UInt8) (dc' : Nat), Bt w db' dict' dc' ∧ dict'.length ≤ 2147483647 ∧ (has = false ∧ db' = none ∧ dict' = [] ∧ dc' = 0 ∨ has = true ∧ db' = dbase ∧ dict' = dict ∧ dc' = dcap) := by
    cases has
    · exact ⟨none, [], 0, bt_nil _, by simp, .inl ⟨rfl, rfl, rfl, rfl⟩⟩
    · exact ⟨dbase, dict, dcap, HD.out, htl, .inr ⟨rfl, rfl, rfl, rfl⟩⟩
  have hsel : (if has = true then dict' else []) = dict' := by
    rcases hcase with ⟨rfl, _, rfl, _⟩ | ⟨rfl, _⟩ <;> rfl
  have hrf := rinflate_any w base src cap HS.out hsl db' dict' dc' hd' (by omega)
  rw [← HN.out.1] at hrf
  have hin : ∀ w1, Frm (fun _ _ => False) w w1 → Calls Tryd.prog 17 #[.slice base n1 cap, .slice db' dict'.length dc', .bool has, .slice none 0 0] w1 (InflPost w1 src dict') := by
    intro w1 hf
    have := inflate_any w1 C p (HE.out.keep hf (fun _ _ e => e.elim)) base src cap (HS.out.keep hf) (by omega) db' dict' dc' (hd'.keep hf) (by omega) has none 0 0 (nilSizes _ _ _)
    rw [hsel, ← HN.out.1] at this
    exact this
  have HRF := Lib.hid hrf
  have HIN := Lib.hid hin
  clear hsl htl hd' hdd hsel hrf hin
  obtain ⟨n3, hn3⟩ : ∃ n3, n3 = dict'.length := ⟨_, rfl⟩
  rw [← hn3] at HRF HIN
  have key : ∀ w1 w2 : World, ∀ (b : Option Addr) (X : List UInt8) (c P : Nat) (e : Ending), Bt w1 b X c → Infl src dict' .eof P X → Frm (fun _ _ => False) w w1 → InflPost w1 src dict' e w2 →
      ∃ b2 c2 rr nx, nx = X.length ∧ e = .returned (.tuple #[.slice b2 nx c2, .int .i64 0, .int .i64 ((rr : Nat) : Int)]) ∧ (n1 : Int) - (P : Int) = (rr : Int) ∧ P ≤ n1 ∧ Calls Tryd.prog 19 #[.slice b2 nx c2, .slice b nx c] w2 (fun e w' => e = .returned (.bool true) ∧ w2 = w') ∧ Frm (fun _ _ => False) w w2 := by
    rintro w1 w2 b X c P e hbt hI hf ⟨v, er, P2, X2, hI2, rfl, hown, hf2⟩
    obtain ⟨rfl, rfl, rfl⟩ := hI.unique hI2
    obtain ⟨b2, c2, rfl, hbt2⟩ := hown.bt
    have hle := hI.le.1
    refine ⟨b2, c2, src.length - P2, X2.length, rfl, rfl, by have := HN.out.1; omega, by have := HN.out.1; omega, ?_, hf.trans hf2⟩
    have := same_any w2 b2 b X2 X2 c2 c hbt2.bytes (hbt.keep hf2).bytes
    rw [sameB_refl] at this
    exact this
  have HKEY := Lib.hid key
  have bad : ∀ w1 w2 : World, ∀ (e : Ending), (∃ er P X, Infl src dict' er P X ∧ er ≠ .eof) → Frm (fun _ _ => False) w w1 → InflPost w1 src dict' e w2 →
      ∃ v fn rr, e = .returned (.tuple #[v, .int .i64 ((fn : Nat) : Int), .int .i64 ((rr : Nat) : Int)]) ∧ (fn = 4 ∨ fn = 5) ∧ Calls Tryd.prog 18 #[] w2 (fun e w' => e = .returned (.bool true) ∧ Frm (fun _ _ => False) w2 w') ∧ Frm (fun _ _ => False) w w2 := by
    rintro w1 w2 e ⟨er0, P0, X0, hI, hne⟩ hf ⟨v, er, P2, X2, hI2, rfl, hown, hf2⟩
    obtain ⟨rfl, rfl, rfl⟩ := hI.unique hI2
    refine ⟨v, faultNum er, _, rfl, ?_, works_any w2 C p (HE.out.keep (hf.trans hf2) (fun _ _ e => e.elim)), hf.trans hf2⟩
    cases er
    · exact absurd rfl hne
    · exact .inl rfl
    · exact .inr rfl
  have HBAD := Lib.hid bad
  clear key bad
  have HN3 := Lib.hid hn3
  clear hn3
  rcases hcase with ⟨rfl, rfl, hdn, rfl⟩ | ⟨rfl, rfl, rfl, rfl⟩
  · obtain rfl : n3 = 0 := by rw [HN3.out, hdn]; rfl
    clear hdn
    go_wp2_with fail
    refine HRF.out.mono ?_
    rintro e w1 (⟨b, X, c, P, rfl, hbt, hI, hf1⟩ | ⟨rfl, hI, hf1⟩)
    · have HIN2 := Lib.hid (HIN.out w1 hf1)
      have H1 := Lib.hid (And.intro hbt (And.intro hI hf1))
      clear hbt hI hf1
      go_wp2_with fail
      refine HIN2.out.mono ?_
      intro e w2 hP
      obtain ⟨b2, c2, rr, nx, hnx, rfl, hrr, hle, hsame, hf⟩ := HKEY.out w1 w2 b X c P e H1.out.1 H1.out.2.1 H1.out.2.2 hP
      rw [← hnx]
      have c3 : (P : Int) ≤ (n1 : Int) := by omega
      have HSM := Lib.hid hsame
      have HF := Lib.hid hf
      clear hP hnx hle hsame hf
      go_wp2_with fail
      refine HSM.out.mono ?_
      rintro e w3 ⟨rfl, rfl⟩
      go_wp2_with fail
      go_ret
      exact ⟨rfl, HF.out⟩
    · have HIN2 := Lib.hid (HIN.out w1 hf1)
      have H1 := Lib.hid (And.intro hI hf1)
      clear hI hf1
      go_wp2_with fail
      refine HIN2.out.mono ?_
      intro e w2 hP
      obtain ⟨v, fn, rr, rfl, hfn, hw, hf⟩ := HBAD.out w1 w2 e H1.out.1 H1.out.2 hP
      have HSM := Lib.hid hw
      have HF := Lib.hid hf
      clear hP hw hf
      rcases hfn with rfl | rfl
      all_goals
        go_wp2_with fail
        refine HSM.out.mono ?_
        rintro e w3 ⟨rfl, hf3⟩
        have HF3 := Lib.hid hf3
        clear hf3
        go_wp2_with fail
        go_ret
        exact ⟨rfl, HF.out.trans HF3.out⟩
  · obtain rfl : n3 = n2 := by rw [HN3.out, HN.out.2]
    go_wp2_with fail
    refine HRF.out.mono ?_
    rintro e w1 (⟨b, X, c, P, rfl, hbt, hI, hf1⟩ | ⟨rfl, hI, hf1⟩)
    · have HIN2 := Lib.hid (HIN.out w1 hf1)
      have H1 := Lib.hid (And.intro hbt (And.intro hI hf1))
      clear hbt hI hf1
      go_wp2_with fail
      refine HIN2.out.mono ?_
      intro e w2 hP
      obtain ⟨b2, c2, rr, nx, hnx, rfl, hrr, hle, hsame, hf⟩ := HKEY.out w1 w2 b X c P e H1.out.1 H1.out.2.1 H1.out.2.2 hP
      rw [← hnx]
      have c3 : (P : Int) ≤ (n1 : Int) := by omega
      have HSM := Lib.hid hsame
      have HF := Lib.hid hf
      clear hP hnx hle hsame hf
      go_wp2_with fail
      refine HSM.out.mono ?_
      rintro e w3 ⟨rfl, rfl⟩
      go_wp2_with fail
      go_ret
      exact ⟨rfl, HF.out⟩
    · have HIN2 := Lib.hid (HIN.out w1 hf1)
      have H1 := Lib.hid (And.intro hI hf1)
      clear hI hf1
      go_wp2_with fail
      refine HIN2.out.mono ?_
      intro e w2 hP
      obtain ⟨v, fn, rr, rfl, hfn, hw, hf⟩ := HBAD.out w1 w2 e H1.out.1 H1.out.2 hP
      have HSM := Lib.hid hw
      have HF := Lib.hid hf
      clear hP hw hf
      rcases hfn with rfl | rfl
      all_goals
        go_wp2_with fail
        refine HSM.out.mono ?_
        rintro e w3 ⟨rfl, hf3⟩
        have HF3 := Lib.hid hf3
        clear hf3
        go_wp2_with fail
        go_ret
        exact ⟨rfl, HF.out.trans HF3.out⟩

end Go.Proofs.YthfncdfcklbigaaDoor
