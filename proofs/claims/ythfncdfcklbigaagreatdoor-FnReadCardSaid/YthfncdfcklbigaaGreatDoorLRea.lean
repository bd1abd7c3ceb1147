/-
  Several texts in one: Rea.
-/
import Derived.Test.YthfncdfcklbigaaGreatDoorLa
import Derived.Test.YthfncdfcklbigaaGreatDoorZc
set_option linter.unusedVariables false
set_option linter.unusedSimpArgs false
namespace Go.Proofs.YthfncdfcklbigaaGreatDoor
open Go.RowKit Go.IntWalk Flate
set_option maxRecDepth 100000
set_option maxHeartbeats 1000000 in
theorem fnRead_any (w : World) (C : Nat) (p : Ps) (he : Env w C p) (base : Option Addr) (data : List UInt8) (cap : Nat) (hs : Bt w base data cap) (dbase : Option Addr) (dict : List UInt8) (dcap : Nat) (hd : Bt w dbase dict dcap) (has : Bool) (window : Int) (_hw : (Lit.int .i64 window).wf = true) (level : Int) (_hv : (Lit.int .i64 level).wf = true) (lb : Option Addr) (l : List Int) (lc : Nat) (hl : It w lb l lc) :
 Calls Tryz.prog 9 #[.slice base data.length cap, .slice dbase dict.length dcap, .bool has, .int .i64 window, .int .i64 level, .slice lb l.length lc] w fun e w' => e = .returned (.bool true) ∧ Frm (fun _ _ => False) w w' := by
 clear _hw _hv
 have HE := zHi he
 have HS := zHi hs
 have HD := zHi hd
 have HL := zHi hl
 clear he hs hd hl
 obtain ⟨n1, hn1⟩ : ∃ n1, n1 = data.length := ⟨_, rfl⟩
 obtain ⟨n2, hn2⟩ : ∃ n2, n2 = dict.length := ⟨_, rfl⟩
 obtain ⟨n3, hn3⟩ : ∃ n3, n3 = l.length := ⟨_, rfl⟩
 rw [← hn1, ← hn2, ← hn3]
 have HN := zHi (zAi hn1 (zAi hn2 hn3))
 clear hn1 hn2 hn3
 go_enter Tryz.func9, Tryz.ntmps9
 by_cases h1 : 2147483647 < n1
 · have t1 : decide ((2147483647 : Int) < (n1 : Int)) = true := by simp; omega
   clear h1; go_wp2_with fail
   go_ret
   exact ⟨rfl, Frm.refl _ _⟩
 have t1 : decide ((2147483647 : Int) < (n1 : Int)) = false := by simp; omega
 by_cases h2 : 2147483647 < n2
 · have t2 : decide ((2147483647 : Int) < (n2 : Int)) = true := by simp; omega
   clear h1 h2; go_wp2_with fail
   go_ret
   exact ⟨rfl, Frm.refl _ _⟩
 have t2 : decide ((2147483647 : Int) < (n2 : Int)) = false := by simp; omega
 by_cases h3 : 2147483647 < n3
 · have t3 : decide ((2147483647 : Int) < (n3 : Int)) = true := by simp; omega
   clear h1 h2 h3; go_wp2_with fail
   go_ret
   exact ⟨rfl, Frm.refl _ _⟩
 have t3 : decide ((2147483647 : Int) < (n3 : Int)) = false := by simp; omega
 have hdl : data.length ≤ 2147483647 := by have := HN.out.1; omega
 have hdd : dict.length ≤ 2147483647 := by have := HN.out.2.1; omega
 have hll : l.length ≤ 2147483647 := by have := HN.out.2.2; omega
 have HB := zHi (zAi hdl (zAi hdd hll))
 have hz := zlib_any w base data cap HS.out dbase dict dcap HD.out has window level lb l lc HL.out hdl hdd hll
 rw [← HN.out.1, ← HN.out.2.1, ← HN.out.2.2] at hz
 have HZ := zHi hz
 clear h1 h2 h3 hdl hdd hll hz
 go_wp2_with fail
 refine HZ.out.mono ?_
 rintro e w1 ⟨v, a, b, L, rfl, hown, hok, hbit, hdata, hpl, hpos, hf1⟩
 have hu := unz_z (m := []) (Dr := if has then dict else []) hok hbit (fun q => by rw [if_pos q]) hdata
 rw [List.append_nil] at hu
 obtain ⟨bb, cc, rfl, hbt⟩ := hown.bt
 have hSl := zstream_len a b has dict L data
 have hSl2 : (zstream a b has dict L data).length ≤ 10 + (pack L).length ∧ 0 < (zstream a b has dict L data).length := by rw [hSl]; split <;> omega
 obtain ⟨S, hS⟩ : ∃ S, S = zstream a b has dict L data := ⟨_, rfl⟩
 rw [← hS] at hbt hu hSl2 ⊢
 have hrd := reads_long w1 C p (HE.out.keep hf1 (fun _ _ e => e.elim)) bb S cc hbt (by omega) dbase dict dcap (HD.out.keep hf1) (by have := HB.out; omega) has (unz_hxl hu (by have := HB.out; omega)) base data cap (HS.out.keep hf1) hu (by omega)
 obtain ⟨m, hm⟩ : ∃ m, m = S.length := ⟨_, rfl⟩
 rw [← hm, ← HN.out.1, ← HN.out.2.1] at hrd
 rw [← hm]
 have HRD := zHi hrd
 have HF1 := zHi hf1
 clear hown hok hbit hdata hpl hpos hf1 hu hbt hSl hSl2 hS hrd hm
 go_wp2_with fail
 refine HRD.out.mono ?_
 rintro e w2 ⟨rfl, hf2⟩
 have HF2 := zHi hf2
 clear hf2
 go_wp2_with fail
 go_ret
 exact ⟨rfl, HF1.out.trans HF2.out⟩
end Go.Proofs.YthfncdfcklbigaaGreatDoor
