/-
  Several texts in one: Rst.
-/
import Derived.Test.YthfncdfcklbigaaGreatDoorLa
set_option linter.unusedVariables false
set_option linter.unusedSimpArgs false
namespace Go.Proofs.YthfncdfcklbigaaGreatDoor
open Go.RowKit Go.IntWalk Flate
set_option maxRecDepth 100000
set_option maxHeartbeats 1000000 in
theorem fnRest_any (w : World) (C : Nat) (p : Ps) (he : Env w C p) (base : Option Addr) (data : List UInt8) (cap : Nat) (hs : Bt w base data cap) (dbase : Option Addr) (beh : List UInt8) (dcap : Nat) (hd : Bt w dbase beh dcap) (lb : Option Addr) (l : List Int) (lc : Nat) (hl : It w lb l lc) :
 Calls Tryz.prog 10 #[.slice base data.length cap, .slice dbase beh.length dcap, .slice lb l.length lc] w fun e w' => e = .returned (.bool true) ∧ Frm (fun _ _ => False) w w' := by
 have HE := zHi he
 have HS := zHi hs
 have HD := zHi hd
 have HL := zHi hl
 clear he hs hd hl
 obtain ⟨n1, hn1⟩ : ∃ n1, n1 = data.length := ⟨_, rfl⟩
 obtain ⟨n2, hn2⟩ : ∃ n2, n2 = beh.length := ⟨_, rfl⟩
 obtain ⟨n3, hn3⟩ : ∃ n3, n3 = l.length := ⟨_, rfl⟩
 rw [← hn1, ← hn2, ← hn3]
 have HN := zHi (zAi hn1 (zAi hn2 hn3))
 clear hn1 hn2 hn3
 go_enter Tryz.func10, Tryz.ntmps10
 by_cases h1 : 2147483647 < n1
 · have t1 : decide ((2147483647 : Int) < (n1 : Int)) = true := by simp; omega
   clear h1; go_wp2_with fail
   go_ret
   exact ⟨rfl, Frm.refl _ _⟩
 have t1 : decide ((2147483647 : Int) < (n1 : Int)) = false := by simp; omega
 by_cases h2 : 2147483647 < n2
 · have t2 : decide ((2147483647 : Int) < (n2 : Int)) = true := by simp; omega
   clear h1 h2; go_wp2_with fail
   go_ret
   exact ⟨rfl, Frm.refl _ _⟩
 have t2 : decide ((2147483647 : Int) < (n2 : Int)) = false := by simp; omega
 by_cases h3 : 2147483647 < n3
 · have t3 : decide ((2147483647 : Int) < (n3 : Int)) = true := by simp; omega
   clear h1 h2 h3; go_wp2_with fail
   go_ret
   exact ⟨rfl, Frm.refl _ _⟩
 have t3 : decide ((2147483647 : Int) < (n3 : Int)) = false := by simp; omega
 have hdl : data.length ≤ 2147483647 := by have := HN.out.1; omega
 have hbl : beh.length ≤ 2147483647 := by have := HN.out.2.1; omega
 have hll : l.length ≤ 2147483647 := by have := HN.out.2.2; omega
 have HB := zHi (zAi hdl (zAi hbl hll))
 have hz := zlib_any w base data cap HS.out none [] 0 (bt_nil _) false 7 2 lb l lc HL.out hdl (by simp) hll
 rw [← HN.out.1, ← HN.out.2.2] at hz
 have HZ := zHi (show Calls Tryz.prog 18 #[.slice base n1 cap, .slice none 0 0, .bool false, .int .i64 7, .int .i64 2, .slice lb n3 lc] w _ from hz)
 clear h1 h2 h3 hdl hbl hll hz
 go_wp2_with fail
 refine HZ.out.mono ?_
 rintro e w1 ⟨v, a, b, L, rfl, hown, hok, hbit, hdata, hpl, hpos, hf1⟩
 have hu := unz_z (m := beh) (Dr := []) hok hbit (fun q => by simp at q) hdata
 have hSl := zstream_len a b false [] L data
 simp only [Bool.false_eq_true, if_false] at hSl
 obtain ⟨v2, w2, hr2, ho2, hfr2, _⟩ := append_bt w1 w.heap.size v _ hown dbase beh dcap (HD.out.keep hf1) (by have := HB.out; omega) hf1.size
 have hf2 := Own.fresh hown hf1 (Nat.le_refl _) hfr2
 obtain ⟨bb, cc, rfl, hbt⟩ := ho2.bt
 obtain ⟨k, hk⟩ : ∃ k, k = (zstream a b false [] L data).length := ⟨_, rfl⟩
 obtain ⟨S, hS⟩ : ∃ S, S = zstream a b false [] L data ++ beh := ⟨_, rfl⟩
 have hSl2 : S.length = k + beh.length := by rw [hS, List.length_append, hk]
 rw [← hS] at hbt hu hr2
 rw [← hk] at hu hSl
 have hup := unpack_long w2 C p (HE.out.keep hf2 (fun _ _ e => e.elim)) bb S cc hbt (by have := HB.out; omega) none [] 0 (bt_nil _) (by simp) false (unz_hxl hu (by have := HB.out; omega)) none 0 0 (nilSizes _ _ _)
 obtain ⟨m, hm⟩ : ∃ m, m = S.length := ⟨_, rfl⟩
 rw [← hm] at hup
 rw [← HN.out.2.1, ← hm] at hr2
 have HUP := zHi (show Calls Tryz.prog 14 #[.slice bb m cc, .slice none 0 0, .bool false, .slice none 0 0] w2 _ from hup)
 have H1 := zHi (zAi hu (zAi hSl2 (zAi hm hf2)))
 have hr := fun ty => hr2 ty
 clear hown hok hbit hdata hpl hpos hf1 hu hSl hr2 ho2 hfr2 hf2 hbt hk hS hSl2 hup hm
 go_wp2_with (at_builtin; refine wpList_append_by (by rfl) (.tmp 26) (.tmp 27) 22 (by rfl) _ _ (by rfl) (by rfl) (hr _) ?_)
 refine HUP.out.mono ?_
 rintro e w3 ⟨v3, f3, P3, X3, hX3, rfl, hown3, hf3⟩
 obtain ⟨hu, hSl2, hm, hf2⟩ := H1.out
 obtain ⟨rfl, rfl, rfl⟩ := hu.unique hX3
 obtain ⟨b3, c3, rfl, hbt3⟩ := hown3.bt
 have e0 : S.length - P3 = n2 := by have := HN.out.2.1; omega
 rw [e0]
 have hf03 := hf2.trans hf3
 have hsame := same_any w3 b3 base X3 X3 c3 cap hbt3.bytes (HS.out.keep hf03).bytes
 rw [sameB_refl, ← HN.out.1] at hsame
 rw [← HN.out.1]
 have HSM := zHi hsame
 have HLT := zHi (little_any w3 C p (HE.out.keep hf03 (fun _ _ e => e.elim)))
 have HF3 := zHi hf03
 clear hu hSl2 hm hf2 hX3 hown3 hf3 hbt3 e0 hf03 hsame hr
 go_wp2_with fail
 refine HSM.out.mono ?_
 rintro e w4 ⟨rfl, rfl⟩
 go_wp2_with fail
 refine HLT.out.mono ?_
 rintro e w5 ⟨rfl, hf5⟩
 have HF5 := zHi hf5
 clear hf5
 go_wp2_with fail
 go_ret
 exact ⟨rfl, HF3.out.trans HF5.out⟩
end Go.Proofs.YthfncdfcklbigaaGreatDoor
