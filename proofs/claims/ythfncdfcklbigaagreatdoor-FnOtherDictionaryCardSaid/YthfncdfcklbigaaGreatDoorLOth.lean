/-
  Several texts in one: Oth.
-/
import Derived.Test.YthfncdfcklbigaaGreatDoorLa
set_option linter.unusedVariables false
set_option linter.unusedSimpArgs false
namespace Go.Proofs.YthfncdfcklbigaaGreatDoor
open Go.RowKit Go.IntWalk Flate
set_option maxRecDepth 100000
theorem oth_unz {a b : UInt8} {D E X : List UInt8} {L : List Bool} (h : hdrOk a b = true) (hb : b.toNat / 32 % 2 = 1) : adler D = adler E ∨ Unz (zstream a b true D L X) E 2 6 [] := by
 by_cases hne : adler D = adler E
 · exact .inl hne
 · exact .inr (unz_other h hb hne)
set_option maxHeartbeats 2000000 in
theorem fnOtherDictionary_any (w : World) (C : Nat) (p : Ps) (he : Env w C p) (base : Option Addr) (data : List UInt8) (cap : Nat) (hs : Bt w base data cap) (dbase : Option Addr) (dict : List UInt8) (dcap : Nat) (hd : Bt w dbase dict dcap) (obase : Option Addr) (other : List UInt8) (ocap : Nat) (ho : Bt w obase other ocap) (lb : Option Addr) (l : List Int) (lc : Nat) (hl : It w lb l lc) :
 Calls Tryz.prog 8 #[.slice base data.length cap, .slice dbase dict.length dcap, .slice obase other.length ocap, .slice lb l.length lc] w fun e w' => e = .returned (.bool true) ∧ Frm (fun _ _ => False) w w' := by
 have HE := zHi he
 have HS := zHi hs
 have HD := zHi hd
 have HO := zHi ho
 have HL := zHi hl
 clear he hs hd hl ho
 obtain ⟨n1, hn1⟩ : ∃ n1, n1 = data.length := ⟨_, rfl⟩
 obtain ⟨n2, hn2⟩ : ∃ n2, n2 = dict.length := ⟨_, rfl⟩
 obtain ⟨n3, hn3⟩ : ∃ n3, n3 = other.length := ⟨_, rfl⟩
 obtain ⟨n4, hn4⟩ : ∃ n4, n4 = l.length := ⟨_, rfl⟩
 rw [← hn1, ← hn2, ← hn3, ← hn4]
 have HN := zHi (zAi hn1 (zAi hn2 (zAi hn3 hn4)))
 clear hn1 hn2 hn3 hn4
 go_enter Tryz.func8, Tryz.ntmps8
 by_cases h1 : 2147483647 < n1
 · have t1 : decide ((2147483647 : Int) < (n1 : Int)) = true := by simp; omega
   clear h1; go_wp2_with fail
   go_ret
   exact ⟨rfl, Frm.refl _ _⟩
 have t1 : decide ((2147483647 : Int) < (n1 : Int)) = false := by simp; omega
 by_cases h2 : 2147483647 < n2
 · have t2 : decide ((2147483647 : Int) < (n2 : Int)) = true := by simp; omega
   clear h1 h2; go_wp2_with fail
   go_ret
   exact ⟨rfl, Frm.refl _ _⟩
 have t2 : decide ((2147483647 : Int) < (n2 : Int)) = false := by simp; omega
 by_cases h3 : 2147483647 < n3
 · have t3 : decide ((2147483647 : Int) < (n3 : Int)) = true := by simp; omega
   clear h1 h2 h3; go_wp2_with fail
   go_ret
   exact ⟨rfl, Frm.refl _ _⟩
 have t3 : decide ((2147483647 : Int) < (n3 : Int)) = false := by simp; omega
 by_cases h4 : 2147483647 < n4
 · have t4 : decide ((2147483647 : Int) < (n4 : Int)) = true := by simp; omega
   clear h1 h2 h3 h4; go_wp2_with fail
   go_ret
   exact ⟨rfl, Frm.refl _ _⟩
 have t4 : decide ((2147483647 : Int) < (n4 : Int)) = false := by simp; omega
 have hdl : data.length ≤ 2147483647 := by have := HN.out.1; omega
 have hdd : dict.length ≤ 2147483647 := by have := HN.out.2.1; omega
 have hod : other.length ≤ 2147483647 := by have := HN.out.2.2.1; omega
 have hll : l.length ≤ 2147483647 := by have := HN.out.2.2.2; omega
 have HB := zHi (zAi hdl (zAi hdd (zAi hod hll)))
 have hz := zlib_any w base data cap HS.out dbase dict dcap HD.out true 7 1 lb l lc HL.out hdl hdd hll
 rw [← HN.out.1, ← HN.out.2.1, ← HN.out.2.2.2] at hz
 have HZ := zHi hz
 clear h1 h2 h3 h4 hdl hdd hod hll hz
 go_wp2_with fail
 refine HZ.out.mono ?_
 rintro e w1 ⟨v, a, b, L, rfl, hown, hok, hbit, hdata, hpl, hpos, hf1⟩
 replace hdata : Flate.Data (lastOf dict) L (lastOf dict ++ data) := hdata
 have hb1 : b.toNat / 32 % 2 = 1 := hbit.2 rfl
 have hu := unz_z (m := []) (Dr := dict) hok hbit (fun _ => rfl) hdata
 rw [List.append_nil] at hu
 have htwo := fun E => zs_two (E := E) hok hb1 hdata
 have hoth := fun E => oth_unz (D := dict) (E := E) (L := L) (X := data) hok hb1
 obtain ⟨bb, cc, rfl, hbt⟩ := hown.bt
 have hSl := zstream_len a b true dict L data
 simp only [if_true] at hSl
 obtain ⟨S, hS⟩ : ∃ S, S = zstream a b true dict L data := ⟨_, rfl⟩
 rw [← hS] at hbt hu hSl ⊢
 rw [← hS] at htwo hoth
 have hrd := reads_long w1 C p (HE.out.keep hf1 (fun _ _ e => e.elim)) bb S cc hbt (by omega) dbase dict dcap (HD.out.keep hf1) (by have := HB.out; omega) true (unz_hxl hu (by have := HB.out; omega)) base data cap (HS.out.keep hf1) hu (by omega)
 obtain ⟨m, hm⟩ : ∃ m, m = S.length := ⟨_, rfl⟩
 rw [← hm, ← HN.out.1, ← HN.out.2.1] at hrd
 rw [← hm]
 have HRD := zHi hrd
 have H1 := zHi (zAi hbt (zAi hf1 (zAi hSl (zAi hm (zAi htwo (zAi hoth hpl))))))
 clear hown hok hbit hdata hpl hpos hf1 hu hbt hSl hS hrd hm hb1 htwo hoth
 go_wp2_with fail
 refine HRD.out.mono ?_
 rintro e w2 ⟨rfl, hf2⟩
 obtain ⟨hbt, hf1, hSl, hm, htwo, hoth, hpl⟩ := H1.out
 have hf02 := hf1.trans hf2
 have hup := unpack_long w2 C p (HE.out.keep hf02 (fun _ _ e => e.elim)) bb S cc (hbt.keep hf2) (by omega) obase other ocap (HO.out.keep hf02) (by have := HB.out; omega) true (fun q D' er P Y h1 h2 => by have := htwo other q D' er P Y h1 h2; have := HB.out; omega) none 0 0 (nilSizes _ _ _)
 rw [← hm, ← HN.out.2.2.1] at hup
 have HUP := zHi hup
 have HF2 := zHi (zAi hf02 hf2)
 clear hbt hf1 hSl hm htwo hoth hpl hf2 hf02 hup
 go_wp2_with fail
 refine HUP.out.mono ?_
 rintro e w3 ⟨v3, f3, P3, X3, hX3, rfl, hown3, hf3⟩
 obtain ⟨hbt, hf1, hSl, hm, htwo, hoth, hpl⟩ := H1.out
 have ho3 : adler dict = adler other ∨ f3 = 2 := (hoth other).imp id fun q => (q.unique hX3).1
 have hf03 := HF2.out.1.trans hf3
 have hup := unpack_long w3 C p (HE.out.keep hf03 (fun _ _ e => e.elim)) bb S cc ((hbt.keep HF2.out.2).keep hf3) (by omega) none [] 0 (bt_nil _) (by simp) false (fun q D' er P Y h1 h2 => by have := htwo [] q D' er P Y h1 h2; have := HB.out; omega) none 0 0 (nilSizes _ _ _)
 rw [← hm] at hup
 have HUP3 := zHi (show Calls Tryz.prog 14 #[.slice bb m cc, .slice none 0 0, .bool false, .slice none 0 0] w3 _ from hup)
 have H3 := zHi (zAi ho3 hf03)
 obtain ⟨r3, hr3⟩ : ∃ r3, r3 = S.length - P3 := ⟨_, rfl⟩
 rw [← hr3]
 clear hbt hf1 hSl hm htwo hoth hpl hX3 hown3 hf3 ho3 hf03 hup hr3
 go_wp2_with fail
 refine HUP3.out.mono ?_
 rintro e w4 ⟨v4, f4, P4, X4, hX4, rfl, hown4, hf4⟩
 obtain ⟨hbt, hf1, hSl, hm, htwo, hoth, hpl⟩ := H1.out
 have ho4 : adler dict = 1 ∨ f4 = 2 := (hoth []).imp id fun q => (q.unique hX4).1
 have hf04 := H3.out.2.trans hf4
 have had1 := adler_any w4 obase other ocap (HO.out.keep hf04).bytes (by have := HB.out; omega)
 have had2 := adler_any w4 dbase dict dcap (HD.out.keep hf04).bytes (by have := HB.out; omega)
 obtain ⟨x, hx⟩ : ∃ x, x = adler dict := ⟨_, rfl⟩
 obtain ⟨y, hy⟩ : ∃ y, y = adler other := ⟨_, rfl⟩
 have ho3 := H3.out.1
 rw [← hy, ← HN.out.2.2.1] at had1
 rw [← hx, ← HN.out.2.1] at had2
 rw [← hx] at ho4
 rw [← hx, ← hy] at ho3
 obtain ⟨r4, hr4⟩ : ∃ r4, r4 = S.length - P4 := ⟨_, rfl⟩
 rw [← hr4]
 have HA1 := zHi had1
 have HA2 := zHi had2
 have HF4 := zHi hf04
 clear hbt hf1 hSl hm htwo hoth hpl hX4 hown4 hf4 hf04 had1 had2 hx hy hr4
 by_cases e3 : x = y
 · subst e3; clear ho3
   by_cases e4 : x = 1
   · subst e4; clear ho4; go_wp2_with fail
     refine HA1.out.mono ?_; rintro e w5 ⟨rfl, rfl⟩; go_wp2_with fail
     refine HA2.out.mono ?_; rintro e w5 ⟨rfl, rfl⟩; go_wp2_with fail
     refine HA2.out.mono ?_; rintro e w5 ⟨rfl, rfl⟩; go_wp2_with fail
     go_ret
     exact ⟨rfl, HF4.out⟩
   · obtain rfl := ho4.resolve_left e4; have t4 : ((x : Int) == 1) = false := by simp; omega
     clear ho4 e4; go_wp2_with fail
     refine HA1.out.mono ?_; rintro e w5 ⟨rfl, rfl⟩; go_wp2_with fail
     refine HA2.out.mono ?_; rintro e w5 ⟨rfl, rfl⟩; go_wp2_with fail
     refine HA2.out.mono ?_; rintro e w5 ⟨rfl, rfl⟩; go_wp2_with fail
     go_ret
     exact ⟨rfl, HF4.out⟩
 · obtain rfl := ho3.resolve_left e3; have t3 : ((y : Int) == (x : Int)) = false := by simp; omega
   clear ho3 e3
   by_cases e4 : x = 1
   · have t4 : ((x : Int) == 1) = true := by simp; omega
     clear ho4 e4; go_wp2_with fail
     refine HA1.out.mono ?_; rintro e w5 ⟨rfl, rfl⟩; go_wp2_with fail
     refine HA2.out.mono ?_; rintro e w5 ⟨rfl, rfl⟩; go_wp2_with fail
     refine HA2.out.mono ?_; rintro e w5 ⟨rfl, rfl⟩; go_wp2_with fail
     go_ret
     exact ⟨rfl, HF4.out⟩
   · obtain rfl := ho4.resolve_left e4; have t4 : ((x : Int) == 1) = false := by simp; omega
     clear ho4 e4; go_wp2_with fail
     refine HA1.out.mono ?_; rintro e w5 ⟨rfl, rfl⟩; go_wp2_with fail
     refine HA2.out.mono ?_; rintro e w5 ⟨rfl, rfl⟩; go_wp2_with fail
     refine HA2.out.mono ?_; rintro e w5 ⟨rfl, rfl⟩; go_wp2_with fail
     go_ret
     exact ⟨rfl, HF4.out⟩
end Go.Proofs.YthfncdfcklbigaaGreatDoor
