/-
  Several texts in one: Sct.
-/
import Derived.Test.YthfncdfcklbigaaGreatDoorLa
set_option linter.unusedVariables false
set_option linter.unusedSimpArgs false
namespace Go.Proofs.YthfncdfcklbigaaGreatDoor
open Go.RowKit Go.IntWalk Flate
set_option maxRecDepth 100000
theorem tmod_rangeZ (n : Int) (m : Nat) (h : 1 ≤ m) : -(m : Int) < n.tmod (m : Int) ∧ n.tmod (m : Int) < (m : Int) := by
 have h1 : (n.tmod (m : Int)).natAbs < m := by rw [Int.natAbs_tmod]; exact Nat.mod_lt _ h
 omega
set_option maxHeartbeats 1000000 in
theorem fnStreamCut_any (w : World) (C : Nat) (p : Ps) (he : Env w C p) (base : Option Addr) (data : List UInt8) (cap : Nat) (hs : Bt w base data cap) (n : Int) (hn : (Lit.int .i64 n).wf = true) (lb : Option Addr) (l : List Int) (lc : Nat) (hl : It w lb l lc) :
 Calls Tryz.prog 12 #[.slice base data.length cap, .int .i64 n, .slice lb l.length lc] w fun e w' => e = .returned (.bool true) ∧ Frm (fun _ _ => False) w w' := by
 have HE := zHi he
 have HS := zHi hs
 have HL := zHi hl
 clear he hs hl hn
 obtain ⟨n1, hn1⟩ : ∃ n1, n1 = data.length := ⟨_, rfl⟩
 obtain ⟨n3, hn3⟩ : ∃ n3, n3 = l.length := ⟨_, rfl⟩
 rw [← hn1, ← hn3]
 have HN := zHi (zAi hn1 hn3)
 clear hn1 hn3
 go_enter Tryz.func12, Tryz.ntmps12
 by_cases h1 : 2147483647 < n1
 · have t1 : decide ((2147483647 : Int) < (n1 : Int)) = true := by simp; omega
   clear h1; go_wp2_with fail
   go_ret
   exact ⟨rfl, Frm.refl _ _⟩
 have t1 : decide ((2147483647 : Int) < (n1 : Int)) = false := by simp; omega
 by_cases h3 : 2147483647 < n3
 · have t3 : decide ((2147483647 : Int) < (n3 : Int)) = true := by simp; omega
   clear h1 h3; go_wp2_with fail
   go_ret
   exact ⟨rfl, Frm.refl _ _⟩
 have t3 : decide ((2147483647 : Int) < (n3 : Int)) = false := by simp; omega
 have hdl : data.length ≤ 2147483647 := by have := HN.out.1; omega
 have hll : l.length ≤ 2147483647 := by have := HN.out.2; omega
 have HB := zHi (zAi hdl hll)
 have hz := zlib_any w base data cap HS.out none [] 0 (bt_nil _) false 7 1 lb l lc HL.out hdl (by simp) hll
 rw [← HN.out.1, ← HN.out.2] at hz
 have HZ := zHi (show Calls Tryz.prog 18 #[.slice base n1 cap, .slice none 0 0, .bool false, .int .i64 7, .int .i64 1, .slice lb n3 lc] w _ from hz)
 clear h1 h3 hdl hll hz
 go_wp2_with fail
 refine HZ.out.mono ?_
 rintro e w1 ⟨v, a, b, L, rfl, hown, hok, hbit, hdata, hpl, hpos, hf1⟩
 have hu := unz_z (m := []) (Dr := []) hok hbit (fun q => by simp at q) hdata
 rw [List.append_nil] at hu
 have hd0 : Flate.Data [] L data := hdata
 have hcut := fun k hk => unz_cut (k := k) hok (fun q => by have := hbit.1 q; simp at this) hd0 hk
 obtain ⟨bb, cc, rfl, hbt⟩ := hown.bt
 have hSl := zstream_len a b false [] L data
 simp only [Bool.false_eq_true, if_false] at hSl
 obtain ⟨S, hS⟩ : ∃ S, S = zstream a b false [] L data := ⟨_, rfl⟩
 rw [← hS] at hbt hu hSl ⊢
 rw [← hS] at hcut
 obtain ⟨m, hm⟩ : ∃ m, m = S.length := ⟨_, rfl⟩
 rw [← hm]
 have hm1 : 1 ≤ m := by omega
 obtain ⟨y, hy⟩ : ∃ y, y = n.tmod (m : Int) := ⟨_, rfl⟩
 obtain ⟨g1, g2⟩ := tmod_rangeZ n m hm1
 rw [← hy] at g1 g2
 obtain ⟨k, hk⟩ : ∃ k : Nat, (k : Int) = (y + (m : Int)) % (m : Int) := by
  have := Int.emod_nonneg (y + (m : Int)) (show (m : Int) ≠ 0 by omega)
  exact ⟨((y + (m : Int)) % (m : Int)).toNat, Int.toNat_of_nonneg this⟩
 have hklt : k < m := by
  have := Int.emod_lt_of_pos (y + (m : Int)) (show (0 : Int) < (m : Int) by omega)
  omega
 obtain ⟨P, Y, hY, hYl⟩ := hcut k (by omega)
 obtain ⟨hrun2, hbt2⟩ := run_headZ hbt k (by omega)
 rw [← hm] at hrun2
 have hlt : (S.take k).length = k := by rw [List.length_take]; omega
 have hin := unpack_long w1 C p (HE.out.keep hf1 (fun _ _ e => e.elim)) bb (S.take k) cc hbt2 (by omega) none [] 0 (bt_nil _) (by simp) false (unz_hxl hY (by have := HB.out; omega)) none 0 0 (nilSizes _ _ _)
 rw [hlt] at hin
 have HI := zHi (show Calls Tryz.prog 14 #[.slice bb k cc, .slice none 0 0, .bool false, .slice none 0 0] w1 _ from hin)
 have c1 : (m : Int) ≤ 549755813894 := by omega
 have c2 : (1 : Int) ≤ (m : Int) := by omega
 have c3 : (k : Int) < (m : Int) := by omega
 have c6 : (m : Int) ≠ 0 := by omega
 have c7 : 0 < m := by omega
 have c8 : m ≠ 0 := by omega
 have hy' := hy.symm
 have hk' := hk.symm
 have HP := zHi (zAi hbt (zAi hm (zAi hu (zAi hY (zAi hf1 (zAi hpl hSl))))))
 clear hown hok hbit hdata hd0 hpl hpos hf1 hu hcut hbt hSl hS hm hm1 hy hk hklt hY hYl hbt2 hlt hin
 go_wp2_with fail
 refine HI.out.mono ?_
 rintro e w2 ⟨v2, f2, P2, X2, hX2, rfl, hown2, hf2⟩
 obtain ⟨hbt, hm, hu, hY, hf1, hpl, hSl⟩ := HP.out
 obtain ⟨rfl, _, _⟩ := hY.unique hX2
 have hf02 : Frm (fun _ _ => False) w w2 := hf1.trans hf2
 have hrd := reads_long w2 C p (HE.out.keep hf02 (fun _ _ e => e.elim)) bb S cc (hbt.keep hf2) (by omega) none [] 0 (bt_nil _) (by simp) false (unz_hxl hu (by have := HB.out; omega)) base data cap (HS.out.keep hf02) hu (by omega)
 rw [← hm, ← HN.out.1] at hrd
 have HRD := zHi (show Calls Tryz.prog 16 #[.slice bb m cc, .slice none 0 0, .bool false, .slice base n1 cap] w2 _ from hrd)
 have HF2 := zHi hf02
 clear hbt hm hu hY hf1 hpl hSl hX2 hown2 hf2 hf02 hrd
 go_wp2_with fail
 refine HRD.out.mono ?_
 rintro e w3 ⟨rfl, hf3⟩
 have HF3 := zHi hf3
 clear hf3
 go_wp2_with fail
 go_ret
 exact ⟨rfl, HF2.out.trans HF3.out⟩
end Go.Proofs.YthfncdfcklbigaaGreatDoor
