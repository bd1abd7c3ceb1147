/-
  Several texts in one: Cks.
-/
import Derived.Test.YthfncdfcklbigaaGreatDoorLa
set_option linter.unusedVariables false
set_option linter.unusedSimpArgs false
namespace Go.Proofs.YthfncdfcklbigaaGreatDoor
open Go.RowKit Go.IntWalk Flate
set_option maxRecDepth 100000
theorem u8_xor (a b : Nat) (ha : a < 256) (hb : b < 256) : bits .xor .u8 (a : Int) (b : Int) = ((a ^^^ b : Nat) : Int) := by
 have hx : a ^^^ b < 2 ^ 8 := Nat.xor_lt_two_pow (by omega) (by omega)
 show IntKind.u8.wrap ((BitVec.ofInt 8 (a : Int) ^^^ BitVec.ofInt 8 (b : Int)).toNat : Int) = _
 have ea : (BitVec.ofInt 8 (a : Int)).toNat = a := by rw [BitVec.toNat_ofInt]; omega
 have eb : (BitVec.ofInt 8 (b : Int)).toNat = b := by rw [BitVec.toNat_ofInt]; omega
 rw [BitVec.toNat_xor, ea, eb]
 simp only [IntKind.wrap, IntKind.bits, IntKind.signed]
 simp
 omega
theorem xor_other {a b : Nat} (hb : b ≠ 0) : a ^^^ b ≠ a := by
 intro h
 have : a ^^^ (a ^^^ b) = a ^^^ a := by rw [h]
 rw [← Nat.xor_assoc, Nat.xor_self, Nat.zero_xor] at this
 exact hb this
theorem tmod_32 (x : Int) : ∃ k : Nat, k < 32 ∧ (x.tmod 32 + 32) % 32 = (k : Int) ∧ -32 < x.tmod 32 ∧ x.tmod 32 < 32 := tmod_mod x 32 (by omega)
set_option maxHeartbeats 2000000 in
theorem fnChecksum_any (w : World) (C : Nat) (p : Ps) (he : Env w C p) (base : Option Addr) (data : List UInt8) (cap : Nat) (hs : Bt w base data cap) (n : Int) (hn : (Lit.int .i64 n).wf = true) (lb : Option Addr) (l : List Int) (lc : Nat) (hl : It w lb l lc) :
 Calls Tryz.prog 5 #[.slice base data.length cap, .int .i64 n, .slice lb l.length lc] w fun e w' => e = .returned (.bool true) ∧ Frm (fun _ _ => False) w w' := by
 have HE := zHi he
 have HS := zHi hs
 have HL := zHi hl
 clear he hs hl hn
 obtain ⟨n1, hn1⟩ : ∃ n1, n1 = data.length := ⟨_, rfl⟩
 obtain ⟨n3, hn3⟩ : ∃ n3, n3 = l.length := ⟨_, rfl⟩
 rw [← hn1, ← hn3]
 have HN := zHi (zAi hn1 hn3)
 clear hn1 hn3
 go_enter Tryz.func5, Tryz.ntmps5
 by_cases h1 : 2147483647 < n1
 · have t1 : decide ((2147483647 : Int) < (n1 : Int)) = true := by simp; omega
   clear h1; go_wp2_with fail
   go_ret
   exact ⟨rfl, Frm.refl _ _⟩
 have t1 : decide ((2147483647 : Int) < (n1 : Int)) = false := by simp; omega
 by_cases h3 : 2147483647 < n3
 · have t3 : decide ((2147483647 : Int) < (n3 : Int)) = true := by simp; omega
   clear h1 h3; go_wp2_with fail
   go_ret
   exact ⟨rfl, Frm.refl _ _⟩
 have t3 : decide ((2147483647 : Int) < (n3 : Int)) = false := by simp; omega
 have hdl : data.length ≤ 2147483647 := by have := HN.out.1; omega
 have hll : l.length ≤ 2147483647 := by have := HN.out.2; omega
 have HB := zHi (zAi hdl hll)
 have hz := zlib_any w base data cap HS.out none [] 0 (bt_nil _) false 7 1 lb l lc HL.out hdl (by simp) hll
 rw [← HN.out.1, ← HN.out.2] at hz
 have HZ := zHi (show Calls Tryz.prog 18 #[.slice base n1 cap, .slice none 0 0, .bool false, .int .i64 7, .int .i64 1, .slice lb n3 lc] w _ from hz)
 obtain ⟨k, hk, hy', y1, y2⟩ := tmod_32 n
 obtain ⟨y, hy⟩ : ∃ y, n.tmod 32 = y := ⟨_, rfl⟩
 rw [hy] at hy' y1 y2
 obtain ⟨q, hq⟩ : ∃ q, q = k / 8 := ⟨_, rfl⟩
 obtain ⟨r, hr⟩ : ∃ r, r = k % 8 := ⟨_, rfl⟩
 obtain ⟨P, hP⟩ : ∃ P : Nat, P = 2 ^ r := ⟨_, rfl⟩
 have hP1 : P ≠ 0 := by rw [hP]; exact Nat.ne_of_gt (Nat.two_pow_pos r)
 have hP2 : P ≤ 128 := by
  have : (2 : Nat) ^ r ≤ 2 ^ 7 := Nat.pow_le_pow_right (by omega) (by omega)
  omega
 have e1 : (k : Int) / 8 = (q : Int) := by omega
 have e2 : (k : Int) % 8 = (r : Int) := by omega
 have e3 : (2 : Int) ^ r = (P : Int) := by rw [hP]; simp
 have ck : (k : Int) ≤ 31 := by omega
 have cq : (q : Int) ≤ 3 := by omega
 have cr : (r : Int) ≤ 7 := by omega
 have cP : (P : Int) ≤ 128 := by omega
 have e4 : IntKind.u8.wrap (P : Int) = (P : Int) := by simp only [IntKind.wrap, IntKind.bits, IntKind.signed]; simp; omega
 have HK := zHi (zAi hk (zAi hq (zAi hP1 hP2)))
 clear h1 h3 hdl hll hz hk hq hr hP hP1 hP2
 go_wp2_with fail
 refine HZ.out.mono ?_
 rintro e w1 ⟨v, a, b, L, rfl, hown, hok, hbit, hdata, hpl, hpos, hf1⟩
 obtain ⟨g, cc, rfl, hg, hbt⟩ := zw_at hown
 have hSl := zstream_len a b false [] L data
 simp only [Bool.false_eq_true, if_false] at hSl
 obtain ⟨m, hm⟩ : ∃ m, m = (zstream a b false [] L data).length := ⟨_, rfl⟩
 obtain ⟨i, hi⟩ : ∃ i, i = m - 1 - q := ⟨_, rfl⟩
 have hq3 : q < 4 := by have := HK.out; omega
 have him : i < (zstream a b false [] L data).length := by omega
 have c0 := hbt.bytes.2 i him
 rw [Nat.zero_add] at c0
 have f0 := hown.froz g rfl i
 obtain ⟨c, hc⟩ : ∃ c, c = ((zstream a b false [] L data)[i]'him).toNat := ⟨_, rfl⟩
 rw [← hc] at c0
 have hclt : c < 256 := by rw [hc]; exact UInt8.toNat_lt _
 have hxl : c ^^^ P < 2 ^ 8 := Nat.xor_lt_two_pow (by omega) (by have := HK.out; omega)
 have hne := xor_other (a := c) HK.out.2.2.1
 have ex := u8_xor c P hclt (by have := HK.out; omega)
 obtain ⟨z, hz⟩ : ∃ z, z = c ^^^ P := ⟨_, rfl⟩
 rw [← hz] at ex hxl hne
 have hyb : (UInt8.ofNat z).toNat = z := by simp; omega
 have hownd : Own w1.drew w.heap.size (.slice (some ⟨g, 0, none⟩) (zstream a b false [] L data).length cc) (zstream a b false [] L data) := hown.keep (S := fun _ _ => False) ((Frm.refl _ _).drew) (fun _ _ _ e => e)
 obtain ⟨o1, k1⟩ := hownd.set (g := g) rfl (j := i) him (UInt8.ofNat z)
 have eA : byteV (UInt8.ofNat z) = .int .u8 (z : Int) := by simp only [byteV]; rw [hyb]
 rw [eA] at o1 k1
 have hd0 : Flate.Data [] L data := hdata
 have hflip := unz_flip (L := L) (X := data) hok (fun q => by have := hbit.1 q; simp at this) hd0 (j := q) hq3 (y := UInt8.ofNat z) (by
  rw [← hm, ← hi, List.getD_eq_getElem?_getD, List.getElem?_eq_getElem him]; intro e; have := congrArg UInt8.toNat e; rw [hyb] at this; exact hne (this.trans hc.symm))
 rw [← hm, ← hi] at hflip
 obtain ⟨S0, hS0⟩ : ∃ S0, S0 = zstream a b false [] L data := ⟨_, rfl⟩
 obtain ⟨S, hS⟩ : ∃ S, S = S0.set i (UInt8.ofNat z) := ⟨_, rfl⟩
 have hSS : S.length = m := by rw [hS, List.length_set, hS0, hm]
 rw [← hS0] at hflip o1 hm hSl
 rw [← hS] at hflip o1
 have hfr : Frm (fun _ _ => False) w (w1.drew.setCell ⟨g, i, none⟩ (.int .u8 (z : Int))) := hf1.drew.trans' k1 (fun x o hx q => by omega)
 obtain ⟨bb, cc', hv, hbt2⟩ := o1.bt
 rw [hSS, ← hm] at hv
 rw [← hS0, ← hm]
 injection hv with hv1 hv2 hv3
 subst hv1 hv3
 have hup := unpack_long _ C p (HE.out.keep hfr (fun _ _ e => e.elim)) (some ⟨g, 0, none⟩) S cc hbt2 (by omega) none [] 0 (bt_nil _) (by simp) false (unz_hxl hflip (by have := HB.out; omega)) none 0 0 (nilSizes _ _ _)
 rw [hSS] at hup
 have HUP := zHi (show Calls Tryz.prog 14 #[.slice (some ⟨g, 0, none⟩) m cc, .slice none 0 0, .bool false, .slice none 0 0] _ _ from hup)
 have c2 : (6 : Int) ≤ (m : Int) := by omega
 have c3 : (m : Int) ≤ 549755813894 := by omega
 obtain ⟨m1, hm1⟩ : ∃ m1, m1 = m - 1 := ⟨_, rfl⟩
 have e5 : (m : Int) - 1 = (m1 : Int) := by omega
 have e6 : (m1 : Int) - (q : Int) = (i : Int) := by omega
 have e7 : IntKind.i64.wrap (m1 : Int) = (m1 : Int) := i64_in _ (by omega)
 have e8 : IntKind.i64.wrap (i : Int) = (i : Int) := i64_in _ (by omega)
 have e9 : IntKind.i64.wrap (q : Int) = (q : Int) := i64_in _ (by omega)
 have e10 : (k : Int).tmod 8 = (r : Int) := by rw [Int.tmod_eq_emod_of_nonneg (by omega)]; exact e2
 have e11 : (k : Int).tdiv 8 = (q : Int) := by rw [Int.tdiv_eq_ediv_of_nonneg (by omega)]; exact e1
 have e12 : IntKind.u8.wrap 1 = 1 := by decide
 have c4 : (i : Int) < (m : Int) := by omega
 have cc0 : (c : Int) ≤ 255 := by omega
 have H1 := zHi (zAi hflip hfr)
 clear hown hownd hok hbit hdata hd0 hpl hpos hf1 hg hbt hSl o1 k1 eA hflip hS0 hS hSS hfr hbt2 hm hup hv2 hi hq3 him hc hclt hxl hne hz hyb hm1
 go_upto_region 5 with (fail)
 (refine region_tail 14 (by kernel_rfl) (by kernel_rfl) ?_; simp only [List.take_succ_cons, List.take_zero, List.drop_succ_cons, List.drop_zero]; (repeat still_step); refine wpStill_nil ?_)
 go_wp2_with fail
 refine HUP.out.mono ?_
 rintro e w2 ⟨v2, f2, P2, X2, hX2, rfl, hown2, hf2⟩
 obtain ⟨hflip, hfr⟩ := H1.out
 have hf02 := hfr.trans hf2
 obtain ⟨rfl, _, rfl⟩ := hflip.unique hX2
 obtain ⟨b3, c3', rfl, hbt3⟩ := hown2.bt
 obtain ⟨rr, hrr⟩ : ∃ rr, rr = S.length - P2 := ⟨_, rfl⟩
 rw [← hrr]
 have hsame := same_any w2 b3 base X2 X2 c3' cap hbt3.bytes (HS.out.keep hf02).bytes
 rw [sameB_refl, ← HN.out.1] at hsame
 rw [← HN.out.1]
 have HSM := zHi hsame
 have HF := zHi hf02
 clear hflip hfr hf02 hX2 hown2 hbt3 hrr hsame hf2
 go_wp2_with fail
 refine HSM.out.mono ?_
 rintro e w3 ⟨rfl, rfl⟩
 go_wp2_with fail
 go_ret
 exact ⟨rfl, HF.out⟩
end Go.Proofs.YthfncdfcklbigaaGreatDoor
