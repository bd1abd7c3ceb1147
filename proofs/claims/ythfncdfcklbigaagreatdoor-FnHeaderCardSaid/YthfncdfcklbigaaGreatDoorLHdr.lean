/-
  Several texts in one: Hdr.
-/
import Derived.Test.YthfncdfcklbigaaGreatDoorLa
set_option linter.unusedVariables false
set_option linter.unusedSimpArgs false
namespace Go.Proofs.YthfncdfcklbigaaGreatDoor
open Go.RowKit Go.IntWalk Flate
set_option maxRecDepth 100000
theorem u8_nat {z : Int} (h : (Lit.int .u8 z).wf = true) : ∃ k : Nat, z = (k : Int) ∧ k < 256 := by
 simp [Lit.wf, IntKind.min, IntKind.max, IntKind.signed, IntKind.bits] at h
 exact ⟨z.toNat, by omega, by omega⟩
def HdrOf (A B : Nat) (data : List UInt8) (S : List UInt8) : Prop :=
 hdrOk (UInt8.ofNat A) (UInt8.ofNat B) = false ∧ Unz S [] 1 2 [] ∨
 hdrOk (UInt8.ofNat A) (UInt8.ofNat B) = true ∧ B / 32 % 2 = 0 ∧ Unz S [] 0 S.length data ∨
 hdrOk (UInt8.ofNat A) (UInt8.ofNat B) = true ∧ B / 32 % 2 = 1 ∧ ∃ f p, f ≠ 1 ∧ Unz S [] f p []
theorem hdr_of {a b : UInt8} {A B : Nat} (hA : A < 256) (hB : B < 256) {L : List Bool} {data : List UInt8} (hd : Flate.Data [] L data) (hpos : 0 < (pack L).length) : HdrOf A B data (((zstream a b false [] L data).set 0 (UInt8.ofNat A)).set 1 (UInt8.ofNat B)) := by
 have e : ((zstream a b false [] L data).set 0 (UInt8.ofNat A)).set 1 (UInt8.ofNat B) = UInt8.ofNat A :: UInt8.ofNat B :: (pack L ++ four (adler data)) := by simp [zstream]
 have eB : (UInt8.ofNat B).toNat = B := by simp; omega
 rw [e]
 unfold HdrOf
 cases hok : hdrOk (UInt8.ofNat A) (UInt8.ofNat B) with
 | false => exact .inl ⟨rfl, unz_badhead hok⟩
 | true =>
  refine .inr ?_
  by_cases hb : B / 32 % 2 = 1
  · refine .inr ⟨rfl, hb, ?_⟩; obtain ⟨f, p, h1, h2⟩ := unz_asks hok (by rw [eB]; exact hb) hd hpos
    exact ⟨f, p, h2, h1⟩
  · refine .inl ⟨rfl, by omega, ?_⟩
    have := unz_z (m := []) (Dr := []) (has := false) (D := []) hok (by rw [eB]; exact ⟨fun q => absurd q hb, fun q => by simp at q⟩) (fun q => by simp at q) (L := L) (X := data) hd
    rw [List.append_nil] at this; have e2 : zstream (UInt8.ofNat A) (UInt8.ofNat B) false [] L data = UInt8.ofNat A :: UInt8.ofNat B :: (pack L ++ four (adler data)) := by simp [zstream]
    rw [e2] at this; exact this
theorem hdr_hxl {A B : Nat} {data S : List UInt8} (h : HdrOf A B data S) (hl : data.length ≤ 2147483647) : ∀ q D' er P Y, zhead S [] = .inr (q, D') → Infl (S.drop q) D' er P Y → Y.length ≤ 52776558133248 := by
 rcases h with ⟨_, h⟩ | ⟨_, _, h⟩ | ⟨_, _, f, p, _, h⟩
 · exact unz_hxl h (by simp)
 · exact unz_hxl h (by omega)
 · exact unz_hxl h (by simp)
set_option maxHeartbeats 2000000 in
theorem fnHeader_any (w : World) (C : Nat) (p : Ps) (he : Env w C p) (x : Int) (hx : (Lit.int .u8 x).wf = true) (y : Int) (hy : (Lit.int .u8 y).wf = true) (base : Option Addr) (data : List UInt8) (cap : Nat) (hs : Bt w base data cap) (lb : Option Addr) (l : List Int) (lc : Nat) (hl : It w lb l lc) :
 Calls Tryz.prog 6 #[.int .u8 x, .int .u8 y, .slice base data.length cap, .slice lb l.length lc] w fun e w' => e = .returned (.bool true) ∧ Frm (fun _ _ => False) w w' := by
 obtain ⟨A, rfl, hA⟩ := u8_nat hx
 obtain ⟨B, rfl, hB⟩ := u8_nat hy
 have HE := zHi he
 have HS := zHi hs
 have HL := zHi hl
 clear he hs hl hx hy
 obtain ⟨n1, hn1⟩ : ∃ n1, n1 = data.length := ⟨_, rfl⟩
 obtain ⟨n3, hn3⟩ : ∃ n3, n3 = l.length := ⟨_, rfl⟩
 rw [← hn1, ← hn3]
 have HN := zHi (zAi hn1 hn3)
 have HAB := zHi (zAi hA hB)
 have cA : (A : Int) ≤ 255 := by omega
 have cB : (B : Int) ≤ 255 := by omega
 clear hn1 hn3 hA hB
 go_enter Tryz.func6, Tryz.ntmps6
 by_cases h1 : 2147483647 < n1
 · have t1 : decide ((2147483647 : Int) < (n1 : Int)) = true := by simp; omega
   clear h1; go_wp2_with fail
   go_ret
   exact ⟨rfl, Frm.refl _ _⟩
 have t1 : decide ((2147483647 : Int) < (n1 : Int)) = false := by simp; omega
 by_cases h3 : 2147483647 < n3
 · have t3 : decide ((2147483647 : Int) < (n3 : Int)) = true := by simp; omega
   clear h1 h3; go_wp2_with fail
   go_ret
   exact ⟨rfl, Frm.refl _ _⟩
 have t3 : decide ((2147483647 : Int) < (n3 : Int)) = false := by simp; omega
 have hdl : data.length ≤ 2147483647 := by have := HN.out.1; omega
 have hll : l.length ≤ 2147483647 := by have := HN.out.2; omega
 have HB := zHi (zAi hdl hll)
 have hz := zlib_any w base data cap HS.out none [] 0 (bt_nil _) false 7 1 lb l lc HL.out hdl (by simp) hll
 rw [← HN.out.1, ← HN.out.2] at hz
 have HZ := zHi (show Calls Tryz.prog 18 #[.slice base n1 cap, .slice none 0 0, .bool false, .int .i64 7, .int .i64 1, .slice lb n3 lc] w _ from hz)
 clear h1 h3 hdl hll hz
 go_wp2_with fail
 refine HZ.out.mono ?_
 rintro e w1 ⟨v, a, b, L, rfl, hown, hok, hbit, hdata, hpl, hpos, hf1⟩
 obtain ⟨g, cc, rfl, hg, hbt⟩ := zw_at hown
 have hSl := zstream_len a b false [] L data
 simp only [Bool.false_eq_true, if_false] at hSl
 obtain ⟨u0, c0⟩ : ∃ u, w1.cell? ⟨g, 0, none⟩ = some u := ⟨_, by have := hbt.bytes.2 0 (by omega); rwa [Nat.zero_add] at this⟩
 obtain ⟨u1, c1⟩ : ∃ u, w1.cell? ⟨g, 1, none⟩ = some u := ⟨_, by have := hbt.bytes.2 1 (by omega); rwa [Nat.zero_add] at this⟩
 have f0 := hown.froz g rfl 0
 have f1 := hown.froz g rfl 1
 obtain ⟨o1, k1⟩ := hown.set (g := g) rfl (j := 0) (by omega) (UInt8.ofNat A)
 obtain ⟨o2, k2⟩ := o1.set (g := g) rfl (j := 1) (by rw [List.length_set]; omega) (UInt8.ofNat B)
 have eA : byteV (UInt8.ofNat A) = .int .u8 (A : Int) := by have := HAB.out.1; simp only [byteV]; congr 1; simp; omega
 have eB : byteV (UInt8.ofNat B) = .int .u8 (B : Int) := by have := HAB.out.2; simp only [byteV]; congr 1; simp; omega
 rw [eA] at o2 k1 k2
 rw [eB] at o2 k2
 have hd0 : Flate.Data [] L data := hdata
 have hhd := hdr_of (a := a) (b := b) HAB.out.1 HAB.out.2 hd0 hpos
 obtain ⟨S0, hS0⟩ : ∃ S0, S0 = zstream a b false [] L data := ⟨_, rfl⟩
 obtain ⟨S, hS⟩ : ∃ S, S = (S0.set 0 (UInt8.ofNat A)).set 1 (UInt8.ofNat B) := ⟨_, rfl⟩
 have hSS : S.length = S0.length := by rw [hS, List.length_set, List.length_set]
 rw [← hS0] at hhd o2 hSl ⊢
 rw [← hS] at hhd o2
 have hfr : Frm (fun _ _ => False) w ((w1.setCell ⟨g, 0, none⟩ (.int .u8 (A : Int))).setCell ⟨g, 1, none⟩ (.int .u8 (B : Int))) := hf1.trans' ((k1.mono (S' := fun b _ => b = g) (fun b o e => e.1)).trans' k2 (fun x o hx q => q.1)) (fun x o hx q => by omega)
 obtain ⟨bb, cc', hv, hbt2⟩ := o2.bt
 obtain ⟨m, hm⟩ : ∃ m, m = S0.length := ⟨_, rfl⟩
 rw [← hm]
 rw [hSS, ← hm] at hv
 injection hv with hv1 hv2 hv3
 subst hv1 hv3
 have hup := unpack_long _ C p (HE.out.keep hfr (fun _ _ e => e.elim)) (some ⟨g, 0, none⟩) S cc hbt2 (by omega) none [] 0 (bt_nil _) (by simp) false (hdr_hxl hhd HB.out.1) none 0 0 (nilSizes _ _ _)
 rw [hSS, ← hm] at hup
 have HUP := zHi (show Calls Tryz.prog 14 #[.slice (some ⟨g, 0, none⟩) m cc, .slice none 0 0, .bool false, .slice none 0 0] _ _ from hup)
 have c2 : (6 : Int) ≤ (m : Int) := by omega
 have H1 := zHi (zAi hhd (zAi hfr hpl))
 clear hown hok hbit hdata hd0 hpl hpos hf1 hg hbt hSl o1 k1 o2 k2 eA eB hhd hS0 hS hSS hfr hbt2 hm hup hv2
 go_wp2_with fail
 refine HUP.out.mono ?_
 rintro e w2 ⟨v2, f2, P2, X2, hX2, rfl, hown2, hf2⟩
 obtain ⟨hhd, hfr, hpl⟩ := H1.out
 have hf02 := hfr.trans hf2
 have hi := isHeader_any w2 A B HAB.out.1 HAB.out.2
 obtain ⟨b3, c3, rfl, hbt3⟩ := hown2.bt
 obtain ⟨r, hr⟩ : ∃ r, r = S.length - P2 := ⟨_, rfl⟩
 rw [← hr]
 have e32 := and32u8 B HAB.out.2
 rcases hhd with ⟨h1, hu⟩ | ⟨h1, h2, hu⟩ | ⟨h1, h2, fq, pq, hne, hu⟩
 · obtain ⟨rfl, _, _⟩ := hu.unique hX2; rw [h1] at hi; have HI := zHi hi; have HF := zHi hf02; clear hfr hpl hf02 hi hX2 hown2 hbt3 hr h1 hu e32 hf2; go_wp2_with fail
   refine HI.out.mono ?_; rintro e w3 ⟨rfl, rfl⟩; go_wp2_with fail
   go_ret
   exact ⟨rfl, HF.out⟩
 · obtain ⟨rfl, _, rfl⟩ := hu.unique hX2; rw [h1] at hi; rw [if_neg (by omega)] at e32
   have hsame := same_any w2 b3 base X2 X2 c3 cap hbt3.bytes (HS.out.keep hf02).bytes; rw [sameB_refl, ← HN.out.1] at hsame; rw [← HN.out.1]; have HSM := zHi hsame; have HI := zHi hi; have HF := zHi hf02; clear hfr hpl hf02 hi hX2 hown2 hbt3 hr h1 h2 hu hsame hf2; go_wp2_with fail
   refine HI.out.mono ?_; rintro e w3 ⟨rfl, rfl⟩; go_wp2_with fail
   refine HSM.out.mono ?_; rintro e w3 ⟨rfl, rfl⟩; go_wp2_with fail
   go_ret
   exact ⟨rfl, HF.out⟩
 · obtain ⟨hf, _, _⟩ := hu.unique hX2; rw [← hf] at hne; rw [h1] at hi; rw [if_pos h2] at e32; have t5 : ((f2 : Int) != 1) = true := by simp; omega
   have HI := zHi hi; have HF := zHi hf02; clear hfr hpl hf02 hi hX2 hown2 hbt3 hr h1 h2 hu hf hne hf2; go_wp2_with fail
   refine HI.out.mono ?_; rintro e w3 ⟨rfl, rfl⟩; go_wp2_with fail
   go_ret
   exact ⟨rfl, HF.out⟩
end Go.Proofs.YthfncdfcklbigaaGreatDoor
