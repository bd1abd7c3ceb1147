/-
  Several texts in one: SizK Szs.
-/
import Derived.Test.YthfncdfcklbigaaGreatDoorWb
import Derived.Test.YthfncdfcklbigaaGreatDoorPc
import Derived.IntWalk
import Derived.Test.YthfncdfcklbigaaGreatDoorLa
set_option linter.unusedVariables false
set_option linter.unusedSimpArgs false
namespace Go.Proofs.YthfncdfcklbigaaGreatDoor
open Go.RowKit Flate
set_option maxRecDepth 100000
theorem size_in (x : Int) : 1 ≤ wrap64 ((wrap64 (x.tmod 1000 + 1000)).tmod 1000 + 1) ∧ wrap64 ((wrap64 (x.tmod 1000 + 1000)).tmod 1000 + 1) ≤ 1000 := by
 have h1 : (x.tmod 1000).natAbs < 1000 := by rw [Int.natAbs_tmod]; exact Nat.mod_lt _ (by decide)
 have e1 : wrap64 (x.tmod 1000 + 1000) = x.tmod 1000 + 1000 := IntWalk.wrap64_in _ (by omega)
 rw [e1, Int.tmod_eq_emod_of_nonneg (by omega)]
 have e2 : wrap64 ((x.tmod 1000 + 1000) % 1000 + 1) = (x.tmod 1000 + 1000) % 1000 + 1 := IntWalk.wrap64_in _ (by omega)
 rw [e2]
 omega
def SzInv (N0 : Nat) (w : World) (n : Nat) (g : Nat) (out i : Value) (wr : World) : Prop :=
 ∃ (k : Nat) (us : List Int), k ≤ n ∧ g = n - k ∧ i = .int .i64 (k : Int) ∧ us.length = k ∧ (∀ u ∈ us, 1 ≤ u ∧ u ≤ 1000) ∧ OwnI wr N0 out us ∧ Frm (fun _ _ => False) w wr
set_option maxHeartbeats 1000000 in
theorem sizes_any (w : World) (base : Option Addr) (l : List Int) (cap : Nat) (hs : It w base l cap) (hl : l.length ≤ 2147483647) :
 Calls Tryz.prog 22 #[.slice base l.length cap] w fun e w' => ∃ v us, e = .returned v ∧ OwnI w' w.heap.size v us ∧ us.length = l.length ∧ (∀ u ∈ us, 1 ≤ u ∧ u ≤ 1000) ∧ Frm (fun _ _ => False) w w' := by
 have HS := zHi hs
 clear hs
 obtain ⟨n, hn⟩ : ∃ n, n = l.length := ⟨_, rfl⟩
 rw [← hn] at hl ⊢
 have HN := zHi (zAi hn hl)
 have c1 : (n : Int) ≤ 2147483647 := by omega
 clear hn hl
 go_enter Tryz.func22, Tryz.ntmps22
 go_wp2_with fail
 go_loopg [3, 8] (n - 0) (fun g out i wr => SzInv w.heap.size w n g out i wr)
 case atStart => exact ⟨0, [], Nat.zero_le _, rfl, rfl, rfl, fun u hu => absurd hu (by simp), OwnI.nil _ _, Frm.refl _ _⟩
 case round =>
  obtain ⟨k, us, hk, hg, rfl, hus, hu1, hown, hf⟩ := hrel; have HR := zHi (zAi hk (zAi hg (zAi hus (zAi hu1 (zAi hown hf))))); clear hg hus hu1 hown hf
  by_cases hlt : k < n
  · obtain ⟨a, ha, hcell⟩ := (HS.out.keep HR.out.2.2.2.2.2).cells k (by have := HN.out.1; omega)
    have hsp := HS.out.spot a ha; obtain ⟨ab, ao, sp⟩ := a; simp only at hsp; subst hsp; subst ha; have hw := HS.out.wf (l[k]'(by have := HN.out.1; omega)) (List.getElem_mem _)
    obtain ⟨x, hx⟩ : ∃ x, x = l[k]'(by have := HN.out.1; omega) := ⟨_, rfl⟩
    rw [← hx] at hcell hw; obtain ⟨x1, x2⟩ := hw; clear hx; obtain ⟨hk, hg, hus, hu1, hown, hf⟩ := HR.out; obtain ⟨v', w', hrun, hown', hf'⟩ := append_int wr w.heap.size u3 us hown (wrap64 ((wrap64 (x.tmod 1000 + 1000)).tmod 1000 + 1)) (by have := HN.out; omega) hf.size
    have hy := size_in x; have HX := zHi (zAi hown' (zAi (hown.fresh hf (Nat.le_refl _) hf') hy)); have hr := fun ty => hrun ty
    clear hg hus hu1 hown hf hown' hf' hy hrun; go_wp2_with (at_builtin; refine wpList_append_by (by rfl) (.tmp 12) (.tmp 18) 33 (by rfl) _ _ (by rfl) (by rfl) (hr _) ?_)
    go_roundg (n - (k + 1))
    case measure => have := HR.out.2.1; omega
    case rel =>
     obtain ⟨hk, hg, hus, hu1, hown, hf⟩ := HR.out; refine ⟨k + 1, us ++ [wrap64 ((wrap64 (x.tmod 1000 + 1000)).tmod 1000 + 1)], by omega, rfl, by go_num, by rw [List.length_append, hus]; rfl, fun u hu => ?_, HX.out.1, HX.out.2.1⟩
     rcases List.mem_append.1 hu with hu | hu
     · exact hu1 u hu
     · rw [List.mem_singleton.1 hu]; exact HX.out.2.2
  · obtain rfl : k = n := by omega
    clear hlt; have hd : decide (k < k) = false := by simp
    go_wp2_with fail
    go_ret
    obtain ⟨hk, hg, hus, hu1, hown, hf⟩ := HR.out; exact ⟨_, us, rfl, hown, hus, hu1, hf⟩
theorem sizes_of {w : World} {N0 : Nat} {M : Nat → Prop} {v : Value} {us : List Int} (h : OwnI w N0 v us) (hu : ∀ u ∈ us, 1 ≤ u ∧ u ≤ 1000) (hl : us.length ≤ 2147483647) (hM : ∀ b, ¬ M b) : ∃ b cap, v = .slice b us.length cap ∧ Sizes w w.heap.size M (.slice b us.length cap) := by
 rcases h.cells with ⟨rfl, h0⟩ | ⟨g, cap, rfl, h1, h2, h3, h4⟩
 · exact ⟨none, 0, by rw [h0], .inl ⟨none, 0, by rw [h0]⟩⟩
 · refine ⟨_, cap, rfl, ?_⟩
   by_cases h0 : us.length = 0
   · exact .inl ⟨_, _, by rw [h0]⟩
   · exact .inr ⟨g, 0, us.length, cap, rfl, by omega, hl, h2, hM g, fun j hj => by
      have := h4 j (intV us[j]) (by rw [List.getElem?_map, List.getElem?_eq_getElem hj]; rfl)
      have hb := hu us[j] (List.getElem_mem hj); refine ⟨us[j].toNat, by omega, by omega, ?_⟩
      rw [Nat.zero_add, this]
      congr 2; omega⟩
end Go.Proofs.YthfncdfcklbigaaGreatDoor
namespace Go.Proofs.YthfncdfcklbigaaGreatDoor
open Go.RowKit Go.IntWalk Flate
set_option maxRecDepth 100000
set_option maxHeartbeats 1000000 in
theorem fnSizes_any (w : World) (C : Nat) (p : Ps) (he : Env w C p) (base : Option Addr) (data : List UInt8) (cap : Nat) (hs : Bt w base data cap) (lb : Option Addr) (l : List Int) (lc : Nat) (hl : It w lb l lc) (ib : Option Addr) (iz : List Int) (ic : Nat) (hi : It w ib iz ic) :
 Calls Tryz.prog 11 #[.slice base data.length cap, .slice lb l.length lc, .slice ib iz.length ic] w fun e w' => e = .returned (.bool true) ∧ Frm (fun _ _ => False) w w' := by
 have HE := zHi he
 have HS := zHi hs
 have HI := zHi hi
 have HL := zHi hl
 clear he hs hi hl
 obtain ⟨n1, hn1⟩ : ∃ n1, n1 = data.length := ⟨_, rfl⟩
 obtain ⟨n2, hn2⟩ : ∃ n2, n2 = l.length := ⟨_, rfl⟩
 obtain ⟨n3, hn3⟩ : ∃ n3, n3 = iz.length := ⟨_, rfl⟩
 rw [← hn1, ← hn2, ← hn3]
 have HN := zHi (zAi hn1 (zAi hn2 hn3))
 clear hn1 hn2 hn3
 go_enter Tryz.func11, Tryz.ntmps11
 by_cases h1 : 2147483647 < n1
 · have t1 : decide ((2147483647 : Int) < (n1 : Int)) = true := by simp; omega
   clear h1; go_wp2_with fail
   go_ret
   exact ⟨rfl, Frm.refl _ _⟩
 have t1 : decide ((2147483647 : Int) < (n1 : Int)) = false := by simp; omega
 by_cases h2 : 2147483647 < n2
 · have t2 : decide ((2147483647 : Int) < (n2 : Int)) = true := by simp; omega
   clear h1 h2; go_wp2_with fail
   go_ret
   exact ⟨rfl, Frm.refl _ _⟩
 have t2 : decide ((2147483647 : Int) < (n2 : Int)) = false := by simp; omega
 by_cases h3 : 2147483647 < n3
 · have t3 : decide ((2147483647 : Int) < (n3 : Int)) = true := by simp; omega
   clear h1 h2 h3; go_wp2_with fail
   go_ret
   exact ⟨rfl, Frm.refl _ _⟩
 have t3 : decide ((2147483647 : Int) < (n3 : Int)) = false := by simp; omega
 have hdl : data.length ≤ 2147483647 := by have := HN.out.1; omega
 have hll : l.length ≤ 2147483647 := by have := HN.out.2.1; omega
 have hil : iz.length ≤ 2147483647 := by have := HN.out.2.2; omega
 have HB := zHi (zAi hdl (zAi hll hil))
 have hz := zlib_any w base data cap HS.out none [] 0 (bt_nil _) false 7 0 lb l lc HL.out hdl (by simp) hll
 rw [← HN.out.1, ← HN.out.2.1] at hz
 have HZ := zHi (show Calls Tryz.prog 18 #[.slice base n1 cap, .slice none 0 0, .bool false, .int .i64 7, .int .i64 0, .slice lb n2 lc] w _ from hz)
 clear h1 h2 h3 hdl hll hil hz
 go_wp2_with fail
 refine HZ.out.mono ?_
 rintro e w1 ⟨v, a, b, L, rfl, hown, hok, hbit, hdata, hpl, hpos, hf1⟩
 have hu := unz_z (m := []) (Dr := []) hok hbit (fun q => by simp at q) hdata
 rw [List.append_nil] at hu
 obtain ⟨bb, cc, rfl, hbt⟩ := hown.bt
 have hSl := zstream_len a b false [] L data
 simp only [Bool.false_eq_true, if_false] at hSl
 obtain ⟨S, hS⟩ : ∃ S, S = zstream a b false [] L data := ⟨_, rfl⟩
 rw [← hS] at hbt hu hSl ⊢
 obtain ⟨m, hm⟩ : ∃ m, m = S.length := ⟨_, rfl⟩
 rw [← hm]
 have hsz := sizes_any w1 ib iz ic (HI.out.keep hf1) (by have := HB.out; omega)
 rw [← HN.out.2.2] at hsz
 have HSZ := zHi hsz
 have c0 : 0 < m := by omega
 have H1 := zHi (zAi hbt (zAi hu (zAi hSl (zAi hm (zAi hf1 hpl)))))
 clear hown hok hbit hdata hpl hpos hf1 hu hbt hSl hS hm hsz
 go_wp2_with fail
 refine HSZ.out.mono ?_
 rintro e w2 ⟨v2, us, rfl, hown2, hul, hus, hf2⟩
 obtain ⟨hbt, hu, hSl, hm, hf1, hpl⟩ := H1.out
 obtain ⟨ub, ucap, rfl, hS2⟩ := sizes_of (M := fun _ => False) hown2 hus (by have := HB.out; have := HN.out; omega) (fun _ q => q)
 have hf02 := hf1.trans hf2
 have hup := unpack_long w2 C p (HE.out.keep hf02 (fun _ _ e => e.elim)) bb S cc (hbt.keep hf2) (by omega) none [] 0 (bt_nil _) (by simp) false (unz_hxl hu (by have := HB.out; omega)) ub us.length ucap hS2
 obtain ⟨un, hun⟩ : ∃ un, un = us.length := ⟨_, rfl⟩
 rw [← hm, ← hun] at hup
 rw [← hun]
 have HUP := zHi (show Calls Tryz.prog 14 #[.slice bb m cc, .slice none 0 0, .bool false, .slice ub un ucap] w2 _ from hup)
 have HF2 := zHi hf02
 clear hbt hu hSl hm hf1 hpl hown2 hul hus hf2 hS2 hf02 hup hun
 go_wp2_with fail
 refine HUP.out.mono ?_
 rintro e w3 ⟨v3, f3, P3, X3, hX3, rfl, hown3, hf3⟩
 obtain ⟨hbt, hu, hSl, hm, hf1, hpl⟩ := H1.out
 obtain ⟨rfl, rfl, rfl⟩ := hu.unique hX3
 obtain ⟨b3, c3, rfl, hbt3⟩ := hown3.bt
 have e0 : S.length - S.length = 0 := Nat.sub_self _
 rw [e0]
 have hf03 := HF2.out.trans hf3
 have hsame := same_any w3 b3 base X3 X3 c3 cap hbt3.bytes (HS.out.keep hf03).bytes
 rw [sameB_refl, ← HN.out.1] at hsame
 rw [← HN.out.1]
 have HSM := zHi hsame
 have HF3 := zHi hf03
 clear hbt hu hSl hm hf1 hpl hX3 hown3 hf3 hbt3 e0 hf03 hsame
 go_wp2_with fail
 refine HSM.out.mono ?_
 rintro e w4 ⟨rfl, rfl⟩
 go_wp2_with fail
 go_ret
 exact ⟨rfl, HF3.out⟩
end Go.Proofs.YthfncdfcklbigaaGreatDoor
