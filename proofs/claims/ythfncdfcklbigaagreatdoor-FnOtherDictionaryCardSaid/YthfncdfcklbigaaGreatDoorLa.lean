/-
  Several texts in one: Zwr Zlw.
-/
import Derived.Test.YthfncdfcklbigaaGreatDoorZc
import Derived.Test.YthfncdfcklbigaaGreatDoorWe
import Derived.Test.YthfncdfcklbigaaGreatDoorZa
set_option linter.unusedVariables false
set_option linter.unusedSimpArgs false
namespace Go.Proofs.YthfncdfcklbigaaGreatDoor
open Go.RowKit Go.IntWalk Flate
set_option maxRecDepth 100000
theorem isHeader_any (w : World) (a b : Nat) (ha : a < 256) (hb : b < 256) :
 Calls Tryz.prog 20 #[.int .u8 (a : Int), .int .u8 (b : Int)] w fun e w' => e = .returned (.bool (hdrOk (UInt8.ofNat a) (UInt8.ofNat b))) ∧ w = w' := by
 obtain ⟨h, hh⟩ : ∃ h, h = a * 256 + b := ⟨_, rfl⟩
 obtain ⟨A, hA⟩ : ∃ A, A = a % 16 := ⟨_, rfl⟩
 obtain ⟨r, hr⟩ : ∃ r, r = h % 31 := ⟨_, rfl⟩
 have hok : hdrOk (UInt8.ofNat a) (UInt8.ofNat b) = decide (A = 8 ∧ a / 16 ≤ 7 ∧ r = 0) := by rw [hdrOk_nat ha hb, hA, hr, hh]
 have e1 : bits .and .u8 (a : Int) 15 = (A : Int) := by rw [hA]; exact and15u8 a ha
 have e0 : (a : Int) * 256 + (b : Int) = (h : Int) := by omega
 have e2 : (h : Int) % 31 = (r : Int) := by omega
 have i1 : (h : Int) ≤ 65535 := by omega
 have i2 : (a : Int) ≤ 255 := by omega
 have i3 : (b : Int) ≤ 255 := by omega
 have HOK := zHi hok
 clear hok hh hA hr ha hb
 by_cases c1 : A = 8
 · subst c1
   by_cases c2 : a / 16 ≤ 7
   · have t2 : decide ((a : Int) / 16 ≤ 7) = true := by simp; omega
     by_cases c3 : r = 0
     · subst c3; have HC := zHi c2; clear c2
       go_enter Tryz.func20, Tryz.ntmps20
       go_wp2_with fail
       go_ret
       exact ⟨by rw [HOK.out]; have := HC.out; simp [this], rfl⟩
     · have t3 : ((r : Int) == 0) = false := by simp; omega
       have HC := zHi (zAi c2 c3); clear c2 c3
       go_enter Tryz.func20, Tryz.ntmps20
       go_wp2_with fail
       go_ret
       exact ⟨by rw [HOK.out]; have := HC.out; simp [this], rfl⟩
   · have t2 : decide ((a : Int) / 16 ≤ 7) = false := by simp; omega
     have HC := zHi c2; clear c2
     go_enter Tryz.func20, Tryz.ntmps20
     go_wp2_with fail
     go_ret
     exact ⟨by rw [HOK.out]; have := HC.out; simp [this], rfl⟩
 · have t1 : ((A : Int) == 8) = false := by simp; omega
   have HC := zHi c1; clear c1
   go_enter Tryz.func20, Tryz.ntmps20
   go_wp2_with fail
   go_ret
   exact ⟨by rw [HOK.out]; have := HC.out; simp [this], rfl⟩
theorem four_cellsZ (A : Nat) (h : A < 4294967296) : ((four A).map byteV).toArray = #[.int .u8 ((A : Int) / 16777216), .int .u8 ((A : Int) / 65536 % 256), .int .u8 ((A : Int) / 256 % 256), .int .u8 ((A : Int) % 256)] := by
 unfold four
 simp only [List.map_cons, List.map_nil, byteV, UInt8.toNat_ofNat']
 rw [show ((A / 16777216 % 2 ^ 8 : Nat) : Int) = (A : Int) / 16777216 by omega, show ((A / 65536 % 2 ^ 8 : Nat) : Int) = (A : Int) / 65536 % 256 by omega, show ((A / 256 % 2 ^ 8 : Nat) : Int) = (A : Int) / 256 % 256 by omega, show ((A % 2 ^ 8 : Nat) : Int) = (A : Int) % 256 by omega]
theorem four_any (w : World) (A : Nat) (hA : A < 4294967296) :
 Calls Tryz.prog 31 #[.int .u32 (A : Int)] w fun e w' => ∃ v, e = .returned v ∧ Own w' w.heap.size v (four A) ∧ Frm (fun _ _ => False) w w' := by
 have ho := own_new w (four A) (by simp [four_len, maxLen])
 rw [four_cellsZ A hA, four_len] at ho
 have hf : Frm (fun _ _ => False) w (w.alloc (.cells #[.int .u8 ((A : Int) / 16777216), .int .u8 ((A : Int) / 65536 % 256), .int .u8 ((A : Int) / 256 % 256), .int .u8 ((A : Int) % 256)] 5)) := (Frm.refl _ _).alloc _
 have HO := zHi (zAi ho hf)
 have c1 : (A : Int) < 4294967296 := by omega
 clear ho hf hA
 go_enter Tryz.func31, Tryz.ntmps31
 go_wp2_with fail
 go_ret
 exact ⟨_, rfl, HO.out.1, HO.out.2⟩
def ZwPost (w : World) (has : Bool) (dict data : List UInt8) (e : Ending) (w' : World) : Prop :=
 ∃ v a b L, e = .returned v ∧ Own w' w.heap.size v (zstream a b has dict L data) ∧ hdrOk a b = true ∧ (b.toNat / 32 % 2 = 1 ↔ has = true) ∧ Flate.Data (lastOf (if has then dict else [])) L (lastOf (if has then dict else []) ++ data) ∧
  (pack L).length ≤ 549755813888 ∧ 0 < (pack L).length ∧ Frm (fun _ _ => False) w w'
theorem tmod_mod (x : Int) (m : Nat) (hm : 0 < m) : ∃ k : Nat, k < m ∧ (x.tmod (m : Int) + (m : Int)) % (m : Int) = (k : Int) ∧ -(m : Int) < x.tmod (m : Int) ∧ x.tmod (m : Int) < (m : Int) := by
 have h0 : (m : Int) ≠ 0 := by omega
 have h1 : (x.tmod (m : Int)).natAbs < m := by rw [Int.natAbs_tmod]; exact Nat.mod_lt _ hm
 refine ⟨((x.tmod (m : Int) + (m : Int)) % (m : Int)).toNat, ?_, (Int.toNat_of_nonneg (Int.emod_nonneg _ h0)).symm, by omega, by omega⟩
 have := Int.emod_lt_of_pos (x.tmod (m : Int) + (m : Int)) (show (0 : Int) < (m : Int) by omega)
 have := Int.emod_nonneg (x.tmod (m : Int) + (m : Int)) h0
 omega
theorem or32u8 (l : Nat) (h : l < 4) : bits .or .u8 ((64 * l : Nat) : Int) 32 = ((64 * l + 32 : Nat) : Int) := by
 have : ∀ k : Fin 4, bits .or .u8 ((64 * k.1 : Nat) : Int) 32 = ((64 * k.1 + 32 : Nat) : Int) := by decide +kernel
 exact this ⟨l, h⟩
def HdInv (w : World) (A B : Nat) (g : Nat) (bv : Value) (wr : World) : Prop := ∃ j : Nat, j ≤ hdrJ A B ∧ g = hdrJ A B - j ∧ bv = .int .u8 ((B + j : Nat) : Int) ∧ w = wr
theorem tmod_8 (x : Int) : ∃ k : Nat, k < 8 ∧ (x.tmod 8 + 8) % 8 = (k : Int) ∧ -8 < x.tmod 8 ∧ x.tmod 8 < 8 := tmod_mod x 8 (by omega)
theorem tmod_4 (x : Int) : ∃ k : Nat, k < 4 ∧ (x.tmod 4 + 4) % 4 = (k : Int) ∧ -4 < x.tmod 4 ∧ x.tmod 4 < 4 := tmod_mod x 4 (by omega)
theorem bit5 {l : Nat} (hl : l < 4) {j : Nat} (hj : j ≤ 30) : ¬ (UInt8.ofNat (64 * l + j)).toNat / 32 % 2 = 1 := by
 rw [show (UInt8.ofNat (64 * l + j)).toNat = 64 * l + j by simp; omega]; omega
theorem bit5' {l : Nat} (hl : l < 4) {j : Nat} (hj : j ≤ 30) : (UInt8.ofNat (64 * l + 32 + j)).toNat / 32 % 2 = 1 := by
 rw [show (UInt8.ofNat (64 * l + 32 + j)).toNat = 64 * l + 32 + j by simp; omega]; omega
theorem two_own (w : World) (A q : Nat) (hA : A < 256) (hq : q < 256) : Own (w.alloc (.cells #[.int .u8 (A : Int), .int .u8 (q : Int)] 5)) w.heap.size (.slice (some ⟨w.heap.size, 0, none⟩) 2 2) [UInt8.ofNat A, UInt8.ofNat q] := by
 have ho := own_new w [UInt8.ofNat A, UInt8.ofNat q] (by simp [maxLen])
 simp only [List.map_cons, List.map_nil, List.length_cons, List.length_nil, Nat.zero_add, byteV] at ho
 rw [show (UInt8.ofNat A).toNat = A by simp; omega, show (UInt8.ofNat q).toNat = q by simp; omega] at ho
 exact ho
theorem zlib_tail (w w1 : World) (N0 : Nat) (v : Value) (pre : List UInt8) (ho : Own w1 N0 v pre) (hpre : pre.length ≤ 6) (hf1 : Frm (fun _ _ => False) w w1) (hN : N0 ≤ w.heap.size) (hN1 : w.heap.size ≤ N0) (base : Option Addr) (data : List UInt8) (cap : Nat) (hs : Bt w base data cap) (hdl : data.length ≤ 2147483647) {e : Ending} {w2 : World} {D : List UInt8} (hdf : DfPost w1 D data e w2) :
 ∃ b2 L cp2 v3 w3, e = .returned (.slice b2 (pack L).length cp2) ∧ Flate.Data (lastOf D) L (lastOf D ++ data) ∧ (pack L).length ≤ 549755813888 ∧ 0 < (pack L).length ∧ Frm (fun _ _ => False) w w3 ∧
  (∀ ty, (Builtin.append_ #[22, 22] ty #[v, .slice b2 (pack L).length cp2]).run Tryz.prog w2 = .ok v3 w3) ∧
  Calls Tryz.prog 21 #[.slice base data.length cap] w3 (fun e w' => e = .returned (.int .u32 (adler data : Int)) ∧ w' = w3) ∧
  Calls Tryz.prog 31 #[.int .u32 (adler data : Int)] w3 fun e w4 => ∃ b4 cp4 v5 w5, e = .returned (.slice b4 4 cp4) ∧ (∀ ty, (Builtin.append_ #[22, 22] ty #[v3, .slice b4 4 cp4]).run Tryz.prog w4 = .ok v5 w5) ∧ Own w5 w.heap.size v5 (pre ++ (pack L ++ four (adler data))) ∧ Frm (fun _ _ => False) w w5 := by
 have eN : N0 = w.heap.size := Nat.le_antisymm hN hN1
 subst eN
 obtain ⟨v2, L, rfl, hown2, hdata, hpl, hpos, hf2⟩ := hdf
 obtain ⟨b2, cp2, rfl, hbt2⟩ := hown2.bt
 have ho2 := ho.keep hf2 (fun _ _ _ e => e)
 obtain ⟨v3, w3, hr3, ho3, hfr3, _⟩ := append_bt w2 w.heap.size v pre ho2 b2 (pack L) cp2 hbt2 (by omega) (hf1.trans hf2).size
 have hf3 := Own.fresh ho2 (hf1.trans hf2) (Nat.le_refl _) hfr3
 refine ⟨b2, L, cp2, v3, w3, rfl, hdata, hpl, hpos, hf3, hr3, adler_any w3 base data cap (hs.keep hf3).bytes (by omega), ?_⟩
 refine (four_any w3 (adler data) (adler_lt data)).mono ?_
 rintro e w4 ⟨v4, rfl, hown4, hf4⟩
 obtain ⟨b4, cp4, rfl, hbt4⟩ := hown4.bt
 have ho4 := ho3.keep hf4 (fun _ _ _ e => e)
 obtain ⟨v5, w5, hr5, ho5, hfr5, _⟩ := append_bt w4 w.heap.size v3 _ ho4 b4 (four (adler data)) cp4 hbt4 (by rw [four_len, List.length_append]; omega) (hf3.trans hf4).size
 have hf5 := Own.fresh ho4 (hf3.trans hf4) (Nat.le_refl _) hfr5
 rw [List.append_assoc] at ho5
 exact ⟨b4, cp4, v5, w5, rfl, hr5, ho5, hf5⟩
set_option maxHeartbeats 2000000 in
theorem zlib_any (w : World) (base : Option Addr) (data : List UInt8) (cap : Nat) (hs : Bt w base data cap) (dbase : Option Addr) (dict : List UInt8) (dcap : Nat) (hd : Bt w dbase dict dcap) (has : Bool) (window level : Int) (lb : Option Addr) (l : List Int) (lc : Nat) (hl : It w lb l lc)
 (hdl : data.length ≤ 2147483647) (hdd : dict.length ≤ 2147483647) (hll : l.length ≤ 2147483647) :
 Calls Tryz.prog 18 #[.slice base data.length cap, .slice dbase dict.length dcap, .bool has, .int .i64 window, .int .i64 level, .slice lb l.length lc] w (ZwPost w has dict data) := by
 have HS := zHi hs
 have HD := zHi hd
 have HL := zHi hl
 have HB := zHi (zAi hdl (zAi hdd hll))
 obtain ⟨n1, hn1⟩ : ∃ n1, n1 = data.length := ⟨_, rfl⟩
 obtain ⟨n2, hn2⟩ : ∃ n2, n2 = dict.length := ⟨_, rfl⟩
 obtain ⟨n3, hn3⟩ : ∃ n3, n3 = l.length := ⟨_, rfl⟩
 rw [← hn1, ← hn2, ← hn3]
 have HN := zHi (zAi hn1 (zAi hn2 hn3))
 obtain ⟨k, hk, hy', y1, y2⟩ := tmod_8 window
 obtain ⟨m, hm, hz', z1, z2⟩ := tmod_4 level
 obtain ⟨y, hy⟩ : ∃ y, window.tmod 8 = y := ⟨_, rfl⟩
 obtain ⟨z, hz⟩ : ∃ z, level.tmod 4 = z := ⟨_, rfl⟩
 rw [hy] at hy' y1 y2
 rw [hz] at hz' z1 z2
 obtain ⟨A, hA⟩ : ∃ A, A = 8 + 16 * k := ⟨_, rfl⟩
 have hA2 : A ≤ 120 := by omega
 have eA : 8 + 16 * (k : Int) = (A : Int) := by omega
 have cA : (A : Int) ≤ 120 := by omega
 have ck : (k : Int) ≤ 7 := by omega
 have cm : (m : Int) ≤ 3 := by omega
 clear hs hd hl hdl hdd hll hn1 hn2 hn3
 cases has with
 | false =>
  obtain ⟨B, hB⟩ : ∃ B, B = 64 * m := ⟨_, rfl⟩; have eB : (m : Int) * 64 = (B : Int) := by omega
  have hB2 : B ≤ 192 := by omega
  have cB : (B : Int) ≤ 192 := by omega
  have hfound := hdr_found hk (B := B) (by omega)
  rw [← hA] at hfound; have hbef := fun j => hdr_before hk (B := B) (j := j) (by omega)
  rw [← hA] at hbef; have HH := zHi (zAi hfound (zAi hbef (zAi hA (zAi hB (zAi hk hm))))); clear hfound hbef hA hB hk hm
  go_enter Tryz.func18, Tryz.ntmps18
  go_wp2_with fail
  rw [hy', hz']; clear hy' hz'; go_loopg [14] (hdrJ A B) (fun g bv wr => HdInv w A B g bv wr)
  case atStart => exact ⟨0, Nat.zero_le _, by omega, rfl, rfl⟩
  case round =>
   obtain ⟨j, hj, hg, rfl, rfl⟩ := hrel; have hJ := HH.out.1.2; obtain ⟨q, hq⟩ : ∃ q, q = B + j := ⟨_, rfl⟩; rw [← hq]; have cq : (q : Int) ≤ 222 := by omega
   by_cases hlt : j < hdrJ A B
   · have hi := isHeader_any w A q (by omega) (by omega)
     rw [hq, HH.out.2.1 j hlt, ← hq] at hi; have HI := zHi hi; have ew : IntKind.u8.wrap ((q : Int) + 1) = (q : Int) + 1 := by simp only [IntKind.wrap, IntKind.bits, IntKind.signed]; simp; omega
     have HR := zHi (zAi hj (zAi hg (zAi hq hlt))); clear hi hj hg hq hlt hJ hA2 hB2; go_wp2_with fail
     refine HI.out.mono ?_; rintro e w1 ⟨rfl, rfl⟩; go_wp2_with fail
     go_roundg (hdrJ A B - (j + 1))
     case measure => have := HR.out; omega
     case rel =>
      obtain ⟨hj, hg, hq, hlt⟩ := HR.out; exact ⟨j + 1, by omega, rfl, by rw [hq]; go_num, rfl⟩
   · obtain rfl : j = hdrJ A B := by omega
     have hi := isHeader_any w A q (by omega) (by omega)
     have hok := HH.out.1.1; rw [← hq] at hok; rw [hok] at hi; have hdf := deflate_any (w.alloc (.cells #[.int .u8 (A : Int), .int .u8 (q : Int)] 5)) base data cap (HS.out.keep ((Frm.refl _ _).alloc _)) none [] 0 (bt_nil _) lb l lc (HL.out.keep ((Frm.refl _ _).alloc _)) HB.out.1 (by simp) HB.out.2.2
     rw [← HN.out.1, ← HN.out.2.2] at hdf; have HDF := zHi (show Calls Tryz.prog 32 #[.slice base n1 cap, .slice none 0 0, .slice lb n3 lc] _ _ from hdf)
     have ho := two_own w A q (by omega) (by omega)
     have HI := zHi hi; have HR := zHi (zAi hq (zAi hok (zAi ho hJ))); clear hi hok hdf ho hlt hj hg hq hJ hA2 hB2; go_wp2_with fail
     refine HI.out.mono ?_; rintro e w1 ⟨rfl, rfl⟩; clear HI; go_wp2_with fail
     refine HDF.out.mono ?_; intro e w2 hpost; obtain ⟨b2, L, cp2, v3, w3, rfl, hdata, hpl, hpos, hf3, hr3, had, hfo⟩ := zlib_tail w _ w.heap.size _ _ HR.out.2.2.1 (by simp) ((Frm.refl _ _).alloc _) (Nat.le_refl _) (Nat.le_refl _) base data cap HS.out HB.out.1 hpost
     obtain ⟨pl, hpl'⟩ : ∃ pl, pl = (pack L).length := ⟨_, rfl⟩; obtain ⟨ad, had'⟩ : ∃ ad, ad = adler data := ⟨_, rfl⟩; have hadl := adler_lt data; rw [← hpl'] at hr3; rw [← HN.out.1, ← had'] at had; rw [← had'] at hfo hadl; rw [← hpl']; have c4 : (ad : Int) < 4294967296 := by omega
     have HAD := zHi had; have HFO := zHi hfo; have HL2 := zHi (zAi hdata (zAi hpl (zAi hpos had'))); have hr3' := fun ty => hr3 ty
     clear hpost hdata hpl hpos hf3 hr3 had hfo hpl' had' hadl; go_wp2_with (at_builtin; refine wpList_append_by (by rfl) (.tmp 47) (.tmp 51) 22 (by rfl) _ _ (by rfl) (by rfl) (hr3' _) ?_)
     refine HAD.out.mono ?_; rintro e w4 ⟨rfl, rfl⟩; clear hr3'; go_wp2_with fail
     refine HFO.out.mono ?_; rintro e w4 ⟨b4, cp4, v5, w5, rfl, hr5, ho5, hf5⟩; have HX := zHi (zAi ho5 hf5); have hr5' := fun ty => hr5 ty
     clear ho5 hf5 hr5; go_wp2_with (at_builtin; refine wpList_append_by (by rfl) (.tmp 53) (.tmp 56) 22 (by rfl) _ _ (by rfl) (by rfl) (hr5' _) ?_)
     go_ret
     obtain ⟨hdata, hpl, hpos, had'⟩ := HL2.out; obtain ⟨ho5, hf5⟩ := HX.out; obtain ⟨hq, hok, _, hJ⟩ := HR.out; refine ⟨v5, UInt8.ofNat A, UInt8.ofNat q, L, rfl, ?_, hok, ?_, hdata, hpl, hpos, hf5⟩
     · rw [had'] at ho5; exact ho5
     · rw [hq, HH.out.2.2.2.1]; exact ⟨fun h => absurd h (bit5 HH.out.2.2.2.2.2 (by rw [← HH.out.2.2.2.1]; exact hJ)), fun h => by simp at h⟩
 | true =>
  obtain ⟨B0, hB0⟩ : ∃ B0, B0 = 64 * m := ⟨_, rfl⟩; obtain ⟨B, hB⟩ : ∃ B, B = B0 + 32 := ⟨_, rfl⟩; have eB : (m : Int) * 64 = (B0 : Int) := by omega
  have eO : bits .or .u8 (B0 : Int) 32 = (B : Int) := by rw [hB, hB0]; exact or32u8 m hm
  have hB2 : B ≤ 224 := by omega
  have cB : (B : Int) ≤ 224 := by omega
  have cB0 : (B0 : Int) ≤ 192 := by omega
  have hfound := hdr_found hk (B := B) (by omega)
  rw [← hA] at hfound; have hbef := fun j => hdr_before hk (B := B) (j := j) (by omega)
  rw [← hA] at hbef; have HH := zHi (zAi hfound (zAi hbef (zAi hA (zAi hB (zAi hk (zAi hm hB0)))))); clear hfound hbef hA hB hk hm hB0
  go_enter Tryz.func18, Tryz.ntmps18
  go_wp2_with fail
  rw [hy', hz']; clear hy' hz'; go_loopg [14] (hdrJ A B) (fun g bv wr => HdInv w A B g bv wr)
  case atStart => exact ⟨0, Nat.zero_le _, by omega, rfl, rfl⟩
  case round =>
   obtain ⟨j, hj, hg, rfl, rfl⟩ := hrel; have hJ := HH.out.1.2; obtain ⟨q, hq⟩ : ∃ q, q = B + j := ⟨_, rfl⟩; rw [← hq]; have cq : (q : Int) ≤ 254 := by omega
   by_cases hlt : j < hdrJ A B
   · have hi := isHeader_any w A q (by omega) (by omega)
     rw [hq, HH.out.2.1 j hlt, ← hq] at hi; have HI := zHi hi; have ew : IntKind.u8.wrap ((q : Int) + 1) = (q : Int) + 1 := by simp only [IntKind.wrap, IntKind.bits, IntKind.signed]; simp; omega
     have HR := zHi (zAi hj (zAi hg (zAi hq hlt))); clear hi hj hg hq hlt hJ hA2 hB2; go_wp2_with fail
     refine HI.out.mono ?_; rintro e w1 ⟨rfl, rfl⟩; go_wp2_with fail
     go_roundg (hdrJ A B - (j + 1))
     case measure => have := HR.out; omega
     case rel =>
      obtain ⟨hj, hg, hq, hlt⟩ := HR.out; exact ⟨j + 1, by omega, rfl, by rw [hq]; go_num, rfl⟩
   · obtain rfl : j = hdrJ A B := by omega
     have hi := isHeader_any w A q (by omega) (by omega)
     have hok := HH.out.1.1; rw [← hq] at hok; rw [hok] at hi; have ho := two_own w A q (by omega) (by omega)
     have hfa : Frm (fun _ _ => False) w (w.alloc (.cells #[.int .u8 (A : Int), .int .u8 (q : Int)] 5)) := (Frm.refl _ _).alloc _
     have had0 := adler_any (w.alloc (.cells #[.int .u8 (A : Int), .int .u8 (q : Int)] 5)) dbase dict dcap (HD.out.keep hfa).bytes (by have := HB.out.2.1; omega)
     have hadl0 := adler_lt dict; have hfo0 := four_any (w.alloc (.cells #[.int .u8 (A : Int), .int .u8 (q : Int)] 5)) (adler dict) hadl0; obtain ⟨ad0, had0'⟩ : ∃ ad0, ad0 = adler dict := ⟨_, rfl⟩; rw [← had0'] at hfo0 hadl0; rw [← had0', ← HN.out.2.1] at had0; have c3 : (ad0 : Int) < 4294967296 := by omega
     have HI := zHi hi; have HA0 := zHi had0; have HF0 := zHi hfo0; have HR := zHi (zAi hq (zAi hok (zAi ho (zAi hJ (zAi had0' hfa))))); clear hi hok ho hlt hj hg hq hJ hA2 hB2 had0 hfo0 had0' hadl0 hfa; go_wp2_with fail
     refine HI.out.mono ?_; rintro e w1 ⟨rfl, rfl⟩; clear HI; go_wp2_with fail
     refine HA0.out.mono ?_; rintro e w1 ⟨rfl, rfl⟩; clear HA0; go_wp2_with fail
     refine HF0.out.mono ?_; rintro e w1 ⟨v1, rfl, hown1, hf1⟩; obtain ⟨hq, hok, ho, hJ, had0', hfa⟩ := HR.out; obtain ⟨b1, cp1, rfl, hbt1⟩ := hown1.bt; have ho1 := ho.keep hf1 (fun _ _ _ e => e)
     have hf01 := hfa.trans hf1; obtain ⟨vp, wp, hrp, hop, hfrp, _⟩ := append_bt w1 w.heap.size _ _ ho1 b1 (four ad0) cp1 hbt1 (by rw [four_len]; simp) hf01.size
     have hfp := Own.fresh ho1 hf01 (Nat.le_refl _) hfrp; rw [four_len] at hrp; have hdf := deflate_any wp base data cap (HS.out.keep hfp) dbase dict dcap (HD.out.keep hfp) lb l lc (HL.out.keep hfp) HB.out.1 HB.out.2.1 HB.out.2.2; rw [← HN.out.1, ← HN.out.2.1, ← HN.out.2.2] at hdf; have HDF := zHi hdf; have HP := zHi (zAi hop hfp); have hrp' := fun ty => hrp ty
     clear hown1 hf1 hq hok ho hJ had0' hfa hbt1 ho1 hf01 hrp hop hfrp hfp hdf HF0; go_wp2_with (at_builtin; refine wpList_append_by (by rfl) (.tmp 42) (.tmp 45) 22 (by rfl) _ _ (by rfl) (by rfl) (hrp' _) ?_)
     refine HDF.out.mono ?_; intro e w2 hpost; obtain ⟨b2, L, cp2, v3, w3, rfl, hdata, hpl, hpos, hf3, hr3, had, hfo⟩ := zlib_tail w _ w.heap.size _ _ HP.out.1 (by simp [four_len]) HP.out.2 (Nat.le_refl _) (Nat.le_refl _) base data cap HS.out HB.out.1 hpost
     obtain ⟨pl, hpl'⟩ : ∃ pl, pl = (pack L).length := ⟨_, rfl⟩; obtain ⟨ad, had'⟩ : ∃ ad, ad = adler data := ⟨_, rfl⟩; have hadl := adler_lt data; rw [← hpl'] at hr3; rw [← HN.out.1, ← had'] at had; rw [← had'] at hfo hadl; rw [← hpl']; have c4 : (ad : Int) < 4294967296 := by omega
     have HAD := zHi had; have HFO := zHi hfo; have HL2 := zHi (zAi hdata (zAi hpl (zAi hpos had'))); have hr3' := fun ty => hr3 ty
     clear hpost hdata hpl hpos hf3 hr3 had hfo hpl' had' hadl hrp'; go_wp2_with (at_builtin; refine wpList_append_by (by rfl) (.tmp 47) (.tmp 51) 22 (by rfl) _ _ (by rfl) (by rfl) (hr3' _) ?_)
     refine HAD.out.mono ?_; rintro e w4 ⟨rfl, rfl⟩; clear hr3'; go_wp2_with fail
     refine HFO.out.mono ?_; rintro e w4 ⟨b4, cp4, v5, w5, rfl, hr5, ho5, hf5⟩; have HX := zHi (zAi ho5 hf5); have hr5' := fun ty => hr5 ty
     clear ho5 hf5 hr5; go_wp2_with (at_builtin; refine wpList_append_by (by rfl) (.tmp 53) (.tmp 56) 22 (by rfl) _ _ (by rfl) (by rfl) (hr5' _) ?_)
     go_ret
     obtain ⟨hdata, hpl, hpos, had'⟩ := HL2.out; obtain ⟨ho5, hf5⟩ := HX.out; obtain ⟨hq, hok, _, hJ, had0', _⟩ := HR.out; refine ⟨v5, UInt8.ofNat A, UInt8.ofNat q, L, rfl, ?_, hok, ?_, hdata, hpl, hpos, hf5⟩
     · rw [had', had0'] at ho5; exact ho5
     · rw [hq, HH.out.2.2.2.1, HH.out.2.2.2.2.2.2]; exact ⟨fun _ => rfl, fun _ => bit5' HH.out.2.2.2.2.2.1 (by rw [← HH.out.2.2.2.2.2.2, ← HH.out.2.2.2.1]; exact hJ)⟩
theorem zw_at {w w1 : World} {has : Bool} {dict data : List UInt8} {v : Value} {a b : UInt8} {L : List Bool} (hown : Own w1 w.heap.size v (zstream a b has dict L data)) : ∃ g cap, v = .slice (some ⟨g, 0, none⟩) (zstream a b has dict L data).length cap ∧ w.heap.size ≤ g ∧ Bt w1 (some ⟨g, 0, none⟩) (zstream a b has dict L data) cap := by
 have hl := zstream_len a b has dict L data
 rcases hown.cells with ⟨rfl, h0⟩ | ⟨g, cap, rfl, h1, h2, h3, h4⟩
 · omega
 · refine ⟨g, cap, rfl, h1, ⟨rfl, fun j hj => ?_⟩, h3, fun a ha => by obtain rfl := Option.some.inj ha; exact h2, fun h => by simp at h⟩
   have := h4 j (byteV (zstream a b has dict L data)[j]) (by rw [List.getElem?_map, List.getElem?_eq_getElem hj]; rfl)
   rw [Nat.zero_add]; exact this
theorem run_headZ {w : World} {b : Option Addr} {l : List UInt8} {cap : Nat} (h : Bt w b l cap) (m : Nat) (hm : m ≤ l.length) :
 (∀ w' : World, (Instr.sliceAt 22 (.slice b l.length cap) none (some (.int .i64 (m : Int))) none).run Tryz.prog w' = .ok (.slice b m cap) w') ∧ Bt w b (l.take m) cap := by
 have hsz : ∀ w : World, (sizeOf (Tryz.prog.elem 22)).run Tryz.prog w = .ok 1 w := fun w => by kernel_rfl
 have hu : Tryz.prog.underlying 22 = some (.slice (Tryz.prog.elem 22)) := by kernel_rfl
 have hcap := h.hcap
 refine ⟨fun w' => ?_, ?_, by rw [List.length_take]; omega, h.lt, h.nilc⟩
 · rw [run_sliceAt_slice w' _ _ _ _ _ hu, run_slice_h w' _ _ _ _ hu _ _ (by omega) (by omega), hsz]
   simp only [Result.andThen, sliced, Int.toNat_natCast, Nat.sub_zero]
   cases b with
   | none => simp
   | some a => by_cases h : cap = 0 <;> simp [h, Addr.add]
 · have hb := h.bytes
   cases b with
   | none => have : l = [] := hb; subst this; simp; rfl
   | some a =>
    refine ⟨hb.1, fun j hj => ?_⟩
    rw [List.length_take] at hj; rw [hb.2 j (by omega), List.getElem_take]
end Go.Proofs.YthfncdfcklbigaaGreatDoor
