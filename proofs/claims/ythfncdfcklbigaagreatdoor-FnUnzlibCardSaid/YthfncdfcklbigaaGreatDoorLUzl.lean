/-
  Several texts in one: Uzl.
-/
import Derived.Test.YthfncdfcklbigaaGreatDoorRf
import Derived.Test.YthfncdfcklbigaaGreatDoorZc
import Derived.BigQuiet
set_option linter.unusedVariables false
set_option linter.unusedSimpArgs false
namespace Go.Proofs.YthfncdfcklbigaaGreatDoor
open Go.RowKit Go.IntWalk Flate
set_option maxRecDepth 100000
theorem isHdr_any (w : World) (a b : Nat) (ha : a < 256) (hb : b < 256) :
 Calls Tryz.prog 20 #[.int .u8 (a : Int), .int .u8 (b : Int)] w fun e w' => e = .returned (.bool (hdrOk (UInt8.ofNat a) (UInt8.ofNat b))) ∧ w = w' := by
 obtain ⟨h, hh⟩ : ∃ h, h = a * 256 + b := ⟨_, rfl⟩
 obtain ⟨A, hA⟩ : ∃ A, A = a % 16 := ⟨_, rfl⟩
 obtain ⟨r, hr⟩ : ∃ r, r = h % 31 := ⟨_, rfl⟩
 have hok : hdrOk (UInt8.ofNat a) (UInt8.ofNat b) = decide (A = 8 ∧ a / 16 ≤ 7 ∧ r = 0) := by rw [hdrOk_nat ha hb, hA, hr, hh]
 have e1 : bits .and .u8 (a : Int) 15 = (A : Int) := by rw [hA]; exact and15u8 a ha
 have e0 : (a : Int) * 256 + (b : Int) = (h : Int) := by omega
 have e2 : (h : Int) % 31 = (r : Int) := by omega
 have i1 : (h : Int) ≤ 65535 := by omega
 have i2 : (a : Int) ≤ 255 := by omega
 have i3 : (b : Int) ≤ 255 := by omega
 have HOK := zHi hok
 clear hok hh hA hr ha hb
 by_cases c1 : A = 8
 · subst c1
   by_cases c2 : a / 16 ≤ 7
   · have t2 : decide ((a : Int) / 16 ≤ 7) = true := by simp; omega
     by_cases c3 : r = 0
     · subst c3; have HC := zHi c2; clear c2
       go_enter Tryz.func20, Tryz.ntmps20
       go_wp2_with fail
       go_ret
       exact ⟨by rw [HOK.out]; have := HC.out; simp [this], rfl⟩
     · have t3 : ((r : Int) == 0) = false := by simp; omega
       have HC := zHi (zAi c2 c3); clear c2 c3
       go_enter Tryz.func20, Tryz.ntmps20
       go_wp2_with fail
       go_ret
       exact ⟨by rw [HOK.out]; have := HC.out; simp [this], rfl⟩
   · have t2 : decide ((a : Int) / 16 ≤ 7) = false := by simp; omega
     have HC := zHi c2; clear c2
     go_enter Tryz.func20, Tryz.ntmps20
     go_wp2_with fail
     go_ret
     exact ⟨by rw [HOK.out]; have := HC.out; simp [this], rfl⟩
 · have t1 : ((A : Int) == 8) = false := by simp; omega
   have HC := zHi c1; clear c1
   go_enter Tryz.func20, Tryz.ntmps20
   go_wp2_with fail
   go_ret
   exact ⟨by rw [HOK.out]; have := HC.out; simp [this], rfl⟩
def asksId (src : List UInt8) : Option Nat := if 6 ≤ src.length ∧ (src.getD 1 0).toNat / 32 % 2 = 1 then some (be4At src 2) else none
def UzBad (src : List UInt8) : Prop := ∃ f p X, Unz src [] f p X ∧ f ≠ 0
theorem uz_short {src : List UInt8} (h : src.length < 2) : UzBad src := by
 refine ⟨4, src.length, [], ?_, by omega⟩
 unfold Unz zhead
 rw [if_pos h]
 exact ⟨rfl, rfl, rfl⟩
theorem uz_head {src : List UInt8} (h : ¬ src.length < 2) (hh : hdrOk (src.getD 0 0) (src.getD 1 0) = false) : UzBad src := by
 refine ⟨1, 2, [], ?_, by omega⟩
 unfold Unz zhead
 rw [if_neg h, if_pos hh]
 exact ⟨rfl, rfl, rfl⟩
theorem uz_dict {src : List UInt8} (h : ¬ src.length < 2) (hh : hdrOk (src.getD 0 0) (src.getD 1 0) = true) (hb : (src.getD 1 0).toNat / 32 % 2 = 1) : asksId src = some 1 ∨ UzBad src := by
 by_cases h6 : src.length < 6
 · refine .inr ⟨4, src.length, [], ?_, by omega⟩
   unfold Unz zhead; rw [if_neg h, if_neg (by rw [hh]; simp), if_pos hb, if_pos h6]
   exact ⟨rfl, rfl, rfl⟩
 · by_cases h1 : be4At src 2 = adler []
   · left
     unfold asksId; rw [if_pos ⟨by omega, hb⟩, h1]
     rfl
   · refine .inr ⟨2, 6, [], ?_, by omega⟩
     unfold Unz zhead; rw [if_neg h, if_neg (by rw [hh]; simp), if_pos hb, if_neg h6, if_neg h1]
     exact ⟨rfl, rfl, rfl⟩
theorem uz_zhead {src : List UInt8} (h : ¬ src.length < 2) (hh : hdrOk (src.getD 0 0) (src.getD 1 0) = true) (hb : ¬ (src.getD 1 0).toNat / 32 % 2 = 1) : zhead src [] = .inr (2, []) := by
 unfold zhead
 rw [if_neg h, if_neg (by rw [hh]; simp), if_neg hb]
theorem uz_fault {src : List UInt8} (hz : zhead src [] = .inr (2, [])) {er : Err} {P : Nat} {X : List UInt8} (h : Infl (src.drop 2) [] er P X) (he : er ≠ .eof) : UzBad src := by
 cases er with
 | eof => exact absurd rfl he
 | cut =>
  refine ⟨4, 2 + P, X, ?_, by omega⟩
  unfold Unz; rw [hz]; exact ⟨.cut, P, h, .inr (.inl ⟨rfl, rfl, rfl⟩)⟩
 | corrupt =>
  refine ⟨5, 2 + P, X, ?_, by omega⟩
  unfold Unz; rw [hz]; exact ⟨.corrupt, P, h, .inr (.inr ⟨rfl, rfl, rfl⟩)⟩
theorem uz_cut {src : List UInt8} (hz : zhead src [] = .inr (2, [])) {P : Nat} {X : List UInt8} (h : Infl (src.drop 2) [] .eof P X) (hl : src.length < 2 + P + 4) : UzBad src := by
 refine ⟨4, src.length, X, ?_, by omega⟩
 unfold Unz
 rw [hz]
 exact ⟨.eof, P, h, .inl ⟨rfl, .inl ⟨hl, rfl, rfl⟩⟩⟩
theorem uz_sum {src : List UInt8} (hz : zhead src [] = .inr (2, [])) {P : Nat} {X : List UInt8} (h : Infl (src.drop 2) [] .eof P X) (hl : 2 + P + 4 ≤ src.length) (hs : be4At src (2 + P) ≠ adler X) : UzBad src := by
 refine ⟨3, 2 + P + 4, X, ?_, by omega⟩
 unfold Unz
 rw [hz]
 exact ⟨.eof, P, h, .inl ⟨rfl, .inr ⟨hl, rfl, by rw [if_neg hs]⟩⟩⟩
theorem be4At_drop0 (src : List UInt8) (q : Nat) : be4At (src.drop q) 0 = be4At src q := by
 have e : ∀ j, (src.drop q).getD j 0 = src.getD (q + j) 0 := fun j => by
  rw [List.getD_eq_getElem?_getD, List.getElem?_drop, List.getD_eq_getElem?_getD]
 unfold be4At
 rw [e, e, e, e]
 rfl
theorem be4At_lt (src : List UInt8) (q : Nat) : be4At src q < 4294967296 := by
 have h : ∀ x : UInt8, x.toNat < 256 := fun x => x.toBitVec.isLt
 unfold be4At be4
 have h0 := h (src.getD q 0)
 have h1 := h (src.getD (q + 1) 0)
 have h2 := h (src.getD (q + 2) 0)
 have h3 := h (src.getD (q + 3) 0)
 omega
theorem be32' (a b c d : Nat) (ha : a < 256) (hb : b < 256) (hc : c < 256) (hd : d < 256) :
 bits .or .u32 (bits .or .u32 (bits .or .u32 ((a : Int) * 16777216) ((b : Int) * 65536)) ((c : Int) * 256)) (d : Int) = (be4 a b c d : Int) := by
 rw [show ((c : Int) * 256) = ((c * 256 : Nat) : Int) by omega, show ((b : Int) * 65536) = ((b * 65536 : Nat) : Int) by omega, show ((a : Int) * 16777216) = ((a * 16777216 : Nat) : Int) by omega]
 rw [u32_or_nat _ _ (by omega) (by omega), Nat.or_comm, show a * 16777216 = a * 2 ^ 24 from rfl, or_add a _ 24 (by omega)]
 rw [u32_or_nat _ _ (by omega) (by omega), Nat.or_comm, show a * 2 ^ 24 + b * 65536 = (a * 256 + b) * 2 ^ 16 by omega, or_add _ _ 16 (by omega)]
 rw [u32_or_nat _ _ (by omega) (by omega), Nat.or_comm, show (a * 256 + b) * 2 ^ 16 + c * 256 = ((a * 256 + b) * 256 + c) * 2 ^ 8 by omega, or_add _ _ 8 (by omega)]
 unfold be4
 omega
theorem number_any (w : World) (base : Option Addr) (l : List UInt8) (cap : Nat) (hs : Bytes w base l) (h4 : 4 ≤ l.length) :
 Calls Tryz.prog 24 #[.slice base l.length cap] w fun e w' => e = .returned (.int .u32 (be4At l 0 : Int)) ∧ Frm (fun _ _ => False) w w' := by
 obtain ⟨ab, ao, rfl⟩ := hs.at (by omega)
 have cell : ∀ j, j < 4 → ∃ x : Nat, x < 256 ∧ x = (l.getD j 0).toNat ∧ w.cell? ⟨ab, ao + j, none⟩ = some (.int .u8 (x : Int)) := fun j hj => by
  have hjl : j < l.length := by omega
  refine ⟨(l.getD j 0).toNat, (l.getD j 0).toBitVec.isLt, rfl, ?_⟩; rw [List.getD_eq_getElem?_getD, List.getElem?_eq_getElem hjl]; exact hs.2 j hjl
 obtain ⟨a, ha, ea, k0⟩ := cell 0 (by omega)
 obtain ⟨b, hb, eb, k1⟩ := cell 1 (by omega)
 obtain ⟨c, hc, ec, k2⟩ := cell 2 (by omega)
 obtain ⟨d, hd, ed, k3⟩ := cell 3 (by omega)
 have hbe : be4At l 0 = be4 a b c d := by unfold be4At; rw [ea, eb, ec, ed]
 rw [Nat.add_zero] at k0
 have hbb := be32' a b c d ha hb hc hd
 obtain ⟨N, hN⟩ : ∃ N, N = be4 a b c d := ⟨_, rfl⟩
 rw [← hN] at hbb hbe
 obtain ⟨n, hn⟩ : ∃ n, n = l.length := ⟨_, rfl⟩
 rw [← hn] at h4 ⊢
 rw [hbe]
 have c1 : (a : Int) < 256 := by omega
 have c2 : (b : Int) < 256 := by omega
 have c3 : (c : Int) < 256 := by omega
 have c4 : (d : Int) < 256 := by omega
 have n0 : 0 < n := by omega
 have n1 : 1 < n := by omega
 have n2 : 2 < n := by omega
 have n3 : 3 < n := by omega
 have HB := zHi hbb
 clear hs cell ea eb ec ed hbe hbb hN hn h4 ha hb hc hd
 go_enter Tryz.func24, Tryz.ntmps24
 go_upto_region 1 with (fail)
 (go_quiet (fail))
 go_wp2_with fail
 go_ret
 exact ⟨congrArg (fun x => Ending.returned (.int .u32 x)) HB.out, (Frm.refl _ _).drewN _⟩
def AskPost (w : World) (src : List UInt8) (e : Ending) (w' : World) : Prop :=
 (asksId src = none ∧ e = .returned (.tuple #[.int .u32 0, .bool false]) ∨ ∃ id, asksId src = some id ∧ id < 4294967296 ∧ e = .returned (.tuple #[.int .u32 (id : Int), .bool true])) ∧ Frm (fun _ _ => False) w w'
theorem asks_any (w : World) (base : Option Addr) (src : List UInt8) (cap : Nat) (hs : Bt w base src cap) :
 Calls Tryz.prog 15 #[.slice base src.length cap] w (AskPost w src) := by
 by_cases h6 : src.length < 6
 · have hret : AskPost w src (.returned (.tuple #[.int .u32 0, .bool false])) w := ⟨.inl ⟨by unfold asksId; rw [if_neg (fun q => by omega)], rfl⟩, Frm.refl _ _⟩
   have HX := zHi hret; obtain ⟨n, hn⟩ : ∃ n, n = src.length := ⟨_, rfl⟩; rw [← hn] at h6 ⊢; have t1 : decide ((n : Int) < 6) = true := by simp; omega
   clear hret hs hn
   go_enter Tryz.func15, Tryz.ntmps15
   go_wp2_with fail
   go_ret2
   exact HX.out
 · obtain ⟨ab, ao, rfl⟩ := hs.bytes.at (by omega)
   have hcell : w.cell? ⟨ab, ao + 1, none⟩ = some (.int .u8 ((src.getD 1 0).toNat : Int)) := by
    have h1 : 1 < src.length := by omega
    rw [List.getD_eq_getElem?_getD, List.getElem?_eq_getElem h1]; exact hs.bytes.2 1 h1
   obtain ⟨c, hc⟩ : ∃ c, c = (src.getD 1 0).toNat := ⟨_, rfl⟩; have hcl : c < 256 := by rw [hc]; exact (src.getD 1 0).toBitVec.isLt
   rw [← hc] at hcell; have h32 := and32u8 c hcl; have c1 : (c : Int) ≤ 255 := by omega
   obtain ⟨b', hrun, hbt⟩ := run_tailB hs 2 (by omega)
   have hrun' : ∀ w' : World, (Instr.sliceAt 22 (.slice (some ⟨ab, ao, none⟩) src.length cap) (some (.int .i64 2)) none none).run Tryz.prog w' = .ok (.slice b' (src.length - 2) (cap - 2)) w' := hrun; have hnum := number_any w b' (src.drop 2) (cap - 2) hbt.bytes (by rw [List.length_drop]; omega)
   rw [be4At_drop0, List.length_drop] at hnum; have hid : c / 32 % 2 = 1 → asksId src = some (be4At src 2) := fun q => by unfold asksId; rw [if_pos ⟨by omega, by rw [← hc]; exact q⟩]
   have hno : ¬ c / 32 % 2 = 1 → asksId src = none := fun q => by unfold asksId; rw [if_neg (fun k => q (by rw [hc]; exact k.2))]
   obtain ⟨n, hn⟩ : ∃ n, n = src.length := ⟨_, rfl⟩; rw [← hn] at h6 hrun' hnum ⊢; have t1 : decide ((n : Int) < 6) = false := by simp; omega
   have n1 : 1 < n := by omega
   obtain ⟨n2, hn2⟩ : ∃ n2, n2 = n - 2 := ⟨_, rfl⟩; rw [← hn2] at hrun' hnum; have HNM := zHi hnum; have HI := zHi (zAi hid hno); have hlt := be4At_lt src 2; have HLT := zHi hlt
   by_cases hbit : c / 32 % 2 = 1
   · rw [if_pos hbit] at h32; have HB := zHi hbit; clear hs h6 hc hcl hrun hbt hnum hid hno hn hn2 hbit hlt
     go_enter Tryz.func15, Tryz.ntmps15
     go_wp2_with fail
     refine HNM.out.mono ?_; rintro e w1 ⟨rfl, hf1⟩; have HF := zHi hf1; clear hf1; go_wp2_with fail
     go_ret2
     exact ⟨.inr ⟨_, HI.out.1 HB.out, HLT.out, rfl⟩, HF.out⟩
   · rw [if_neg hbit] at h32; have HB := zHi hbit; clear hs h6 hc hcl hrun hbt hnum hid hno hn hn2 hbit hlt hrun' HNM
     go_enter Tryz.func15, Tryz.ntmps15
     go_wp2_with fail
     go_ret2
     exact ⟨.inl ⟨HI.out.2 HB.out, rfl⟩, Frm.refl _ _⟩
def UzSp (w : World) (src : List UInt8) (e : Ending) (w' : World) : Prop :=
 (∃ (b : Option Addr) (X : List UInt8) (c P : Nat), e = .returned (.tuple #[.slice b X.length c, .int .i64 (P : Int), .bool true]) ∧ Bt w' b X c ∧ Unz src [] 0 P X ∧ asksId src = none ∧ P ≤ src.length ∧ Frm (fun _ _ => False) w w') ∨
 (e = .returned (.tuple #[.slice none 0 0, .int .i64 0, .bool false]) ∧ (asksId src = some 1 ∨ UzBad src) ∧ Frm (fun _ _ => False) w w')
set_option maxHeartbeats 1000000 in
theorem unzlib_any (w : World) (base : Option Addr) (src : List UInt8) (cap : Nat) (hs : Bt w base src cap) (hsl : src.length ≤ 2147483647) :
 Calls Tryz.prog 13 #[.slice base src.length cap, .slice none 0 0, .bool false] w (UzSp w src) := by
 have hbad : ∀ w', Frm (fun _ _ => False) w w' → (asksId src = some 1 ∨ UzBad src) → UzSp w src (.returned (.tuple #[.slice none 0 0, .int .i64 0, .bool false])) w' := fun w' h1 h2 => .inr ⟨rfl, h2, h1⟩
 have HBAD := zHi hbad
 clear hbad
 by_cases h2 : src.length < 2
 · have hu := uz_short h2; have HX := zHi hu; obtain ⟨n, hn⟩ : ∃ n, n = src.length := ⟨_, rfl⟩; rw [← hn] at h2 ⊢; have t1 : decide ((n : Int) < 2) = true := by simp; omega
   clear hu hs hn hsl
   go_enter Tryz.func13, Tryz.ntmps13
   go_upto_region 1 with (fail)
   (go_quiet (fail))
   go_wp2_with fail
   go_ret3
   exact HBAD.out _ ((Frm.refl _ _).drewN _) (.inr HX.out)
 · obtain ⟨ab, ao, rfl⟩ := hs.bytes.at (by omega)
   have cell : ∀ j, j < 2 → w.cell? ⟨ab, ao + j, none⟩ = some (.int .u8 ((src.getD j 0).toNat : Int)) := fun j hj => by
    have h1 : j < src.length := by omega
    rw [List.getD_eq_getElem?_getD, List.getElem?_eq_getElem h1]; exact hs.bytes.2 j h1
   have k0 := cell 0 (by omega)
   have k1 := cell 1 (by omega)
   rw [Nat.add_zero] at k0; obtain ⟨a, ha⟩ : ∃ a, a = (src.getD 0 0).toNat := ⟨_, rfl⟩; obtain ⟨c, hc⟩ : ∃ c, c = (src.getD 1 0).toNat := ⟨_, rfl⟩; have hal : a < 256 := by rw [ha]; exact (src.getD 0 0).toBitVec.isLt
   have hcl : c < 256 := by rw [hc]; exact (src.getD 1 0).toBitVec.isLt
   rw [← ha] at k0; rw [← hc] at k1; have hhd : hdrOk (UInt8.ofNat a) (UInt8.ofNat c) = hdrOk (src.getD 0 0) (src.getD 1 0) := by rw [ha, hc, UInt8.ofNat_toNat, UInt8.ofNat_toNat]
   obtain ⟨n, hn⟩ : ∃ n, n = src.length := ⟨_, rfl⟩; have t1 : decide ((n : Int) < 2) = false := by simp; omega
   have n0 : 0 < n := by omega
   have n1 : 1 < n := by omega
   have n1' : ¬ n < 2 := by omega
   have n1i : (1 : Int) < (n : Int) := by omega
   have n2i : (2 : Int) ≤ (n : Int) := by omega
   have c1 : (a : Int) ≤ 255 := by omega
   have c2 : (c : Int) ≤ 255 := by omega
   have c3 : (n : Int) ≤ 2147483647 := by omega
   have h32 := and32u8 c hcl; have HA := zHi (zAi hs (zAi hsl (zAi h2 (zAi ha (zAi hc (zAi hal (zAi hcl hn))))))); obtain ⟨ok, hok⟩ : ∃ ok, ok = hdrOk (UInt8.ofNat a) (UInt8.ofNat c) := ⟨_, rfl⟩; have hih : ∀ w', Calls Tryz.prog 20 #[.int .u8 (a : Int), .int .u8 (c : Int)] w' fun e w'' => e = .returned (.bool ok) ∧ w'' = w' := fun w' => by rw [hok]; exact (isHdr_any w' a c hal hcl).mono fun e w'' ⟨h1, h2⟩ => ⟨h1, h2.symm⟩
   have HIH := zHi hih; have HOK := zHi (hok.trans hhd); rw [← hn]; clear hs hsl h2 cell ha hc hal hcl hhd hn hok hih
   cases ok with
   | false =>
    have hu := uz_head HA.out.2.2.1 HOK.out.symm; have HX := zHi hu; clear hu h32
    go_enter Tryz.func13, Tryz.ntmps13
    go_upto_region 1 with (fail)
    go_quiet ((go_at_call 20; exact Calls.quiet_of_same (HIH.out _)))
    go_wp2_with fail
    go_ret3
    exact HBAD.out _ ((Frm.refl _ _).drewN _) (.inr HX.out)
   | true =>
    have hh := HOK.out.symm
    by_cases hbit : c / 32 % 2 = 1
    · rw [if_pos hbit] at h32; have hu := uz_dict HA.out.2.2.1 hh (by rw [← HA.out.2.2.2.2.1]; exact hbit)
      have hask : ∀ k, Calls Tryz.prog 15 #[.slice (some ⟨ab, ao, none⟩) n cap] (w.drewN k) (AskPost (w.drewN k) src) := fun k => by
       have := asks_any (w.drewN k) (some ⟨ab, ao, none⟩) src cap (HA.out.1.keep ((Frm.refl _ _).drewN k)); rw [← HA.out.2.2.2.2.2.2.2] at this; exact this
      have HX := zHi hu; have HASK := zHi hask; clear hu hh hbit hask
      go_enter Tryz.func13, Tryz.ntmps13
      go_upto_region 1 with (fail)
      go_quiet ((go_at_call 20; exact Calls.quiet_of_same (HIH.out _)))
      go_wp2_with fail
      refine (HASK.out _).mono ?_; rintro e w2 ⟨hcase, hf2⟩; have HF := zHi hf2; clear hf2; rcases hcase with ⟨_, rfl⟩ | ⟨id, _, hid, rfl⟩
      · go_wp2_with fail
        go_ret3
        exact HBAD.out _ (((Frm.refl _ _).drewN _).trans HF.out) HX.out
      · clear hid; go_wp2_with fail
        go_ret3
        exact HBAD.out _ (((Frm.refl _ _).drewN _).trans HF.out) HX.out
    · rw [if_neg hbit] at h32; have hz := uz_zhead HA.out.2.2.1 hh (by rw [← HA.out.2.2.2.2.1]; exact hbit)
      have hno : asksId src = none := by unfold asksId; rw [if_neg (fun k => hbit (by rw [HA.out.2.2.2.2.1]; exact k.2))]
      obtain ⟨b2, hrun, hbt⟩ := run_tailB HA.out.1 2 (by have := HA.out.2.2.1; omega)
      have hrun' : ∀ w' : World, (Instr.sliceAt 22 (.slice (some ⟨ab, ao, none⟩) src.length cap) (some (.int .i64 2)) none none).run Tryz.prog w' = .ok (.slice b2 (src.length - 2) (cap - 2)) w' := hrun; have hrf : ∀ k, Calls Tryz.prog 23 #[.slice b2 (src.length - 2) (cap - 2), .slice none 0 0] (w.drewN k) (RfPost (w.drewN k) (src.drop 2) []) := fun k => by
       have := rinflate_any (w.drewN k) b2 (src.drop 2) (cap - 2) (hbt.keep ((Frm.refl _ _).drewN k)) (by rw [List.length_drop]; have := HA.out.2.1; omega) none [] 0 (bt_nil _) (by simp)
       rw [List.length_drop] at this; exact this
      rw [← HA.out.2.2.2.2.2.2.2] at hrun' hrf; obtain ⟨m, hm⟩ : ∃ m, m = n - 2 := ⟨_, rfl⟩; rw [← hm] at hrun' hrf; have HZ := zHi (zAi hz hno); have HRF := zHi hrf; clear hh hbit hz hno hrun hbt hrf hm
      go_enter Tryz.func13, Tryz.ntmps13
      go_upto_region 1 with (fail)
      go_quiet ((go_at_call 20; exact Calls.quiet_of_same (HIH.out _)))
      go_wp2_with fail
      refine (HRF.out _).mono ?_; rintro e w2 (⟨bX, X, cX, P, rfl, hbX, hI, hf2⟩ | ⟨rfl, ⟨er, P, X, hI, hne⟩, hf2⟩)
      · have hfw : Frm (fun _ _ => False) w w2 := ((Frm.refl _ _).drewN _).trans hf2
        obtain ⟨q, hq⟩ : ∃ q, q = 2 + P := ⟨_, rfl⟩; obtain ⟨q4, hq4⟩ : ∃ q4, q4 = q + 4 := ⟨_, rfl⟩; have hPl := hI.le.1; have hXl := hI.le.2; rw [List.length_drop] at hPl hXl; have hn := HA.out.2.2.2.2.2.2.2; have hsl := HA.out.2.1; have hn2 := HA.out.2.2.1; have e1 : (2 : Int) + (P : Int) = (q : Int) := by omega
        have e2 : (q : Int) + 4 = (q4 : Int) := by omega
        have d1 : (P : Int) ≤ 2147483647 := by omega
        have d2 : (q : Int) ≤ 2147483649 := by omega
        have d3 : (q4 : Int) ≤ 2147483653 := by omega
        obtain ⟨nx, hnx⟩ : ∃ nx, nx = X.length := ⟨_, rfl⟩; rw [← hnx]
        by_cases h4 : n < q4
        · have t2 : decide ((n : Int) < (q4 : Int)) = true := by simp; omega
          have t2' : n < q4 := h4; have HX := zHi (zAi hfw (uz_cut HZ.out.1 hI (by omega)))
          clear hfw hq hq4 hPl hXl hn hsl hn2 hnx hbX hI hf2 h4; go_wp2_with fail
          go_ret3
          exact HBAD.out _ HX.out.1 (.inr HX.out.2)
        · have t2 : decide ((n : Int) < (q4 : Int)) = false := by simp; omega
          have t2' : ¬ n < q4 := h4; obtain ⟨b3, hrun3, hbt3⟩ := run_tailB (HA.out.1.keep hfw) q (by omega)
          have hnum := number_any w2 b3 (src.drop q) (cap - q) hbt3.bytes (by rw [List.length_drop]; omega)
          rw [be4At_drop0, List.length_drop, ← hn] at hnum; rw [← hn] at hrun3; obtain ⟨m3, hm3⟩ : ∃ m3, m3 = n - q := ⟨_, rfl⟩; obtain ⟨N4, hN4⟩ : ∃ N4, N4 = be4At src q := ⟨_, rfl⟩; obtain ⟨A, hA⟩ : ∃ A, A = adler X := ⟨_, rfl⟩; rw [← hm3, ← hN4] at hnum; rw [← hm3] at hrun3; have had : ∀ w3, Frm (fun _ _ => False) w2 w3 → Calls Tryz.prog 21 #[.slice bX nx cX] w3 fun e w' => e = .returned (.int .u32 (A : Int)) ∧ w' = w3 := fun w3 hf3 => by
           have := adler_any w3 bX X cX (hbX.keep hf3).bytes (by omega)
           rw [← hnx, ← hA] at this; exact this
          have HNM := zHi hnum; have HAD := zHi had; have hX3 : N4 ≠ A → UzBad src := fun hne => uz_sum HZ.out.1 hI (by omega) (by rw [← hq, ← hN4, ← hA]; exact hne)
          have hX4 : N4 = A → Unz src [] 0 q4 X := fun he => by
           rw [hq4, hq]; exact unz_infl HZ.out.1 hI (by omega) (by rw [← hq, ← hN4, ← hA]; exact he)
          have HX := zHi (zAi hfw (zAi hX3 (zAi hX4 (zAi hbX (zAi hnx (show q4 ≤ src.length by omega))))))
          have hr3 := hrun3; clear hfw hq hq4 hPl hXl hn hsl hn2 hnx hbX hI hf2 h4 hrun3 hbt3 hnum hm3 hN4 hA had hX3 hX4
          by_cases hNA : N4 = A
          · subst hNA; go_wp2_with fail
            refine HNM.out.mono ?_; rintro e w3 ⟨rfl, hf3⟩; have HF3 := zHi hf3; have HAD3 := zHi (HAD.out w3 hf3); clear hf3; go_wp2_with fail
            refine HAD3.out.mono ?_; rintro e w4 ⟨rfl, rfl⟩; go_wp2_with fail
            go_ret3
            obtain ⟨hfw, hX3, hX4, hbX, hnx, hql⟩ := HX.out; rw [hnx]; exact .inl ⟨bX, X, cX, q4, rfl, hbX.keep HF3.out, hX4 (by first | rfl | trivial), HZ.out.2, hql, hfw.trans HF3.out⟩
          · have t3 : ((N4 : Int) != (A : Int)) = true := by simp; omega
            have HNA := zHi hNA; clear hNA; go_wp2_with fail
            refine HNM.out.mono ?_; rintro e w3 ⟨rfl, hf3⟩; have HF3 := zHi hf3; have HAD3 := zHi (HAD.out w3 hf3); clear hf3; go_wp2_with fail
            refine HAD3.out.mono ?_; rintro e w4 ⟨rfl, rfl⟩; go_wp2_with fail
            go_ret3
            exact HBAD.out _ (HX.out.1.trans HF3.out) (.inr (HX.out.2.1 HNA.out))
      · have HX := zHi (zAi (((Frm.refl (fun _ _ => False) w).drewN nq).trans hf2) (uz_fault HZ.out.1 hI hne))
        clear hI hne hf2; go_wp2_with fail
        go_ret3
        exact HBAD.out _ HX.out.1 (.inr HX.out.2)
set_option maxHeartbeats 1000000 in
theorem fnUnzlib_any (w : World) (C : Nat) (p : Ps) (he : Env w C p) (base : Option Addr) (src : List UInt8) (cap : Nat) (hs : Bt w base src cap) :
 Calls Tryz.prog 3 #[.slice base src.length cap] w fun e w' => e = .returned (.bool true) ∧ Frm (fun _ _ => False) w w' := by
 have HE := zHi he
 have HS := zHi hs
 clear he hs
 obtain ⟨n, hn⟩ : ∃ n, n = src.length := ⟨_, rfl⟩
 rw [← hn]
 have HN := zHi hn
 clear hn
 by_cases h1 : 2147483647 < n
 · have t1 : decide ((2147483647 : Int) < (n : Int)) = true := by simp; omega
   clear h1
   go_enter Tryz.func3, Tryz.ntmps3
   go_wp2_with fail
   go_ret
   exact ⟨rfl, Frm.refl _ _⟩
 have t1 : decide ((2147483647 : Int) < (n : Int)) = false := by simp; omega
 have hsl : src.length ≤ 2147483647 := by have := HN.out; omega
 have c1 : (n : Int) ≤ 2147483647 := by omega
 have huz := unzlib_any w base src cap HS.out hsl
 rw [← HN.out] at huz
 have HUZ := zHi huz
 have hup : ∀ w1, Frm (fun _ _ => False) w w1 → Calls Tryz.prog 14 #[.slice base n cap, .slice none 0 0, .bool false, .slice none 0 0] w1 (UnzPost w1 src []) := fun w1 hf => by
  have := unpack_any w1 C p (HE.out.keep hf (fun _ _ e => e.elim)) base src cap (HS.out.keep hf) (by omega) none [] 0 (bt_nil _) (by simp) false none 0 0 (nilSizes _ _ _)
  rw [← HN.out] at this; exact this
 have HUP := zHi hup
 have hask : ∀ w2, Frm (fun _ _ => False) w w2 → Calls Tryz.prog 15 #[.slice base n cap] w2 (AskPost w2 src) := fun w2 hf => by
  have := asks_any w2 base src cap (HS.out.keep hf); rw [← HN.out] at this; exact this
 have HASK := zHi hask
 clear h1 hsl huz hup hask
 go_enter Tryz.func3, Tryz.ntmps3
 go_wp2_with fail
 refine HUZ.out.mono ?_
 rintro e w1 (⟨bX, X, cX, P, rfl, hbX, hU, hno, hPl, hf1⟩ | ⟨rfl, hbad, hf1⟩)
 · obtain ⟨nx, hnx⟩ : ∃ nx, nx = X.length := ⟨_, rfl⟩; rw [← hnx]; have HUP1 := zHi (HUP.out w1 hf1); have H1 := zHi (zAi hbX (zAi hU (zAi hno (zAi hPl (zAi hf1 hnx))))); clear hbX hU hno hPl hf1 hnx; go_wp2_with fail
   refine HUP1.out.mono ?_; rintro e w2 ⟨v, f2, P2, X2, hU2, rfl, hown, hf2⟩; obtain ⟨hbX, hU, hno, hPl, hf1, hnx⟩ := H1.out; obtain ⟨rfl, rfl, rfl⟩ := hU.unique hU2; obtain ⟨b2, c2, rfl, hbt2⟩ := hown.bt; have hsame := fun w3 (hf3 : Frm (fun _ _ => False) w2 w3) => same_any w3 b2 bX X2 X2 c2 cX (hbt2.keep hf3).bytes ((hbX.keep hf2).keep hf3).bytes
   rw [sameB_refl, ← hnx] at hsame; rw [← hnx]; obtain ⟨rr, hrr⟩ : ∃ rr, rr = src.length - P2 := ⟨_, rfl⟩; rw [← hrr]; have hn := HN.out; have e1 : (n : Int) - (P2 : Int) = (rr : Int) := by omega
   have c2' : (P2 : Int) ≤ (n : Int) := by omega
   have HSM := zHi hsame; have HAS := zHi (HASK.out w2 (hf1.trans hf2)); have HX := zHi (zAi hno (hf1.trans hf2)); clear hbX hU hno hPl hf1 hnx hU2 hown hf2 hbt2 hsame hrr hn; go_wp2_with fail
   refine HAS.out.mono ?_; rintro e w3 ⟨hcase, hf3⟩; have HF3 := zHi hf3; have HSM3 := zHi (HSM.out w3 hf3); clear hf3; rcases hcase with ⟨_, rfl⟩ | ⟨id, hid, _, _⟩
   · go_wp2_with fail
     refine HSM3.out.mono ?_; rintro e w4 ⟨rfl, rfl⟩; go_wp2_with fail
     go_ret
     exact ⟨rfl, HX.out.2.trans HF3.out⟩
   · rw [HX.out.1] at hid; simp at hid
 · have HUP1 := zHi (HUP.out w1 hf1); have H1 := zHi (zAi hbad hf1); clear hbad hf1; go_wp2_with fail
   refine HUP1.out.mono ?_; rintro e w2 ⟨v, f2, P2, X2, hU2, rfl, hown, hf2⟩; have hf02 := H1.out.2.trans hf2; have HAS := zHi (HASK.out w2 hf02); have HX := zHi (zAi hU2 hf02); obtain ⟨rr, hrr⟩ : ∃ rr, rr = src.length - P2 := ⟨_, rfl⟩; rw [← hrr]; clear hU2 hown hf2 hf02 hrr; go_wp2_with fail
   refine HAS.out.mono ?_; rintro e w3 ⟨hcase, hf3⟩; have HF3 := zHi (HX.out.2.trans hf3); have HLT := zHi (little_any w3 C p (HE.out.keep (HX.out.2.trans hf3) (fun _ _ e => e.elim)))
   clear hf3; have fin : asksId src ≠ some 1 → f2 ≠ 0 := fun hne => by
    rcases H1.out.1 with h | ⟨f, p, Y, hY, hf⟩
    · exact absurd h hne
    · obtain ⟨h1, _⟩ := hY.unique HX.out.1; omega
   have HFIN := zHi fin; clear fin; have last : f2 ≠ 0 → ((f2 : Int) != 0) = true := fun h => by simp; omega
   rcases hcase with ⟨hno, rfl⟩ | ⟨id, hid, hidl, rfl⟩
   · have t3 := last (HFIN.out (by rw [hno]; simp))
     have t3' : ¬ f2 = 0 := HFIN.out (by rw [hno]; simp)
     clear hno last; go_wp2_with fail
     refine HLT.out.mono ?_; rintro e w4 ⟨rfl, hf4⟩; have HF4 := zHi hf4; clear hf4; go_wp2_with fail
     go_ret
     exact ⟨rfl, HF3.out.trans HF4.out⟩
   · by_cases h1 : id = 1
     · subst h1; clear hid hidl last; go_wp2_with fail
       refine HLT.out.mono ?_; rintro e w4 ⟨rfl, hf4⟩; have HF4 := zHi hf4; clear hf4; go_wp2_with fail
       go_ret
       exact ⟨rfl, HF3.out.trans HF4.out⟩
     · have hne : asksId src ≠ some 1 := by rw [hid]; exact fun q => h1 (Option.some.inj q)
       have t3 := last (HFIN.out hne); have t3' : ¬ f2 = 0 := HFIN.out hne; have t4 : ((id : Int) == 1) = false := by simp; omega
       clear hid hidl last hne h1; go_wp2_with fail
       refine HLT.out.mono ?_; rintro e w4 ⟨rfl, hf4⟩; have HF4 := zHi hf4; clear hf4; go_wp2_with fail
       go_ret
       exact ⟨rfl, HF3.out.trans HF4.out⟩
end Go.Proofs.YthfncdfcklbigaaGreatDoor
