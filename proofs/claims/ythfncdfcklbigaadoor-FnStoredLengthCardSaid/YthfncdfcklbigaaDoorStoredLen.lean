/-
  'laws.FnStoredLength', walked: a stored block whose length and complement do not agree is refused.
-/
import Derived.Test.YthfncdfcklbigaaDoorLaw
import Derived.Laws.BitsAllLaws
import Derived.OpenShut
import Derived.IntWalk
set_option linter.unusedVariables false
set_option linter.unusedSimpArgs false
namespace Go.Proofs.YthfncdfcklbigaaDoor
open Go.RowKit Go.ChangeShapes Go.WideShapes Go.IntWalk Flate
set_option maxRecDepth 100000

theorem xor_byte (n : Nat) (h : n < 256) : n ^^^ 255 = 255 - n := by
  have : ∀ k : Fin 256, k.1 ^^^ 255 = 255 - k.1 := by decide +kernel
  exact this ⟨n, h⟩

theorem xor_all (n : Nat) (h : n < 65536) : n ^^^ 65535 = 65535 - n := by
  have h1 := xor_byte (n % 256) (Nat.mod_lt _ (by omega))
  have h2 := xor_byte (n / 256) (by omega)
  have e1 : (n ^^^ 65535) % 2 ^ 8 = (n % 2 ^ 8) ^^^ (65535 % 2 ^ 8) := Nat.xor_mod_two_pow
  have e2 : (n ^^^ 65535) / 2 ^ 8 = (n / 2 ^ 8) ^^^ (65535 / 2 ^ 8) := by rw [← Nat.shiftRight_eq_div_pow, ← Nat.shiftRight_eq_div_pow, ← Nat.shiftRight_eq_div_pow, Nat.shiftRight_xor_distrib]
  simp only [Nat.reducePow, Nat.reduceMod, Nat.reduceDiv] at e1 e2
  rw [h1] at e1
  rw [h2] at e2
  omega

theorem xor_sum {n m : Nat} (hn : n < 65536) (hm : m < 65536) : n ^^^ m = 65535 ↔ n + m = 65535 := by
  constructor
  · intro h
    have h2 : m = n ^^^ 65535 := by rw [← h, ← Nat.xor_assoc, Nat.xor_self, Nat.zero_xor]
    rw [xor_all n hn] at h2; omega
  · intro h
    have : m = n ^^^ 65535 := by rw [xor_all n hn]; omega
    rw [this, ← Nat.xor_assoc, Nat.xor_self, Nat.zero_xor]

theorem u16_xor (a b : Nat) (ha : a < 65536) (hb : b < 65536) : bits .xor .u16 (a : Int) (b : Int) = ((a ^^^ b : Nat) : Int) := by
  have hx : a ^^^ b < 2 ^ 16 := Nat.xor_lt_two_pow (by omega) (by omega)
  have ea : ∀ a : Nat, a < 65536 → (BitVec.ofInt 16 (a : Int)).toNat = a := fun a ha => by rw [BitVec.ofInt_natCast, BitVec.toNat_ofNat]; exact Nat.mod_eq_of_lt (by omega)
  show IntKind.u16.wrap ((BitVec.ofInt 16 (a : Int) ^^^ BitVec.ofInt 16 (b : Int)).toNat : Int) = _
  rw [BitVec.toNat_xor, ea a ha, ea b hb]
  have : ((a ^^^ b : Nat) : Int) < 65536 := by omega
  simp only [IntKind.wrap, IntKind.signed, IntKind.bits]
  simp
  omega

theorem fnStoredLength_any (w : World) (C : Nat) (p : Ps) (he : Env w C p) (x : Int) (hx : (Lit.int .u16 x).wf = true) (y : Int) (hy : (Lit.int .u16 y).wf = true) (base : Option Addr) (src : List UInt8) (cap : Nat) (hs : Bt w base src cap) :
    Calls Tryd.prog 15 #[.int .u16 x, .int .u16 y, .slice base src.length cap] w fun e w' => e = .returned (.bool true) ∧ Frm (fun _ _ => False) w w' := by
  have b16 : ∀ {z : Int}, (Lit.int .u16 z).wf = true → ∃ k : Nat, z = (k : Int) ∧ k < 65536 := fun {z} h => by
    simp [Lit.wf, IntKind.min, IntKind.max, IntKind.signed, IntKind.bits] at h
    exact ⟨z.toNat, by omega, by omega⟩
  obtain ⟨n, rfl, hn⟩ := b16 hx
  obtain ⟨m, rfl, hm⟩ := b16 hy
  have HE := Lib.hid he
  have HS := Lib.hid hs
  clear he hs hx hy b16
  obtain ⟨n1, hn1⟩ : ∃ n1, n1 = src.length := ⟨_, rfl⟩
  rw [← hn1]
  have HN := Lib.hid hn1
  clear hn1
  go_enter Tryd.func15, Tryd.ntmps15
  by_cases h1 : 2147483647 < n1
  · have t1 : decide ((2147483647 : Int) < (n1 : Int)) = true := by simp; omega
    clear h1
    go_wp2_with fail
    go_ret
    exact ⟨rfl, Frm.refl _ _⟩
  · have t1 : decide ((2147483647 : Int) < (n1 : Int)) = false := by simp; omega
    have c1 : (n : Int) ≤ 65535 := by omega
    have c2 : (m : Int) ≤ 65535 := by omega
    have HNM := Lib.hid (And.intro hn hm)
    clear hn hm
    have hlen : src.length ≤ 2147483647 := by have := HN.out; omega
    have H1 := Lib.hid h1
    have e1 : ∀ k : Nat, ((UInt8.ofNat k).toNat : Int) = (k : Int) % 256 := fun k => by simp only [UInt8.toNat_ofNat']; omega
    have e2 : ∀ k : Nat, k < 65536 → ((UInt8.ofNat (k / 256)).toNat : Int) = (k : Int) / 256 := fun k hk => by simp only [UInt8.toNat_ofNat']; omega
    have ho := own_new w [1, UInt8.ofNat n, UInt8.ofNat (n / 256), UInt8.ofNat m, UInt8.ofNat (m / 256)] (by simp [maxLen])
    simp only [List.map_cons, List.map_nil, List.length_cons, List.length_nil, Nat.zero_add, Nat.reduceAdd, byteV, e2 n HNM.out.1, e2 m HNM.out.2] at ho
    simp only [e1] at ho
    have ho : Own (w.alloc (.cells #[.int .u8 1, .int .u8 ((n : Int) % 256), .int .u8 ((n : Int) / 256), .int .u8 ((m : Int) % 256), .int .u8 ((m : Int) / 256)] 5)) w.heap.size (.slice (some ⟨w.heap.size, 0, none⟩) 5 5) [1, UInt8.ofNat n, UInt8.ofNat (n / 256), UInt8.ofNat m, UInt8.ofNat (m / 256)] := ho
    have hf1 : Frm (fun _ _ => False) w (w.alloc (.cells #[.int .u8 1, .int .u8 ((n : Int) % 256), .int .u8 ((n : Int) / 256), .int .u8 ((m : Int) % 256), .int .u8 ((m : Int) / 256)] 5)) := (Frm.refl _ _).alloc _
    obtain ⟨v', w2, hrun, hown, hf2, _⟩ := append_bt _ w.heap.size _ _ ho base src cap (HS.out.keep hf1) (by simp only [List.length_cons, List.length_nil]; omega) hf1.size
    rw [← HN.out] at hrun
    have hf := ho.fresh hf1 (Nat.le_refl _) hf2
    obtain ⟨b2, cap2, rfl, hbt⟩ := hown.bt
    obtain ⟨S, hS⟩ : ∃ S, S = [1, UInt8.ofNat n, UInt8.ofNat (n / 256), UInt8.ofNat m, UInt8.ofNat (m / 256)] ++ src := ⟨_, rfl⟩
    rw [← hS] at hbt hrun hown
    have hSc : S = 1 :: UInt8.ofNat n :: UInt8.ofNat (n / 256) :: UInt8.ofNat m :: UInt8.ofNat (m / 256) :: src := by rw [hS]; rfl
    have hSl : S.length = 5 + n1 := by rw [hS, HN.out]; simp; omega
    have hin := inflate_any w2 C p (HE.out.keep hf (fun _ _ e => e.elim)) b2 S cap2 hbt (by rw [hSl, HN.out]; omega) none [] 0 (bt_nil _) (by simp) false none 0 0 (nilSizes _ _ _)
    have hlaw := stored_len n m src HNM.out.1 HNM.out.2
    obtain ⟨n2, hn2⟩ : ∃ n2, n2 = S.length := ⟨_, rfl⟩
    rw [← hn2] at hin hrun
    obtain ⟨xx, hxx⟩ : ∃ xx, xx = n ^^^ m := ⟨_, rfl⟩
    have hxor := u16_xor n m HNM.out.1 HNM.out.2
    have hsum := xor_sum HNM.out.1 HNM.out.2
    rw [← hxx] at hxor hsum
    have HI := Lib.hid hin
    have HF := Lib.hid hf
    rw [← hSc] at hlaw
    have HL := Lib.hid (And.intro hlaw (And.intro hsum (And.intro hS hSl)))
    have hrun0 := fun ty => hrun ty
    clear hrun hin hf hn2 hown hbt hf2 hf1 ho h1 hlen e1 e2 hlaw hxx hS hSl hSc
    go_wp2_with (at_builtin; refine wpList_append_by (by rfl) (.tmp 24) (.tmp 25) 22 (by rfl) _ _ (by rfl) (by rfl) (hrun0 _) ?_)
    refine HI.out.mono ?_
    rintro e w3 ⟨v, er, P, X, hX, rfl, hown, hf3⟩
    obtain ⟨b3, cap3, rfl, hbt3⟩ := hown.bt
    have HW := Lib.hid (works_any w3 C p ((HE.out.keep HF.out (fun _ _ e => e.elim)).keep hf3 (fun _ _ e => e.elim)))
    have HF3 := Lib.hid (HF.out.trans hf3)
    have hlaw := HL.out.1
    have hSl := HL.out.2.2.2
    obtain ⟨n3, hn3⟩ : ∃ n3, n3 = X.length := ⟨_, rfl⟩
    rw [← hn3]
    by_cases hA : n + m = 65535
    · have hxe : xx = 65535 := hsum.2 hA
      rw [if_neg (by omega)] at hlaw
      subst hxe
      by_cases hB : n1 < n
      · have hBB := HN.out
        rw [if_neg (by omega)] at hlaw
        obtain ⟨rfl, rfl, rfl⟩ := Infl.unique (show Infl S [] _ _ _ from hlaw) hX
        clear hX hown hf3 hlaw hSl hbt3 hA hsum hn3 hrun0 hBB
        go_wp2_with fail
        refine HW.out.mono ?_
        rintro e w4 ⟨rfl, hf4⟩
        have HF4 := Lib.hid hf4
        clear hf4
        go_wp2_with fail
        go_ret
        exact ⟨rfl, HF3.out.trans HF4.out⟩
      · have hBB := HN.out
        rw [if_pos (by omega)] at hlaw
        obtain ⟨rfl, rfl, rfl⟩ := Infl.unique (show Infl S [] _ _ _ from hlaw) hX
        obtain ⟨b6, hsl, hb6⟩ := run_headK .u16 ((HS.out.keep (HF.out)).keep hf3) n (by omega)
        rw [← HN.out] at hsl
        have hsame := same_any w3 b3 b6 (src.take n) (src.take n) cap3 cap hbt3.bytes hb6
        rw [sameB_refl] at hsame
        have hn3' : n3 = n := by rw [hn3, List.length_take]; omega
        have hle : n ≤ n1 := by omega
        rw [List.length_take, show min n src.length = n by omega] at hsame
        have hrest : ((S.length - (5 + n) : Nat) : Int) = (n1 : Int) - (n : Int) := by omega
        rw [hrest]
        rw [hn3']
        have c5 : (n1 : Int) ≤ 2147483647 := by have := H1.out; omega
        have HSM := Lib.hid hsame
        clear hX hown hf3 hlaw hSl hbt3 hA hsum hn3 hn3' hrun0 hb6 hsame hrest hBB
        go_wp2_with fail
        refine HSM.out.mono ?_
        rintro e w4 ⟨rfl, rfl⟩
        go_wp2_with fail
        go_ret
        exact ⟨rfl, HF3.out⟩
    · have hne : ¬ xx = 65535 := fun e => hA (hsum.1 e)
      rw [if_pos hA] at hlaw
      obtain ⟨rfl, rfl, rfl⟩ := Infl.unique (show Infl S [] _ _ _ from hlaw) hX
      have t2 : ((xx : Int) == 65535) = false := by simp; omega
      have t3 : ((xx : Int) != 65535) = true := by simp; omega
      clear hX hown hf3 hlaw hSl hbt3 hA hsum hn3 hrun0 hne
      go_wp2_with fail
      refine HW.out.mono ?_
      rintro e w4 ⟨rfl, hf4⟩
      have HF4 := Lib.hid hf4
      clear hf4
      go_wp2_with fail
      go_ret
      exact ⟨rfl, HF3.out.trans HF4.out⟩

end Go.Proofs.YthfncdfcklbigaaDoor
