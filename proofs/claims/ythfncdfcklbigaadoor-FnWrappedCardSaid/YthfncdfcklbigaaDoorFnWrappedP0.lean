/-
  Several texts in one: what the writer and the reader of bits do.
-/
import Derived.Test.YthfncdfcklbigaaDoorZc
import Derived.Test.YthfncdfcklbigaaDoorLaw
set_option linter.unusedVariables false
set_option linter.unusedSimpArgs false

/-
  'laws.FnWrapped', walked: blocks within a stream are read as they are by themselves.
-/
namespace Go.Proofs.YthfncdfcklbigaaDoor
open Go.RowKit Go.ChangeShapes Go.WideShapes Flate
set_option maxRecDepth 100000

/-- The first bytes of a row, in place. -/
theorem run_headW {w : World} {b : Option Addr} {l : List UInt8} {cap : Nat} (h : Bt w b l cap) (m : Nat) (hm : m ≤ l.length) :
    (∀ w' : World, (Instr.sliceAt 22 (.slice b l.length cap) none (some (.int .i64 (m : Int))) none).run Tryd.prog w' = .ok (.slice b m cap) w') ∧ Bt w b (l.take m) cap := by
  have hsz : ∀ w : World, (sizeOf (Tryd.prog.elem 22)).run Tryd.prog w = .ok 1 w := fun w => by kernel_rfl
  have hu : Tryd.prog.underlying 22 = some (.slice (Tryd.prog.elem 22)) := by kernel_rfl
  have hcap := h.hcap
  refine ⟨fun w' => ?_, ?_, by rw [List.length_take]; omega, h.lt, h.nilc⟩
  · rw [run_sliceAt_slice w' _ _ _ _ _ hu, run_slice_h w' _ _ _ _ hu _ _ (by omega) (by omega), hsz]
    simp only [Result.andThen, sliced, Int.toNat_natCast, Nat.sub_zero]
    cases b with
    | none => simp
    | some a => by_cases h : cap = 0 <;> simp [h, Addr.add]
  · have hb := h.bytes
    cases b with
    | none => have : l = [] := hb; subst this; simp; rfl
    | some a =>
      refine ⟨hb.1, fun j hj => ?_⟩
      rw [List.length_take] at hj
      rw [hb.2 j (by omega), List.getElem_take]

set_option maxHeartbeats 1000000 in
theorem four_cells (A : Nat) (h : A < 4294967296) : ((four A).map byteV).toArray = #[.int .u8 ((A : Int) / 16777216), .int .u8 ((A : Int) / 65536 % 256), .int .u8 ((A : Int) / 256 % 256), .int .u8 ((A : Int) % 256)] := by
  unfold four
  simp only [List.map_cons, List.map_nil, byteV, UInt8.toNat_ofNat']
  rw [show ((A / 16777216 % 2 ^ 8 : Nat) : Int) = (A : Int) / 16777216 by omega, show ((A / 65536 % 2 ^ 8 : Nat) : Int) = (A : Int) / 65536 % 256 by omega, show ((A / 256 % 2 ^ 8 : Nat) : Int) = (A : Int) / 256 % 256 by omega, show ((A % 2 ^ 8 : Nat) : Int) = (A : Int) % 256 by omega]

theorem fnWrapped_any (w : World) (C : Nat) (p : Ps) (he : Env w C p) (base : Option Addr) (src : List UInt8) (cap : Nat) (hs : Bt w base src cap) :
    Calls Tryd.prog 7 #[.slice base src.length cap] w fun e w' => e = .returned (.bool true) ∧ Frm (fun _ _ => False) w w' := by
  have HE := Lib.hid he
  have HS := Lib.hid hs
  clear he hs
  obtain ⟨n1, hn1⟩ : ∃ n1, n1 = src.length := ⟨_, rfl⟩
  rw [← hn1]
  have HN := Lib.hid hn1
  clear hn1
  go_enter Tryd.func7, Tryd.ntmps7
  by_cases h1 : 2147483647 < n1
  · have t1 : decide ((2147483647 : Int) < (n1 : Int)) = true := by simp; omega
    clear h1
    go_wp2_with fail
    go_ret
    exact ⟨rfl, Frm.refl _ _⟩
  have t1 : decide ((2147483647 : Int) < (n1 : Int)) = false := by simp; omega
  have hlen : src.length ≤ 2147483647 := by have := HN.out; omega
  have HL := Lib.hid hlen
  have hin := inflate_any w C p HE.out base src cap HS.out (by omega) none [] 0 (bt_nil _) (by simp) false none 0 0 (nilSizes _ _ _)
  rw [← HN.out] at hin
  have HI := Lib.hid (show Calls Tryd.prog 17 #[.slice base n1 cap, .slice none 0 0, .bool false, .slice none 0 0] w _ from hin)
  clear hin h1 hlen
  go_wp2_with fail
  refine HI.out.mono ?_
  rintro e w1 ⟨v, er, P, X, hX, rfl, hown, hf1⟩
  obtain ⟨b, c, rfl, hbt⟩ := hown.bt
  have hXl := hX.le
  have H1 := Lib.hid (And.intro hX (And.intro hbt (And.intro hf1 hXl)))
  clear hX hown hbt hf1 hXl
  by_cases her : er = .eof
  · subst her
    have hz : faultNum Err.eof = 0 := rfl
    rw [hz]
    obtain ⟨hX, hbt, hf1, hXl⟩ := H1.out
    have had := adler_any w1 b X c hbt.bytes (by have := HL.out; omega)
    have hAl := adler_lt X
    obtain ⟨A, hA⟩ : ∃ A, A = adler X := ⟨_, rfl⟩
    obtain ⟨m, hm⟩ : ∃ m, m = X.length := ⟨_, rfl⟩
    obtain ⟨r, hr⟩ : ∃ r, r = src.length - P := ⟨_, rfl⟩
    rw [← hA, ← hm] at had
    rw [← hA] at hAl
    rw [← hm, ← hr]
    have e1 : (n1 : Int) - (r : Int) = (P : Int) := by have := HN.out; omega
    have e2 : n1 - r = P := by have := HN.out; omega
    have hPn : (P : Int) ≤ (n1 : Int) := by have := HN.out; omega
    have c1 : (n1 : Int) ≤ 2147483647 := by have := HN.out; have := HL.out; omega
    have c2 : (r : Int) ≤ (n1 : Int) := by omega
    have c3 : (A : Int) < 4294967296 := by omega
    obtain ⟨hrunS, hbtS⟩ := run_headW HS.out P hXl.1
    rw [← HN.out] at hrunS
    have hlS : (src.take P).length = P := by rw [List.length_take]; omega
    have ho := own_new w1 [0x78, 0x9c] (by simp [maxLen])
    simp only [List.map_cons, List.map_nil, List.length_cons, List.length_nil, Nat.zero_add, byteV] at ho
    have hfa : Frm (fun _ _ => False) w1 (w1.alloc (.cells #[.int .u8 120, .int .u8 156] 5)) := (Frm.refl _ _).alloc _
    obtain ⟨v', w2, hrun, hown, hf2, _⟩ := append_bt (w1.alloc (.cells #[.int .u8 120, .int .u8 156] 5)) w1.heap.size _ [0x78, 0x9c] ho base (src.take P) cap ((hbtS.keep hf1).keep hfa) (by rw [hlS]; simp only [List.length_cons, List.length_nil]; have := HL.out; omega) hfa.size
    rw [hlS] at hrun
    have hrun0 := fun ty => hrun ty
    have HAD := Lib.hid had
    have HO := Lib.hid (And.intro hown (And.intro hf2 (And.intro ho hfa)))
    have HQ := Lib.hid (And.intro hA (And.intro hm (And.intro hr (And.intro hAl hlS))))
    clear had hA hm hr hAl hlS hrun hown hf2 ho hfa hX hbt hf1 hXl hbtS hz
    go_wp2_with fail
    refine HAD.out.mono ?_
    rintro e w3 ⟨rfl, rfl⟩
    obtain ⟨hown, hf2, ho, hfa⟩ := HO.out
    obtain ⟨hA, hm, hr, hAl, hlS⟩ := HQ.out
    have hc4 := four_cells A hAl
    have hf4a : Frm (fun _ _ => False) w2 (w2.alloc (.cells #[.int .u8 ((A : Int) / 16777216), .int .u8 ((A : Int) / 65536 % 256), .int .u8 ((A : Int) / 256 % 256), .int .u8 ((A : Int) % 256)] 5)) := (Frm.refl _ _).alloc _
    have hown4 := hown.keep hf4a (fun g o _ e => e)
    have hb4 := bytes_new w2 #[.int .u8 ((A : Int) / 16777216), .int .u8 ((A : Int) / 65536 % 256), .int .u8 ((A : Int) / 256 % 256), .int .u8 ((A : Int) % 256)] 5 (four A) (fun j hj => by rw [← hc4]; simp [hj])
    have hf02 := ho.fresh hfa (Nat.le_refl _) hf2
    obtain ⟨v5, w5, hrun5, hown5, hf5, _⟩ := append_bt _ _ _ _ hown4 (some ⟨w2.heap.size, 0, none⟩) (four A) 4 ⟨hb4, by rw [four_len]; omega, fun a ha => by obtain rfl := Option.some.inj ha; simp, by simp⟩ (by rw [four_len, List.length_append, hlS]; simp only [List.length_cons, List.length_nil]; have := HL.out; have := H1.out.2.2.2.1; omega) (Nat.le_trans hf02.size hf4a.size)
    rw [four_len] at hrun5
    have hrun6 := fun ty => hrun5 ty
    have HO5 := Lib.hid (And.intro hown5 (And.intro hf5 (And.intro hf02 (And.intro hown4 hf4a))))
    clear hown hf2 ho hfa hA hm hr hAl hlS hc4 hf4a hown4 hb4 hf02 hrun5 hown5 hf5
    go_upto_region 9 with (at_builtin; first | (refine wpList_append_by (by rfl) (.tmp 38) (.tmp 44) 22 (by rfl) _ _ (by rfl) (by rfl) (hrun0 _) ?_) | (refine wpList_append_by (by rfl) (.tmp 45) (.tmp 57) 22 (by rfl) _ _ (by rfl) (by rfl) (hrun6 _) ?_))
    obtain ⟨hown5, hf5, hf02, hown4, hf4a⟩ := HO5.out
    obtain ⟨hA, hm, hr, hAl, hlS⟩ := HQ.out
    obtain ⟨hX, hbt, hf1, hXl⟩ := H1.out
    have hf05 := Own.fresh hown4 (hf02.trans hf4a) (Nat.le_refl _) hf5
    have hu := unz_wrapped hX
    rw [← hA] at hu
    obtain ⟨S, hS⟩ : ∃ S, S = [0x78, 0x9c] ++ src.take P ++ four A := ⟨_, rfl⟩
    rw [← hS] at hown5
    have hSl : S.length = 2 + P + 4 := by rw [hS]; simp only [List.length_append, List.length_cons, List.length_nil, hlS, four_len]
    have hu2 : Unz S [] 0 S.length X := by rw [hSl, hS, List.append_assoc]; exact hu
    obtain ⟨b6, c6, rfl, hbt6⟩ := hown5.bt
    have hle : S.length ≤ 2147483653 := by have := HL.out; omega
    have hrd := reads_long w5 C p ((HE.out.keep hf1 (fun _ _ e => e.elim)).keep hf05 (fun _ _ e => e.elim)) b6 S c6 hbt6 (by omega) none [] 0 (bt_nil _) (by simp) false (fun q D er P X _ h => by have := h.le.2; rw [List.length_drop] at this; omega) b X c (hbt.keep hf05) hu2 (by omega)
    obtain ⟨n7, hn7⟩ : ∃ n, n = S.length := ⟨_, rfl⟩
    rw [← hn7, ← hm] at hrd
    rw [← hn7]
    have HRD := Lib.hid (show Calls Tryd.prog 25 #[.slice b6 n7 c6, .slice none 0 0, .bool false, .slice b m c] w5 _ from hrd)
    have HF := Lib.hid (hf1.trans hf05)
    clear hown5 hf5 hf02 hown4 hf4a hA hm hr hAl hlS hX hbt hf1 hXl hf05 hu hS hSl hu2 hbt6 hle hrd hn7 hrun0 hrun6 hrunS
    go_wp2_with fail
    refine HRD.out.mono ?_
    rintro e w6 ⟨rfl, hf6⟩
    have HW := Lib.hid (works_any w6 C p ((HE.out.keep HF.out (fun _ _ e => e.elim)).keep hf6 (fun _ _ e => e.elim)))
    have HF6 := Lib.hid (HF.out.trans hf6)
    clear hf6
    go_wp2_with fail
    refine HW.out.mono ?_
    rintro e w7 ⟨rfl, hf7⟩
    have HF7 := Lib.hid hf7
    clear hf7
    go_wp2_with fail
    go_ret
    exact ⟨rfl, HF6.out.trans HF7.out⟩
  · have hfn : faultNum er = 4 ∨ faultNum er = 5 := by
      cases er with
      | eof => exact absurd rfl her
      | cut => exact .inl rfl
      | corrupt => exact .inr rfl
    obtain ⟨fn, hfn'⟩ : ∃ fn, fn = faultNum er := ⟨_, rfl⟩
    rw [← hfn'] at hfn ⊢
    have t2 : ((fn : Int) != 0) = true := by simp; omega
    have hun : Unz (0x78 :: 0x9c :: src) [] fn (2 + P) X := by
      have := unz_wrapped_bad H1.out.1 her
      rw [hfn']
      cases er <;> exact this
    have ho := own_new w1 [0x78, 0x9c] (by simp [maxLen])
    simp only [List.map_cons, List.map_nil, List.length_cons, List.length_nil, Nat.zero_add, byteV] at ho
    have hfa : Frm (fun _ _ => False) w1 (w1.alloc (.cells #[.int .u8 120, .int .u8 156] 5)) := (Frm.refl _ _).alloc _
    obtain ⟨v', w2, hrun, hown, hf2, _⟩ := append_bt (w1.alloc (.cells #[.int .u8 120, .int .u8 156] 5)) w1.heap.size _ [0x78, 0x9c] ho base src cap ((HS.out.keep H1.out.2.2.1).keep hfa) (by simp only [List.length_cons, List.length_nil]; have := HL.out; omega) hfa.size
    rw [← HN.out] at hrun
    have hf := ho.fresh hfa (Nat.le_refl _) hf2
    have hf02 : Frm (fun _ _ => False) w w2 := H1.out.2.2.1.trans hf
    obtain ⟨b2, cap2, rfl, hbt⟩ := hown.bt
    have hin := unpack_any w2 C p (HE.out.keep hf02 (fun _ _ e => e.elim)) b2 ([0x78, 0x9c] ++ src) cap2 hbt (by rw [List.length_append]; simp only [List.length_cons, List.length_nil]; have := HL.out; omega) none [] 0 (bt_nil _) (by simp) false none 0 0 (nilSizes _ _ _)
    obtain ⟨n2, hn2⟩ : ∃ n2, n2 = ([0x78, 0x9c] ++ src).length := ⟨_, rfl⟩
    rw [← hn2] at hin hrun
    have HU := Lib.hid hin
    have HR := Lib.hid hun
    have HF := Lib.hid hf02
    have hrun0 := fun ty => hrun ty
    clear hrun hin hun hf hf02 hn2 hown hbt hf2 hfa ho hfn'
    go_wp2_with (at_builtin; refine wpList_append_by (by rfl) (.tmp 23) (.tmp 24) 22 (by rfl) _ _ (by rfl) (by rfl) (hrun0 _) ?_)
    refine HU.out.mono ?_
    rintro e w3 ⟨v3, f3, P3, X3, hX3, rfl, hown, hf3⟩
    obtain ⟨rfl, rfl, rfl⟩ := HR.out.unique hX3
    have HW := Lib.hid (works_any w3 C p ((HE.out.keep HF.out (fun _ _ e => e.elim)).keep hf3 (fun _ _ e => e.elim)))
    have HF3 := Lib.hid (HF.out.trans hf3)
    clear hX3 hown hf3 hrun0
    go_wp2_with fail
    refine HW.out.mono ?_
    rintro e w4 ⟨rfl, hf4⟩
    have HF4 := Lib.hid hf4
    clear hf4
    go_wp2_with fail
    go_ret
    exact ⟨rfl, HF3.out.trans HF4.out⟩

end Go.Proofs.YthfncdfcklbigaaDoor
