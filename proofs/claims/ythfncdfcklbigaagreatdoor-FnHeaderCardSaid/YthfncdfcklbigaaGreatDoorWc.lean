/-
  Several texts in one: Tks Rns Tre.
-/
import Derived.Test.YthfncdfcklbigaaGreatDoorWb
import Derived.Test.YthfncdfcklbigaaGreatDoorWa
set_option linter.unusedVariables false
set_option linter.unusedSimpArgs false
namespace Flate
def SameBk (A : List UInt8) (i f m : Nat) : Prop := ∀ j, j < m → A.getD (i + j) 0 = A.getD (i + j - f) 0
theorem take_getD (A : List UInt8) {i j : Nat} (h : j < i) : (A.take i).getD j 0 = A.getD j 0 := by
 rw [List.getD_eq_getElem?_getD, List.getD_eq_getElem?_getD, List.getElem?_take_of_lt h]
theorem lz_same {A : List UInt8} {i f m : Nat} (hf : 1 ≤ f) (hi : f ≤ i) (hm : i + m ≤ A.length) (h : SameBk A i f m) : lz (A.take i) f m = A.take (i + m) := by
 induction m with
 | zero => rw [lz_zero]; rfl
 | succ m ih =>
  have hil : (A.take i).length = i := by rw [List.length_take]; omega
  rw [lz_succ _ _ _ hf (by omega), ih (by omega) (fun j hj => h j (by omega)), hil, take_getD _ (by omega), ← h m (by omega)]
  rw [← Nat.add_assoc, List.take_add_one, List.getD_eq_getElem?_getD, List.getElem?_eq_getElem (by omega)]
  rfl
end Flate
namespace Go.Proofs.YthfncdfcklbigaaGreatDoor
open Go.RowKit Go.IntWalk Flate
set_option maxRecDepth 100000
theorem bytes_at {w : World} {base : Option Addr} {l : List UInt8} (h : Bytes w base l) (hl : 0 < l.length) : ∃ ab ao, base = some ⟨ab, ao, none⟩ := by
 cases base with
 | none => have : l = [] := h; subst this; simp at hl
 | some a =>
  obtain ⟨ab, ao, sp⟩ := a; have h1 : sp = none := h.1; subst h1; exact ⟨ab, ao, rfl⟩
def TkInv (w : World) (N0 M C : Nat) (l : List Int) (A : List UInt8) (from_ k0 : Nat) (g : Nat) (out iv : Value) (wr : World) : Prop :=
 ∃ (i k : Nat) (toks : List Tk), from_ ≤ i ∧ i ≤ A.length ∧ g = A.length - i ∧ iv = .int .i64 (i : Int) ∧ OwnT 131 wr N0 out toks ∧ toksRun (A.take from_) toks = A.take i ∧ toksOk from_ toks ∧ toks.length ≤ i - from_ ∧ Chs wr M C l k ∧ k0 ≤ k ∧ k ≤ k0 + 4 * (i - from_) ∧ Frm (fun b _ => b = C) w wr
def Found (wr : World) (M C : Nat) (l : List Int) (A : List UInt8) (i k0 c : Nat) (fv mv : Value) (wq : World) : Prop :=
 ∃ f m k : Nat, fv = .int .i64 (f : Int) ∧ mv = .int .i64 (m : Int) ∧ (m = 0 ∨ 1 ≤ f ∧ f ≤ i ∧ f ≤ 32768) ∧ m ≤ 258 ∧ i + m ≤ A.length ∧ SameBk A i f m ∧ Chs wq M C l k ∧ k0 ≤ k ∧ k ≤ k0 + c ∧ Frm (fun b _ => b = C) wr wq
def Far2 (wr : World) (M C : Nat) (l : List Int) (i k0 c : Nat) (fv : Value) (wq : World) : Prop :=
 ∃ f k : Nat, fv = .int .i64 (f : Int) ∧ 1 ≤ f ∧ f ≤ i ∧ f ≤ 32768 ∧ Chs wq M C l k ∧ k0 ≤ k ∧ k ≤ k0 + c ∧ Frm (fun b _ => b = C) wr wq
set_option maxHeartbeats 4000000 in
theorem tokens_any (w : World) (ab : Option Addr) (A : List UInt8) (ac : Nat) (hA : Bytes w ab A) (hal : A.length ≤ 4294967296) (from_ : Nat) (hfr : from_ ≤ A.length) (M C : Nat) (hMw : M ≤ w.heap.size) (l : List Int) (k0 : Nat) (hC : Chs w M C l k0) (hk0 : k0 ≤ 68719476736) (haC : ∀ a, ab = some a → a.block ≠ C) :
 Calls Tryz.prog 45 #[.slice ab A.length ac, .int .i64 (from_ : Int), .pointer (some ⟨C, 0, none⟩)] w fun e w' => ∃ v toks k, e = .returned v ∧ OwnT 131 w' w.heap.size v toks ∧ toksRun (A.take from_) toks = A ∧ toksOk from_ toks ∧ toks.length ≤ A.length - from_ ∧ Chs w' M C l k ∧ k0 ≤ k ∧ k ≤ k0 + 4 * (A.length - from_) ∧ Frm (fun b _ => b = C) w w' := by
 have HH := zHi (zAi hA (zAi hal (zAi hfr (zAi hC (zAi hk0 haC)))))
 obtain ⟨n, hn⟩ : ∃ n, n = A.length := ⟨_, rfl⟩
 rw [← hn]
 have c1 : (n : Int) ≤ 4294967296 := by omega
 have c2 : (from_ : Int) ≤ (n : Int) := by omega
 have HN := zHi hn
 clear hA hal hfr hC hk0 haC hn
 go_enter Tryz.func45, Tryz.ntmps45
 go_wp2_with fail
 go_loopg [7, 8] (n - from_) (fun g out iv wr => TkInv w w.heap.size M C l A from_ k0 g out iv wr)
 case atStart =>
  obtain ⟨hA, hal, hfr, hC, hk0, haC⟩ := HH.out; exact ⟨from_, k0, [], Nat.le_refl _, hfr, by rw [HN.out], rfl, Row.nil _ _ _ _ _, rfl, trivial, by simp, hC, Nat.le_refl _, by omega, Frm.refl _ _⟩
 case round =>
  obtain ⟨i, k, toks, hi, hil, hg, rfl, hown, hrun, hok, hlen, hCr, hk1, hk2, hf⟩ := hrel; obtain ⟨hA, hal, hfr, hC, hk0, haC⟩ := HH.out; have hn := HN.out; have hbr : Bytes wr ab A := hA.keep hf (fun a ha j _ e => haC a ha e)
  by_cases hlt : i < n
  · have c3 : (i : Int) < (n : Int) := by omega
    have HR := zHi (zAi hi (zAi hil (zAi hg (zAi hown (zAi hrun (zAi hok (zAi hlen (zAi hCr (zAi hk1 (zAi hk2 (zAi hf hbr))))))))))); have hkb : k ≤ 137438953472 := by omega
    clear hi hil hg hown hrun hok hlen hCr hk1 hk2 hf hbr hA hal hfr hC hk0 haC hn; go_upto_region 4 with (fail)
    go_cut [9, 10] (fun s9 s10 wq => s9 = .int .i64 0 ∧ s10 = .int .i64 0 ∧ wr = wq)
    case first =>
     go_wp2_with fail
     go_meet
     case rel => exact ⟨rfl, rfl, rfl⟩
    obtain ⟨rfl, rfl, rfl⟩ := hcut; apply_assumption; refine wp_seq_k ?_; intro K1 hK1; go_cut [9, 10] (fun fv mv wq => Found wr M C l A i k 3 fv mv wq)
    case first =>
     by_cases h0 : i = 0
     · subst h0; go_wp2_with fail
       go_meet
       case rel => exact ⟨0, 0, k, rfl, rfl, .inl rfl, by omega, by have := HR.out.2.1; omega, fun j hj => absurd hj (by omega), HR.out.2.2.2.2.2.2.2.1, Nat.le_refl _, by omega, Frm.refl _ _⟩
     · have d0 : decide ((0 : Int) < (i : Int)) = true := by simp; omega
       have d1 : 0 < i := by omega
       have hn3 : Calls Tryz.prog 42 #[.pointer (some ⟨C, 0, none⟩), .int .i64 3] wr fun e w' => ∃ v : Nat, e = .returned (natV v) ∧ v < 3 ∧ (l = [] → v = k % 3) ∧ Chs w' M C l (k + 1) ∧ Frm (fun b _ => b = C) wr w' := next_any wr M C l k HR.out.2.2.2.2.2.2.2.1 3 (by omega) (by omega) (by omega)
       have HN3 := zHi hn3; clear hn3 h0; go_wp2_with fail
       refine HN3.out.mono ?_; rintro e w1 ⟨v1, rfl, hv1, _, hC1, hf1⟩; have c4 : (v1 : Int) ≤ 2 := by omega
       have H1 := zHi (zAi hC1 hf1); clear hC1 hf1 hv1
       by_cases hv : v1 = 0
       · subst hv; go_wp2_with fail
         go_meet
         case rel => exact ⟨0, 0, k + 1, rfl, rfl, .inl rfl, by omega, by have := HR.out.2.1; omega, fun j hj => absurd hj (by omega), H1.out.1, by omega, by omega, H1.out.2⟩
       · have d2 : decide ((0 : Int) < (v1 : Int)) = true := by simp; omega
         have d3 : 0 < v1 := by omega
         clear hv; go_upto_region 6 with (fail)
         go_cut [9] (fun fv wq => Far2 wr M C l i k 2 fv wq)
         case first =>
          have fin : ∀ (m0 : Nat), m0 = min i 32768 → ∀ (w2 : World) (v2 : Nat) (x : Int), x = 1 + (v2 : Int) → v2 < m0 → Chs w2 M C l (k + 1 + 1) → Frm (fun b _ => b = C) w1 w2 → Far2 wr M C l i k 2 (.int .i64 x) w2 := by
           intro m0 hm0 w2 v2 x hx hv2 hC2 hf2; refine ⟨v2 + 1, k + 2, ?_, by omega, by omega, by omega, hC2, by omega, by omega, H1.out.2.trans hf2⟩
           rw [hx]; congr 1; omega
          have HFin := zHi fin; clear fin
          by_cases h32 : i ≤ 32768
          · have e3 : decide ((i : Int) ≤ 32768) = true := by simp; omega
            have hn2 := next_any w1 M C l (k + 1) H1.out.1 i (by omega) (by omega) (by omega)
            have HN2 := zHi hn2; clear hn2; go_wp2_with fail
            all_goals (try (exfalso; omega))
            refine HN2.out.mono ?_; rintro e w2 ⟨v2, rfl, hv2, _, hC2, hf2⟩; have c5 : (v2 : Int) ≤ 32768 := by omega
            have H2 := zHi (zAi hv2 (zAi hC2 hf2)); clear hv2 hC2 hf2; go_wp2_with fail
            go_meet
            case rel => exact HFin.out i (by omega) _ v2 _ rfl H2.out.1 H2.out.2.1 H2.out.2.2
          · have e3 : decide ((i : Int) ≤ 32768) = false := by simp; omega
            have c6 : (32768 : Int) ≤ (i : Int) := by omega
            have hn2 : Calls Tryz.prog 42 #[.pointer (some ⟨C, 0, none⟩), .int .i64 32768] w1 fun e w' => ∃ v : Nat, e = .returned (natV v) ∧ v < 32768 ∧ (l = [] → v = (k + 1) % 32768) ∧ Chs w' M C l (k + 1 + 1) ∧ Frm (fun b _ => b = C) w1 w' := next_any w1 M C l (k + 1) H1.out.1 32768 (by omega) (by omega) (by omega)
            have HN2 := zHi hn2; clear hn2; go_wp2_with fail
            refine HN2.out.mono ?_; rintro e w2 ⟨v2, rfl, hv2, _, hC2, hf2⟩; have c5 : (v2 : Int) ≤ 32768 := by omega
            have H2 := zHi (zAi hv2 (zAi hC2 hf2)); clear hv2 hC2 hf2; go_wp2_with fail
            go_meet
            case rel => exact HFin.out 32768 (by omega) _ v2 _ rfl H2.out.1 H2.out.2.1 H2.out.2.2
         obtain ⟨f, k2, rfl, hf1, hf2, hf3, hC2, hk3, hk4, hfr2⟩ := hcut; apply_assumption; refine wp_seq_k ?_; intro K2 hK2; have HC2 := zHi (zAi hC2 (zAi hk3 (zAi hk4 hfr2))); have c7 : (f : Int) ≤ (i : Int) := by omega
         have c8 : (1 : Int) ≤ (f : Int) := by omega
         have c9 : (f : Int) ≤ 32768 := by omega
         have HF0 := zHi (zAi hf1 (zAi hf2 hf3)); clear hC2 hk3 hk4 hfr2 hf1 hf2 hf3; go_cut [9] (fun fv wq => Far2 wr M C l i k 3 fv wq)
         case first =>
          have hn2 : Calls Tryz.prog 42 #[.pointer (some ⟨C, 0, none⟩), .int .i64 2] wc fun e w' => ∃ v : Nat, e = .returned (natV v) ∧ v < 2 ∧ (l = [] → v = k2 % 2) ∧ Chs w' M C l (k2 + 1) ∧ Frm (fun b _ => b = C) wc w' := next_any wc M C l k2 HC2.out.1 2 (by omega) (by omega) (by have := HC2.out; omega)
          have HN2 := zHi hn2; clear hn2; go_wp2_with fail
          refine HN2.out.mono ?_; rintro e w3 ⟨v3, rfl, hv3, _, hC3, hf3⟩; have c10 : (v3 : Int) ≤ 1 := by omega
          have H3 := zHi (zAi hC3 hf3); have fin : ∀ (x : Int) (z : Nat), x = 1 + (z : Int) → z < i → z < 32768 → Far2 wr M C l i k 3 (.int .i64 x) w3 := by
           intro x z hx hz hz2; refine ⟨z + 1, k2 + 1, ?_, by omega, by omega, by omega, hC3, by have := HC2.out; omega, by have := HC2.out; omega, HC2.out.2.2.2.trans hf3⟩
           rw [hx]; congr 1; omega
          have HFin := zHi fin; clear hC3 hf3 hv3 fin
          by_cases hv : v3 = 0
          · subst hv; obtain ⟨f', hf'⟩ : ∃ f', f' = f - 1 := ⟨_, rfl⟩; have e1 : (f : Int) - 1 = (f' : Int) := by have := HF0.out; omega
            have c11 : (f' : Int) ≤ 32768 := by omega
            by_cases h8 : i ≤ 8
            · have e3 : decide ((i : Int) ≤ 8) = true := by simp; omega
              obtain ⟨z, hz⟩ : ∃ z, z = f' % i := ⟨_, rfl⟩; have hzl : z < i := by rw [hz]; exact Nat.mod_lt _ d1
              have e2 : (f' : Int) % (i : Int) = (z : Int) := by rw [hz]; simp
              have c12 : (z : Int) < (i : Int) := by omega
              have c13 : (i : Int) ≤ 8 := by omega
              have c14 : (1 : Int) ≤ (i : Int) := by omega
              clear hf' hz; go_wp2_with fail
              all_goals (try (exfalso; omega))
              go_meet
              case rel => exact HFin.out _ z rfl hzl (by omega)
            · have e3 : decide ((i : Int) ≤ 8) = false := by simp; omega
              have c13 : (8 : Int) ≤ (i : Int) := by omega
              obtain ⟨z, hz⟩ : ∃ z, z = f' % 8 := ⟨_, rfl⟩; have e2 : (f' : Int) % 8 = (z : Int) := by omega
              have c12 : (z : Int) < 8 := by omega
              clear hf' hz; go_wp2_with fail
              go_meet
              case rel => exact HFin.out _ z rfl (by omega) (by omega)
          · have d4 : ((v3 : Int) == 0) = false := by simp; omega
            clear hv; go_wp2_with fail
            go_meet
            case rel =>
             have := HF0.out; have h := HFin.out (f : Int) (f - 1) (by omega) (by omega) (by omega)
             exact h
         obtain ⟨f, k2, rfl, hf1, hf2, hf3, hC2, hk3, hk4, hfr2⟩ := hcut; refine hK2 _ _ ?_; have HC3 := zHi (zAi hC2 (zAi hk3 (zAi hk4 hfr2))); have c17 : (f : Int) ≤ (i : Int) := by omega
         have c18 : (1 : Int) ≤ (f : Int) := by omega
         have c19 : (f : Int) ≤ 32768 := by omega
         have hbq := (HR.out.2.2.2.2.2.2.2.2.2.2.2).keep hfr2 (fun a ha j _ e => HH.out.2.2.2.2.2 a ha e)
         have HB := zHi hbq; have HF1 := zHi (zAi hf1 (zAi hf2 hf3)); clear hC2 hk3 hk4 hfr2 hf1 hf2 hf3 c7 c8 c9 HF0 HC2 hbq; obtain ⟨wd, rfl⟩ : ∃ wd, wd = wc := ⟨_, rfl⟩; go_wp2_with fail
         go_loopg [10] 258 (fun g mv wq => Frm (fun _ _ => False) wd wq ∧ ∃ m : Nat, m ≤ 258 ∧ g = 258 - m ∧ mv = .int .i64 (m : Int) ∧ i + m ≤ n ∧ SameBk A i f m)
         case atStart => exact ⟨Frm.refl _ _, 0, by omega, rfl, rfl, by omega, fun j hj => absurd hj (by omega)⟩
         case round =>
          obtain ⟨hfq, m, hm, hg, rfl, him, hsame⟩ := hrel; have hfound : ∀ W, Frm (fun _ _ => False) wr W → Found _ M C l A i k 3 (.int .i64 (f : Int)) (.int .i64 (m : Int)) W := fun W hW => ⟨f, m, k2, rfl, rfl, .inr HF1.out, hm, by rw [← HN.out]; exact him, hsame, (HC3.out.1.keep hfq (fun _ _ e => e.elim)).keep hW (fun _ _ e => e.elim), HC3.out.2.1, HC3.out.2.2.1, (HC3.out.2.2.2.trans (hfq.mono fun _ _ e => e.elim)).trans (hW.mono fun _ _ e => e.elim)⟩
          have hbq := HB.out.keep hfq (fun a ha j _ e => e)
          have HFo := zHi hfound; have HS := zHi (zAi hg (zAi hsame (zAi hfq hbq))); have c20 : (m : Int) ≤ 258 := by omega
          clear hfound hg hsame hfq hbq
          by_cases hm8 : m < 258
          · have g1 : decide ((m : Int) < 258) = true := by simp; omega
            by_cases hin : i + m < n
            · obtain ⟨q1, hq1⟩ : ∃ q, q = i + m := ⟨_, rfl⟩; obtain ⟨q2, hq2⟩ : ∃ q, q = q1 - f := ⟨_, rfl⟩; obtain ⟨hf1, hf2, hf3⟩ := HF1.out; have hq1l : q1 < A.length := by rw [← HN.out]; omega
              have hq2l : q2 < A.length := by omega
              have ew1 : IntKind.i64.wrap ((i : Int) + (m : Int)) = (q1 : Int) := by rw [i64_in _ (by omega)]; omega
              have ew2 : IntKind.i64.wrap ((q1 : Int) - (f : Int)) = (q2 : Int) := by rw [i64_in _ (by omega)]; omega
              have g2 : decide ((q1 : Int) < (n : Int)) = true := by simp; omega
              have g3 : q1 < n := by omega
              have g4 : q2 < n := by omega
              obtain ⟨bb, bo, hab⟩ := bytes_at HS.out.2.2.2 (by omega)
              subst hab; obtain ⟨x1, hx1⟩ : ∃ x, x = A[q1].toNat := ⟨_, rfl⟩; obtain ⟨x2, hx2⟩ : ∃ x, x = A[q2].toNat := ⟨_, rfl⟩; have hc1 : wr.cell? ⟨bb, bo + q1, none⟩ = some (.int .u8 (x1 : Int)) := by rw [hx1]; exact HS.out.2.2.2.2 q1 hq1l
              have hc2 : wr.cell? ⟨bb, bo + q2, none⟩ = some (.int .u8 (x2 : Int)) := by rw [hx2]; exact HS.out.2.2.2.2 q2 hq2l
              have hg1 : A.getD (i + m) 0 = A[q1] := by rw [← hq1, List.getD_eq_getElem?_getD, List.getElem?_eq_getElem hq1l]; rfl
              have hg2 : A.getD (i + m - f) 0 = A[q2] := by rw [← hq1, ← hq2, List.getD_eq_getElem?_getD, List.getElem?_eq_getElem hq2l]; rfl
              by_cases hxx : x1 = x2
              · have hnext : SameBk A i f (m + 1) := fun j hj => by
                 by_cases e : j = m
                 · subst e; rw [hg1, hg2]; exact UInt8.toNat_inj.1 (by rw [← hx1, ← hx2]; exact hxx)
                 · exact HS.out.2.1 j (by omega)
                subst hxx; have HX := zHi (zAi hnext (zAi hin hm8)); clear hnext hx1 hx2 hg1 hg2 hq1 hq2 hin hq1l hq2l hf1 hf2 hf3 hm8; go_wp2_with fail
                (go_quiet (fail))
                go_wp2_with fail
                go_roundg (258 - (m + 1))
                case measure => have := HS.out.1; have := HX.out.2.2; omega
                case rel => exact ⟨HS.out.2.2.1.drewN _, m + 1, by have := HX.out.2.2; omega, rfl, by go_num, by have := HX.out.2.1; omega, HX.out.1⟩
              · have hne : ((x1 : Int) == (x2 : Int)) = false := by simp; omega
                have hne2 : (x1 == x2) = false := by simp; exact hxx
                clear hx1 hx2 hg1 hg2 hq1 hq2 hin hq1l hq2l hf1 hf2 hf3 hm8 hxx; go_wp2_with fail
                (go_quiet (fail))
                go_wp2_with fail
                go_meet
                case rel => exact HFo.out _ ((Frm.refl _ _).drewN _)
            · have g2 : decide ((i : Int) + (m : Int) < (n : Int)) = false := by simp; omega
              obtain ⟨q1, hq1⟩ : ∃ q, q = i + m := ⟨_, rfl⟩; have ew1 : IntKind.i64.wrap ((i : Int) + (m : Int)) = (q1 : Int) := by rw [i64_in _ (by omega)]; omega
              have g5 : decide ((q1 : Int) < (n : Int)) = false := by simp; omega
              have g6 : ¬ q1 < n := by omega
              clear hq1 hin hm8; go_wp2_with fail
              (go_quiet (fail))
              go_wp2_with fail
              go_meet
              case rel => exact HFo.out _ ((Frm.refl _ _).drewN _)
          · have g1 : decide ((m : Int) < 258) = false := by simp; omega
            clear hm8; go_wp2_with fail
            (go_quiet (fail))
            go_wp2_with fail
            go_meet
            case rel => exact HFo.out _ ((Frm.refl _ _).drewN _)
    case rest =>
     obtain ⟨f, m, k2, rfl, rfl, hfm, hm8, him, hsame, hC2, hk3, hk4, hfr2⟩ := hcut; have hbq := (HR.out.2.2.2.2.2.2.2.2.2.2.2).keep hfr2 (fun a ha j _ e => HH.out.2.2.2.2.2 a ha e)
     obtain ⟨hi, hil, hg, hown, hrun, hok, hlen, hCr, hk1, hk2, hf, hbr⟩ := HR.out; have hClt : C < w.heap.size := HH.out.2.2.2.1.lt; have hownc : OwnT 131 wc w.heap.size u7 toks := hown.keep hfr2 (fun g o hg e => by have := (hown.lt g hg).1; omega)
     have hfc : Frm (fun b _ => b = C) w wc := hf.trans hfr2
     have hil2 : i < A.length := by rw [← HN.out]; exact hlt
     have hlenA : A.length ≤ 4294967296 := HH.out.2.1; refine hK1 _ _ ?_
     by_cases hm3 : m < 3
     · have d0 : decide ((m : Int) < 3) = true := by simp; omega
       obtain ⟨bb, bo, hab⟩ := bytes_at hbq (by omega)
       subst hab; obtain ⟨x, hx⟩ : ∃ x, x = A[i] := ⟨_, rfl⟩; obtain ⟨xn, hxn⟩ : ∃ xn, xn = x.toNat := ⟨_, rfl⟩; have hc1 : wc.cell? ⟨bb, bo + i, none⟩ = some (.int .u8 (xn : Int)) := by rw [hxn, hx]; exact hbq.2 i hil2
       have hxl := x.toNat_lt; have c4 : (xn : Int) ≤ 255 := by omega
       obtain ⟨v', w', hr0, hown', hfr'⟩ := append_token wc w.heap.size _ _ hownc (.lit x) (by omega) hfc.size
       have hr : ∀ ty, (Builtin.append_ #[101, 101] ty #[u7, .slice (some ⟨wc.heap.size, 0, none⟩) 1 1]).run Tryz.prog (wc.alloc (.cells #[.int .i64 (xn : Int), .int .i64 0, .int .i64 0] 131)) = .ok v' w' := by rw [hxn]; exact hr0
       have hfw : Frm (fun b _ => b = C) w w' := hfc.trans' hfr' (fun x o hx q => by have := (hownc.lt x q).1; omega)
       have hCw : Chs w' M C l k2 := hC2.keep hfr' (fun b o q => ⟨fun e => by subst e; have := (hownc.lt b q).1; omega, .inl (by have := (hownc.lt b q).1; omega)⟩)
       have hnext : toksRun (A.take from_) (toks ++ [.lit x]) = A.take (i + 1) := by
        rw [toksRun_snoc, hrun, List.take_add_one, hx, List.getElem?_eq_getElem hil2]; rfl
       have HX := zHi (zAi hown' (zAi hfw (zAi hCw hnext))); have HR2 := zHi (zAi hi (zAi hg (zAi hok (zAi hlen (zAi hk1 (zAi hk2 (zAi hk3 hk4))))))); clear hbq hi hil hg hown hrun hok hlen hCr hk1 hk2 hf hbr hClt hownc hfc hil2 hlenA hm3 hx hxn hxl hr0 hown' hfr' hfw hCw hnext hfm hm8 him hsame hC2 hk3 hk4 hfr2; go_wp2_with (at_builtin; refine wpList_append_by (by rfl) (.tmp 68) (.tmp 75) 101 (by rfl) _ _ (by rfl) (by rfl) (hr _) ?_)
       clear hr; go_roundg (n - (i + 1))
       case measure => have := HR2.out.2.1; have := HN.out; omega
       case rel =>
        obtain ⟨hi, hg, hok, hlen, hk1, hk2, hk3, hk4⟩ := HR2.out; exact ⟨i + 1, k2, toks ++ [.lit x], by omega, by have := HN.out; omega, by rw [HN.out], by go_num, HX.out.1, HX.out.2.2.2, (toksOk_snoc (t := .lit x)).2 ⟨hok, trivial⟩, by rw [List.length_append]; simp only [List.length_cons, List.length_nil]; omega, HX.out.2.2.1, by omega, by omega, HX.out.2.1⟩
     · have d0 : decide ((m : Int) < 3) = false := by simp; omega
       obtain ⟨m', hm'⟩ : ∃ m', m' = m - 2 := ⟨_, rfl⟩; have e1 : (m : Int) - 2 = (m' : Int) := by omega
       have c4 : (m : Int) ≤ 258 := by omega
       have hn4 := next_any wc M C l k2 hC2 m' (by omega) (by omega) (by omega)
       have HN4 := zHi hn4; have c5 : (f : Int) ≤ 32768 := by rcases hfm with q | q <;> omega
       have HR2 := zHi (zAi hi (zAi hg (zAi hok (zAi hlen (zAi hk1 (zAi hk2 (zAi hk3 (zAi hk4 (zAi hownc (zAi hfc (zAi hfm (zAi him (zAi hsame (zAi hrun (zAi hil2 (zAi hlenA (zAi hm8 (zAi hm' hm3)))))))))))))))))); clear hbq hi hil hg hown hrun hok hlen hCr hk1 hk2 hf hbr hClt hownc hfc hil2 hlenA hm3 hfm hm8 him hsame hC2 hk3 hk4 hfr2 hn4 hm'; go_wp2_with fail
       refine HN4.out.mono ?_; rintro e w4 ⟨v4, rfl, hv4, _, hC4, hf4⟩; obtain ⟨hi, hg, hok, hlen, hk1, hk2, hk3, hk4, hownc, hfc, hfm, him, hsame, hrun, hil2, hlenA, hm8, hm', hm3⟩ := HR2.out; obtain ⟨mm, hmm⟩ : ∃ mm, mm = 3 + v4 := ⟨_, rfl⟩; have e2 : 3 + (v4 : Int) = (mm : Int) := by omega
       have c6 : (mm : Int) ≤ 258 := by omega
       obtain ⟨hf1, hf2, hf3⟩ : 1 ≤ f ∧ f ≤ i ∧ f ≤ 32768 := by rcases hfm with q | q <;> omega
       have hClt : C < w.heap.size := HH.out.2.2.2.1.lt; have hown4 : OwnT 131 w4 w.heap.size u7 toks := hownc.keep hf4 (fun g o hg e => by have := (hownc.lt g hg).1; omega)
       have hfc4 : Frm (fun b _ => b = C) w w4 := hfc.trans hf4
       obtain ⟨v', w', hr0, hown', hfr'⟩ := append_token w4 w.heap.size _ _ hown4 (.cpy f mm) (by omega) hfc4.size
       have hr : ∀ ty, (Builtin.append_ #[101, 101] ty #[u7, .slice (some ⟨w4.heap.size, 0, none⟩) 1 1]).run Tryz.prog (w4.alloc (.cells #[.int .i64 0, .int .i64 (f : Int), .int .i64 (mm : Int)] 131)) = .ok v' w' := hr0; have hfw : Frm (fun b _ => b = C) w w' := hfc4.trans' hfr' (fun x o hx q => by have := (hown4.lt x q).1; omega)
       have hCw : Chs w' M C l (k2 + 1) := hC4.keep hfr' (fun b o q => ⟨fun e => by subst e; have := (hown4.lt b q).1; omega, .inl (by have := (hown4.lt b q).1; omega)⟩)
       have hnext : toksRun (A.take from_) (toks ++ [.cpy f mm]) = A.take (i + mm) := by
        rw [toksRun_snoc, hrun]; exact lz_same hf1 hf2 (by omega) (fun j hj => hsame j (by omega))
       have hfl : from_ + toksSize toks = i := by
        have := congrArg List.length hrun; rw [toksRun_len, List.length_take, List.length_take] at this; have := HH.out.2.2.1; omega
       have HX := zHi (zAi hown' (zAi hfw (zAi hCw (zAi hnext (zAi hfl (zAi hmm (zAi hv4 (zAi hf1 (zAi hf2 hf3))))))))); clear hi hg hok hlen hk1 hk2 hk3 hk4 hownc hfc hfm him hsame hrun hil2 hlenA hm8 hm' hm3 hf1 hf2 hf3 hClt hown4 hfc4 hr0 hown' hfr' hfw hCw hnext hfl hv4 hC4 hf4 hmm; go_wp2_with (at_builtin; refine wpList_append_by (by rfl) (.tmp 84) (.tmp 88) 101 (by rfl) _ _ (by rfl) (by rfl) (hr _) ?_)
       clear hr; go_roundg (n - (i + mm))
       case measure => have := HR2.out.2.1; have := HN.out; have := HX.out.2.2.2.2.2.1; omega
       case rel =>
        obtain ⟨hi, hg, hok, hlen, hk1, hk2, hk3, hk4, hownc, hfc, hfm, him, hsame, hrun, hil2, hlenA, hm8, hm', hm3⟩ := HR2.out; obtain ⟨hown', hfw, hCw, hnext, hfl, hmm, hv4, hf1, hf2, hf3⟩ := HX.out; exact ⟨i + mm, k2 + 1, toks ++ [.cpy f mm], by omega, by omega, by rw [HN.out], by go_num, hown', hnext, (toksOk_snoc (t := .cpy f mm)).2 ⟨hok, ⟨hf1, by rw [hfl]; exact hf2, hf3, by omega, by omega⟩⟩, by rw [List.length_append]; simp only [List.length_cons, List.length_nil]; omega, hCw, by omega, by omega, hfw⟩
  · obtain rfl : i = n := by omega
    have hd : decide (i < i) = false := by simp
    have hrun2 : toksRun (A.take from_) toks = A := by rw [hrun, hn, List.take_length]
    have HX := zHi (zAi hown (zAi hrun2 (zAi hok (zAi hlen (zAi hCr (zAi hk1 (zAi hk2 hf))))))); clear hi hil hg hown hrun hok hlen hCr hk1 hk2 hf hbr hA hal hfr hC hk0 haC hn hlt hrun2; go_wp2_with fail
    go_ret
    obtain ⟨hown, hrun2, hok, hlen, hCr, hk1, hk2, hf⟩ := HX.out; exact ⟨_, toks, k, rfl, hown, hrun2, hok, hlen, hCr, hk1, hk2, hf⟩
end Go.Proofs.YthfncdfcklbigaaGreatDoor
namespace Flate
def Alk (A : List Nat) (i m : Nat) : Prop := ∀ j, j < m → A.getD (i + j) 0 = A.getD i 0
theorem alk_one (A : List Nat) (i : Nat) : Alk A i 1 := by
 intro j hj
 obtain rfl : j = 0 := by omega
 rfl
theorem Alk.less {A : List Nat} {i m m' : Nat} (h : Alk A i m) (hm : m' ≤ m) : Alk A i m' := fun j hj => h j (by omega)
theorem alk_take {A : List Nat} {i : Nat} : ∀ {m : Nat}, Alk A i m → i + m ≤ A.length → A.take (i + m) = A.take i ++ List.replicate m (A.getD i 0)
 | 0, _, _ => by simp
 | m + 1, h, hm => by
  rw [← Nat.add_assoc, List.take_add_one, alk_take (h.less (Nat.le_succ m)) (by omega), List.getElem?_eq_getElem (by omega), List.replicate_succ', List.append_assoc]
  have := h m (by omega)
  rw [List.getD_eq_getElem?_getD, List.getElem?_eq_getElem (by omega)] at this
  simp only [Option.getD_some] at this; rw [this]; rfl
theorem rowsOk_snoc {acc : List Nat} {l : List (Nat × Nat)} {p : Nat × Nat} : rowsOk acc (l ++ [p]) ↔ rowsOk acc l ∧ rowOk (rowsRun acc l) p := by
 induction l generalizing acc with
 | nil => simp [rowsOk, rowsRun]
 | cons a l ih =>
  simp only [List.cons_append, rowsOk, ih, and_assoc]; rfl
theorem rowsRun_snoc (acc : List Nat) (l : List (Nat × Nat)) (p : Nat × Nat) : rowsRun acc (l ++ [p]) = rowRun (rowsRun acc l) p := by simp [rowsRun]
def RowAt (A : List Nat) (i : Nat) (p : Nat × Nat) (m : Nat) : Prop := 1 ≤ m ∧ i + m ≤ A.length ∧ rowOk (A.take i) p ∧ rowRun (A.take i) p = A.take (i + m)
theorem rowAt_one {A : List Nat} {i : Nat} (hi : i < A.length) (h15 : A.getD i 0 ≤ 15) : RowAt A i (A.getD i 0, 0) 1 := by
 refine ⟨Nat.le_refl _, by omega, ⟨by show A.getD i 0 ≤ 18; omega, fun h => ?_, ?_⟩, ?_⟩
 · have : A.getD i 0 = 16 := h; omega
 · show 0 < 2 ^ _
   exact Nat.two_pow_pos _
 · unfold rowRun; rw [if_pos (by show A.getD i 0 < 16; omega), List.take_add_one, List.getElem?_eq_getElem hi, List.getD_eq_getElem?_getD, List.getElem?_eq_getElem hi]
   rfl
theorem rowAt_18 {A : List Nat} {i m : Nat} (h : Alk A i m) (h0 : A.getD i 0 = 0) (h1 : 11 ≤ m) (h2 : m ≤ 138) (hm : i + m ≤ A.length) : RowAt A i (18, m - 11) m := by
 refine ⟨by omega, hm, ⟨Nat.le_refl _, fun h => absurd (show 18 = 16 from h) (by decide), by show m - 11 < 128; omega⟩, ?_⟩
 rw [alk_take h hm, h0]
 show A.take i ++ List.replicate (11 + (m - 11)) 0 = _
 rw [show 11 + (m - 11) = m by omega]
theorem rowAt_17 {A : List Nat} {i m : Nat} (h : Alk A i m) (h0 : A.getD i 0 = 0) (h1 : 3 ≤ m) (h2 : m ≤ 10) (hm : i + m ≤ A.length) : RowAt A i (17, m - 3) m := by
 refine ⟨by omega, hm, ⟨by show 17 ≤ 18; omega, fun h => absurd (show 17 = 16 from h) (by decide), by show m - 3 < 8; omega⟩, ?_⟩
 rw [alk_take h hm, h0]
 show A.take i ++ List.replicate (3 + (m - 3)) 0 = _
 rw [show 3 + (m - 3) = m by omega]
theorem rowAt_16 {A : List Nat} {i m : Nat} (h : Alk A i m) (hi : 0 < i) (h0 : A.getD i 0 = A.getD (i - 1) 0) (h1 : 3 ≤ m) (h2 : m ≤ 6) (hm : i + m ≤ A.length) : RowAt A i (16, m - 3) m := by
 have hl : (A.take i).length = i := by rw [List.length_take]; omega
 refine ⟨by omega, hm, ⟨by show 16 ≤ 18; omega, fun _ e => ?_, by show m - 3 < 4; omega⟩, ?_⟩
 · rw [e] at hl; simp at hl; omega
 · rw [alk_take h hm, h0]
   show A.take i ++ List.replicate (3 + (m - 3)) ((A.take i).getD ((A.take i).length - 1) 0) = _
   rw [show 3 + (m - 3) = m by omega, hl, List.getD_eq_getElem?_getD, List.getElem?_take_of_lt (by omega), ← List.getD_eq_getElem?_getD]
end Flate
namespace Go.Proofs.YthfncdfcklbigaaGreatDoor
open Go.RowKit Go.IntWalk Flate
set_option maxRecDepth 100000
abbrev runV (p : Nat × Nat) : List Value := [natV p.1, natV p.2, natV (rowX p.1)]
abbrev OwnR (w : World) (base : Nat) (v : Value) (l : List (Nat × Nat)) : Prop := Row KI w base 139 3 v l.length (l.flatMap runV)
theorem flat3r (l : List (Nat × Nat)) (j i : Nat) (hj : j < l.length) (hi : i < 3) : (l.flatMap runV)[j * 3 + i]? = (runV l[j])[i]? := by
 induction l generalizing j with
 | nil => simp at hj
 | cons t l ih =>
  rw [List.flatMap_cons]
  cases j with
  | zero => rw [List.getElem?_append_left (by simp; omega)]; simp
  | succ j =>
   rw [List.getElem?_append_right (by simp; omega)]
   have := ih j (by simpa using hj)
   simp only [List.length_cons, List.length_nil, List.getElem_cons_succ]; rw [show (j + 1) * 3 + i - (0 + 1 + 1 + 1) = j * 3 + i by omega]
   exact this
structure Rns (w : World) (base : Option Addr) (l : List (Nat × Nat)) : Prop where
 cells : ∀ j (h : j < l.length), ∃ g, base = some ⟨g, 0, none⟩ ∧ w.cell? ⟨g, j * 3, none⟩ = some (natV l[j].1) ∧ w.cell? ⟨g, j * 3 + 1, none⟩ = some (natV l[j].2) ∧ w.cell? ⟨g, j * 3 + 2, none⟩ = some (natV (rowX l[j].1))
theorem OwnR.rns {w : World} {base : Nat} {v : Value} {l : List (Nat × Nat)} (h : OwnR w base v l) : ∃ b cap, v = .slice b l.length cap ∧ l.length ≤ cap ∧ Rns w b l ∧ (∀ a, b = some a → base ≤ a.block ∧ a.block < w.heap.size) := by
 rcases h.cells with ⟨q, q0⟩ | ⟨g, cap, q1, q2, q3, q4, q5⟩
 · have hl : l = [] := List.eq_nil_of_length_eq_zero q0; subst hl; exact ⟨none, 0, q, Nat.le_refl _, ⟨fun j hj => absurd hj (by simp)⟩, fun a ha => by simp at ha⟩
 · refine ⟨_, cap, q1, q4, ⟨fun j hj => ⟨g, rfl, ?_, ?_, ?_⟩⟩, fun a ha => by obtain rfl := Option.some.inj ha; exact ⟨q2, q3⟩⟩
   · have := q5 (j * 3 + 0) _ ((flat3r l j 0 hj (by omega)).trans rfl)
     exact this
   · exact q5 (j * 3 + 1) _ ((flat3r l j 1 hj (by omega)).trans rfl)
   · exact q5 (j * 3 + 2) _ ((flat3r l j 2 hj (by omega)).trans rfl)
theorem infoRun : ((Tryz.prog.info? 139).map fun i => (i.zero, i.size, i.bytes)) = some (some (.agg #[.int .i64 0, .int .i64 0, .int .i64 0]), 3, 24) := by kernel_rfl
theorem append_run (w : World) (base : Nat) (v : Value) (l : List (Nat × Nat)) (hrow : OwnR w base v l) (x : Nat × Nat) (hle : l.length + 1 ≤ 1099511627776) (hbase : base ≤ w.heap.size) :
 ∃ v' w', (∀ ty, (Builtin.append_ #[136, 136] ty #[v, .slice (some ⟨w.heap.size, 0, none⟩) 1 1]).run Tryz.prog (w.alloc (.cells #[natV x.1, natV x.2, natV (rowX x.1)] 139)) = .ok v' w') ∧ OwnR w' base v' (l ++ [x]) ∧ Frm (fun b _ => v.ownBlock = some b) w w' := by
 obtain ⟨i, hi, hiq⟩ := Option.map_eq_some_iff.1 infoRun
 simp only [Prod.mk.injEq] at hiq
 obtain ⟨h1, h2, h3⟩ := hiq
 have hf1 : Frm (fun b _ => v.ownBlock = some b) w (w.alloc (.cells #[natV x.1, natV x.2, natV (rowX x.1)] 139)) := (Frm.refl _ _).alloc _
 have hrow1 := hrow.keep (S := fun _ _ => False) ((Frm.refl _ w).alloc (.cells #[natV x.1, natV x.2, natV (rowX x.1)] 139)) (fun _ _ _ e => e)
 obtain ⟨v', w', hrun, hr, hf, _⟩ := append_row (P := Tryz.prog) KI _ base 136 139 i _ 3 24 Tryz.underlying136 hi h1 h2 h3 (by rfl) (by
  intro u hu; have hu' : u ∈ [Value.int .i64 0, Value.int .i64 0, Value.int .i64 0] := hu; simp only [List.mem_cons, List.not_mem_nil, or_false, or_self] at hu'; exact ⟨0, hu'⟩) v l.length _ hrow1 ⟨w.heap.size, 0, none⟩ 1 1 (runV x) (by simp) (fun j u hu => by
  rw [Addr.add_lit]; refine (cells_at (heap_alloc_new w _)).trans ?_; rw [Nat.zero_add]
  match j, hu with
  | 0, hu => exact hu
  | 1, hu => exact hu
  | 2, hu => exact hu
  | j + 3, hu => simp at hu) (fun u hu => by
   simp only [runV, List.mem_cons, List.not_mem_nil, or_false] at hu; rcases hu with rfl | rfl | rfl <;> rfl) (fun u hu => by
   simp only [runV, List.mem_cons, List.not_mem_nil, or_false] at hu; rcases hu with rfl | rfl | rfl <;> exact ⟨_, rfl⟩) (by simp only [maxLen]; omega) (by omega) (Nat.le_trans hbase hf1.size)
 refine ⟨v', w', hrun, ?_, hf1.trans' hf (fun _ _ _ e => e)⟩
 unfold OwnR
 rw [List.flatMap_append, List.length_append]
 simp only [List.flatMap_cons, List.flatMap_nil, List.append_nil]
 exact hr
def RnInv (w : World) (M C : Nat) (l : List Int) (A : List Nat) (k0 : Nat) (g : Nat) (out iv : Value) (wr : World) : Prop :=
 ∃ (i k : Nat) (R : List (Nat × Nat)), i ≤ A.length ∧ g = A.length - i ∧ iv = .int .i64 (i : Int) ∧ OwnR wr w.heap.size out R ∧ rowsRun [] R = A.take i ∧ rowsOk [] R ∧ Chs wr M C l k ∧ k0 ≤ k ∧ k ≤ k0 + 3 * i ∧ Frm (fun b _ => b = C) w wr
def RnSt (w : World) (M C : Nat) (l : List Int) (A : List Nat) (k i : Nat) (R : List (Nat × Nat)) (out nv : Value) (wr : World) : Prop :=
 ∃ (p : Nat × Nat) (m k' : Nat), nv = .int .i64 (m : Int) ∧ RowAt A i p m ∧ OwnR wr w.heap.size out (R ++ [p]) ∧ Chs wr M C l k' ∧ k ≤ k' ∧ k' ≤ k + 3 ∧ Frm (fun b _ => b = C) w wr
def RnQ (wr : World) (M C : Nat) (l : List Int) (k : Nat) (c : Prop) (s : Value) (wq : World) : Prop :=
 ∃ (b : Bool) (k' : Nat), s = .bool b ∧ (b = true → c) ∧ Chs wq M C l k' ∧ k ≤ k' ∧ k' ≤ k + 1 ∧ Frm (fun b _ => b = C) wr wq
theorem rn_put {w wc : World} {M C : Nat} {l : List Int} {A : List Nat} {k k1 i : Nat} {R : List (Nat × Nat)} {out : Value} (hlt : C < w.heap.size) (hMw : M ≤ w.heap.size) (hown : OwnR wc w.heap.size out R) (hrun : rowsRun [] R = A.take i) (hal : A.length ≤ 1048576) (hC : Chs wc M C l k1) (hk1 : k ≤ k1) (hk2 : k1 ≤ k + 3) (hf : Frm (fun b _ => b = C) w wc) {p : Nat × Nat} {m : Nat} (hrow : RowAt A i p m) :
 ∃ v' w', (∀ ty, (Builtin.append_ #[136, 136] ty #[out, .slice (some ⟨wc.heap.size, 0, none⟩) 1 1]).run Tryz.prog (wc.alloc (.cells #[natV p.1, natV p.2, natV (rowX p.1)] 139)) = .ok v' w') ∧ RnSt w M C l A k i R v' (.int .i64 (m : Int)) w' := by
 have hRl : R.length ≤ 1048576 := by
  have h := rowsRun_le [] R; rw [hrun, List.length_take] at h; have h0 : ([] : List Nat).length = 0 := rfl; omega
 obtain ⟨v', w', hr0, hown', hfr'⟩ := append_run wc w.heap.size _ _ hown p (by omega) hf.size
 exact ⟨v', w', hr0, p, m, k1, rfl, hrow, hown', hC.keep hfr' (fun b o q => by have := (hown.lt b q).1; exact ⟨by omega, .inl (by omega)⟩), hk1, hk2, hf.trans' hfr' (fun x o hx q => by have := (hown.lt x q).1; omega)⟩
set_option maxHeartbeats 4000000 in
theorem runs_any (w : World) (ab : Option Addr) (A : List Nat) (ac : Nat) (hA : Nt w ab A) (hal : A.length ≤ 1048576) (h15 : ∀ j, A.getD j 0 ≤ 15) (M C : Nat) (l : List Int) (k0 : Nat) (hC : Chs w M C l k0) (hk0 : k0 ≤ 137438953472) (haC : ∀ a, ab = some a → a.block ≠ C) (hMw : M ≤ w.heap.size) :
 Calls Tryz.prog 69 #[.slice ab A.length ac, .pointer (some ⟨C, 0, none⟩)] w fun e w' => ∃ v R k, e = .returned v ∧ OwnR w' w.heap.size v R ∧ rowsRun [] R = A ∧ rowsOk [] R ∧ Chs w' M C l k ∧ k0 ≤ k ∧ k ≤ k0 + 3 * A.length ∧ Frm (fun b _ => b = C) w w' := by
 have HH := zHi (zAi hA (zAi hal (zAi h15 (zAi hC (zAi hk0 (zAi haC hMw))))))
 obtain ⟨n, hn⟩ : ∃ n, n = A.length := ⟨_, rfl⟩
 rw [← hn]
 have c1 : (n : Int) ≤ 1048576 := by omega
 have HN := zHi hn
 clear hA hal h15 hC hk0 haC hn hMw
 go_enter Tryz.func69, Tryz.ntmps69
 go_wp2_with fail
 go_loopg [5, 6] (n - 0) (fun g out iv wr => RnInv w M C l A k0 g out iv wr)
 case atStart =>
  obtain ⟨hA, hal, h15, hC, hk0, haC, hMw⟩ := HH.out; exact ⟨0, k0, [], Nat.zero_le _, by rw [HN.out], rfl, Row.nil _ _ _ _ _, rfl, trivial, hC, Nat.le_refl _, by omega, Frm.refl _ _⟩
 case round =>
  obtain ⟨i, k, R, hi, hg, rfl, hown, hrun, hok, hCr, hk1, hk2, hf⟩ := hrel; have hn := HN.out
  by_cases hlt : i < n
  · have c3 : (i : Int) < (n : Int) := by omega
    have hbr : Nt wr ab A := ⟨fun j hj => by
     obtain ⟨g', h1, h2⟩ := HH.out.1.cells j hj; exact ⟨g', h1, hf.keep h2 (fun q => HH.out.2.2.2.2.2.1 _ h1 q)⟩⟩
    have HR := zHi (zAi hi (zAi hg (zAi hown (zAi hrun (zAi hok (zAi hCr (zAi hk1 (zAi hk2 (zAi hf hbr))))))))); have hkb : k ≤ 274877906944 := by have := HH.out.2.2.2.2.1; omega
    obtain ⟨x, hx⟩ : ∃ x, x = A.getD i 0 := ⟨_, rfl⟩; have hil : i < A.length := by omega
    obtain ⟨ag, hag, hcx⟩ := hbr.getS hil x hx; subst hag; have cx : (x : Int) ≤ 15 := by have := HH.out.2.2.1 i; omega
    clear hi hg hown hrun hok hCr hk1 hk2 hf hbr hn hil; have HX := zHi hx; clear hx; go_upto_region 4 with (fail)
    go_cut [7] (fun s wq => s = .int .i64 1 ∧ wr = wq)
    case first =>
     go_wp2_with fail
     go_meet
     case rel => exact ⟨rfl, rfl⟩
    obtain ⟨rfl, rfl⟩ := hcut; apply_assumption; refine wp_seq_k ?_; intro K1 hK1; go_cut [7] (fun nv wq => Frm (fun _ _ => False) wr wq ∧ ∃ m : Nat, nv = .int .i64 (m : Int) ∧ 1 ≤ m ∧ i + m ≤ n ∧ Alk A i m)
    case first =>
     obtain ⟨wd, rfl⟩ : ∃ wd, wd = wr := ⟨_, rfl⟩; go_wp2_with fail
     go_loopg [7] (n - i - 1) (fun g nv wq => Frm (fun _ _ => False) wd wq ∧ ∃ m : Nat, nv = .int .i64 (m : Int) ∧ 1 ≤ m ∧ i + m ≤ n ∧ Alk A i m ∧ g = n - i - m)
     case atStart => exact ⟨Frm.refl _ _, 1, rfl, by omega, by omega, alk_one _ _, rfl⟩
     case round =>
      obtain ⟨hfq, m, rfl, hm1, him, hal, hg⟩ := hrel; have hcxr := hfq.keep hcx (fun e => e)
      have c4 : (m : Int) ≤ 1048576 := by omega
      have HS := zHi (zAi hm1 (zAi him (zAi hal (zAi hg hfq)))); clear hm1 him hal hg hcx
      by_cases hin : i + m < n
      · obtain ⟨q1, hq1⟩ : ∃ q, q = i + m := ⟨_, rfl⟩; have ew1 : IntKind.i64.wrap ((i : Int) + (m : Int)) = (q1 : Int) := by rw [i64_in _ (by omega)]; omega
        have g2 : decide ((q1 : Int) < (n : Int)) = true := by simp; omega
        have g3 : q1 < n := by omega
        obtain ⟨y, hy⟩ : ∃ y, y = A.getD q1 0 := ⟨_, rfl⟩; have hbr := HR.out.2.2.2.2.2.2.2.2.2; obtain ⟨ag2, hag2, hcy0⟩ := hbr.getS (show q1 < A.length by have := HN.out; omega) y hy
        have hage : ag = ag2 := by injection hag2 with e; injection e
        subst hage; have hcy := hfq.keep hcy0 (fun e => e)
        have cy : (y : Int) ≤ 15 := by have := HH.out.2.2.1 q1; omega
        by_cases hxy : y = x
        · have hnext : Alk A i (m + 1) := fun j hj => by
           by_cases e : j = m
           · subst e; rw [← hq1, ← hy, hxy, HX.out]
           · exact HS.out.2.2.1 j (by omega)
          have HY := zHi (zAi hnext hin); subst hxy; clear hnext hy hbr hag2 hcy0 hq1 hin hfq; go_wp2_with fail
          (go_quiet (fail))
          go_wp2_with fail
          go_roundg (n - i - (m + 1))
          case measure => have := HS.out.2.2.2.1; have := HY.out.2; omega
          case rel => exact ⟨HS.out.2.2.2.2.drewN _, m + 1, by go_num, by omega, by have := HY.out.2; omega, HY.out.1, rfl⟩
        · have hne : ((y : Int) == (x : Int)) = false := by simp; omega
          have hne2 : (y == x) = false := by simp; exact hxy
          clear hy hbr hag2 hcy0 hq1 hin hfq hxy; go_wp2_with fail
          (go_quiet (fail))
          go_wp2_with fail
          go_meet
          case rel => exact ⟨HS.out.2.2.2.2.drewN _, m, rfl, HS.out.1, HS.out.2.1, HS.out.2.2.1⟩
      · obtain ⟨q1, hq1⟩ : ∃ q, q = i + m := ⟨_, rfl⟩; have ew1 : IntKind.i64.wrap ((i : Int) + (m : Int)) = (q1 : Int) := by rw [i64_in _ (by omega)]; omega
        have g5 : decide ((q1 : Int) < (n : Int)) = false := by simp; omega
        have g6 : ¬ q1 < n := by omega
        clear hq1 hin hfq; go_wp2_with fail
        (go_quiet (fail))
        go_wp2_with fail
        go_meet
        case rel => exact ⟨HS.out.2.2.2.2.drewN _, m, rfl, HS.out.1, HS.out.2.1, HS.out.2.2.1⟩
    obtain ⟨hfm, m, rfl, hm1, him, hal⟩ := hcut; refine hK1 _ _ ?_; have hcxm := hfm.keep hcx (fun e => e)
    have c4 : (m : Int) ≤ 1048576 := by omega
    have c5 : (1 : Int) ≤ (m : Int) := by omega
    have hCm := HR.out.2.2.2.2.2.1.keep0 hfm; have hfwm : Frm (fun b _ => b = C) w wc := HR.out.2.2.2.2.2.2.2.2.1.trans (hfm.mono fun _ _ e => e.elim)
    have HM := zHi (zAi hm1 (zAi him (zAi hal (zAi hfm (zAi hCm hfwm))))); have hownm : OwnR wc w.heap.size u5 R := HR.out.2.2.1.keep hfm (fun _ _ _ e => e)
    have hbm : Nt wc (some ⟨ag, 0, none⟩) A := HR.out.2.2.2.2.2.2.2.2.2.keep hfm (fun _ _ e => e.elim)
    have HO := zHi (zAi hownm hbm); obtain ⟨wa, rfl⟩ : ∃ wa, wa = wc := ⟨_, rfl⟩; clear hm1 him hal hcx hCm hfm hfwm hownm hbm; refine wp_seq_k ?_; intro K3 hK3; go_cut [5, 7] (fun out nv wq => RnSt w M C l A k i R out nv wq)
    case first =>
     go_upto_region 9 with (fail)
     go_cut [41] (fun s wq => RnQ wa M C l k (x = 0 ∧ 11 ≤ m) s wq)
     case first =>
      by_cases hx0 : x = 0
      · subst hx0
        by_cases hm11 : 11 ≤ m
        · have t1 : decide ((11 : Int) ≤ (m : Int)) = true := by simp; omega
          have hn3 : Calls Tryz.prog 42 #[.pointer (some ⟨C, 0, none⟩), .int .i64 3] wa fun e w' => ∃ v : Nat, e = .returned (natV v) ∧ v < 3 ∧ (l = [] → v = k % 3) ∧ Chs w' M C l (k + 1) ∧ Frm (fun b _ => b = C) wa w' := next_any wa M C l k HM.out.2.2.2.2.1 3 (by omega) (by omega) (by omega)
          have HN3 := zHi hn3; have H11 := zHi hm11; clear hn3 hm11; go_wp2_with fail
          refine HN3.out.mono ?_; rintro e w1 ⟨v1, rfl, hv1, _, hC1, hf1⟩; have c6 : (v1 : Int) ≤ 2 := by omega
          have H1 := zHi (zAi hC1 hf1); clear hC1 hf1 hv1; go_wp2_with fail
          go_meet
          case rel => exact ⟨_, k + 1, rfl, fun _ => ⟨by simp, H11.out⟩, H1.out.1, by omega, by omega, H1.out.2⟩
        · have t1 : decide ((11 : Int) ≤ (m : Int)) = false := by simp; omega
          clear hm11; go_wp2_with fail
          go_meet
          case rel => exact ⟨false, k, rfl, fun h => absurd h (by simp), HM.out.2.2.2.2.1, by omega, by omega, Frm.refl _ _⟩
      · have t1 : ((x : Int) == 0) = false := by simp; omega
        clear hx0; go_wp2_with fail
        go_meet
        case rel => exact ⟨false, k, rfl, fun h => absurd h (by simp), HM.out.2.2.2.2.1, by omega, by omega, Frm.refl _ _⟩
     obtain ⟨b1, k1, rfl, hb1, hC1, hk1, hk2, hf1⟩ := hcut; apply_assumption; have hown1 : OwnR wc w.heap.size u5 R := HO.out.1.keep hf1 (fun g o hg e => by have := (HO.out.1.lt g hg).1; have := HH.out.2.2.2.1.lt; omega)
     have hw1 : Frm (fun b _ => b = C) w wc := HM.out.2.2.2.2.2.trans hf1
     cases b1 with
     | true =>
      obtain ⟨hx0, hm11⟩ := hb1 rfl; obtain ⟨m1, hm1, hm1a, hm1b⟩ : ∃ m1, m1 = min m 138 ∧ 11 ≤ m1 ∧ m1 ≤ 138 := ⟨_, rfl, by omega, by omega⟩
      obtain ⟨m2, hm2⟩ : ∃ m2, m2 = m1 - 11 := ⟨_, rfl⟩; have hrow : RowAt A i (18, m2) m1 := by
       rw [hm2]; exact rowAt_18 (HM.out.2.2.1.less (by omega)) (by rw [← HX.out]; exact hx0) hm1a hm1b (by have := HM.out.2.1; have := HN.out; omega)
      obtain ⟨v', w', hr0, hst⟩ := rn_put HH.out.2.2.2.1.lt HH.out.2.2.2.2.2.2 hown1 HR.out.2.2.2.1 HH.out.2.1 hC1 (k := k) (by omega) (by omega) hw1 hrow
      have hr : ∀ ty, (Builtin.append_ #[136, 136] ty #[u5, .slice (some ⟨wc.heap.size, 0, none⟩) 1 1]).run Tryz.prog (wc.alloc (.cells #[.int .i64 18, .int .i64 (m2 : Int), .int .i64 7] 139)) = .ok v' w' := hr0; have HS := zHi hst; have e2 : (m1 : Int) - 11 = (m2 : Int) := by omega
      clear hrow hr0 hst hm2
      by_cases h138 : m ≤ 138
      · have e3 : decide ((m : Int) ≤ 138) = true := by simp; omega
        obtain rfl : m1 = m := by omega
        clear hm1 hb1 hC1 hk1 hk2 hf1 hx0 hm11 hown1 hw1; go_wp2_with (at_builtin; refine wpList_append_by (by rfl) (.tmp 58) (.tmp 62) 136 (by rfl) _ _ (by rfl) (by rfl) (hr _) ?_)
        all_goals (try (exfalso; omega))
        clear hr; go_meet
        case rel => exact HS.out
      · have e3 : decide ((m : Int) ≤ 138) = false := by simp; omega
        obtain rfl : m1 = 138 := by omega
        obtain rfl : m2 = 127 := by omega
        have hr2 : ∀ ty, (Builtin.append_ #[136, 136] ty #[u5, .slice (some ⟨wc.heap.size, 0, none⟩) 1 1]).run Tryz.prog (wc.alloc (.cells #[.int .i64 18, .int .i64 127, .int .i64 7] 139)) = .ok v' w' := hr; clear hm1 hr hb1 hC1 hk1 hk2 hf1 hx0 hm11 hown1 hw1; go_wp2_with (at_builtin; refine wpList_append_by (by rfl) (.tmp 58) (.tmp 62) 136 (by rfl) _ _ (by rfl) (by rfl) (hr2 _) ?_)
        all_goals (try (exfalso; omega))
        clear hr2; go_meet
        case rel => exact HS.out
     | false =>
      have hcx1 := hf1.keep hcxm (fun e => HH.out.2.2.2.2.2.1 _ rfl e)
      have hb2m : Nt wc (some ⟨ag, 0, none⟩) A := ⟨fun j hj => by
       obtain ⟨g', h1, h2⟩ := HO.out.2.cells j hj; exact ⟨g', h1, hf1.keep h2 (fun q => HH.out.2.2.2.2.2.1 _ h1 q)⟩⟩
      have hk1b : k1 ≤ 274877906946 := by omega
      have H1 := zHi (zAi hC1 (zAi hk1 (zAi hk2 (zAi hf1 (zAi hown1 (zAi hw1 hb2m)))))); clear hb1 hC1 hk1 hk2 hf1 hown1 hw1 hcxm hb2m; obtain ⟨wb, rfl⟩ : ∃ wb, wb = wc := ⟨_, rfl⟩; go_upto_region 12 with (fail)
      go_cut [64] (fun s wq => RnQ wb M C l k1 (x = 0 ∧ 3 ≤ m) s wq)
      case first =>
       by_cases hx0 : x = 0
       · subst hx0
         by_cases hm11 : 3 ≤ m
         · have t1 : decide ((3 : Int) ≤ (m : Int)) = true := by simp; omega
           have hn3 : Calls Tryz.prog 42 #[.pointer (some ⟨C, 0, none⟩), .int .i64 3] wb fun e w' => ∃ v : Nat, e = .returned (natV v) ∧ v < 3 ∧ (l = [] → v = k1 % 3) ∧ Chs w' M C l (k1 + 1) ∧ Frm (fun b _ => b = C) wb w' := next_any wb M C l k1 H1.out.1 3 (by omega) (by omega) (by omega)
           have HN3 := zHi hn3; have H11 := zHi hm11; clear hn3 hm11; go_wp2_with fail
           refine HN3.out.mono ?_; rintro e w1 ⟨v1, rfl, hv1, _, hC1, hf1⟩; have c6 : (v1 : Int) ≤ 2 := by omega
           have H1 := zHi (zAi hC1 hf1); clear hC1 hf1 hv1; go_wp2_with fail
           go_meet
           case rel => exact ⟨_, k1 + 1, rfl, fun _ => ⟨by simp, H11.out⟩, H1.out.1, by omega, by omega, H1.out.2⟩
         · have t1 : decide ((3 : Int) ≤ (m : Int)) = false := by simp; omega
           clear hm11; go_wp2_with fail
           go_meet
           case rel => exact ⟨false, k1, rfl, fun h => absurd h (by simp), H1.out.1, by omega, by omega, Frm.refl _ _⟩
       · have t1 : ((x : Int) == 0) = false := by simp; omega
         clear hx0; go_wp2_with fail
         go_meet
         case rel => exact ⟨false, k1, rfl, fun h => absurd h (by simp), H1.out.1, by omega, by omega, Frm.refl _ _⟩
      obtain ⟨b2, k2, rfl, hb2, hC2, hk3, hk4, hf2⟩ := hcut; apply_assumption; have hown2 : OwnR wc w.heap.size u5 R := H1.out.2.2.2.2.1.keep hf2 (fun g o hg e => by have := (HO.out.1.lt g hg).1; have := HH.out.2.2.2.1.lt; omega)
      have hw2 : Frm (fun b _ => b = C) w wc := H1.out.2.2.2.2.2.1.trans hf2
      have hk1 := H1.out.2.1; have hk2 := H1.out.2.2.1
      cases b2 with
      | true =>
       obtain ⟨hx0, hm11⟩ := hb2 rfl; obtain ⟨m1, hm1, hm1a, hm1b⟩ : ∃ m1, m1 = min m 10 ∧ 3 ≤ m1 ∧ m1 ≤ 10 := ⟨_, rfl, by omega, by omega⟩
       obtain ⟨m2, hm2⟩ : ∃ m2, m2 = m1 - 3 := ⟨_, rfl⟩; have hrow : RowAt A i (17, m2) m1 := by
        rw [hm2]; exact rowAt_17 (HM.out.2.2.1.less (by omega)) (by rw [← HX.out]; exact hx0) hm1a hm1b (by have := HM.out.2.1; have := HN.out; omega)
       obtain ⟨v', w', hr0, hst⟩ := rn_put HH.out.2.2.2.1.lt HH.out.2.2.2.2.2.2 hown2 HR.out.2.2.2.1 HH.out.2.1 hC2 (k := k) (by omega) (by omega) hw2 hrow
       have hr : ∀ ty, (Builtin.append_ #[136, 136] ty #[u5, .slice (some ⟨wc.heap.size, 0, none⟩) 1 1]).run Tryz.prog (wc.alloc (.cells #[.int .i64 17, .int .i64 (m2 : Int), .int .i64 3] 139)) = .ok v' w' := hr0; have HS := zHi hst; have e2 : (m1 : Int) - 3 = (m2 : Int) := by omega
       clear hrow hr0 hst hm2
       by_cases h138 : m ≤ 10
       · have e3 : decide ((m : Int) ≤ 10) = true := by simp; omega
         obtain rfl : m1 = m := by omega
         clear hm1 hb2 hC2 hk3 hk4 hf2 hx0 hm11 hown2 hw2 hk1 hk2; go_wp2_with (at_builtin; refine wpList_append_by (by rfl) (.tmp 81) (.tmp 85) 136 (by rfl) _ _ (by rfl) (by rfl) (hr _) ?_)
         all_goals (try (exfalso; omega))
         clear hr; go_meet
         case rel => exact HS.out
       · have e3 : decide ((m : Int) ≤ 10) = false := by simp; omega
         obtain rfl : m1 = 10 := by omega
         obtain rfl : m2 = 7 := by omega
         have hr2 : ∀ ty, (Builtin.append_ #[136, 136] ty #[u5, .slice (some ⟨wc.heap.size, 0, none⟩) 1 1]).run Tryz.prog (wc.alloc (.cells #[.int .i64 17, .int .i64 7, .int .i64 3] 139)) = .ok v' w' := hr; clear hm1 hr hb2 hC2 hk3 hk4 hf2 hx0 hm11 hown2 hw2 hk1 hk2; go_wp2_with (at_builtin; refine wpList_append_by (by rfl) (.tmp 81) (.tmp 85) 136 (by rfl) _ _ (by rfl) (by rfl) (hr2 _) ?_)
         all_goals (try (exfalso; omega))
         clear hr2; go_meet
         case rel => exact HS.out
      | false =>
       have hcx2 := hf2.keep hcx1 (fun e => HH.out.2.2.2.2.2.1 _ rfl e)
       have hb3m : Nt wc (some ⟨ag, 0, none⟩) A := ⟨fun j hj => by
        obtain ⟨g', h1, h2⟩ := H1.out.2.2.2.2.2.2.cells j hj; exact ⟨g', h1, hf2.keep h2 (fun q => HH.out.2.2.2.2.2.1 _ h1 q)⟩⟩
       have hk2b : k2 ≤ 274877906947 := by omega
       have H2 := zHi (zAi hC2 (zAi (show k ≤ k2 by omega) (zAi (show k2 ≤ k + 2 by omega) (zAi hf2 (zAi hown2 (zAi hw2 hb3m))))))
       clear hb2 hC2 hk1 hk2 hk3 hk4 hf2 hown2 hw2 hcx1 hb3m; obtain ⟨wd, rfl⟩ : ∃ wd, wd = wc := ⟨_, rfl⟩; go_upto_region 15 with (fail)
       go_cut [87] (fun s wq => RnQ wd M C l k2 (0 < i ∧ x = A.getD (i - 1) 0 ∧ 3 ≤ m) s wq)
       case first =>
        by_cases hi0 : i = 0
        · subst hi0; go_wp2_with fail
          (go_quiet (fail))
          go_wp2_with fail
          go_meet
          case rel => exact ⟨false, k2, rfl, fun h => absurd h (by simp), H2.out.1.keep0 ((Frm.refl _ _).drewN _), by omega, by omega, (Frm.refl _ _).drewN _⟩
        · have d0 : decide ((0 : Int) < (i : Int)) = true := by simp; omega
          have d1 : 0 < i := by omega
          obtain ⟨i', hi'⟩ : ∃ i', i' = i - 1 := ⟨_, rfl⟩; have ew1 : IntKind.i64.wrap ((i : Int) - 1) = (i' : Int) := by rw [i64_in _ (by omega)]; omega
          have g3 : i' < n := by omega
          obtain ⟨y, hy⟩ : ∃ y, y = A.getD i' 0 := ⟨_, rfl⟩; obtain ⟨ag2, hag2, hcy⟩ := H2.out.2.2.2.2.2.2.getS (show i' < A.length by have := HN.out; omega) y hy
          have hage : ag = ag2 := by injection hag2 with e; injection e
          subst hage; have cy : (y : Int) ≤ 15 := by have := HH.out.2.2.1 i'; omega
          have HI := zHi (zAi hy hi'); clear hy hi' hi0 hag2
          by_cases hxy : x = y
          · subst hxy
            by_cases hm3 : 3 ≤ m
            · have t1 : decide ((3 : Int) ≤ (m : Int)) = true := by simp; omega
              have hn3 : Calls Tryz.prog 42 #[.pointer (some ⟨C, 0, none⟩), .int .i64 3] wd.drew fun e w' => ∃ v : Nat, e = .returned (natV v) ∧ v < 3 ∧ (l = [] → v = k2 % 3) ∧ Chs w' M C l (k2 + 1) ∧ Frm (fun b _ => b = C) wd.drew w' := next_any wd.drew M C l k2 (H2.out.1.keep0 (Frm.refl _ _).drew) 3 (by omega) (by omega) (by omega)
              have HN3 := zHi hn3; have H11 := zHi hm3; clear hn3
              (refine region_tail 19 (by kernel_rfl) (by kernel_rfl) ?_; simp only [List.take_succ_cons, List.take_zero, List.drop_succ_cons, List.drop_zero]; (repeat still_step); refine wpStill_nil ?_)
              go_wp2_with fail
              refine HN3.out.mono ?_; rintro e w1 ⟨v1, rfl, hv1, _, hC1, hf1⟩; have c6 : (v1 : Int) ≤ 2 := by omega
              have H1 := zHi (zAi hC1 hf1); clear hC1 hf1 hv1; go_wp2_with fail
              go_meet
              case rel => exact ⟨_, k2 + 1, rfl, fun _ => ⟨d1, by rw [← HI.out.2, ← HI.out.1], H11.out⟩, H1.out.1, by omega, by omega, ((Frm.refl _ _).drew).trans H1.out.2⟩
            · have t1 : decide ((3 : Int) ≤ (m : Int)) = false := by simp; omega
              go_wp2_with fail
              (go_quiet (fail))
              go_wp2_with fail
              go_meet
              case rel => exact ⟨false, k2, rfl, fun h => absurd h (by simp), H2.out.1.keep0 ((Frm.refl _ _).drewN _), by omega, by omega, (Frm.refl _ _).drewN _⟩
          · have hne : ((x : Int) == (y : Int)) = false := by simp; omega
            have hne2 : (x == y) = false := by simp; exact hxy
            go_wp2_with fail
            (go_quiet (fail))
            go_wp2_with fail
            go_meet
            case rel => exact ⟨false, k2, rfl, fun h => absurd h (by simp), H2.out.1.keep0 ((Frm.refl _ _).drewN _), by omega, by omega, (Frm.refl _ _).drewN _⟩
       obtain ⟨b3, k3, rfl, hb3, hC3, hk5, hk6, hf3⟩ := hcut; apply_assumption; have hown3 : OwnR wc w.heap.size u5 R := H2.out.2.2.2.2.1.keep hf3 (fun g o hg e => by have := (HO.out.1.lt g hg).1; have := HH.out.2.2.2.1.lt; omega)
       have hw3 : Frm (fun b _ => b = C) w wc := H2.out.2.2.2.2.2.1.trans hf3
       have hk1 := H2.out.2.1; have hk2 := H2.out.2.2.1
       cases b3 with
       | true =>
        obtain ⟨hi0, hx0, hm11⟩ := hb3 rfl; obtain ⟨m1, hm1, hm1a, hm1b⟩ : ∃ m1, m1 = min m 6 ∧ 3 ≤ m1 ∧ m1 ≤ 6 := ⟨_, rfl, by omega, by omega⟩
        obtain ⟨m2, hm2⟩ : ∃ m2, m2 = m1 - 3 := ⟨_, rfl⟩; have hrow : RowAt A i (16, m2) m1 := by
         rw [hm2]; exact rowAt_16 (HM.out.2.2.1.less (by omega)) hi0 (by rw [← HX.out]; exact hx0) hm1a hm1b (by have := HM.out.2.1; have := HN.out; omega)
        obtain ⟨v', w', hr0, hst⟩ := rn_put HH.out.2.2.2.1.lt HH.out.2.2.2.2.2.2 hown3 HR.out.2.2.2.1 HH.out.2.1 hC3 (k := k) (by omega) (by omega) hw3 hrow
        have hr : ∀ ty, (Builtin.append_ #[136, 136] ty #[u5, .slice (some ⟨wc.heap.size, 0, none⟩) 1 1]).run Tryz.prog (wc.alloc (.cells #[.int .i64 16, .int .i64 (m2 : Int), .int .i64 2] 139)) = .ok v' w' := hr0; have HS := zHi hst; have e2 : (m1 : Int) - 3 = (m2 : Int) := by omega
        clear hrow hr0 hst hm2
        by_cases h138 : m ≤ 6
        · have e3 : decide ((m : Int) ≤ 6) = true := by simp; omega
          obtain rfl : m1 = m := by omega
          clear hm1 hb3 hC3 hk5 hk6 hf3 hx0 hm11 hown3 hw3 hk1 hk2 hi0; go_wp2_with (at_builtin; refine wpList_append_by (by rfl) (.tmp 113) (.tmp 117) 136 (by rfl) _ _ (by rfl) (by rfl) (hr _) ?_)
          all_goals (try (exfalso; omega))
          clear hr; go_meet
          case rel => exact HS.out
        · have e3 : decide ((m : Int) ≤ 6) = false := by simp; omega
          obtain rfl : m1 = 6 := by omega
          obtain rfl : m2 = 3 := by omega
          have hr2 : ∀ ty, (Builtin.append_ #[136, 136] ty #[u5, .slice (some ⟨wc.heap.size, 0, none⟩) 1 1]).run Tryz.prog (wc.alloc (.cells #[.int .i64 16, .int .i64 3, .int .i64 2] 139)) = .ok v' w' := hr; clear hm1 hr hb3 hC3 hk5 hk6 hf3 hx0 hm11 hown3 hw3 hk1 hk2 hi0; go_wp2_with (at_builtin; refine wpList_append_by (by rfl) (.tmp 113) (.tmp 117) 136 (by rfl) _ _ (by rfl) (by rfl) (hr2 _) ?_)
          all_goals (try (exfalso; omega))
          clear hr2; go_meet
          case rel => exact HS.out
       | false =>
        have hcx3 := hf3.keep hcx2 (fun e => HH.out.2.2.2.2.2.1 _ rfl e)
        have hxle : x ≤ 15 := by omega
        obtain ⟨v', w', hr0, hst⟩ := rn_put HH.out.2.2.2.1.lt HH.out.2.2.2.2.2.2 hown3 HR.out.2.2.2.1 HH.out.2.1 hC3 (k := k) (by omega) (by omega) hw3 (rowAt_one (A := A) (i := i) (by have := HN.out; omega) (by rw [← HX.out]; exact hxle))
        rw [← HX.out] at hr0; have hx16 : rowX x = 0 := by
         unfold rowX; rw [if_neg (by omega), if_neg (by omega), if_neg (by omega)]
        have hr : ∀ ty, (Builtin.append_ #[136, 136] ty #[u5, .slice (some ⟨wc.heap.size, 0, none⟩) 1 1]).run Tryz.prog (wc.alloc (.cells #[.int .i64 (x : Int), .int .i64 0, .int .i64 0] 139)) = .ok v' w' := by
         intro ty; have := hr0 ty; simp only [hx16] at this; exact this
        have HS := zHi hst; clear hr0 hst hx16 hb3 hC3 hk5 hk6 hf3 hown3 hw3 hk1 hk2 hcx2; go_wp2_with (at_builtin; refine wpList_append_by (by rfl) (.tmp 33) (.tmp 39) 136 (by rfl) _ _ (by rfl) (by rfl) (hr _) ?_)
        clear hr; go_meet
        case rel => exact HS.out
    obtain ⟨p, m', k', rfl, hrow, hown', hC', hk3, hk4, hf'⟩ := hcut; refine hK3 _ _ ?_; have c7 : (m' : Int) ≤ 1048576 := by have := hrow.2.1; have := HN.out; omega
    have HS := zHi (zAi hrow (zAi hown' (zAi hC' (zAi hk3 (zAi hk4 hf'))))); clear hrow hown' hC' hk3 hk4 hf'; go_wp2_with fail
    go_roundg (n - (i + m'))
    case measure => have := HR.out.2.1; have := HS.out.1.1; have := HN.out; omega
    case rel =>
     obtain ⟨hrow, hown', hC', hk3, hk4, hf'⟩ := HS.out; obtain ⟨hi, hg, hown, hrun, hok, hCr, hk1, hk2, hf, hbr⟩ := HR.out; refine ⟨i + m', k', R ++ [p], hrow.2.1, by rw [HN.out], by go_num, hown', ?_, rowsOk_snoc.2 ⟨hok, by rw [hrun]; exact hrow.2.2.1⟩, hC', by omega, by have := hrow.1; omega, hf'⟩
     rw [rowsRun_snoc, hrun]; exact hrow.2.2.2
  · obtain rfl : i = n := by omega
    have hd : decide (i < i) = false := by simp
    have HX := zHi (zAi hown (zAi (show rowsRun [] R = A by rw [hrun, hn, List.take_length]) (zAi hok (zAi hCr (zAi hk1 (zAi hk2 hf))))))
    clear hi hg hown hrun hok hCr hk1 hk2 hf hn hlt; go_wp2_with fail
    go_ret
    obtain ⟨hown, hrun2, hok, hCr, hk1, hk2, hf⟩ := HX.out; exact ⟨_, R, k, rfl, hown, hrun2, hok, hCr, hk1, hk2, hf⟩
end Go.Proofs.YthfncdfcklbigaaGreatDoor
namespace Flate
def usedK (used : List Bool) (k : Nat) : List Nat := (List.range k).filter fun s => used.getD s false
theorem usedK_succ (used : List Bool) (k : Nat) : usedK used (k + 1) = if used.getD k false = true then usedK used k ++ [k] else usedK used k := by
 unfold usedK
 rw [List.range_succ, List.filter_append]
 cases h : used.getD k false with
 | true => simp only [List.filter_cons, List.filter_nil, h, if_true]
 | false => simp only [List.filter_cons, List.filter_nil, h, Bool.false_eq_true, if_false, List.append_nil]
theorem usedK_len (used : List Bool) (k : Nat) : (usedK used k).length ≤ k := by
 have := List.length_filter_le (fun s => used.getD s false) (List.range k)
 rw [List.length_range] at this
 exact this
theorem pow_lt_inv {a b : Nat} (h : 2 ^ a < 2 ^ b) : a < b := by
 rcases Nat.lt_or_ge a b with q | q
 · exact q
 · have := Nat.pow_le_pow_right (show 0 < 2 by omega) q; omega
theorem tree_fin {used : List Bool} {out ls : List Nat} {long deep most : Nat} (h : Tr used out ls long) (hd1 : ls.length ≤ 2 ^ deep) (hd2 : deep = 0 ∨ 2 ^ (deep - 1) < ls.length) (hlm : long = 0 ∨ long + 9 ≤ most) (hne : 0 < long → ls ≠ []) (h7 : 7 ≤ most) (h15 : most ≤ 15) (hl : ls.length ≤ 512) (hum : most < 9 → ls.length ≤ 2 ^ most) :
 (¬ (long = 0 ∧ ls.length = 1) → TreeOK used most (outF out ls (deepV long deep (2 ^ deep - ls.length)) ls.length)) ∧ (long = 0 ∧ ls.length = 1 → TreeOK used most ((outF out ls (deepV long deep (2 ^ deep - ls.length)) ls.length).set (ls.getD 0 0) 1)) := by
 have hdeep : long + deep ≤ most := by
  rcases hd2 with q | q
  · omega
  · have h9 : deep - 1 < 9 := pow_lt_inv (by rw [show 2 ^ 9 = 512 from rfl]; omega)
    by_cases hm : most < 9
    · have := pow_lt_inv (Nat.lt_of_lt_of_le q (hum hm)); omega
    · omega
 constructor
 · intro hn
   by_cases h0 : ls = []
   · subst h0; have hlz : long = 0 := by
      rcases Nat.eq_zero_or_pos long with q | q
      · exact q
      · exact absurd rfl (hne q)
     subst hlz; exact tree_none h h15
   · have hlen : 0 < ls.length := List.length_pos_iff.2 h0; refine tree_done h h0 hd1 ?_ ?_ hdeep h15
     · rcases hd2 with q | q
       · subst q; simp; omega
       · rcases Nat.eq_zero_or_pos deep with q0 | q0
         · subst q0; simp; omega
         · have : 2 ^ deep = 2 * 2 ^ (deep - 1) := by rw [show deep = (deep - 1) + 1 by omega, Nat.pow_succ]; simp; omega
           omega
     · rcases Nat.eq_zero_or_pos long with q | q
       · rcases Nat.eq_zero_or_pos deep with q0 | q0
         · subst q0; simp at hd1; omega
         · omega
       · omega
 · rintro ⟨rfl, h1⟩
   match ls, h1 with
   | [s], _ =>
    have hd0 : deep = 0 := by
     rcases hd2 with q | q
     · exact q
     · simp at q
    subst hd0; have e : outF out [s] (deepV 0 0 (2 ^ 0 - [s].length)) [s].length = out.set s 0 := by
     show outF out [s] _ 1 = _
     rw [outF_succ]; rfl
    rw [e]
    show TreeOK used most ((out.set s 0).set s 1)
    rw [List.set_set]; exact tree_one h (by omega) h15
end Flate
namespace Go.Proofs.YthfncdfcklbigaaGreatDoor
open Go.RowKit Go.IntWalk Flate
set_option maxRecDepth 100000
structure Bs (w : World) (base : Option Addr) (l : List Bool) : Prop where
 cells : ∀ j (h : j < l.length), ∃ g, base = some ⟨g, 0, none⟩ ∧ w.cell? ⟨g, j, none⟩ = some (.bool l[j])
theorem OwnB.bs {w : World} {base : Nat} {v : Value} {l : List Bool} (h : OwnB w base v l) : ∃ b cap, v = .slice b l.length cap ∧ l.length ≤ cap ∧ Bs w b l := by
 rcases h.cells with ⟨q, q0⟩ | ⟨g, cap, q1, q2, q3, q4, q5⟩
 · have hl : l = [] := List.eq_nil_of_length_eq_zero q0; subst hl; exact ⟨none, 0, q, Nat.le_refl _, ⟨fun j hj => absurd hj (by simp)⟩⟩
 · exact ⟨_, cap, q1, q4, ⟨fun j hj => ⟨g, rfl, q5 j _ (by rw [List.getElem?_map, List.getElem?_eq_getElem hj]; rfl)⟩⟩⟩
theorem Bs.keep {S : Nat → Nat → Prop} {w w' : World} {b : Option Addr} {l : List Bool} (h : Bs w b l) (hf : Frm S w w') (hS : ∀ g o, S g o → ∀ v, w.cell? ⟨g, o, none⟩ = some v → ¬ KB v) : Bs w' b l :=
 ⟨fun j hj => by obtain ⟨g, h1, h2⟩ := h.cells j hj; exact ⟨g, h1, hf.keep h2 (fun q => hS _ _ q _ h2 ⟨_, rfl⟩)⟩⟩
def T1Inv (w : World) (N1 : Nat) (used : List Bool) (g : Nat) (lv iv : Value) (wr : World) : Prop :=
 ∃ k : Nat, k ≤ used.length ∧ g = used.length - k ∧ iv = .int .i64 (k : Int) ∧ OwnN wr N1 lv (usedK used k) ∧ Frm (fun _ _ => False) w wr
def LsAt (w : World) (B C : Nat) (lv : Value) (ls : List Nat) : Prop := ∃ b cap, lv = .slice b ls.length cap ∧ ls.length ≤ cap ∧ Nt w b ls ∧ (∀ a, b = some a → a.block ≠ B ∧ a.block ≠ C)
def T2Inv (w : World) (used : List Bool) (m N0 M C : Nat) (l : List Int) (k0 most : Nat) (g : Nat) (lv longv skv : Value) (wr : World) : Prop :=
 ∃ (out ls : List Nat) (long sk k : Nat), g = sk ∧ longv = .int .i64 (long : Int) ∧ skv = .int .i64 (sk : Int) ∧ sk ≤ 4 ∧ Tr used out ls long ∧ (0 < long → ls ≠ []) ∧ (long = 0 ∨ long + 9 ≤ most) ∧ ls.length ≤ m ∧
  LsAt wr N0 C lv ls ∧ OwnN wr N0 (.slice (some ⟨N0, 0, none⟩) m m) out ∧ Chs wr M C l k ∧ k0 ≤ k ∧ k + sk ≤ k0 + 5 ∧ Frm (fun b _ => b = C ∨ b = N0) w wr
def T2End (w : World) (used : List Bool) (m N0 M C : Nat) (l : List Int) (k0 most : Nat) (lv longv : Value) (wr : World) : Prop :=
 ∃ (out ls : List Nat) (long k : Nat), longv = .int .i64 (long : Int) ∧ Tr used out ls long ∧ (0 < long → ls ≠ []) ∧ (long = 0 ∨ long + 9 ≤ most) ∧ ls.length ≤ m ∧
  LsAt wr N0 C lv ls ∧ OwnN wr N0 (.slice (some ⟨N0, 0, none⟩) m m) out ∧ Chs wr M C l k ∧ k0 ≤ k ∧ k ≤ k0 + 5 ∧ Frm (fun b _ => b = C ∨ b = N0) w wr
set_option maxHeartbeats 4000000 in
theorem tree_any (w : World) (ub : Option Addr) (used : List Bool) (uc : Nat) (hu : Bs w ub used) (hul : used.length ≤ 512) (M C : Nat) (hMw : M ≤ w.heap.size) (l : List Int) (k0 : Nat) (hC : Chs w M C l k0) (hk0 : k0 ≤ 137438953472) (most : Nat) (hm1 : 7 ≤ most) (hm2 : most ≤ 15) (hum : most < 9 → used.length ≤ 2 ^ most) :
 Calls Tryz.prog 68 #[.slice ub used.length uc, .pointer (some ⟨C, 0, none⟩), .int .i64 (most : Int)] w fun e w' => ∃ v out k, e = .returned v ∧ OwnN w' w.heap.size v out ∧ TreeOK used most out ∧ Chs w' M C l k ∧ k0 ≤ k ∧ k ≤ k0 + 5 ∧ Frm (fun b _ => b = C) w w' := by
 have HH := zHi (zAi hu (zAi hul (zAi hMw (zAi hC (zAi hk0 (zAi hm1 (zAi hm2 hum)))))))
 obtain ⟨m, hm⟩ : ∃ m, m = used.length := ⟨_, rfl⟩
 rw [← hm] at hul ⊢
 have c1 : (m : Int) ≤ 512 := by omega
 have c2 : (most : Int) ≤ 15 := by omega
 have c3 : (7 : Int) ≤ (most : Int) := by omega
 have HM := zHi (zAi hm hul)
 have hmk := run_make_row' (P := Tryz.prog) 33 3 (.int .i64 0) 8 Tryz.underlying33 infoInts rfl .i64 .i64 m (by omega) (by omega)
 have HO := zHi (ownN_made w m (by simp only [maxLen]; omega))
 have hCw : C < w.heap.size := hC.lt
 have HCW := zHi hCw
 clear hu hul hMw hC hk0 hm1 hm2 hum hm hCw
 go_enter Tryz.func68, Tryz.ntmps68
 go_upto_region 2 with (fail)
 obtain ⟨W1, hW1⟩ : ∃ W1, W1 = w.alloc (.cells (madeCells #[.int .i64 0] m) 3) := ⟨_, rfl⟩
 rw [← hW1]
 obtain ⟨N0, hN0⟩ : ∃ N0, N0 = w.heap.size := ⟨_, rfl⟩
 rw [← hN0]
 have hown1 : OwnN W1 N0 (.slice (some ⟨N0, 0, none⟩) m m) (List.replicate m 0) := by rw [hW1, hN0]; exact HO.out
 have hf1 : Frm (fun _ _ => False) w W1 := by rw [hW1]; exact (Frm.refl _ _).alloc _
 have hN1 : N0 < W1.heap.size := (hown1.lt N0 rfl).2 |> fun h => by
  rw [hW1, hN0]; simp
 have HX := zHi (zAi hown1 (zAi hf1 (zAi hN0 hN1)))
 clear hown1 hf1 hN0 hW1 hmk HO hN1
 go_wp2_with fail
 go_loopg [8, 23] (m - 0) (fun g lv iv wr => T1Inv W1 W1.heap.size used g lv iv wr)
 case atStart => exact ⟨0, Nat.zero_le _, by rw [HM.out.1], rfl, Row.nil _ _ _ _ _, Frm.refl _ _⟩
 case round =>
  obtain ⟨k, hk, hg, rfl, hown, hf⟩ := hrel
  by_cases hlt : k < m
  · have hkl : k < used.length := by rw [← HM.out.1]; exact hlt
    have hub := (HH.out.1.keep HX.out.2.1 (fun _ _ e => e.elim)).keep hf (fun _ _ e => e.elim)
    obtain ⟨g', hb', hcell⟩ := hub.cells k hkl; subst hb'; obtain ⟨x, hx⟩ : ∃ x, x = used[k] := ⟨_, rfl⟩; rw [← hx] at hcell; have hxg : used.getD k false = x := by rw [hx, List.getD_eq_getElem?_getD, List.getElem?_eq_getElem hkl]; rfl
    have hul := usedK_len used k
    cases x with
    | true =>
     obtain ⟨v', w', hrun, hown', hfr⟩ := append_nat wr W1.heap.size _ _ hown k (by have := HM.out.2; omega) hf.size
     have hf' := OwnN.fresh hown hf (Nat.le_refl _) hfr; have hr := fun ty => hrun ty
     have hown2 : OwnN w' W1.heap.size v' (usedK used (k + 1)) := by rw [usedK_succ, if_pos hxg]; exact hown'
     have HR := zHi (zAi hg (zAi hown2 hf')); clear hk hg hown hf hkl hub hx hxg hul hrun hown' hfr hf' hown2; go_wp2_with (at_builtin; refine wpList_append_by (by rfl) (.tmp 29) (.tmp 31) 33 (by rfl) _ _ (by rfl) (by rfl) (hr _) ?_)
     clear hr; go_roundg (m - (k + 1))
     case measure => have := HR.out.1; have := HM.out.1; omega
     case rel => exact ⟨k + 1, by have := HM.out.1; omega, by rw [HM.out.1], by go_num, HR.out.2.1, HR.out.2.2⟩
    | false =>
     have hown2 : OwnN wr W1.heap.size u8 (usedK used (k + 1)) := by rw [usedK_succ, if_neg (by rw [hxg]; simp)]; exact hown
     have HR := zHi (zAi hg (zAi hown2 hf)); clear hk hg hown hf hkl hub hx hxg hul hown2; go_wp2_with fail
     go_roundg (m - (k + 1))
     case measure => have := HR.out.1; have := HM.out.1; omega
     case rel => exact ⟨k + 1, by have := HM.out.1; omega, by rw [HM.out.1], by go_num, HR.out.2.1, HR.out.2.2⟩
  · obtain rfl : k = m := by have := HM.out.1; omega
    have hd : decide (k < k) = false := by simp
    have hfw : Frm (fun _ _ => False) w wr := HX.out.2.1.trans hf
    have hCr := HH.out.2.2.2.1.keep0 hfw; have hn5 : Calls Tryz.prog 42 #[.pointer (some ⟨C, 0, none⟩), .int .i64 5] wr fun e w' => ∃ v : Nat, e = .returned (natV v) ∧ v < 5 ∧ (l = [] → v = k0 % 5) ∧ Chs w' M C l (k0 + 1) ∧ Frm (fun b _ => b = C) wr w' := next_any wr M C l k0 hCr 5 (by omega) (by omega) (by have := HH.out.2.2.2.2.1; omega)
    have HN5 := zHi hn5; have HR := zHi (zAi hown (zAi hf hfw)); clear hk hg hown hf hlt hfw hCr hn5; go_upto_region 9 with (fail)
    go_cut [11] (fun s wq => s = .int .i64 0 ∧ wr = wq)
    case first =>
     go_wp2_with fail
     go_meet
     case rel => exact ⟨rfl, rfl⟩
    obtain ⟨rfl, rfl⟩ := hcut; apply_assumption; refine wp_seq_k ?_; intro K1 hK1; go_cut [8, 11] (fun lv longv wq => T2End w used k N0 M C l k0 most lv longv wq)
    case first =>
     go_wp2_with fail
     refine HN5.out.mono ?_; rintro e w2 ⟨v2, rfl, hv2, _, hC2, hf2⟩; have c4 : (v2 : Int) ≤ 4 := by omega
     obtain ⟨hown, hf, hfw⟩ := HR.out; have hN0w := HX.out.2.2.1; have hN1 := HX.out.2.2.2; have hCw := HCW.out; have hCN : C ≠ N0 := by omega
     have hout2 : OwnN w2 N0 (.slice (some ⟨N0, 0, none⟩) k k) (List.replicate k 0) := (HX.out.1.keep hf (fun _ _ _ e => e)).keep hf2 (fun g o hg e => by obtain rfl := Option.some.inj hg; exact hCN e.symm)
     have hl2 : OwnN w2 W1.heap.size u8 (usedK used k) := hown.keep hf2 (fun g o hg e => by have := (hown.lt g hg).1; omega)
     have hlw : LsAt w2 N0 C u8 (usedK used k) := by
      obtain ⟨b, cp, q1, q2, q3⟩ := OwnN.nt hl2; refine ⟨b, cp, q1, q2, q3, fun a ha => ?_⟩
      subst q1 ha; have := (hl2.lt a.block rfl).1; omega
     have hstart : T2Inv w used k N0 M C l k0 most v2 u8 (.int .i64 0) (.int .i64 (v2 : Int)) w2 := by
      refine ⟨List.replicate k 0, usedK used k, 0, v2, k0 + 1, rfl, rfl, rfl, by omega, ?_, fun h => absurd h (by omega), .inl rfl, usedK_len _ _, hlw, hout2, hC2, by omega, by omega, (hfw.mono fun _ _ e => e.elim).trans (hf2.mono fun _ _ e => .inl e)⟩
      have := tr_start used; rw [HM.out.1]; exact this
     have HS := zHi hstart; clear hown hf hfw hN0w hN1 hCw hCN hout2 hl2 hlw hstart hC2 hf2 hv2 HR; go_wp2_with fail
     go_loopg [8, 11, 12] v2 (fun g lv longv skv wr => T2Inv w used k N0 M C l k0 most g lv longv skv wr)
     case atStart => exact HS.out
     case round =>
      obtain ⟨out, ls, long, sk, kc, hgs, rfl, rfl, hsk, htr, hne, hlm, hll, hls, hout, hCr, hkc1, hkc2, hfr⟩ := hrel; have hend : T2End w used k N0 M C l k0 most u8 (.int .i64 (long : Int)) wr := ⟨out, ls, long, kc, rfl, htr, hne, hlm, hll, hls, hout, hCr, hkc1, by omega, hfr⟩
      obtain ⟨lb, lc, rfl, hlc, hnt, hlbn⟩ := hls; obtain ⟨ml, hml⟩ : ∃ ml, ml = ls.length := ⟨_, rfl⟩; rw [← hml] at hlc hll hend ⊢; have c5 : (sk : Int) ≤ 4 := by omega
      have c6 : (long : Int) ≤ 15 := by have := HH.out.2.2.2.2.2.2.1; omega
      have c7 : (ml : Int) ≤ 512 := by have := HM.out.2; omega
      obtain ⟨x9, hx9⟩ : ∃ x9 : Int, (most : Int) - 9 = x9 := ⟨_, rfl⟩; have d9 : x9 ≤ 6 := by omega
      have d8 : -2 ≤ x9 := by omega
      have HE := zHi hend; have HR := zHi (zAi hgs (zAi htr (zAi hne (zAi hlm (zAi hll (zAi hlc (zAi hnt (zAi hlbn (zAi hout (zAi hCr (zAi hkc1 (zAi hkc2 (zAi hfr hml))))))))))))); clear hend hgs htr hne hlm hll hlc hnt hlbn hout hCr hkc1 hkc2 hfr hml
      by_cases h1 : 0 < sk
      · have t1 : decide ((0 : Int) < (sk : Int)) = true := by simp; omega
        by_cases h2 : 1 < ml
        · have t2 : decide ((1 : Int) < (ml : Int)) = true := by simp; omega
          by_cases h3 : long + 9 < most
          · have t3 : decide ((long : Int) < x9) = true := by simp; omega
            have HT3 := zHi t3; clear t3; have t4 : 1 < ml := h2; obtain ⟨hgs, htr, hne, hlm, hll, hlc, hnt, hlbn, hout, hCr, hkc1, hkc2, hfr, hml⟩ := HR.out; have hn4 := next_any wr M C l kc hCr ml (by omega) (by omega) (by have := HH.out.2.2.2.2.1; omega)
            have HN4 := zHi hn4; have H3 := zHi (zAi h1 h3); clear hgs htr hne hlm hll hlc hnt hlbn hout hCr hkc1 hkc2 hfr hml hn4 h2 h3
            go_upto_if 48 with (fail)
            rw [HT3.out]; go_wp2_with fail
            refine HN4.out.mono ?_; rintro e w4 ⟨v4, rfl, hv4, _, hC4, hf4⟩; obtain ⟨hgs, htr, hne, hlm, hll, hlc, hnt, hlbn, hout, hCr, hkc1, hkc2, hfr, hml⟩ := HR.out; have hv4l : v4 < ls.length := by rw [← hml]; exact hv4
            obtain ⟨gl, hb, hunu⟩ := hnt.cells v4 hv4l; clear hunu; subst hb; have hgl := hlbn _ rfl; simp only at hgl; have hnt4 : Nt w4 (some ⟨gl, 0, none⟩) ls := ⟨fun j hj => by
             obtain ⟨g', e, hc⟩ := hnt.cells j hj; injection e with e; injection e with e; subst e; exact ⟨_, rfl, hf4.keep hc (fun q => hgl.2 q)⟩⟩
            obtain ⟨s, hs⟩ : ∃ s, s = ls.getD v4 0 := ⟨_, rfl⟩; obtain ⟨g1, hg1, hcl⟩ := hnt4.getS hv4l s hs; have hg1e : g1 = gl := by injection hg1 with e; injection e with e; exact e.symm
            subst hg1e; have hse : s = ls[v4] := by rw [hs, List.getD_eq_getElem?_getD, List.getElem?_eq_getElem hv4l]; rfl
            have hCN : N0 ≠ C := by have := HX.out.2.2.1; have := HCW.out; omega
            have hout4 : OwnN w4 N0 (.slice (some ⟨N0, 0, none⟩) k k) out := hout.keep hf4 (fun g o hg e => by obtain rfl := Option.some.inj hg; exact hCN e)
            have hsu := (htr.mem s (by rw [hse]; exact List.getElem_mem _))
            have hsl : s < out.length := by rw [htr.len]; exact used_lt hsu.2
            have hsk : s < k := by rw [HM.out.1, ← htr.len]; exact hsl
            obtain ⟨gg, cp, hv, _, _, _, hoc, hofz⟩ := Row.at hout4 hsl; have hgg : N0 = gg := Option.some.inj (congrArg Value.ownBlock hv); subst hgg; replace hoc : ∃ ov, w4.cell? ⟨N0, s, none⟩ = some ov := ⟨_, hoc⟩; obtain ⟨ov, hoc⟩ := hoc; obtain ⟨ho5, hf5⟩ := hout4.set (g := N0) rfl hsl (long + 1); obtain ⟨w5, hw5⟩ : ∃ w5, w5 = w4.setCell ⟨N0, s, none⟩ (natV (long + 1)) := ⟨_, rfl⟩; have hw5' : w4.setCell ⟨N0, s, none⟩ (.int .i64 ((long : Int) + 1)) = w5 := by rw [hw5]; congr 1
            rw [← hw5] at ho5 hf5; have hnt5 : Nt w5.drew (some ⟨g1, 0, none⟩) ls := ⟨fun j hj => by
             obtain ⟨g', e, hc⟩ := hnt4.cells j hj; injection e with e; injection e with e; subst e; exact ⟨_, rfl, hf5.keep hc (fun q => hgl.1 q.1)⟩⟩
            obtain ⟨bx, g', c', w6, hs1, hs2, hr6, hnt6, hc6, hg6, hf6⟩ := del_run w5.drew g1 lc ls v4 ml hnt5 hml hlc hv4 (by have := HM.out.2; omega)
            have c8 : (v4 : Int) < (ml : Int) := by omega
            have c9 : (ml : Int) ≤ (lc : Int) := by omega
            have ew : IntKind.i64.wrap ((v4 : Int) + 1) = (v4 : Int) + 1 := i64_in _ (by omega)
            have hr := fun ty => hr6 ty
            obtain ⟨m1, hm1⟩ : ∃ m1, m1 = ml - (v4 + 1) := ⟨_, rfl⟩; obtain ⟨m2, hm2⟩ : ∃ m2, m2 = lc - (v4 + 1) := ⟨_, rfl⟩; obtain ⟨m3, hm3⟩ : ∃ m3, m3 = ml - 1 := ⟨_, rfl⟩; rw [← hm1, ← hm2] at hs2 hr; rw [← hm3] at hr hc6; clear hr6; have hr := fun ty => hr ty
            have H6 := zHi (zAi hC4 (zAi hf4 (zAi ho5 (zAi hf5 (zAi hnt6 (zAi hc6 (zAi hg6 (zAi hf6 (zAi hs (zAi hgl (zAi hv4 (zAi hm3 (zAi hCN hw5))))))))))))); clear hgs htr hne hlm hll hlc hnt hlbn hout hCr hkc1 hkc2 hfr hml hv4l hgl hnt4 hg1 hse hCN hout4 hsu hsl hv ho5 hf5 hw5 hnt5 hnt6 hc6 hg6 hf6 hm1 hm2 hm3 hC4 hf4 hs; go_upto_region 16 with (fail)
            clear hw5' hoc hcl
            (refine region_tail 8 (by kernel_rfl) (by kernel_rfl) ?_; simp only [List.take_succ_cons, List.take_zero, List.drop_succ_cons, List.drop_zero]; (repeat still_step); refine wpStill_nil ?_)
            go_wp2_with (at_builtin; refine wpList_append_by (by rfl) (.tmp 67) (.tmp 71) 33 (by rfl) _ _ (by rfl) (by rfl) (hr _) ?_)
            clear hr; go_roundg (sk - 1)
            case measure => have := HR.out.1; have := H3.out.1; omega
            case rel =>
             obtain ⟨hgs, htr, hne, hlm, hll, hlc, hnt, hlbn, hout, hCr, hkc1, hkc2, hfr, hml⟩ := HR.out; obtain ⟨hC4, hf4, ho5, hf5, hnt6, hc6, hg6, hf6, hs, hgl, hv4, hm3, hCN, hw5⟩ := H6.out; have hv4l : v4 < ls.length := by rw [← hml]; exact hv4
             have hse : s = ls[v4] := by rw [hs, List.getD_eq_getElem?_getD, List.getElem?_eq_getElem hv4l]; rfl
             have hstep := htr.step hv4l (by have := H3.out.2; have := HH.out.2.2.2.2.2.2.1; omega)
             rw [← hse] at hstep; have hel : (ls.eraseIdx v4).length = m3 := by rw [List.length_eraseIdx, if_pos hv4l, hm3, hml]
             have hN0w : N0 = w.heap.size := HX.out.2.2.1; have hCw := HCW.out; have hsz : w.heap.size ≤ w5.heap.size := by
              have h1 := hfr.size; have h2 := hf4.size; have h3 := hf5.size; omega
             have hlt6 : N0 < w5.heap.size := Nat.lt_of_lt_of_le (hout.lt N0 rfl).2 (Nat.le_trans hf4.size hf5.size); refine ⟨out.set s (long + 1), ls.eraseIdx v4, long + 1, sk - 1, kc + 1, rfl, by go_num, ?_, by omega, hstep, fun _ e => ?_, by have := H3.out.2; omega, by omega, ?_, ?_, ?_, by omega, by have := H3.out.1; omega, ?_⟩
             · congr 1; have := H3.out.1; omega
             · rw [e] at hel; simp at hel; have := H3.out; omega
             · refine ⟨_, c', by rw [hel], by rw [hel]; exact hc6, hnt6, fun a ha => ?_⟩
               obtain rfl := Option.some.inj ha
               show g' ≠ N0 ∧ g' ≠ C
               rcases hg6 with rfl | hg6
               · exact hgl
               · have : w5.heap.size ≤ g' := hg6; omega
             · exact ho5.keep (S := fun _ _ => False) (((Frm.refl _ _).drew).trans hf6) (fun _ _ _ e => e)
             · have hC5 : Chs w5 M C l (kc + 1) := hC4.keep hf5 (fun b o q => ⟨by omega, .inl (by have := HH.out.2.2.1; omega)⟩)
               exact hC5.keep0 (((Frm.refl _ _).drew).trans hf6)
             · exact ((hfr.trans (hf4.mono fun _ _ e => .inl e)).trans (hf5.mono fun _ _ e => .inr e.1)).trans ((((Frm.refl _ _).drew).trans hf6).mono fun _ _ e => e.elim)
          · have t3 : decide ((long : Int) < x9) = false := by simp; omega
            have HT3 := zHi t3; clear h3 t3
            go_upto_if 48 with (fail)
            rw [HT3.out]; go_wp2_with fail
            go_meet
            case rel => exact HE.out
        · have t2 : decide ((1 : Int) < (ml : Int)) = false := by simp; omega
          clear h2; go_wp2_with fail
          go_meet
          case rel => exact HE.out
      · have t1 : decide ((0 : Int) < (sk : Int)) = false := by simp; omega
        go_wp2_with fail
        go_meet
        case rel => exact HE.out
    case rest =>
     obtain ⟨out, ls, long, kc, rfl, htr, hne, hlm, hll, ⟨lb, lc, rfl, hlc, hnt, hlbn⟩, hout, hCr, hkc1, hkc2, hfr⟩ := hcut; obtain ⟨ml, hml⟩ : ∃ ml, ml = ls.length := ⟨_, rfl⟩; rw [← hml] at hlc hll ⊢; have c6 : (long : Int) ≤ 15 := by have := HH.out.2.2.2.2.2.2.1; omega
     have c7 : (ml : Int) ≤ 512 := by have := HM.out.2; omega
     have HR := zHi (zAi htr (zAi hne (zAi hlm (zAi hll (zAi hlc (zAi hnt (zAi hlbn (zAi hout (zAi hCr (zAi hkc1 (zAi hkc2 (zAi hfr hml)))))))))))); clear htr hne hlm hll hlc hnt hlbn hout hCr hkc1 hkc2 hfr hml; refine hK1 _ _ ?_; obtain ⟨wd, rfl⟩ : ∃ wd, wd = wc := ⟨_, rfl⟩; go_wp2_with fail
     go_loopg [14] 10 (fun g dv wq => wd = wq ∧ ∃ d : Nat, d ≤ 9 ∧ g = 10 - d ∧ dv = .int .i64 (d : Int) ∧ (d = 0 ∨ 2 ^ (d - 1) < ml))
     case atStart => exact ⟨rfl, 0, by omega, rfl, rfl, .inl rfl⟩
     case round =>
      obtain ⟨rfl, d, hd9, hg, rfl, hdd⟩ := hrel; obtain ⟨P, hP⟩ : ∃ P : Nat, P = 2 ^ d := ⟨_, rfl⟩; have e3 : (2 : Int) ^ d = (P : Int) := by rw [hP]; simp
      have hPle := pow_le_Int hP hd9; have c8 : (P : Int) ≤ 512 := by omega
      have c9 : (d : Int) ≤ 9 := by omega
      have HD := zHi (zAi hd9 (zAi hg (zAi hdd hP))); clear hd9 hg hdd hP hPle
      by_cases hlt : P < ml
      · have t1 : decide ((P : Int) < (ml : Int)) = true := by simp; omega
        go_wp2_with fail
        go_roundg (10 - (d + 1))
        case measure =>
         obtain ⟨hd9, hg, hdd, hP⟩ := HD.out; have : d < 9 := pow_lt_inv (b := 9) (by rw [← hP, show 2 ^ 9 = 512 from rfl]; omega)
         omega
        case rel =>
         obtain ⟨hd9, hg, hdd, hP⟩ := HD.out; have : d < 9 := pow_lt_inv (b := 9) (by rw [← hP, show 2 ^ 9 = 512 from rfl]; omega)
         exact ⟨rfl, d + 1, by omega, rfl, by go_num, .inr (by rw [Nat.add_sub_cancel, ← hP]; exact hlt)⟩
      · have t1 : decide ((P : Int) < (ml : Int)) = false := by simp; omega
        obtain ⟨sh, hsh⟩ : ∃ sh, sh = P - ml := ⟨_, rfl⟩; have e4 : (P : Int) - (ml : Int) = (sh : Int) := by omega
        have c10 : (sh : Int) ≤ 512 := by omega
        obtain ⟨ld, hld⟩ : ∃ ld, ld = long + d := ⟨_, rfl⟩; have e5 : (long : Int) + (d : Int) = (ld : Int) := by omega
        have c11 : (ld : Int) ≤ 24 := by omega
        have HS := zHi (zAi hsh (zAi hlt hld)); clear hsh hld; go_wp2_with fail
        go_loopg [87] (ml - 0) (fun g iv wq => ∃ j : Nat, j ≤ ml ∧ g = ml - j ∧ iv = .int .i64 (j : Int) ∧ OwnN wq N0 (.slice (some ⟨N0, 0, none⟩) k k) (outF out ls (deepV long d sh) j) ∧ Frm (fun b _ => b = N0) wd wq)
        case atStart => exact ⟨0, Nat.zero_le _, rfl, rfl, HR.out.2.2.2.2.2.2.2.1, Frm.refl _ _⟩
        case round =>
         obtain ⟨j, hj, hgj, rfl, hoj, hfj⟩ := hrel; obtain ⟨htr, hne, hlm, hll, hlc, hnt, hlbn, hout, hCr, hkc1, hkc2, hfr, hml⟩ := HR.out
         by_cases hltj : j < ml
         · have hjl : j < ls.length := by rw [← hml]; exact hltj
           obtain ⟨gl, hb, hunu⟩ := hnt.cells j hjl; clear hunu; subst hb; have hgl := hlbn _ rfl; simp only at hgl; obtain ⟨s, hs⟩ : ∃ s, s = ls.getD j 0 := ⟨_, rfl⟩; obtain ⟨g1, hg1, hcl0⟩ := hnt.getS hjl s hs; have hg1e : g1 = gl := by injection hg1 with e; injection e with e; exact e.symm
           subst hg1e; have hcl : wr.cell? ⟨g1, j, none⟩ = some (.int .i64 (s : Int)) := hfj.keep hcl0 hgl.1; have hse : s = ls[j] := by rw [hs, List.getD_eq_getElem?_getD, List.getElem?_eq_getElem hjl]; rfl
           have hsu := (htr.mem s (by rw [hse]; exact List.getElem_mem _))
           have hsl : s < (outF out ls (deepV long d sh) j).length := by rw [outF_len, htr.len]; exact used_lt hsu.2
           have hsk : s < k := by rw [HM.out.1]; exact used_lt hsu.2
           obtain ⟨gg, cp, hv, _, _, _, hoc, hofz⟩ := Row.at hoj hsl; have hgg : N0 = gg := Option.some.inj (congrArg Value.ownBlock hv); subst hgg; replace hoc : ∃ ov, wr.cell? ⟨N0, s, none⟩ = some ov := ⟨_, hoc⟩; obtain ⟨ov, hoc⟩ := hoc; have hjd : j < ml := hltj; obtain ⟨ho5, hf5⟩ := hoj.set (g := N0) rfl hsl ld; have hsl5 : s < ((outF out ls (deepV long d sh) j).set s ld).length := by rw [List.length_set]; exact hsl
           obtain ⟨ho6, hf6⟩ := ho5.set (g := N0) rfl hsl5 (ld - 1); rw [List.set_set] at ho6; have hF : outF out ls (deepV long d sh) (j + 1) = (outF out ls (deepV long d sh) j).set s (if j < sh then ld - 1 else ld) := by
            rw [outF_succ, ← hs]; unfold deepV; rw [← HS.out.2.2]
           have HJ := zHi (zAi hgj (zAi hfj (zAi ho5 (zAi hf5 (zAi ho6 (zAi hf6 hF)))))); clear htr hne hlm hll hlc hnt hlbn hout hCr hkc1 hkc2 hfr hml hj hgj hoj hfj hjl hgl hs hg1 hcl0 hse hsu hsl hv ho5 hf5 hsl5 ho6 hf6 hF
           by_cases hjs : j < sh
           · have t2 : decide ((j : Int) < (sh : Int)) = true := by simp; omega
             have hshp : 0 < ld := by
              have h1 := HS.out; have h2 := HD.out; rcases Nat.eq_zero_or_pos d with q | q
              · subst q; have : P = 1 := by have := h2.2.2.2; simpa using this
                omega
              · omega
             obtain ⟨l1, hl1⟩ : ∃ l1, l1 = ld - 1 := ⟨_, rfl⟩; have e6 : (ld : Int) - 1 = (l1 : Int) := by omega
             have HL := zHi hl1; clear hl1 hshp; go_wp2_with fail
             go_roundg (ml - (j + 1))
             case measure => have := HJ.out.1; omega
             case rel =>
              obtain ⟨hgj, hfj, ho5, hf5, ho6, hf6, hF⟩ := HJ.out; refine ⟨j + 1, hltj, rfl, by go_num, ?_, ?_⟩
              · rw [hF, if_pos hjs]; rw [← HL.out] at ho6 ⊢; exact ho6
              · rw [← HL.out] at hf6; exact (hfj.trans (hf5.mono fun _ _ e => e.1)).trans (hf6.mono fun _ _ e => e.1)
           · have t2 : decide ((j : Int) < (sh : Int)) = false := by simp; omega
             go_wp2_with fail
             go_roundg (ml - (j + 1))
             case measure => have := HJ.out.1; omega
             case rel =>
              obtain ⟨hgj, hfj, ho5, hf5, ho6, hf6, hF⟩ := HJ.out; refine ⟨j + 1, hltj, rfl, by go_num, ?_, hfj.trans (hf5.mono fun _ _ e => e.1)⟩
              rw [hF, if_neg hjs]; exact ho5
         · obtain rfl : j = ml := by omega
           have hd : decide (j < j) = false := by simp
           have hfin := tree_fin htr (deep := d) (most := most) (by rw [← hml, ← HD.out.2.2.2]; have := HS.out.2.1; omega) (by rw [← hml]; exact HD.out.2.2.1) hlm hne HH.out.2.2.2.2.2.1 HH.out.2.2.2.2.2.2.1 (by rw [← hml]; have := HM.out.2; omega) (fun h => by have := HH.out.2.2.2.2.2.2.2 h; rw [← hml]; have := HM.out.1; omega)
           rw [← hml, ← HD.out.2.2.2, ← HS.out.1] at hfin; have hCN : N0 ≠ C := by have := HX.out.2.2.1; have := HCW.out; omega
           have hCf : Chs wr M C l kc := hCr.keep hfj (fun b o q => ⟨by omega, .inl (by have := HH.out.2.2.1; have := HX.out.2.2.1; omega)⟩)
           have hffin : ∀ W, Frm (fun b _ => b = N0) wr W → Frm (fun b _ => b = C) w W := fun W hW => by
            refine Frm.trans' ((Frm.refl (fun b _ => b = C) w)) ((hfr.trans (hfj.mono fun _ _ e => .inr e)).trans (hW.mono fun _ _ e => .inr e)) (fun x o hx q => ?_)
            rcases q with q | q
            · exact q
            · have := HX.out.2.2.1; omega
           have HZ := zHi (zAi hfin (zAi hCf (zAi hffin (zAi hkc1 (zAi hkc2 hoj)))))
           by_cases h1 : long = 0 ∧ j = 1
           · obtain ⟨h1a, h1b⟩ := h1; subst h1a; subst h1b; obtain ⟨gl, hb, hunu⟩ := hnt.cells 0 (by omega)
             clear hunu; subst hb; have hgl := hlbn _ rfl; simp only at hgl; obtain ⟨s, hs⟩ : ∃ s, s = ls.getD 0 0 := ⟨_, rfl⟩; obtain ⟨g1, hg1, hcl0⟩ := hnt.getS (show 0 < ls.length by omega) s hs
             have hg1e : g1 = gl := by injection hg1 with e; injection e with e; exact e.symm
             subst hg1e; have hcl : wr.cell? ⟨g1, 0, none⟩ = some (.int .i64 (s : Int)) := hfj.keep hcl0 hgl.1; have hse : s = ls[0]'(by omega) := by rw [hs, List.getD_eq_getElem?_getD, List.getElem?_eq_getElem (by omega)]; rfl
             have hsu := (htr.mem s (by rw [hse]; exact List.getElem_mem _))
             have hsl : s < (outF out ls (deepV 0 d sh) 1).length := by rw [outF_len, htr.len]; exact used_lt hsu.2
             have hsk : s < k := by rw [HM.out.1]; exact used_lt hsu.2
             obtain ⟨gg, cp, hv, _, _, _, hoc, hofz⟩ := Row.at hoj hsl; have hgg : N0 = gg := Option.some.inj (congrArg Value.ownBlock hv); subst hgg; replace hoc : ∃ ov, wr.cell? ⟨N0, s, none⟩ = some ov := ⟨_, hoc⟩; obtain ⟨ov, hoc⟩ := hoc; obtain ⟨ho5, hf5⟩ := hoj.set (g := N0) rfl hsl 1; have HJ := zHi (zAi ho5 (zAi hf5 (zAi hs hCN))); clear htr hne hlm hll hlc hnt hlbn hout hCr hkc1 hkc2 hfr hml hj hgj hoj hfj hgl hs hg1 hcl0 hse hsu hsl hv ho5 hf5 hfin hCN hCf hffin hltj; go_wp2_with fail
             go_ret
             obtain ⟨ho5, hf5, hs, hCN⟩ := HJ.out; obtain ⟨hfin, hCf, hffin, hkc1, hkc2, hoj⟩ := HZ.out; have hN := HX.out.2.2.1; rw [← hN]; have hres := hfin.2 (by simp)
             rw [← hs] at hres; exact ⟨_, rfl, _, ho5, hres, kc, hCf.keep hf5 (fun b o q => ⟨by omega, .inl (by have := HH.out.2.2.1; omega)⟩), hkc1, hkc2, hffin _ (hf5.mono fun _ _ e => e.1)⟩
           · clear htr hne hlm hll hlc hnt hlbn hout hCr hkc1 hkc2 hfr hml hj hgj hoj hfj hfin hCN hCf hffin hltj; have HN1 := zHi h1
             by_cases hl0 : long = 0
             · have hj1 : ¬ j = 1 := fun e => h1 ⟨hl0, e⟩
               subst hl0; have t3 : ((j : Int) == 1) = false := by simp; omega
               clear h1; go_wp2_with fail
               go_ret
               obtain ⟨hfin, hCf, hffin, hkc1, hkc2, hoj⟩ := HZ.out; have hN := HX.out.2.2.1; rw [← hN]
               first | exact ⟨_, rfl, _, hoj, hfin.1 HN1.out, kc, hCf, hkc1, hkc2, hffin _ (Frm.refl _ _)⟩ | exact ⟨_, _, kc, rfl, hoj, hfin.1 HN1.out, hCf, hkc1, hkc2, hffin _ (Frm.refl _ _)⟩
             · have t3 : ((long : Int) == 0) = false := by simp; omega
               clear h1; go_wp2_with fail
               go_ret
               obtain ⟨hfin, hCf, hffin, hkc1, hkc2, hoj⟩ := HZ.out; have hN := HX.out.2.2.1; rw [← hN]
               first | exact ⟨_, rfl, _, hoj, hfin.1 HN1.out, kc, hCf, hkc1, hkc2, hffin _ (Frm.refl _ _)⟩ | exact ⟨_, _, kc, rfl, hoj, hfin.1 HN1.out, hCf, hkc1, hkc2, hffin _ (Frm.refl _ _)⟩
end Go.Proofs.YthfncdfcklbigaaGreatDoor
