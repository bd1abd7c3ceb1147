/-
  Several texts in one: Init.
-/
import Derived.Test.YthfncdfcklbigaaGreatDoorPd
import Derived.Deep.RegionHeld3
set_option linter.unusedVariables false
set_option linter.unusedSimpArgs false
namespace Go.Proofs.YthfncdfcklbigaaGreatDoor
open Go.RowKit Flate
set_option maxRecDepth 100000
theorem chk_val (x P m : Nat) : decide (x ≠ P ∧ ¬ (x = 1 ∧ m = 1)) = (!decide (x = P) && !(decide (x = 1) && decide (m = 1))) := by
 by_cases h1 : x = P <;> by_cases h2 : x = 1 <;> by_cases h3 : m = 1 <;> simp [h1, h2, h3]
set_option maxHeartbeats 16000000 in
theorem init_any (w : World) (B o X xo cap : Nat) (lens : List Nat) (hpre : TabPre w B o (fun b => w.heap.size ≤ b)) (hlive : ∀ j, j < 515 → (w.cell? ⟨B, o + j, none⟩).isSome = true) (hfr : ∀ k, w.frozen? ⟨B, k, none⟩ = false)
 (hL : Lens w X xo lens) (hXB : X ≠ B) (hlen : lens.length ≤ 320) (h15 : ∀ n ∈ lens, n ≤ 15) (hnp : initTab lens ≠ none) :
 Calls Tryz.prog 88 #[.pointer (some ⟨B, o, none⟩), .slice (some ⟨X, xo, none⟩) lens.length cap] w (InitPost w B o lens) := by
 have HB : B < w.heap.size := by obtain ⟨v, hv⟩ := Option.isSome_iff_exists.1 (hlive 0 (by omega)); exact cell_lt hv
 obtain ⟨m, hm⟩ : ∃ m : Int, w.cell? ⟨B, o, none⟩ = some (.int .i64 m) := by
  rcases hpre with ⟨m, _, h⟩ | h
  · exact ⟨m, h⟩
  · exact ⟨_, h.min⟩
 have HPre := zHi hpre
 have HLi := zHi hlive
 have HFr := zHi hfr
 have HLe := zHi hL
 have H15 := zHi h15
 have HNp := zHi hnp
 clear hpre hlive hfr hL h15 hnp
 go_enter Tryz.func88, Tryz.ntmps88
 go_upto_if 38 with (fail)
 go_cut [5] (fun _ wq => TabAt wq B o emptyTab (fun b => w.heap.size ≤ b) ∧ Frm (ST B o) w wq)
 case first => as_aux_lemma =>
  by_cases h0 : m = 0
  · have h0' : (m == 0) = true := by simp [h0]
    go_wp2_with fail
    go_meet
    case rel =>
     refine ⟨?_, Frm.refl _ _⟩; rcases HPre.out with ⟨m', hm', h⟩ | h
     · rw [h] at hm; simp at hm; omega
     · exact h
  · have h0' : (m == 0) = false := by simp [h0]
    go_upto_region 2 with (fail)
    refine wp_region_lit ?_; refine wpList_run (by rfl) (by rfl) ?_
    refine wpList_run (by rfl) (run_build_tab _ _ _ _ _ _) ?_
    refine wpList_run (by rfl) (by rfl) ?_
    refine wpList_skip_run (by rfl) (run_store_agg 149 (.tmp 41) (.tmp 40) (by rfl) B o 515 zeroTab (by rfl) (by rfl) (by kernel_rfl) zeroTab_len HLi.out (fun j _ => HFr.out _) zeroTab_one) ?_
    refine wpList_nil ?_; go_wp2_with fail
    go_meet
    case rel =>
     refine ⟨zeroTab_at w B o _ HLi.out, Frm.setCells B _ o w (Frm.refl _ _) (fun j hj => .inl ⟨rfl, by omega, by rw [zeroTab_len] at hj; omega⟩)⟩
 case rest => as_aux_lemma =>
  obtain ⟨hT, hF⟩ := hcut; go_wp2_with fail
  obtain ⟨cb, hcb⟩ : ∃ cb, cb = wc.heap.size := ⟨_, rfl⟩; have HCB := zHi hcb; rw [← hcb]
  go_loopw [6, 7, 44] (fun mn mx i wr => CntInv w B o lens cb mn mx i wr) (fun _ _ i _ => 320 - (intOf i).toNat)
  case atStart =>
   refine ⟨0, Nat.zero_le _, rfl, rfl, rfl, ?_, hT.keep_empty (S := fun _ _ => False) ((Frm.refl _ _).alloc _) (fun _ _ _ e => e), hF.alloc _⟩
   rw [HCB.out]; exact Ints.new wc _
  case round => as_aux_lemma =>
   obtain ⟨k, hk, rfl, rfl, rfl, hI, hT1, hF1⟩ := hrel; have hOK := cnt_ok lens H15.out k hk; obtain ⟨c, hc⟩ : ∃ c, c = (lens.take k).foldl cntStep cnt0 := ⟨_, rfl⟩; rw [← hc] at hI hOK ⊢; have HC := zHi hc; have HOK := zHi hOK; have hcB : cb ≠ B := by have := hF.size; omega
   have hcw : w.heap.size ≤ cb := by have := hF.size; omega
   clear hcb
   by_cases hlt : k < lens.length
   · clear hc; have cX : wr.cell? ⟨X, xo + k, none⟩ = some (.int .i64 ((lens.getD k 0 : Nat) : Int)) := hF1.keep (HLe.out k hlt) (fun e => hXB e.1)
     have hc' : (lens.take (k + 1)).foldl cntStep cnt0 = cntStep c (lens.getD k 0) := by rw [HC.out]; exact take_succ_fold lens k hlt
     obtain ⟨n, hn⟩ : ∃ n, n = lens.getD k 0 := ⟨_, rfl⟩; rw [← hn] at cX hc'; have hn15 : n ≤ 15 := by
      rw [hn, List.getD_eq_getElem?_getD, List.getElem?_eq_getElem hlt]; exact H15.out _ (List.getElem_mem hlt)
     have HN := zHi hn; have HC' := zHi hc'; have e1 : (k : Int) < (lens.length : Int) := by omega
     have e2 : (n : Int) ≤ 15 := by omega
     have e3 : (k : Int) ≤ 320 := by omega
     clear hn hc'
     by_cases h0 : n = 0
     · have h0' : ((n : Int) == 0) = true := by simp [h0]
       have hstep : cntStep c n = c := by unfold cntStep; rw [if_pos h0]
       have HSt := zHi hstep; clear hstep; go_wp2_with fail
       go_roundw
       case rel => exact ⟨k + 1, hlt, by go_num, by rw [HC'.out, HSt.out], by rw [HC'.out, HSt.out], by rw [HC'.out, HSt.out]; exact hI, hT1, hF1⟩
       case measure => simp [intOf]; omega
     · have h0' : ((n : Int) == 0) = false := by simp [h0]
       have hcl := hOK.len; obtain ⟨v, hv⟩ : ∃ v, v = c.count.getD n 0 := ⟨_, rfl⟩; have cc := hI.1 n (by omega)
       rw [← hv] at cc; have cf := hI.2 n; have e4 : (v : Int) ≤ 320 := by have := hOK.le n; omega
       have e5 : (n : Int) < 16 := by omega
       have hF2 : Frm (fun b _ => b = cb) wr (wr.setCell ⟨cb, n, none⟩ (.int .i64 ((v + 1 : Nat) : Int))) := by (repeat (first | exact Frm.refl _ _ | refine Frm.drewN ?_ _ | refine Frm.drew ?_ | refine Frm.alloc ?_ _ | refine Frm.setCell ?_ (by simp) _))
       have hI2 := hI.set (j := n) (by omega) (v + 1)
       have hT2 : TabAt (wr.setCell ⟨cb, n, none⟩ (.int .i64 ((v + 1 : Nat) : Int))) B o emptyTab (fun b => w.heap.size ≤ b) := hT1.keep_empty hF2 (fun _ _ _ e => hcB e.symm)
       have hF3 : Frm (ST B o) w (wr.setCell ⟨cb, n, none⟩ (.int .i64 ((v + 1 : Nat) : Int))) := hF1.setCell (.inr hcw) _; have HCL := zHi hcl; have HV := zHi hv; clear hcl; have key : ∀ mn mx : Nat, mn = (cntStep c n).min → mx = (cntStep c n).max → CntInv w B o lens cb (.int .i64 (mn : Int)) (.int .i64 (mx : Int)) (.int .i64 ((k : Int) + 1)) (wr.setCell ⟨cb, n, none⟩ (.int .i64 ((v : Int) + 1))) := by
        intro mn mx h1 h2; refine ⟨k + 1, hlt, by go_num, by rw [h1, HC'.out], by rw [h2, HC'.out], ?_, hT2, hF3⟩
        rw [HC'.out]; unfold cntStep; rw [if_neg h0, ← HV.out]; exact hI2
       have KEY := zHi key; have hmx : (cntStep c n).max = if c.max < n then n else c.max := by unfold cntStep; rw [if_neg h0]
       have hmn : (cntStep c n).min = if c.min = 0 ∨ n < c.min then n else c.min := by unfold cntStep; rw [if_neg h0]
       have HMX := zHi hmx; have HMN := zHi hmn; clear key hmx hmn hF2 hI2 hT2 hF3 hI hv; have hm3 : (c.min = 0) ∨ (c.min ≠ 0 ∧ n < c.min) ∨ (c.min ≠ 0 ∧ ¬ n < c.min) := by omega
       by_cases hx : c.max < n
       all_goals have hx' := zHi hx
       · have x1 : (c.max : Int) < (n : Int) := by omega
         rcases hm3 with q | q | q
         · have q1 : ((c.min : Int) == 0) = true := by simp [q]
           have Q := zHi q; clear q hx; go_wp2_with fail
           go_roundw
           case rel => exact KEY.out n n (by rw [HMN.out, if_pos (.inl Q.out)]) (by rw [HMX.out, if_pos hx'.out])
           case measure => simp [intOf]; omega
         · have q1 : ((c.min : Int) == 0) = false := by simp [q.1]
           have q2 : (n : Int) < (c.min : Int) := by omega
           have Q := zHi q; clear q hx; go_wp2_with fail
           go_roundw
           case rel => exact KEY.out n n (by rw [HMN.out, if_pos (.inr Q.out.2)]) (by rw [HMX.out, if_pos hx'.out])
           case measure => simp [intOf]; omega
         · have q1 : ((c.min : Int) == 0) = false := by simp [q.1]
           have q2 : ¬ (n : Int) < (c.min : Int) := by omega
           have Q := zHi q; clear q hx; go_wp2_with fail
           go_roundw
           case rel => exact KEY.out c.min n (by rw [HMN.out, if_neg (fun e => e.elim Q.out.1 Q.out.2)]) (by rw [HMX.out, if_pos hx'.out])
           case measure => simp [intOf]; omega
       · have x1 : ¬ (c.max : Int) < (n : Int) := by omega
         rcases hm3 with q | q | q
         · have q1 : ((c.min : Int) == 0) = true := by simp [q]
           have Q := zHi q; clear q hx; go_wp2_with fail
           go_roundw
           case rel => exact KEY.out n c.max (by rw [HMN.out, if_pos (.inl Q.out)]) (by rw [HMX.out, if_neg hx'.out])
           case measure => simp [intOf]; omega
         · have q1 : ((c.min : Int) == 0) = false := by simp [q.1]
           have q2 : (n : Int) < (c.min : Int) := by omega
           have Q := zHi q; clear q hx; go_wp2_with fail
           go_roundw
           case rel => exact KEY.out n c.max (by rw [HMN.out, if_pos (.inr Q.out.2)]) (by rw [HMX.out, if_neg hx'.out])
           case measure => simp [intOf]; omega
         · have q1 : ((c.min : Int) == 0) = false := by simp [q.1]
           have q2 : ¬ (n : Int) < (c.min : Int) := by omega
           have Q := zHi q; clear q hx; go_wp2_with fail
           go_roundw
           case rel => exact KEY.out c.min c.max (by rw [HMN.out, if_neg (fun e => e.elim Q.out.1 Q.out.2)]) (by rw [HMX.out, if_neg hx'.out])
           case measure => simp [intOf]; omega
   · have hk' : k = lens.length := by omega
     have e1 : ¬ (k : Int) < (lens.length : Int) := by omega
     rw [hk', List.take_length] at hc; rw [show lens.foldl cntStep cnt0 = cntAll lens from rfl] at hc
     clear hlt; have HC0 := zHi hc; clear hc
     by_cases h0 : c.max = 0
     · have h0' : ((c.max : Int) == 0) = true := by simp [h0]
       go_wp2_with fail
       go_ret
       unfold InitPost; rw [initTab_empty HC0.out h0]; exact ⟨rfl, hT1, hF1⟩
     · have h0' : ((c.max : Int) == 0) = false := by simp [h0]
       go_upto_region 17 with (fail)
       go_wp2_with fail
       obtain ⟨nb, hnb⟩ : ∃ nb, nb = wr.heap.size := ⟨_, rfl⟩; have HNB := zHi hnb; rw [← hnb]; have hnbB : nb ≠ B := by have := hF1.size; omega
       have hnw : w.heap.size ≤ nb := by have := hF1.size; omega
       have hnc : cb < nb := by have := cell_lt (hI.1 0 (by have := hOK.len; omega)); omega
       clear hnb
       go_loopw [10, 12] (fun code i wr => NxInv w B o c cb nb code i wr) (fun _ i _ => 16 - (intOf i).toNat)
       case atStart =>
        have hmn := HOK.out.min; refine ⟨0, c.min, List.replicate 16 0, rfl, rfl, rfl, ?_, rfl, by omega, fun j => by rw [rep_getD]; omega, ?_, hI.keep (S := fun _ _ => False) ((Frm.refl _ _).alloc _) (fun _ e => e) (by rw [HOK.out.len]; omega), hT1.keep_empty (S := fun _ _ => False) ((Frm.refl _ _).alloc _) (fun _ _ _ e => e), hF1.alloc _⟩
        · have := Nat.two_pow_pos c.min; omega
        · rw [HNB.out]; exact Ints.new wr _
       case round => as_aux_lemma =>
        obtain ⟨x, k2, nx, rfl, rfl, hnx, hxb, hxl, hk2, hbd, hN, hI, hT1, hF1⟩ := hrel; have HBD := zHi hbd; clear hbd
        by_cases hlt : k2 ≤ c.max
        ·
         have hm15 := HOK.out.max; have hp : 2 ^ k2 ≤ 2 ^ 15 := Nat.pow_le_pow_right (by omega) (by omega)
         have q1 : (x : Int) ≤ 10485760 := by omega
         have q2 : (k2 : Int) ≤ 15 := by omega
         have q3 : (k2 : Int) ≤ (c.max : Int) := by omega
         have q4 : nb ≠ cb := by omega
         have q5 : cb ≠ nb := by omega
         obtain ⟨v, hv⟩ : ∃ v, v = c.count.getD k2 0 := ⟨_, rfl⟩; have c1 := hI.1 k2 (by rw [HOK.out.len]; omega)
         rw [← hv] at c1; have c2 := hN.1 k2 (by omega)
         have c3 := hN.2 k2; have q6 : (v : Int) ≤ 320 := by have := HOK.out.le k2; omega
         have HV := zHi hv; have HNX := zHi hnx; have HXB := zHi hxb; have HXL := zHi hxl; have hF2 : Frm (fun b _ => b = nb) wr (wr.setCell ⟨nb, k2, none⟩ (.int .i64 ((2 * x : Nat) : Int))) := by (repeat (first | exact Frm.refl _ _ | refine Frm.drewN ?_ _ | refine Frm.drew ?_ | refine Frm.alloc ?_ _ | refine Frm.setCell ?_ (by simp) _))
         have hN2 := hN.set (j := k2) (by omega) (2 * x)
         have hI2 := hI.keep hF2 (fun _ e => q5 e) (by rw [HOK.out.len]; omega)
         have hT2 := hT1.keep_empty (N' := fun b => w.heap.size ≤ b) hF2 (fun _ _ _ e => hnbB e.symm)
         have hF3 : Frm (ST B o) w (wr.setCell ⟨nb, k2, none⟩ (.int .i64 ((2 * x : Nat) : Int))) := hF1.setCell (.inr hnw) _; clear hnx hxb hv hxl; have key : NxInv w B o c cb nb (.int .i64 ((x : Int) * 2 + v)) (.int .i64 ((k2 : Int) + 1)) (wr.setCell ⟨nb, k2, none⟩ (.int .i64 ((x : Int) * 2))) := by
          rw [show (x : Int) * 2 = ((2 * x : Nat) : Int) by omega]
          refine ⟨2 * x + v, k2 + 1, nx.set k2 (2 * x), by go_num, by go_num, ?_, ?_, by rw [List.length_set]; exact HXL.out, by omega, fun j => by rw [getD_set]; have := HBD.out j; split <;> omega, hN2, hI2, hT2, hF3⟩
          · have e := HNX.out; rw [show c.max + 1 - k2 = (c.max - k2) + 1 by omega, nextFrom, ← HV.out] at e
            rw [show c.max + 1 - (k2 + 1) = c.max - k2 by omega]; exact e
          · have := HXB.out; rw [Nat.pow_succ]; omega
         have KEY := zHi key; clear key hF2 hN2 hI2 hT2 hF3 hN hI hp hm15; go_wp2_with fail
         go_roundw
         case rel => exact KEY.out
         case measure => simp [intOf]; omega
        · have q3 : ¬ (k2 : Int) ≤ (c.max : Int) := by omega
          have hcn : nextAll c = (x, nx) := by
           rw [← hnx, show c.max + 1 - k2 = 0 by omega]; rfl
          clear hnx hlt; obtain ⟨mx, hmx⟩ : ∃ mx : Nat, mx = c.max := ⟨_, rfl⟩; have hm15 := HOK.out.max; have hp : 2 ^ c.max ≤ 2 ^ 15 := Nat.pow_le_pow_right (by omega) hm15
          have q4 : (c.max : Int) < 64 := by omega
          go_upto_region 25 with (fail)
          go_cut [7, 10, 99] (fun y z v wq => y = .int .i64 (c.max : Int) ∧ z = .int .i64 (x : Int) ∧ v = .bool (decide (x ≠ 2 ^ c.max ∧ ¬ (x = 1 ∧ c.max = 1))) ∧ wq = wr)
          case first => as_aux_lemma =>
           obtain ⟨P, hP⟩ : ∃ P, P = 2 ^ c.max := ⟨_, rfl⟩; have eP : (2 : Int) ^ c.max = (P : Int) := by rw [hP]; simp
           have eP2 : (P : Int) ≤ 32768 := by omega
           obtain ⟨t1, ht1⟩ : ∃ t : Bool, t = decide (x = P) := ⟨_, rfl⟩; obtain ⟨t2, ht2⟩ : ∃ t : Bool, t = decide (x = 1) := ⟨_, rfl⟩; obtain ⟨t3, ht3⟩ : ∃ t : Bool, t = decide (c.max = 1) := ⟨_, rfl⟩; have b1 : ((x : Int) != (P : Int)) = !t1 := by rw [ht1]; by_cases h : x = P <;> simp [h]; omega
           have b2 : ((x : Int) == 1) = t2 := by rw [ht2]; by_cases h : x = 1 <;> simp [h]; omega
           have b3 : ((c.max : Int) == 1) = t3 := by rw [ht3]; by_cases h : c.max = 1 <;> simp [h]; omega
           have HP := zHi hP; have HT1 := zHi ht1; have HT2 := zHi ht2; have HT3 := zHi ht3; clear hP ht1 ht2 ht3 hp q3 hm15 hcn h0' h0
           cases t1 <;> cases t2 <;> cases t3
           all_goals
            simp only [Bool.not_true, Bool.not_false] at b1; go_wp2_with fail
            go_meet
            case rel => exact ⟨rfl, rfl, congrArg Value.bool (by rw [← HP.out, chk_val, ← HT1.out, ← HT2.out, ← HT3.out]; rfl), rfl⟩
          case rest => as_aux_lemma =>
           obtain ⟨rfl, rfl, rfl, rfl⟩ := hcut; obtain ⟨d, hd⟩ : ∃ d : Bool, d = decide (x ≠ 2 ^ c.max ∧ ¬ (x = 1 ∧ c.max = 1)) := ⟨_, rfl⟩; rw [← hd]; have HD := zHi hd; have HCN := zHi hcn; clear hd hcn hp
           cases d
           case true =>
            go_wp2_with fail
            go_ret
            unfold InitPost; rw [initTab_bad HC0.out h0 HCN.out HD.out]; exact ⟨rfl, hT1, hF1⟩
           case false =>
            have hgo := initTab_go HC0.out h0 HCN.out HD.out HNp.out; obtain ⟨hg9, hgb⟩ := hgo; have HGB := zHi hgb; clear hgb; have cmn := hT1.min; have cmk := hT1.mask; have clk := hT1.none_ rfl; have cfr : ∀ k, wc.frozen? ⟨B, k, none⟩ = false := fun k => (hF1.froz B k HB).trans (HFr.out k)
            obtain ⟨M, hM⟩ : ∃ M : Nat, M = 2 ^ (c.max - 9) := ⟨_, rfl⟩; have HM := zHi hM; clear hM
            go_upto_if 105 with (fail)
            go_cut [13] (fun _ wq => ∃ L, BA wq B o w.heap.size c.min (if 9 < c.max then M - 1 else 0) M L (bld0 c.max nx) ∧ nb < L ∧ Ints wq nb nx ∧ Frm (ST B o) w wq)
            case first => as_aux_lemma =>
             by_cases h9 : 9 < c.max
             · have h9' : (9 : Int) < (c.max : Int) := by omega
               obtain ⟨n9, hn9⟩ : ∃ n9, n9 = c.max - 9 := ⟨_, rfl⟩; have r1 : (c.max : Int) - 9 = (n9 : Int) := by omega
               have r2 : (n9 : Int) ≤ 6 := by omega
               have r3 : (2 : Int) ^ n9 = (M : Int) := by rw [HM.out, hn9]; simp
               have HN9 := zHi hn9; clear hn9; have hq : nx.getD 10 0 / 2 < 512 := hg9 h9; obtain ⟨u, hu⟩ : ∃ u, u = nx.getD 10 0 := ⟨_, rfl⟩; have hxl0 := hxl; have hxl := hN.1 10 (by omega)
               rw [← hu] at hq hxl; have q6 : (u : Int) ≤ 1023 := by omega
               have HU := zHi hu; have q7 : (M : Int) ≤ 64 := by
                have : 2 ^ (c.max - 9) ≤ 2 ^ 6 := Nat.pow_le_pow_right (by omega) (by omega)
                have := HM.out; omega
               have q8 : (2 : Int) ≤ M := by
                have : 2 ^ 1 ≤ 2 ^ (c.max - 9) := Nat.pow_le_pow_right (by omega) (by omega)
                have := HM.out; omega
               clear hu; have q9 : (512 : Int) - (u : Int) / 2 = ((512 - u / 2 : Nat) : Int) := by omega
               obtain ⟨L, hL⟩ : ∃ L, L = wc.heap.size := ⟨_, rfl⟩; have HL := zHi hL; have hL' : wc.heap.size = L := hL.symm; clear hL; have al : ∀ ob w1, w1 = ((wc.setCell ⟨B, o, none⟩ (.int .i64 (c.min : Int))).setCell ⟨B, o + 514, none⟩ (.int .u32 ((M : Int) - 1))).alloc ob →
                w1.cell? ⟨B, o + 513, none⟩ = some (.slice none 0 0) ∧ w1.frozen? ⟨B, o + 513, none⟩ = false ∧ w1.heap.size = L + 1 ∧ Frm (fun b k => b = B ∧ (k = o ∨ k = o + 514)) wc w1 := by
                intro ob w1 hw1; have hf : Frm (fun b k => b = B ∧ (k = o ∨ k = o + 514)) wc w1 := by rw [hw1]; (repeat (first | exact Frm.refl _ _ | refine Frm.drewN ?_ _ | refine Frm.drew ?_ | refine Frm.alloc ?_ _ | refine Frm.setCell ?_ (by simp) _))
                refine ⟨hf.keep clk (by simp), (hf.froz B _ (cell_lt clk)).trans (cfr _), ?_, hf⟩
                rw [hw1]; simp [World.setCell, hL']
               have AL := zHi al; clear al; go_upto_region 33 with (at_make; refine wpList_rows (by rfl) _ _ (by rfl) .i64 .i64 (512 - u / 2) (by first | rfl | simp [q9]) (by first | rfl | simp [q9]) (by omega) ?_; intro w1 hw1; obtain ⟨c1, c2, c3, c4⟩ := AL.out _ _ hw1; replace hw1 := zHi hw1)
               go_wp2_with fail
               obtain ⟨q, hq'⟩ : ∃ q, q = u / 2 := ⟨_, rfl⟩; rw [← hq'] at hq; have hqI : (u : Int) / 2 = (q : Int) := by omega
               have HQ := zHi hq'; rw [← hq']; simp only [hqI]; clear hq'
               go_loopw [15] (fun j wr => LkInv w B o nb nx c.min (M - 1) M L q j wr) (fun j _ => 512 - (intOf j).toNat)
               case atStart =>
                have st := lk_start (w := w) (mn := c.min) (mk := M - 1) (m := M) 193 hT1 hF1 hN hL' hq hnbB (by rw [hxl0]; omega)
                rw [show ((M - 1 : Nat) : Int) = (M : Int) - 1 by omega, HQ.out, ← hw1.out, ← HQ.out] at st
                exact st
               case round => as_aux_lemma =>
                have HREL := zHi hrel; obtain ⟨k, hk, rfl, hsz, d0, dM, d3, dch, dl, dr, df, dI, dF⟩ := hrel
                by_cases hlt : q + k < 512
                · obtain ⟨j, hj⟩ : ∃ j, j = q + k := ⟨_, rfl⟩; rw [← hj]; have e1 : (j : Int) < 512 := by omega
                  have e2 : (j : Int) - (q : Int) = (k : Int) := by omega
                  have DCH := zHi dch; have DL := zHi dl; have DR := zHi dr; have DF := zHi df; have HJ := zHi hj; clear dch dl dr df hj; obtain ⟨r9, hr9⟩ : ∃ r, r = revB 9 j := ⟨_, rfl⟩; have hr9l : r9 < 512 := by rw [hr9]; exact revB_lt 9 j
                  have e3 : ((revB 16 j : Nat) : Int) / 128 = (r9 : Int) := by
                   have : revB 16 j / 128 = revB 9 j := revB_div 9 7 j; rw [hr9]; omega
                  have e4 : (r9 : Int) < 512 := by omega
                  have g1 := DCH.out r9 hr9l; have g2 := DL.out k (by omega)
                  have g3 := DF.out 0 k (by omega)
                  have g4 : wr.frozen? ⟨B, o + 1 + r9, none⟩ = false := (dF.froz B _ HB).trans (HFr.out _); have e5 : ((revB 16 j : Nat) : Int) < 65536 := by have := revB_lt 16 j; omega
                  have e6 := or_ten k (by omega)
                  have e7 : (k : Int) < 512 := by omega
                  rw [if_neg (by omega)] at g2
                  rw [Nat.add_zero] at g3; have HR9 := zHi hr9; clear hr9; go_wp2_with fail
                  refine (reverse16_any wr j (by omega)).mono ?_
                  rintro e w2 ⟨rfl, n2, rfl⟩; go_wp2_with fail
                  obtain ⟨w3, hw3⟩ : ∃ w3, w3 = (wr.drewN n2).setCell ⟨B, o + 1 + r9, none⟩ (.int .u32 ((k : Int) * 16 + 10)) := ⟨_, rfl⟩; rw [← hw3]; have hF3 : Frm (fun b x => b = B ∧ x = o + 1 + r9) wr w3 := by rw [hw3]; (repeat (first | exact Frm.refl _ _ | refine Frm.drewN ?_ _ | refine Frm.drew ?_ | refine Frm.alloc ?_ _ | refine Frm.setCell ?_ (by simp) _))
                  have hsz3 : w3.heap.size = L + 1 + k := by rw [hw3]; simp [World.setCell, hsz]
                  have HW3 := zHi hw3; clear hw3; have LB : L ≠ B := fun e => by have := hF1.size; omega
                  have k1 : w3.cell? ⟨B, o + 513, none⟩ = some (.slice (some ⟨L, 0, none⟩) (512 - q) (512 - q)) := hF3.keep d3 (by omega)
                  have k2 : w3.cell? ⟨L, k, none⟩ = some (.slice none 0 0) := hF3.keep g2 (fun e => LB e.1)
                  have k3 : w3.frozen? ⟨L, k, none⟩ = false := (hF3.froz L k (cell_lt g2)).trans g3; have kp : ∀ ob, Frm (fun _ _ => False) w3 (w3.drew.alloc ob) := by intro ob; (repeat (first | exact Frm.refl _ _ | refine Frm.drewN ?_ _ | refine Frm.drew ?_ | refine Frm.alloc ?_ _ | refine Frm.setCell ?_ (by simp) _))
                  have kp2 : ∀ ob, Frm (fun _ _ => False) w3 (w3.alloc ob) := by intro ob; (repeat (first | exact Frm.refl _ _ | refine Frm.drewN ?_ _ | refine Frm.drew ?_ | refine Frm.alloc ?_ _ | refine Frm.setCell ?_ (by simp) _))
                  have kq : ∀ ob, (w3.drew.alloc ob).cell? ⟨B, o + 513, none⟩ = some (.slice (some ⟨L, 0, none⟩) (512 - q) (512 - q)) := fun ob => (kp ob).keep k1 (fun e => e)
                  have kc1 : ∀ ob, (w3.drew.alloc ob).cell? ⟨L, k, none⟩ = some (.slice none 0 0) := fun ob => (kp ob).keep k2 (fun e => e)
                  have kc2 : ∀ ob, (w3.alloc ob).cell? ⟨L, k, none⟩ = some (.slice none 0 0) := fun ob => (kp2 ob).keep k2 (fun e => e)
                  have kf1 : ∀ ob, (w3.drew.alloc ob).frozen? ⟨L, k, none⟩ = false := fun ob => ((kp ob).froz L k (cell_lt k2)).trans k3
                  have kf2 : ∀ ob, (w3.alloc ob).frozen? ⟨L, k, none⟩ = false := fun ob => ((kp2 ob).froz L k (cell_lt k2)).trans k3
                  have KP := zHi kq; have hmk := run_row w3.drew M (by omega)
                  have i1 : (k : Int) < ((512 - q : Nat) : Int) := by omega
                  have i2 : k < 512 - q := by omega
                  clear kp kp2 kq g1 g2 g3 g4 d0 dM d3 c1 c2 c3 c4 cmn cmk clk
                  go_region_held3 (fun w' => w'.cell? ⟨B, o + 513, none⟩ = some (.slice (some ⟨L, 0, none⟩) (512 - q) (512 - q))) (first | exact KP.out _ | go_keep) (fail)
                  go_wp2_with fail
                  go_roundw
                  case rel =>
                   have hb := hF1.size; have hL2 := HL.out; have := lk_next 27 n2 HREL.out hlt HB (by omega) (by rw [hL2]; exact cell_lt (hN.1 0 (by rw [hxl0]; omega))) hnbB (by rw [hxl0]; omega)
                   rw [← HJ.out, ← HR9.out, ← HW3.out] at this; rw [show ((q + (k + 1) : Nat) : Int) = (j : Int) + 1 by have := HJ.out; omega] at this
                   exact this
                  case measure => simp [intOf]; omega
                · have e1 : ¬ ((q : Int) + (k : Int) < 512) := by omega
                  have hb := hF1.size; have hL2 := HL.out; have hnl : nb < L := by rw [hL2]; exact cell_lt (hN.1 0 (by rw [hxl0]; omega))
                  have dn := lk_done (mx := c.max) HREL.out (by omega) h9 (by rw [HQ.out, HU.out]) hq HM.out (by omega)
                  have DN := zHi dn; clear dn dch dl dr df dI dF hL2; go_wp2_with fail
                  go_meet
                  case rel => exact ⟨L, by rw [if_pos h9]; exact DN.out.1, hnl, DN.out.2⟩
             · have h9' : ¬ (9 : Int) < (c.max : Int) := by omega
               go_wp2_with fail
               go_meet
               case rel =>
                have hb := ba_short (nx := nx) (mn := c.min) (m := M) (L := nb + 1) hT1 h9 w.heap.size hF1; refine ⟨nb + 1, by rw [if_neg h9]; exact hb.1, by omega, hN.keep (S := fun b k => b = B ∧ k = o) (by (repeat (first | exact Frm.refl _ _ | refine Frm.drewN ?_ _ | refine Frm.drew ?_ | refine Frm.alloc ?_ _ | refine Frm.setCell ?_ (by simp) _))) (fun _ e => hnbB e.1) (by rw [hxl]; omega), hb.2⟩
            case rest => as_aux_lemma =>
             obtain ⟨L, hBA, hnL, hN, hF1⟩ := hcut; obtain ⟨b1, hs1, hres⟩ := HGB.out; go_wp2_with fail
             go_loopw [170] (fun i wr => SyInv w B o nb lens c.min (if 9 < c.max then M - 1 else 0) M L (some b1) i wr) (fun i _ => 320 - (intOf i).toNat)
             case atStart =>
              exact ⟨0, bld0 c.max nx, Nat.zero_le _, rfl, hs1, hBA, by rw [bld0_next]; exact hN, by rw [bld0_next]; exact hxl, fun n => by rw [bld0_next]; have := HBD.out n; omega, hF1⟩
             case round => as_aux_lemma =>
              obtain ⟨k3, b, hk3, rfl, hsy, hB, hNx, hNl, hNb, hFr⟩ := hrel
              by_cases hlt : k3 < lens.length
              · obtain ⟨b', hst, hsy'⟩ := symAll_step hlt hsy; have cX : wr.cell? ⟨X, xo + k3, none⟩ = some (.int .i64 ((lens.getD k3 0 : Nat) : Int)) := hFr.keep (HLe.out k3 hlt) (fun e => hXB e.1)
                obtain ⟨n, hn⟩ : ∃ n, n = lens.getD k3 0 := ⟨_, rfl⟩; rw [← hn] at cX hst; have hn15 : n ≤ 15 := by
                 rw [hn, List.getD_eq_getElem?_getD, List.getElem?_eq_getElem hlt]; exact H15.out _ (List.getElem_mem hlt)
                have HN := zHi hn; have HST := zHi hst; have HSY := zHi hsy'; have HNB := zHi hNb; have HNL := zHi hNl; have e1 : (k3 : Int) < (lens.length : Int) := by omega
                have e2 : (n : Int) ≤ 15 := by omega
                have e3 : (k3 : Int) ≤ 320 := by omega
                clear hn hst hsy hsy' hNb hNl hres hs1
                by_cases h0n : n = 0
                · have h0' : ((n : Int) == 0) = true := by simp [h0n]
                  go_wp2_with fail
                  go_roundw
                  case rel =>
                   have hbb : b = b' := by
                    have := HST.out; unfold symStep at this; rw [if_pos h0n] at this; exact Option.some.inj this
                   exact ⟨k3 + 1, b, hlt, by go_num, by rw [hbb]; exact HSY.out, hB, hNx, HNL.out, fun j => by have := HNB.out j; omega, hFr⟩
                  case measure => simp [intOf]; omega
                · have h0' : ((n : Int) == 0) = false := by simp [h0n]
                  have e5 : (n : Int) < 16 := by omega
                  obtain ⟨cd, hcd⟩ : ∃ cd, cd = b.next.getD n 0 := ⟨_, rfl⟩; have c1 := hNx.1 n (by rw [HNL.out]; omega)
                  rw [← hcd] at c1; have c2 := hNx.2 n; have e6 : (cd : Int) ≤ 20971840 := by have := HNB.out n; omega
                  have HCD := zHi hcd; clear hcd; have e9 : IntKind.u16.wrap (cd : Int) = ((cd % 65536 : Nat) : Int) := by rw [IntKind.wrap_u16]; omega
                  obtain ⟨cm, hcm⟩ : ∃ cm, cm = cd % 65536 := ⟨_, rfl⟩; rw [← hcm] at e9; have e10 : cm < 65536 := by omega
                  have HCM := zHi hcm; clear hcm; obtain ⟨ck, hck⟩ : ∃ ck, ck = k3 * 16 + n := ⟨_, rfl⟩; have e7 : bits .or .i64 ((k3 : Int) * 16) (n : Int) = (ck : Int) := by
                   rw [show (k3 : Int) * 16 = ((k3 * 16 : Nat) : Int) by omega, i64_or_nat _ _ (by omega) (by omega), or16 k3 n (by omega), hck]
                  have e8 : (ck : Int) < 65536 := by omega
                  have HCK := zHi hck; clear hck; go_wp2_with fail
                  refine (reverse16_any _ cm e10).mono ?_; rintro e w2 ⟨rfl, n2, rfl⟩; have e11 := revB_lt 16 cm; obtain ⟨rv, hrv⟩ : ∃ rv, rv = revB 16 cm := ⟨_, rfl⟩; rw [← hrv] at e11 ⊢; have HRV := zHi hrv; clear hrv; have e12 : (rv : Int) ≤ 65535 := by omega
                  obtain ⟨cnt, hcnt⟩ : ∃ cnt, cnt = 16 - n := ⟨_, rfl⟩; have e13 : (16 : Int) - (n : Int) = (cnt : Int) := by omega
                  have e14 : (cnt : Int) ≤ 15 := by omega
                  obtain ⟨P, hP⟩ : ∃ P : Nat, P = 2 ^ cnt := ⟨_, rfl⟩; have e15 : (2 : Int) ^ cnt = (P : Int) := by rw [hP]; simp
                  obtain ⟨rn, hrn⟩ : ∃ rn, rn = revB n cd := ⟨_, rfl⟩; have e16 : (rv : Int) / (P : Int) = (rn : Int) := by
                   have h1 : revB (n + cnt) cm / 2 ^ cnt = revB n cm := revB_div n cnt cm; have h2 : revB n cm = revB n cd := by
                    rw [HCM.out, ← revB_mod n (cd % 65536), revB_mod_lt (show n ≤ 16 by omega), revB_mod]
                   rw [show n + cnt = 16 by omega, h2, ← hrn, ← HRV.out, ← hP] at h1
                   rw [← h1]; rfl
                  have hrl : rn < 2 ^ n := by rw [hrn]; exact revB_lt n cd
                  have hn2 : 2 ^ n ≤ 2 ^ 15 := Nat.pow_le_pow_right (by omega) hn15
                  have e17 : (rn : Int) ≤ 32767 := by omega
                  have HRN := zHi hrn; have HP := zHi hP; have HCNT := zHi hcnt; have HRL := zHi hrl; clear hrn hP hcnt hrl hn2; obtain ⟨w3, hw3⟩ : ∃ w3, w3 = (wr.setCell ⟨nb, n, none⟩ (.int .i64 ((cd : Int) + 1))).drewN n2 := ⟨_, rfl⟩; have hF3 : Frm (fun b _ => b = nb) wr w3 := by rw [hw3]; (repeat (first | exact Frm.refl _ _ | refine Frm.drewN ?_ _ | refine Frm.drew ?_ | refine Frm.alloc ?_ _ | refine Frm.setCell ?_ (by simp) _))
                  have hBe := hFr.size; have hnbw : w.heap.size ≤ nb := hnw; have hMp : 0 < M := by rw [HM.out]; exact Nat.two_pow_pos _
                  have hB3 : BA w3 B o w.heap.size c.min (if 9 < c.max then M - 1 else 0) M L b := hB.keep hMp hF3 (fun _ _ _ e => hnbB e.symm) (fun k x _ _ e => by omega)
                  have hN3 : Ints w3 nb (b.next.set n (cd + 1)) := by rw [hw3]; exact (hNx.set (j := n) (by rw [HNL.out]; omega) (cd + 1)).drewN n2
                  have hFw : Frm (ST B o) w w3 := by rw [hw3]; exact (hFr.setCell (.inr hnbw) _).drewN n2
                  have hLb : b.next.length = 16 := HNL.out; have hNl2 : (b.next.set n (cd + 1)).length = 16 := by rw [List.length_set]; exact hLb
                  have hNb2 : ∀ j, (b.next.set n (cd + 1)).getD j 0 ≤ 20971520 + (k3 + 1) := by
                   intro j; rw [getD_set]; have h1 := HNB.out j; have h2 := HNB.out n; rw [← HCD.out] at h2; split <;> omega
                  have hfin : ∀ wq b2, BA wq B o w.heap.size c.min (if 9 < c.max then M - 1 else 0) M L b2 → b2.next = b.next.set n (cd + 1) → symStep b k3 n = some b2 → Frm (fun b x => b = B ∧ o ≤ x ∧ x < o + 515 ∨ L ≤ b) w3 wq →
                   SyInv w B o nb lens c.min (if 9 < c.max then M - 1 else 0) M L (some b1) (.int .i64 ((k3 : Int) + 1)) wq := by
                   intro wq b2 h1 h2 h3 h4; have hbb : b2 = b' := Option.some.inj (h3.symm.trans HST.out); refine ⟨k3 + 1, b2, hlt, by go_num, by rw [hbb]; exact HSY.out, h1, by rw [h2]; exact hN3.keep h4 (fun x e => by omega) (by rw [hNl2]; omega), by rw [h2]; exact hNl2, by rw [h2]; exact hNb2, ?_⟩
                   refine hFw.trans' h4 (fun x y hx e => ?_)
                   rcases e with e | e
                   · exact e
                   · omega
                  have HFIN := zHi hfin; have HB3 := zHi hB3; have HW3 := zHi hw3; have hB3c := hB3.clen; have hrow := hB3.row; have hsome := hB3.some_; have hch := hB3.ch; have hfz := hB3.frz; have HCH := zHi hch; have HROW := zHi hrow; have HSOME := zHi hsome; have HFZ := zHi hfz; have hB3f : ∀ x, w3.frozen? ⟨B, x, none⟩ = false := fun x => (hFw.froz B x HB).trans (HFr.out x)
                  have HB3F := zHi hB3f; clear hB hN3 hFw hNl2 hNb2 hfin hB3 hrow hsome hch hfz hNx cX c1 c2 hB3f; rw [show (wr.setCell ⟨nb, n, none⟩ (.int .i64 ((cd : Int) + 1))).drewN n2 = w3 from HW3.out.symm]
                  clear hw3; go_upto_region 52 with (fail)
                  go_cut [18, 19, 20, 21, 22, 200] (fun s1 s2 s3 s4 s5 s6 wq => s1 = .int .i64 (k3 : Int) ∧ s2 = .int .i64 (n : Int) ∧ s3 = .int .i64 (cd : Int) ∧ s4 = .int .u32 (ck : Int) ∧ s5 = .int .i64 (rn : Int) ∧ s6 = .bool (decide (n ≤ 9)) ∧ w3 = wq)
                  case first => as_aux_lemma =>
                   go_wp2_with fail
                   go_meet
                   case rel => exact ⟨rfl, rfl, rfl, rfl, rfl, by congr 1; exact decide_eq_decide.2 (by omega), rfl⟩
                  case rest => as_aux_lemma =>
                   obtain ⟨rfl, rfl, rfl, rfl, rfl, rfl, rfl⟩ := hcut; obtain ⟨d9, hd9⟩ : ∃ d : Bool, d = decide (n ≤ 9) := ⟨_, rfl⟩; rw [← hd9]
                   cases d9
                   case true =>
                    have h9n : n ≤ 9 := of_decide_eq_true hd9.symm; clear hd9; obtain ⟨P2, hP2⟩ : ∃ P2 : Nat, P2 = 2 ^ n := ⟨_, rfl⟩; have e19 : (2 : Int) ^ n = (P2 : Int) := by rw [hP2]; simp
                    have e20 : (P2 : Int) ≤ 512 := by
                     have : 2 ^ n ≤ 2 ^ 9 := Nat.pow_le_pow_right (by omega) h9n
                     omega
                    have e21 : (1 : Int) ≤ P2 := by have := Nat.two_pow_pos n; omega
                    have e22 : (rn : Int) ≤ 511 := by have := HRL.out; omega
                    have HP2 := zHi hP2; have hst := symStep_short HST.out h0n h9n; rw [← HCD.out, ← HRN.out, ← HP2.out, ← HCK.out] at hst; have HB' := zHi hst; clear hP2 hst; go_wp2_with fail
                    go_loopw [23] (fun i wq => StrInv w3 B (o + 1) b.chunks rn P2 ck i wq) (fun i _ => 2000 - (intOf i).toNat)
                    case atStart => exact str_start (fun i hi => HCH.out i (by rw [← hB3c]; exact hi))
                    case round => as_aux_lemma =>
                     have HREL := zHi hrel; obtain ⟨t, rfl, hb2, hc2, hf2⟩ := hrel; rw [hB3c] at hb2
                     by_cases hl2 : rn + t * P2 < 512
                     · have cc := hc2 (rn + t * P2) (by rw [hB3c]; exact hl2)
                       have cf : wr.frozen? ⟨B, o + 1 + (rn + t * P2), none⟩ = false := (hf2.froz B _ (by have := hF3.size; omega)).trans (HB3F.out _)
                       obtain ⟨off, hoff⟩ : ∃ off, off = rn + t * P2 := ⟨_, rfl⟩; rw [← hoff] at cc cf hl2 ⊢; have e23 : (off : Int) < 512 := by omega
                       have HOFF := zHi hoff; clear hoff hb2 hc2; go_wp2_with fail
                       go_roundw
                       case rel =>
                        have := str_next HREL.out (by omega) (by rw [hB3c, ← HOFF.out]; exact hl2)
                        rw [← HOFF.out] at this; rw [show ((rn + (t + 1) * P2 : Nat) : Int) = (off : Int) + (P2 : Int) by have hm : (t + 1) * P2 = t * P2 + P2 := Nat.succ_mul t P2; have ho := HOFF.out; omega] at this
                        exact this
                       case measure => simp [intOf]; omega
                     · obtain ⟨hq1, hq2⟩ := HB3.out.chunks (t := t) (nx := b.next.set n (cd + 1)) HB hMp HREL.out (by omega)
                       have HQ1 := zHi hq1; have HQ2 := zHi hq2; obtain ⟨off, hoff⟩ : ∃ off, off = rn + t * P2 := ⟨_, rfl⟩; rw [← hoff] at hl2 ⊢; have e23 : ¬ (off : Int) < 512 := by omega
                       clear hoff hb2 hc2 hq1 hq2; go_wp2_with fail
                       go_roundw
                       case rel => exact HFIN.out _ _ HQ1.out rfl (by rw [← HB'.out]; exact HST.out) (HQ2.out.mono fun b x e => .inl e)
                       case measure => simp [intOf]; omega
                   case false =>
                    have h9n : ¬ n ≤ 9 := of_decide_eq_false hd9.symm; clear hd9; have hst := symStep_long HST.out h0n h9n; rw [← HCD.out, ← HRN.out, ← HCK.out] at hst; obtain ⟨j, hj⟩ : ∃ j, j = rn % 512 := ⟨_, rfl⟩; rw [← hj] at hst; have e19 : bits .and .i64 (rn : Int) 511 = (j : Int) := by
                     rw [show (511 : Int) = ((511 : Nat) : Int) from rfl, i64_and_nat _ _ (by omega) (by omega), nat_mask9, hj]
                    have hj5 : j < 512 := by omega
                    have e20 : (j : Int) < 512 := by omega
                    have HJ := zHi hj; have cj := HCH.out j hj5; obtain ⟨cv, hcv⟩ : ∃ cv, cv = b.chunks.getD j 0 := ⟨_, rfl⟩; rw [← hcv] at cj hst; obtain ⟨v, hv⟩ : ∃ v, v = cv / 16 := ⟨_, rfl⟩; rw [← hv] at hst; have e21 : (cv : Int) / 16 = (v : Int) := by omega
                    obtain ⟨hvl, hst⟩ := hst; have hne : b.links ≠ [] := fun e => by rw [e] at hvl; exact absurd hvl (by simp)
                    have ck513 := (HSOME.out hne).2; obtain ⟨crow, crl, _⟩ := HROW.out v hvl; have HVL := zHi hvl; obtain ⟨LN, hLN⟩ : ∃ LN, LN = b.links.length := ⟨_, rfl⟩; rw [← hLN] at ck513 hvl; have e22 : (v : Int) < (LN : Int) := by omega
                    obtain ⟨r2, hr2⟩ : ∃ r2, r2 = rn / 512 := ⟨_, rfl⟩; rw [← hr2] at hst; have e23 : (rn : Int) / 512 = (r2 : Int) := by omega
                    obtain ⟨n9, hn9⟩ : ∃ n9, n9 = n - 9 := ⟨_, rfl⟩; rw [← hn9] at hst; have e24 : (n : Int) - 9 = (n9 : Int) := by omega
                    have e25 : (n9 : Int) ≤ 6 := by omega
                    obtain ⟨P2, hP2⟩ : ∃ P2 : Nat, P2 = 2 ^ n9 := ⟨_, rfl⟩; rw [← hP2] at hst; have e26 : (2 : Int) ^ n9 = (P2 : Int) := by rw [hP2]; simp
                    have e27 : (P2 : Int) ≤ 64 := by
                     have : 2 ^ n9 ≤ 2 ^ 6 := Nat.pow_le_pow_right (by omega) (by omega)
                     omega
                    have e28 : (1 : Int) ≤ P2 := by have := Nat.two_pow_pos n9; omega
                    have e29 : (r2 : Int) ≤ 63 := by omega
                    have e30 : (M : Int) ≤ 64 := by
                     have : 2 ^ (c.max - 9) ≤ 2 ^ 6 := Nat.pow_le_pow_right (by omega) (by have := HOK.out.max; omega)
                     have := HM.out; omega
                    have hbL := (HSOME.out hne).1; have cstart := str_start (w := w3) (X := L + 1 + v) (x0 := 0) (l := b.links.getD v []) (rev := r2) (step := P2) (c := ck) (fun i hi => by rw [Nat.zero_add]; exact (HROW.out v HVL.out).2.2 i (by rw [← crl]; exact hi))
                    have cfz : ∀ x, w3.frozen? ⟨L + 1 + v, x, none⟩ = false := fun x => by
                     have := HFZ.out (v + 1) x hne HVL.out; rw [show L + (v + 1) = L + 1 + v by omega] at this; exact this
                    have clt : L + 1 + v < w3.heap.size := by
                     have := HB3.out.lt_row hMp hne (v + 1) HVL.out; omega
                    have HB' := zHi hst; have CST := zHi cstart; have CRL := zHi crl; have CFZ := zHi cfz; have HNE := zHi hne; clear hj hcv hv hLN hr2 hn9 hP2 hst cstart crl cfz hne hvl; go_wp2_with fail
                    go_loopw [27] (fun i wq => StrInv w3 (L + 1 + v) 0 (b.links.getD v []) r2 P2 ck i wq) (fun i _ => 2000 - (intOf i).toNat)
                    case atStart => exact CST.out
                    case round => as_aux_lemma =>
                     have HREL := zHi hrel; obtain ⟨t, rfl, hb2, hc2, hf2⟩ := hrel; rw [CRL.out] at hb2
                     by_cases hl2 : r2 + t * P2 < M
                     · have cc := hc2 (r2 + t * P2) (by rw [CRL.out]; exact hl2)
                       rw [Nat.zero_add] at cc; have cf : wr.frozen? ⟨L + 1 + v, r2 + t * P2, none⟩ = false := (hf2.froz _ _ clt).trans (CFZ.out _); obtain ⟨off, hoff⟩ : ∃ off, off = r2 + t * P2 := ⟨_, rfl⟩; rw [← hoff] at cc cf hl2 ⊢; have e31 : (off : Int) < (M : Int) := by omega
                       have HOFF := zHi hoff; clear hoff hb2 hc2; go_wp2_with fail
                       go_roundw
                       case rel =>
                        have := str_next HREL.out (by omega) (by rw [CRL.out, ← HOFF.out]; exact hl2)
                        rw [← HOFF.out, Nat.zero_add] at this; rw [show ((r2 + (t + 1) * P2 : Nat) : Int) = (off : Int) + (P2 : Int) by have hm : (t + 1) * P2 = t * P2 + P2 := Nat.succ_mul t P2; have ho := HOFF.out; omega] at this
                        exact this
                       case measure => simp [intOf]; omega
                     · obtain ⟨hq1, hq2⟩ := HB3.out.linked (t := t) (nx := b.next.set n (cd + 1)) HB hMp HVL.out HREL.out (by omega)
                       have HQ1 := zHi hq1; have HQ2 := zHi hq2; obtain ⟨off, hoff⟩ : ∃ off, off = r2 + t * P2 := ⟨_, rfl⟩; rw [← hoff] at hl2 ⊢; have e31 : ¬ (off : Int) < (M : Int) := by omega
                       clear hoff hb2 hc2 hq1 hq2; go_wp2_with fail
                       go_roundw
                       case rel => exact HFIN.out _ _ HQ1.out rfl (by rw [← HB'.out]; exact HST.out) (HQ2.out.mono fun b x e => .inr (by omega))
                       case measure => simp [intOf]; omega
              · have hk3' : k3 = lens.length := by omega
                have hbb : b = b1 := by
                 rw [hk3', List.drop_length] at hsy; exact Option.some.inj hsy
                have e1 : ¬ (k3 : Int) < (lens.length : Int) := by omega
                rw [hbb] at hB; have HBA := zHi hB; have HRES := zHi hres; clear hsy hB hNx hNl hNb hs1 hres hbb; go_wp2_with fail
                go_ret
                unfold InitPost; rw [HRES.out]; exact ⟨rfl, ba_tab HM.out HBA.out, hFr⟩
end Go.Proofs.YthfncdfcklbigaaGreatDoor
