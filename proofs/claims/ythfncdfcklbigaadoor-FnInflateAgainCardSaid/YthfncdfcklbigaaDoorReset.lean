/-
  'Reset' OF THE DECOMPRESSOR: 'dictDecoder.init' over a window that is there already; the decompressor laid anew.
-/
import Derived.Test.YthfncdfcklbigaaDoorMk
set_option linter.unusedVariables false
set_option linter.unusedSimpArgs false
namespace Go.Proofs.YthfncdfcklbigaaDoor
open Go.RowKit Flate
set_option maxRecDepth 100000

set_option maxHeartbeats 2000000 in
theorem dictInit_again (w : World) (F HB : Nat) (g0 : Nat → UInt8) (base : Option Addr) (dict : List UInt8) (cap : Nat) (hb : Bytes w base dict) (hcap : dict.length ≤ cap) (hlen : dict.length ≤ 4294967296) (c37 : w.cell? ⟨F, 1037, none⟩ = some (.slice (some ⟨HB, 0, none⟩) 32768 32768)) (wr0 rd0 : Int) (full0 : Bool) (c38 : w.cell? ⟨F, 1038, none⟩ = some (.int .i64 wr0)) (c39 : w.cell? ⟨F, 1039, none⟩ = some (.int .i64 rd0)) (c40 : w.cell? ⟨F, 1040, none⟩ = some (.bool full0))
    (f : ∀ o, w.frozen? ⟨F, o, none⟩ = false) (hwin0 : ∀ i, i < 32768 → w.cell? ⟨HB, i, none⟩ = some (.int .u8 ((g0 i).toNat : Int))) (hfz0 : ∀ o, w.frozen? ⟨HB, o, none⟩ = false) (nFH : F ≠ HB) (hne : ∀ a, base = some a → a.block ≠ F) (hneH : ∀ a, base = some a → a.block ≠ HB) :
    Calls Tryd.prog 57 #[.pointer (some ⟨F, 1037, none⟩), .int .i64 32768, .slice base dict.length cap] w (DictPost w F HB dict (fun b o => b = F ∧ 1037 ≤ o ∧ o < 1041 ∨ b = HB)) := by
  have f37 := f 1037
  have f38 := f 1038
  have f39 := f 1039
  have f40 := f 1040
  go_enter Tryd.func57, Tryd.ntmps57
  obtain ⟨N, hN⟩ : ∃ N, N = 32768 := ⟨_, rfl⟩
  replace c37 : w.cell? ⟨F, 1037, none⟩ = some (.slice (some ⟨HB, 0, none⟩) N N) := by rw [hN]; exact c37
  have hsl : ∀ (w : World) (B : Nat), (Instr.sliceAt 22 (.slice (some ⟨B, 0, none⟩) N N) none (some (.int .i64 32768)) none).run Tryd.prog w = .ok (.slice (some ⟨B, 0, none⟩) N N) w := fun w B => by
    have hsz : ∀ w : World, (sizeOf (Tryd.prog.elem 22)).run Tryd.prog w = .ok 1 w := fun w => by kernel_rfl
    have hu : Tryd.prog.underlying 22 = some (.slice (Tryd.prog.elem 22)) := by kernel_rfl
    rw [run_sliceAt_slice w _ _ _ _ _ hu, run_slice_h w _ _ _ _ hu _ _ (by omega) (by omega), hsz]
    have e : (32768 : Int).toNat = N := by rw [hN]; rfl
    simp only [Result.andThen, sliced, e, Nat.sub_zero]
    rw [if_neg (by omega)]
    simp [Addr.add]
  have b1 : (N : Int) ≤ 32768 := by omega
  have b2 : (32768 : Int) ≤ (N : Int) := by omega
  have b9 : decide ((N : Int) < 32768) = false := by simp; omega
  have HN := Lib.hid hN
  have HX := Lib.hid (And.intro hwin0 (And.intro hfz0 (And.intro hb nFH)))
  have HNE := Lib.hid hneH
  clear hN hwin0 hfz0 hb nFH hneH
  go_upto_region 4 with (fail)
  clear b9
  obtain ⟨w3, hw3⟩ : ∃ w3, w3 = ((((w.setCell ⟨F, 1037, none⟩ (.slice (some ⟨HB, 0, none⟩) N N)).setCell ⟨F, 1038, none⟩ (.int .i64 0)).setCell ⟨F, 1039, none⟩ (.int .i64 0)).setCell ⟨F, 1040, none⟩ (.bool false)).setCell ⟨F, 1037, none⟩ (.slice (some ⟨HB, 0, none⟩) N N) := ⟨_, rfl⟩
  rw [← hw3]
  obtain ⟨hwin0, hfz0, hb, nFH⟩ := HX.out
  have k37 : w3.cell? ⟨F, 1037, none⟩ = some (.slice (some ⟨HB, 0, none⟩) N N) := by rw [hw3]; go_simp
  have k38 : w3.cell? ⟨F, 1038, none⟩ = some (.int .i64 0) := by rw [hw3]; go_simp
  have k39 : w3.cell? ⟨F, 1039, none⟩ = some (.int .i64 0) := by rw [hw3]; go_simp
  have k40 : w3.cell? ⟨F, 1040, none⟩ = some (.bool false) := by rw [hw3]; go_simp
  have kz : ∀ b o, w3.frozen? ⟨b, o, none⟩ = w.frozen? ⟨b, o, none⟩ := fun b o => by rw [hw3, World.frozen?_setCell, World.frozen?_setCell, World.frozen?_setCell, World.frozen?_setCell, World.frozen?_setCell]
  have l37 := (kz F 1037).trans f37
  have l38 := (kz F 1038).trans f38
  have l39 := (kz F 1039).trans f39
  have l40 := (kz F 1040).trans f40
  have hnew3 : ∀ j, j < 32768 → w3.cell? ⟨HB, j, none⟩ = some (.int .u8 ((g0 j).toNat : Int)) := fun j hj => by
    rw [hw3, cell_set_ne (.inl nFH.symm), cell_set_ne (.inl nFH.symm), cell_set_ne (.inl nFH.symm), cell_set_ne (.inl nFH.symm), cell_set_ne (.inl nFH.symm)]; exact hwin0 j hj
  have hfz3 : ∀ j, w3.frozen? ⟨HB, j, none⟩ = false := fun j => (kz HB j).trans (hfz0 j)
  have hfr3 : Frm (fun b o => b = F ∧ 1037 ≤ o ∧ o < 1041 ∨ b = HB) w w3 := by
    rw [hw3]
    exact (((((Frm.refl _ _).setCell (.inl (.inl ⟨rfl, by simp⟩)) _).setCell (.inl (.inl ⟨rfl, by simp⟩)) _).setCell (.inl (.inl ⟨rfl, by simp⟩)) _).setCell (.inl (.inl ⟨rfl, by simp⟩)) _).setCell (.inl (.inl ⟨rfl, by simp⟩)) _
  have hb3 : Bytes w3 base dict := hb.keep hfr3 (fun a ha j _ e => by
    rcases e with e | e
    · exact hne a ha e.1
    · exact HNE.out a ha e)
  obtain ⟨l, hl⟩ : ∃ l, l = dict.drop (dict.length - 32768) := ⟨_, rfl⟩
  have hll : l.length ≤ 32768 := by rw [hl, List.length_drop]; omega
  obtain ⟨D, hD⟩ : ∃ D, D = dict.length := ⟨_, rfl⟩
  rw [← hD]
  have b3 : (D : Int) ≤ 4294967296 := by omega
  have HX3 := Lib.hid (And.intro hnew3 (And.intro hfz3 (And.intro hfr3 hb3)))
  have HL := Lib.hid hl
  have HLL := Lib.hid hll
  have HDE := Lib.hid hD
  have HCAP := Lib.hid hcap
  clear hw3 hwin0 hfz0 hb nFH kz hnew3 hfz3 hfr3 hb3 c37 c38 c39 c40 f37 f38 f39 f40 f hl hll hne hcap hlen hsl hD
  go_upto_if 41 with (fail)
  go_cut [2] (fun s wq => ∃ base' cap', s = .slice base' l.length cap' ∧ Hid (Bytes w3 base' l) ∧ w3 = wq)
  case first =>
    by_cases hgt : N < D
    · have e1 : N < D := hgt
      obtain ⟨q, hq⟩ : ∃ q, q = D - N := ⟨_, rfl⟩
      have z1 : (D : Int) - (N : Int) = (q : Int) := by omega
      have hb := HX3.out.2.2.2
      have hDl := HDE.out
      cases base with
      | none =>
        have : dict = [] := hb
        rw [this] at hDl
        simp at hDl
        omega
      | some a =>
        obtain ⟨hs, hcell⟩ := hb
        obtain ⟨ab, ao, asp⟩ := a
        simp only at hs
        subst hs
        obtain ⟨base', hsl, hbase⟩ := run_rest ab ao D cap q (by omega) (by have := HCAP.out; omega)
        have hbe := hbase (by omega)
        have hln : l.length = N := by rw [HL.out, List.length_drop]; have := HN.out; omega
        have hDq : D - q = l.length := by omega
        rw [hDq] at hsl
        have hby : Bytes w3 base' l := by
          rw [hbe]
          refine ⟨rfl, fun j hj => ?_⟩
          have hidx : q + j < dict.length := by omega
          have h1 := hcell (q + j) hidx
          rw [← Nat.add_assoc] at h1
          simp only at h1 ⊢
          rw [h1]
          have hqq : q = dict.length - 32768 := by have := HN.out; omega
          have hle : l[j] = dict[q + j] := drop_get (by rw [HL.out, ← hqq]) hj hidx
          rw [hle]
        have HBY := Lib.hid hby
        clear hcell hbase hbe hby hq hDl hDq hln
        go_wp2_with fail
        go_meet
        case rel => exact ⟨base', _, rfl, HBY, rfl⟩
    · have e1 : ¬ N < D := hgt
      have hld : l = dict := by rw [HL.out, show dict.length - 32768 = 0 by have := HDE.out; have := HN.out; omega, List.drop_zero]
      have hDl : D = l.length := by rw [hld]; exact HDE.out
      have HLD := Lib.hid hld
      have HDL := Lib.hid hDl
      clear hld hDl hgt
      go_wp2_with fail
      go_meet
      case rel => exact ⟨base, cap, by rw [HDL.out], by rw [HLD.out]; exact Lib.hid HX3.out.2.2.2, rfl⟩
  case rest =>
  obtain ⟨base', cap', rfl, hby, rfl⟩ := hcut
  obtain ⟨w4, hrun, hf4, hc4⟩ := copy_dict w3 HB base' l cap' hby.out (fun j hj => by rw [HX3.out.1 j hj]; rfl) HX3.out.2.1 HLL.out
  have hrun0 : ∀ ty, (Builtin.copy_ #[22, 22] ty #[.slice (some ⟨HB, 0, none⟩) N N, .slice base' l.length cap']).run Tryd.prog w3 = .ok (.int .i64 (l.length : Int)) w4 := fun ty => by rw [HN.out]; exact hrun 0 ty
  have nFH : F ≠ HB := HX.out.2.2.2
  have hk4 : ∀ {o : Nat} {v : Value}, w3.cell? ⟨F, o, none⟩ = some v → w4.cell? ⟨F, o, none⟩ = some v := fun hc => hf4.keep hc (fun e => nFH e.1)
  have m37 := hk4 k37
  have m38 := hk4 k38
  have m39 := hk4 k39
  have m40 := hk4 k40
  have hFl3 := cell_lt k37
  have n37 := (hf4.froz F 1037 hFl3).trans l37
  have n38 := (hf4.froz F 1038 hFl3).trans l38
  have n39 := (hf4.froz F 1039 hFl3).trans l39
  have n40 := (hf4.froz F 1040 hFl3).trans l40
  obtain ⟨M, hM⟩ : ∃ M, M = l.length := ⟨_, rfl⟩
  rw [← hM] at hrun0 ⊢
  have hMN : M ≤ 32768 := by have := HLL.out; omega
  have b4 : (M : Int) ≤ 32768 := by omega
  obtain ⟨hnew, hfz, hfr, _⟩ := HX3.out
  have hHB3 : HB < w3.heap.size := cell_lt (hnew 0 (by omega))
  -- the window
  obtain ⟨g, hg⟩ : ∃ g : Nat → UInt8, g = fun i => if i < M then l.getD i 0 else g0 i := ⟨_, rfl⟩
  have hwin : ∀ i, i < 32768 → w4.cell? ⟨HB, i, none⟩ = some (.int .u8 ((g i).toNat : Int)) := fun i hi => by
    rw [hg]
    simp only
    by_cases h : i < M
    · rw [if_pos h]; exact hc4 i (by omega)
    · rw [if_neg h]; exact hf4.keep (hnew i hi) (fun e => h (by omega))
  have hfz4 : ∀ o, w4.frozen? ⟨HB, o, none⟩ = false := fun o => (hf4.froz HB o hHB3).trans (hfz o)
  have hfr4 : Frm (fun b o => b = F ∧ 1037 ≤ o ∧ o < 1041 ∨ b = HB) w w4 := hfr.trans (hf4.mono fun b o e => .inr e.1)
  have hwb : WinB g M l := ⟨hMN, by rw [hM], fun i hi _ => by rw [Nat.mod_eq_of_lt (by omega), hg]; simp only; rw [if_pos (by omega)]⟩
  have HE := Lib.hid (And.intro hwin (And.intro hfz4 (And.intro hfr4 hwb)))
  have HM := Lib.hid hM
  clear hrun hf4 hc4 hk4 hM hMN hnew hfz hfr hHB3 hg hwin hfz4 hfr4 hwb hby k38 k39 k40 l37 l38 l39 l40
  go_upto_region 7 with (with_reducible refine wpList_copy_run (by rfl) (.tmp 56) (.tmp 57) 22 22 (by rfl) (by rfl) (by rfl) hrun0 ?_)
  have nHF : HB ≠ F := fun e => nFH e.symm
  clear hrun0
  by_cases hfull : M = N
  · have t1 : ((M : Int) == (N : Int)) = true := by simp; omega
    have t2 : (M == N) = true := by simp; omega
    have HFU := Lib.hid hfull
    clear hfull
    (go_quiet (fail))
    go_wp2_with fail
    go_end0
    obtain ⟨hwin, hfz4, hfr4, hwb⟩ := HE.out
    refine ⟨rfl, g, 0, true, ?_, by rw [← HN.out]; go_simp, by go_simp, by go_simp, by go_simp, fun i hi => by rw [cell_set_ne (.inl nHF), cell_set_ne (.inl nHF), cell_set_ne (.inl nHF)]; exact (cell_set_ne (.inl nHF)).trans (hwin i hi), fun o => by rw [World.frozen?_setCell, World.frozen?_setCell, World.frozen?_setCell]; exact (World.frozen?_setCell w4 _ _ _).trans (hfz4 o), ?_, by omega, fun _ => ?_, fun e => Bool.noConfusion e⟩
    · exact ((((hfr4.setCell (.inl (.inl ⟨rfl, by simp⟩)) _).drewN nq).setCell (.inl (.inl ⟨rfl, by simp⟩)) _).setCell (.inl (.inl ⟨rfl, by simp⟩)) _).setCell (.inl (.inl ⟨rfl, by simp⟩)) _
    · rw [← HL.out]
      have := hwb
      rw [HFU.out, HN.out] at this
      exact this.round
    · rw [← HL.out, ← HM.out, HFU.out, HN.out]; exact Nat.le_refl _
  · have t1 : ((M : Int) == (N : Int)) = false := by simp; omega
    have t2 : (M == N) = false := by simp; omega
    have HFU := Lib.hid hfull
    clear hfull
    (go_quiet (fail))
    go_wp2_with fail
    go_end0
    obtain ⟨hwin, hfz4, hfr4, hwb⟩ := HE.out
    refine ⟨rfl, g, M, false, ?_, by rw [← HN.out]; go_simp, by go_simp, by go_simp, by go_simp, fun i hi => by rw [cell_set_ne (.inl nHF)]; exact (cell_set_ne (.inl nHF)).trans (hwin i hi), fun o => by rw [World.frozen?_setCell]; exact (World.frozen?_setCell w4 _ _ _).trans (hfz4 o), ?_, by have := HFU.out; have := HN.out; omega, fun e => Bool.noConfusion e, fun _ => ?_⟩
    · exact ((hfr4.setCell (.inl (.inl ⟨rfl, by simp⟩)) _).drewN nq).setCell (.inl (.inl ⟨rfl, by simp⟩)) _
    · rw [← HL.out]; exact hwb
    · rw [← HL.out]; exact HM.out.symm


theorem Dec.some {w : World} {F : Nat} {d : DS} (h : Dec w F d) (j : Nat) (hj : j < 1054) : (w.cell? ⟨F, j, none⟩).isSome = true := by
  by_cases h5 : j < 5
  · have e : j = 0 ∨ j = 1 ∨ j = 2 ∨ j = 3 ∨ j = 4 := by omega
    rcases e with rfl | rfl | rfl | rfl | rfl
    · rw [h.r]; rfl
    · rw [h.rBuf]; rfl
    · rw [h.roff]; rfl
    · rw [h.b]; rfl
    · rw [h.nb]; rfl
  · by_cases h6 : j < 1035
    · exact h.tl j (by omega) h6
    · have e : j = 1035 ∨ j = 1036 ∨ j = 1037 ∨ j = 1038 ∨ j = 1039 ∨ j = 1040 ∨ j = 1041 ∨ j = 1042 ∨ j = 1043 ∨ j = 1044 ∨ j = 1045 ∨ j = 1046 ∨ j = 1047 ∨ j = 1048 ∨ j = 1049 ∨ j = 1050 ∨ j = 1051 ∨ j = 1052 ∨ j = 1053 := by omega
      rcases e with rfl | rfl | rfl | rfl | rfl | rfl | rfl | rfl | rfl | rfl | rfl | rfl | rfl | rfl | rfl | rfl | rfl | rfl | rfl
      · rw [h.bits]; rfl
      · rw [h.cbits]; rfl
      · rw [h.hist]; rfl
      · rw [h.wr]; rfl
      · rw [h.rd]; rfl
      · rw [h.full]; rfl
      · rw [h.u0]; rfl
      · rw [h.u1]; rfl
      · rw [h.u2]; rfl
      · rw [h.u3]; rfl
      · rw [h.step]; rfl
      · rw [h.ss]; rfl
      · rw [h.fin]; rfl
      · rw [h.err]; rfl
      · rw [h.toRead]; rfl
      · rw [h.hl]; rfl
      · rw [h.hd]; rfl
      · rw [h.cl]; rfl
      · rw [h.cd]; rfl

/-- A decompressor laid anew over what it keeps. -/
def resetDec (BB CB HB : Nat) (wr rd : Int) (full : Bool) : List Value :=
  [.nilIface, .pointer none, .int .i64 0, .int .u32 0, .int .u64 0] ++ (zeroTab.toList ++ (zeroTab.toList ++ [.pointer (some ⟨BB, 0, none⟩), .pointer (some ⟨CB, 0, none⟩), .slice (some ⟨HB, 0, none⟩) 32768 32768, .int .i64 wr, .int .i64 rd, .bool full, .int .u8 0, .int .u8 0, .int .u8 0, .int .u8 0,
    fnV 56, .int .i64 0, .bool false, .nilIface, .slice none 0 0, .pointer none, .pointer none, .int .i64 0, .int .i64 0]))

theorem resetDec_len (BB CB HB : Nat) (wr rd : Int) (full : Bool) : (resetDec BB CB HB wr rd full).length = 1054 := by kernel_rfl
theorem resetDec_tab1 (BB CB HB : Nat) (wr rd : Int) (full : Bool) (j : Nat) (hj : j < 515) : (resetDec BB CB HB wr rd full)[5 + j]? = zeroTab.toList[j]? := by
  unfold resetDec
  rw [List.getElem?_append_right (by simp)]
  rw [List.getElem?_append_left (by rw [zeroTab_len]; simp; omega)]
  congr 1; simp
theorem resetDec_tab2 (BB CB HB : Nat) (wr rd : Int) (full : Bool) (j : Nat) (hj : j < 515) : (resetDec BB CB HB wr rd full)[520 + j]? = zeroTab.toList[j]? := by
  unfold resetDec
  rw [List.getElem?_append_right (by simp; omega), List.getElem?_append_right (by rw [zeroTab_len]; simp; omega), List.getElem?_append_left (by rw [zeroTab_len]; simp; omega)]
  congr 1; rw [zeroTab_len]; simp; omega
theorem resetDec_one (BB CB HB : Nat) (wr rd : Int) (full : Bool) : ∀ v ∈ (resetDec BB CB HB wr rd full), v.oneCell' = true := by
  intro v hv
  unfold resetDec at hv
  simp only [List.mem_append] at hv
  rcases hv with hv | hv | hv | hv
  · simp only [List.mem_cons, List.not_mem_nil, or_false] at hv
    rcases hv with rfl | rfl | rfl | rfl | rfl <;> rfl
  · exact zeroTab_one v hv
  · exact zeroTab_one v hv
  · simp only [List.mem_cons, List.not_mem_nil, or_false] at hv
    rcases hv with rfl | rfl | rfl | rfl | rfl | rfl | rfl | rfl | rfl | rfl | rfl | rfl | rfl | rfl | rfl | rfl | rfl | rfl | rfl <;> rfl

theorem sizeDec : (Tryd.prog.info? 117).map (·.size) = some 1054 := by kernel_rfl

/-- A decompressor that is laid anew stands at the beginning. -/
theorem reset_rs {w w1 w6 : World} {F C : Nat} {p : Ps} {d : DS} {R : Nat} {base : Option Addr} {src dict : List UInt8} {g : Nat → UInt8} {wr : Nat} {full : Bool} {wr0 rd0 : Int} {full0 : Bool} (he : Env w C p) (hst : Dec w F d) (hCF : C ≤ F) (hCH : C ≤ d.HB) (hCB : C ≤ d.BB) (hCC : C ≤ d.CB) (hR : C ≤ R) (hs : Src w R base src 0)
    (hRn : R ≠ F ∧ R ≠ d.HB ∧ R ≠ d.BB ∧ R ≠ d.CB) (hfar : ∀ a, base = some a → a.block ∉ [F, R, d.HB, d.BB, d.CB])
    (hcell : ∀ j v, (resetDec d.BB d.CB d.HB wr0 rd0 full0)[j]? = some v → w1.cell? ⟨F, j, none⟩ = some v) (hf1 : Frm (fun b _ => b = F) w w1)
    (hf : Frm (fun b o => b = F ∧ (o < 2 ∨ 1037 ≤ o ∧ o < 1041) ∨ b = d.HB) w1 w6) (c0 : w6.cell? ⟨F, 0, none⟩ = some (rdrV R)) (c1 : w6.cell? ⟨F, 1, none⟩ = some (.pointer none))
    (c37 : w6.cell? ⟨F, 1037, none⟩ = some (.slice (some ⟨d.HB, 0, none⟩) 32768 32768)) (c38 : w6.cell? ⟨F, 1038, none⟩ = some (.int .i64 (wr : Int))) (c39 : w6.cell? ⟨F, 1039, none⟩ = some (.int .i64 (wr : Int))) (c40 : w6.cell? ⟨F, 1040, none⟩ = some (.bool full))
    (hwin : ∀ i, i < 32768 → w6.cell? ⟨d.HB, i, none⟩ = some (.int .u8 ((g i).toNat : Int))) (hwb : WinB g wr (tail32 dict)) (hwr : wr < 32768) (hful : full = true → 32768 ≤ (tail32 dict).length) (hnf : full = false → (tail32 dict).length = wr) :
    ∃ d', RS F C p d' (.next ⟨0, 0⟩, tail32 dict) (tail32 dict).length w6 d' (tail32 dict) 0 (.next ⟨0, 0⟩, tail32 dict) ∧ d'.R = R ∧ d'.base = base ∧ d'.src = src ∧ d'.HB = d.HB ∧ d'.BB = d.BB ∧ d'.CB = d.CB := by
  have hne := hst.dist
  simp only [List.nodup_cons, List.mem_cons, List.not_mem_nil, or_false, not_or, List.nodup_nil, and_true, not_false_eq_true] at hne
  have hfw : Frm (fun b _ => b = F ∨ b = d.HB) w w6 := (hf1.mono fun b o e => .inl e).trans (hf.mono fun b o e => e.elim (fun e => .inl e.1) .inr)
  have k : ∀ {j : Nat} {v : Value}, (resetDec d.BB d.CB d.HB wr0 rd0 full0)[j]? = some v → ¬ (j < 2 ∨ 1037 ≤ j ∧ j < 1041) → w6.cell? ⟨F, j, none⟩ = some v := fun hv hj => hf.keep (hcell _ _ hv) (fun e => e.elim (fun e => hj e.2) (fun e => hne.1.2.1 e))
  have hRl : R < w.heap.size := cell_lt hs.i
  have hs6 : Src w6 R base src 0 := hs.keep hfw (fun o e => by omega) (fun a ha j _ e => by
    have := hfar a ha
    simp only [List.mem_cons, List.not_mem_nil, or_false, not_or] at this
    omega)
  have hlF : F < w.heap.size := cell_lt hst.r
  have hlF1 : F < w1.heap.size := Nat.lt_of_lt_of_le hlF hf1.size
  have hlH : d.HB < w.heap.size := cell_lt (hst.win 0 (by omega))
  obtain ⟨vb, hvb⟩ := Option.isSome_iff_exists.1 (hst.bb 0 (by omega))
  obtain ⟨vc, hvc⟩ := Option.isSome_iff_exists.1 (hst.cb 0 (by omega))
  have hlB : d.BB < w.heap.size := cell_lt hvb
  have hlC : d.CB < w.heap.size := cell_lt hvc
  obtain ⟨d', hd⟩ : ∃ d' : DS, d' = { R := R, base := base, src := src, pos := 0, BB := d.BB, CB := d.CB, HB := d.HB, g := g, roff := 0, b := 0, nb := 0, wr := wr, rd := wr, full := full, u0 := 0, u1 := 0, u2 := 0, u3 := 0, step := fnV 56, ss := 0, fin := false, err := .nilIface, toRead := .slice none 0 0, hl := .pointer none, hd := .pointer none, cl := 0, cd := 0 } := ⟨_, rfl⟩
  have hD : Dec w6 F d' := by
    rw [hd]
    refine ⟨c0, c1, k (by kernel_rfl) (by omega), k (by kernel_rfl) (by omega), k (by kernel_rfl) (by omega), k (by kernel_rfl) (by omega), k (by kernel_rfl) (by omega), c37, c38, c39, c40, k (by kernel_rfl) (by omega), k (by kernel_rfl) (by omega), k (by kernel_rfl) (by omega), k (by kernel_rfl) (by omega), k (by kernel_rfl) (by omega),
      k (by kernel_rfl) (by omega), k (by kernel_rfl) (by omega), k (by kernel_rfl) (by omega), k (by kernel_rfl) (by omega), k (by kernel_rfl) (by omega), k (by kernel_rfl) (by omega), k (by kernel_rfl) (by omega), k (by kernel_rfl) (by omega),
      fun o h1 h2 => ?_, fun o => (hfw.froz F o hlF).trans (hst.fr o), hs6, hwin, fun o => (hfw.froz d.HB o hlH).trans (hst.frH o), fun i hi => ?_, fun i hi => ?_, fun o => (hfw.froz d.BB o hlB).trans (hst.frB o), fun o => (hfw.froz d.CB o hlC).trans (hst.frC o), ?_, fun a ha => hfar a ha⟩
    · rw [hfw.live F o hlF]; exact hst.tl o h1 h2
    · rw [hfw.live d.BB i hlB]; exact hst.bb i hi
    · rw [hfw.live d.CB i hlC]; exact hst.cb i hi
    · simp only [List.nodup_cons, List.mem_cons, List.not_mem_nil, or_false, not_or, List.nodup_nil, and_true, not_false_eq_true]
      omega
  have htab : ∀ o, (o = 5 ∨ o = 520) → TabAt w6 F o emptyTab (fun _ => False) := fun o ho => by
    have hz : ∀ j, j < 515 → ∀ v, zeroTab.toList[j]? = some v → w6.cell? ⟨F, o + j, none⟩ = some v := fun j hj v hv => by
      refine k ?_ (by omega)
      rcases ho with rfl | rfl
      · rw [resetDec_tab1 _ _ _ _ _ _ j hj]; exact hv
      · rw [resetDec_tab2 _ _ _ _ _ _ j hj]; exact hv
    refine ⟨?_, fun i hi => ?_, ?_, fun _ => ?_, fun h => absurd rfl h⟩
    · exact hz 0 (by omega) _ rfl
    · have e : emptyTab.chunks.getD i 0 = 0 := rep_getD 512 i
      rw [e, Nat.add_assoc]
      exact hz (1 + i) (by omega) _ (zt_mid 512 _ _ _ i hi)
    · exact hz 514 (by omega) _ (zt_end 512 _ _ _ 1)
    · exact hz 513 (by omega) _ (zt_end 512 _ _ _ 0)
  refine ⟨d', ⟨⟨he.keep hfw (fun b o e => by rcases e with e | e <;> omega), hCF, by rw [hd]; exact hR, by rw [hd]; exact hCH, by rw [hd]; exact hCB, by rw [hd]; exact hCC, hD, by rw [hd]; exact hwb, by rw [hd]; exact Nat.le_refl _, by rw [hd]; exact hwr, by rw [hd]; exact hful, by rw [hd]; exact hnf,
    ⟨by rw [hd]; simp, none, 0, by rw [hd], Nat.le_refl _, .inl rfl⟩, .inr (htab 5 (.inl rfl)), .inr (htab 520 (.inr rfl))⟩, ?_, .refl _, Same.refl _, by rw [hd]; exact hwr, fun _ => by rw [hd]⟩, by rw [hd], by rw [hd], by rw [hd], by rw [hd], by rw [hd], by rw [hd]⟩
  exact ⟨by rw [hd], .inl ⟨by rw [hd], rfl, ⟨Nat.le_refl _, Nat.zero_le _⟩, by decide, put_edge (q := 0) (by rw [hd]) (by rw [hd]) (by rw [hd]) (by rw [hd]), .inl (by rw [hd])⟩⟩

set_option maxHeartbeats 1000000 in
theorem reset_any (w : World) (F C : Nat) (p : Ps) (he : Env w C p) (d : DS) (hD : Dec w F d) (hCF : C ≤ F) (hCH : C ≤ d.HB) (hCB : C ≤ d.BB) (hCC : C ≤ d.CB) (R : Nat) (base : Option Addr) (src : List UInt8) (hR : C ≤ R) (hs : Src w R base src 0)
    (hRn : R ≠ F ∧ R ≠ d.HB ∧ R ≠ d.BB ∧ R ≠ d.CB) (hfar : ∀ a, base = some a → a.block ∉ [F, R, d.HB, d.BB, d.CB])
    (dbase : Option Addr) (dict : List UInt8) (dcap : Nat) (hdb : Bytes w dbase dict) (hdc : dict.length ≤ dcap) (hdl : dict.length ≤ 4294967296) (hdF : ∀ a, dbase = some a → a.block ≠ F) (hdH : ∀ a, dbase = some a → a.block ≠ d.HB) :
    Calls Tryd.prog 131 #[.pointer (some ⟨F, 0, none⟩), rdrV R, .slice dbase dict.length dcap] w fun e w' => e = .returned .nilIface ∧ Frm (fun b _ => b = F ∨ b = d.HB) w w' ∧
      ∃ d', RS F C p d' (.next ⟨0, 0⟩, tail32 dict) (tail32 dict).length w' d' (tail32 dict) 0 (.next ⟨0, 0⟩, tail32 dict) ∧ d'.R = R ∧ d'.base = base ∧ d'.src = src ∧ d'.HB = d.HB ∧ d'.BB = d.BB ∧ d'.CB = d.CB := by
  have HH := Lib.hid (And.intro he (And.intro hCF (And.intro hCH (And.intro hCB (And.intro hCC (And.intro hR (And.intro hRn hfar)))))))
  clear he hCF hCH hCB hCC hR hRn hfar
  have HD := Lib.hid hD
  have HS := Lib.hid hs
  have HDB := Lib.hid (And.intro hdb (And.intro hdc (And.intro hdl (And.intro hdF hdH))))
  have c1 := hD.rBuf
  have c35 := hD.bits
  have c36 := hD.cbits
  have c37 := hD.hist
  have c38 := hD.wr
  have c39 := hD.rd
  have c40 := hD.full
  clear hD hs hdb hdc hdl hdF hdH
  go_enter Tryd.func131, Tryd.ntmps131
  go_upto_region 1 with (fail)
  (refine region_tail 19 (by kernel_rfl) (by kernel_rfl) ?_; simp only [List.take_succ_cons, List.take_zero, List.drop_succ_cons, List.drop_zero]; (repeat still_step); refine wpStill_nil ?_)
  have hrc : ∀ j, j < 1054 → (w.drew.cell? ⟨F, 0 + j, none⟩).isSome = true := fun j hj => by rw [Nat.zero_add]; exact HD.out.some j hj
  refine wpList_skip_run (by rfl) (run_store_agg 117 (.tmp 25) (.tmp 24) (by rfl) F 0 1054 (resetDec d.BB d.CB d.HB d.wr d.rd d.full).toArray (by rfl) (by kernel_rfl) sizeDec (by rw [List.size_toArray, resetDec_len]) hrc (fun j hj => HD.out.fr _) (fun v hv => resetDec_one _ _ _ _ _ _ v (by simpa using hv))) ?_
  obtain ⟨w1, hw1⟩ : ∃ w1, w1 = w.drew.setCells F 0 (resetDec d.BB d.CB d.HB d.wr d.rd d.full) := ⟨_, rfl⟩
  have e1 : w.drew.setCells F 0 (resetDec d.BB d.CB d.HB d.wr d.rd d.full).toArray.toList = w1 := by rw [hw1]
  rw [e1]
  generalize hV : Value.agg _ = V
  clear hV e1 hrc
  have hcell : ∀ j v, (resetDec d.BB d.CB d.HB d.wr d.rd d.full)[j]? = some v → w1.cell? ⟨F, j, none⟩ = some v := fun j v hv => by
    obtain ⟨hj, rfl⟩ := List.getElem?_eq_some_iff.1 hv
    have := World.cell?_setCells_in F (resetDec d.BB d.CB d.HB d.wr d.rd d.full) 0 w.drew (fun j hj => by rw [Nat.zero_add]; exact HD.out.some j (by rw [resetDec_len] at hj; exact hj)) j hj
    rw [Nat.zero_add] at this
    rw [hw1]; exact this
  have hf1 : Frm (fun b _ => b = F) w w1 := by rw [hw1]; exact Frm.setCells F _ 0 _ ((Frm.refl _ _).drew) (fun j _ => .inl rfl)
  have hlF : F < w.heap.size := cell_lt HD.out.r
  have hne := HD.out.dist
  simp only [List.nodup_cons, List.mem_cons, List.not_mem_nil, or_false, not_or, List.nodup_nil, and_true, not_false_eq_true] at hne
  have z0 := hcell 0 _ (by kernel_rfl : (resetDec d.BB d.CB d.HB d.wr d.rd d.full)[0]? = some .nilIface)
  have z1 := hcell 1 _ (by kernel_rfl : (resetDec d.BB d.CB d.HB d.wr d.rd d.full)[1]? = some (.pointer none))
  have z37 := hcell 1037 _ (by kernel_rfl : (resetDec d.BB d.CB d.HB d.wr d.rd d.full)[1037]? = some (.slice (some ⟨d.HB, 0, none⟩) 32768 32768))
  have z38 := hcell 1038 _ (by kernel_rfl : (resetDec d.BB d.CB d.HB d.wr d.rd d.full)[1038]? = some (.int .i64 d.wr))
  have z39 := hcell 1039 _ (by kernel_rfl : (resetDec d.BB d.CB d.HB d.wr d.rd d.full)[1039]? = some (.int .i64 d.rd))
  have z40 := hcell 1040 _ (by kernel_rfl : (resetDec d.BB d.CB d.HB d.wr d.rd d.full)[1040]? = some (.bool d.full))
  have hfz : ∀ o, w1.frozen? ⟨F, o, none⟩ = false := fun o => (hf1.froz F o hlF).trans (HD.out.fr o)
  obtain ⟨w2, hw2⟩ : ∃ w2, w2 = (w1.setCell ⟨F, 1, none⟩ (.pointer none)).setCell ⟨F, 0, none⟩ (rdrV R) := ⟨_, rfl⟩
  have hf2 : Frm (fun b o => b = F ∧ (o < 2 ∨ 1037 ≤ o ∧ o < 1041) ∨ b = d.HB) w1 w2 := by rw [hw2]; exact ((Frm.refl _ _).setCell (.inl (.inl ⟨rfl, .inl (by simp)⟩)) _).setCell (.inl (.inl ⟨rfl, .inl (by simp)⟩)) _
  have ky : ∀ {o : Nat} {v : Value}, 2 ≤ o → w1.cell? ⟨F, o, none⟩ = some v → w2.cell? ⟨F, o, none⟩ = some v := fun ho hc => by rw [hw2, cell_set_off (by omega), cell_set_off (by omega)]; exact hc
  have y0 : w2.cell? ⟨F, 0, none⟩ = some (rdrV R) := by rw [hw2]; exact set_get ((cell_set_off (by decide)).trans z0)
  have y1 : w2.cell? ⟨F, 1, none⟩ = some (.pointer none) := by rw [hw2]; exact (cell_set_off (by decide)).trans (set_get z1)
  obtain ⟨hdb, hdc, hdl, hdF, hdH⟩ := HDB.out
  have hf12 : Frm (fun b _ => b = F) w w2 := by rw [hw2]; exact (hf1.setCell (.inl rfl) _).setCell (.inl rfl) _
  have hdi := dictInit_again w2 F d.HB d.g dbase dict dcap (hdb.keep hf12 (fun a ha j _ e => hdF a ha e)) hdc hdl (ky (by decide) z37) _ _ _ (ky (by decide) z38) (ky (by decide) z39) (ky (by decide) z40) (fun o => (hf12.froz F o hlF).trans (HD.out.fr o)) (fun i hi => hf12.keep (HD.out.win i hi) (fun e => hne.1.2.1 e.symm)) (fun o => (hf12.froz d.HB o (cell_lt (HD.out.win 0 (by omega)))).trans (HD.out.frH o)) hne.1.2.1 hdF hdH
  have HDI := Lib.hid hdi
  have hz0 := hfz 0
  have hz1 := hfz 1
  have HX := Lib.hid (And.intro hcell (And.intro hf1 (And.intro hf2 (And.intro y0 y1))))
  have HW2 := Lib.hid hw2
  clear hw1 hcell hf1 hlF hne z37 z38 z39 z40 hfz hf2 ky y0 y1 hdb hdc hdl hdF hdH hf12 hdi c1 c35 c36 c37 c38 c39 c40 hw2
  go_wp2_with fail
  refine (makeReader_any w1 F R ⟨_, z0⟩ ⟨_, z1⟩ hz0 hz1).mono ?_
  rintro e w2' ⟨rfl, hw2'⟩
  obtain rfl : w2 = w2' := HW2.out.trans hw2'
  clear hw2' z0 z1 hz0 hz1
  go_wp2_with fail
  refine HDI.out.mono ?_
  rintro e w3 ⟨rfl, hP⟩
  have HP := Lib.hid hP
  clear hP
  go_wp2_with fail
  go_ret
  obtain ⟨g, wr, full, hf3, d37, d38, d39, d40, hwin, frH, hwb, hwr, hful, hnf⟩ := HP.out
  obtain ⟨hcell, hf1, hf2, y0, y1⟩ := HX.out
  obtain ⟨he, hCF, hCH, hCB, hCC, hR, hRn, hfar⟩ := HH.out
  have hne := HD.out.dist
  simp only [List.nodup_cons, List.mem_cons, List.not_mem_nil, or_false, not_or, List.nodup_nil, and_true, not_false_eq_true] at hne
  have hf13 : Frm (fun b o => b = F ∧ (o < 2 ∨ 1037 ≤ o ∧ o < 1041) ∨ b = d.HB) w1 w3 := hf2.trans (hf3.mono fun b o e => e.elim (fun e => .inl ⟨e.1, .inr e.2⟩) .inr)
  have hk3 : ∀ {o : Nat} {v : Value}, o < 2 → w2.cell? ⟨F, o, none⟩ = some v → w3.cell? ⟨F, o, none⟩ = some v := fun ho hc => hf3.keep hc (fun e => e.elim (fun e => by omega) (fun e => hne.1.2.1 e))
  refine ⟨rfl, (hf1.mono fun b o e => .inl e).trans (hf13.mono fun b o e => e.elim (fun e => .inl e.1) .inr), ?_⟩
  exact reset_rs he HD.out hCF hCH hCB hCC hR HS.out hRn hfar hcell hf1 hf13 (hk3 (by omega) y0) (hk3 (by omega) y1) d37 d38 d39 d40 hwin hwb hwr hful hnf

end Go.Proofs.YthfncdfcklbigaaDoor
