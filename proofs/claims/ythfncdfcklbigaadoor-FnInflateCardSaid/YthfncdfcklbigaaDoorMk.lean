/-
  THE WALKS THAT MAKE A READER: 'makeReader', 'dictDecoder.init', 'NewReader', 'NewReaderDict', 'Close'.
-/
import Derived.Test.YthfncdfcklbigaaDoorRdr
import Derived.Test.YthfncdfcklbigaaDoorMade
set_option linter.unusedVariables false
set_option linter.unusedSimpArgs false
namespace Go.Proofs.YthfncdfcklbigaaDoor
open Go.RowKit Flate
set_option maxRecDepth 100000

/-- The zero of a decompressor. -/
def zeroDec : List Value :=
  [.nilIface, .pointer none, .int .i64 0, .int .u32 0, .int .u64 0] ++ (zeroTab.toList ++ (zeroTab.toList ++ [.pointer none, .pointer none, .slice none 0 0, .int .i64 0, .int .i64 0, .bool false, .int .u8 0, .int .u8 0, .int .u8 0, .int .u8 0,
    .nilFunc, .int .i64 0, .bool false, .nilIface, .slice none 0 0, .pointer none, .pointer none, .int .i64 0, .int .i64 0]))

theorem zeroDecompressor : (Tryd.prog.info? 117).map (·.zero) = some (some (.agg zeroDec.toArray)) := by kernel_rfl

theorem zero316 : (Tryd.prog.info? 119).map (·.zero) = some (some (.agg (List.replicate 316 (.int .i64 0)).toArray)) := by kernel_rfl
theorem zero19 : (Tryd.prog.info? 120).map (·.zero) = some (some (.agg (List.replicate 19 (.int .i64 0)).toArray)) := by kernel_rfl

abbrev rdrV (R : Nat) : Value := .iface 55 (.pointer (some ⟨R, 0, none⟩))

theorem close_eof (w : World) (F C : Nat) (p : Ps) (he : Env w C p) (c48 : w.cell? ⟨F, 1048, none⟩ = some (errAt p.E)) :
    Calls Tryd.prog 129 #[.pointer (some ⟨F, 0, none⟩)] w fun e w' => e = .returned .nilIface ∧ ∃ n, w' = w.drewN n := by
  have h0 := he.eof
  have hq := fun w => eql_same p.E w
  clear he
  go_enter Tryd.func129, Tryd.ntmps129
  go_wp2_with fail
  (go_quiet (fail))
  go_wp2_with fail
  go_ret
  exact ⟨rfl, nq, rfl⟩

theorem makeReader_any (w : World) (F R : Nat) (c0 : ∃ v, w.cell? ⟨F, 0, none⟩ = some v) (c1 : ∃ v, w.cell? ⟨F, 1, none⟩ = some v) (f0 : w.frozen? ⟨F, 0, none⟩ = false) (f1 : w.frozen? ⟨F, 1, none⟩ = false) :
    Calls Tryd.prog 55 #[.pointer (some ⟨F, 0, none⟩), rdrV R] w fun e w' => e = .returned (.tuple #[]) ∧ (w.setCell ⟨F, 1, none⟩ (.pointer none)).setCell ⟨F, 0, none⟩ (rdrV R) = w' := by
  obtain ⟨v0, c0⟩ := c0
  obtain ⟨v1, c1⟩ := c1
  have hta : ∀ w : World, (Instr.typeAssert (rdrV R) 101 103 true).run Tryd.prog w = .ok (.tuple #[rdrV R, .bool true]) w := fun w => by kernel_rfl
  go_enter Tryd.func55, Tryd.ntmps55
  go_wp2_with fail
  ((try simp only [Exit.inBlock, Exit.then]); refine bodyPost_ret (results_none rfl _ _ _) rfl ?_)
  exact ⟨rfl, rfl⟩

/-- A copy into the window's block. -/
theorem copy_dict (w : World) (HB : Nat) (base : Option Addr) (l : List UInt8) (cap : Nat) (hb : Bytes w base l) (hc : ∀ j, j < 32768 → (w.cell? ⟨HB, j, none⟩).isSome = true) (hf : ∀ j, w.frozen? ⟨HB, j, none⟩ = false) (hl : l.length ≤ 32768) :
    ∃ w', (∀ m ty, (Builtin.copy_ #[22, 22] ty #[.slice (some ⟨HB, 0, none⟩) 32768 32768, .slice base l.length cap]).run Tryd.prog (w.drewN m) = .ok (.int .i64 (l.length : Int)) (w'.drewN m)) ∧
      Frm (fun x y => x = HB ∧ y < l.length) w w' ∧ ∀ j, j < l.length → w'.cell? ⟨HB, j, none⟩ = some (.int .u8 ((l.getD j 0).toNat : Int)) := by
  cases base with
  | none =>
    obtain rfl : l = [] := hb
    exact ⟨w, fun m ty => by simp [Builtin.copy_, go_sem], Frm.refl _ _, fun j hj => absurd hj (by simp)⟩
  | some a =>
    obtain ⟨hs, hcell⟩ := hb
    obtain ⟨ab, ao, asp⟩ := a
    simp only at hs
    subst hs
    obtain ⟨w', h1, h2, h3⟩ := copy_bytes w HB 0 32768 32768 ⟨ab, ao, none⟩ l.length cap l.length (fun j => l.getD j 0) (by
        have := min_cases l.length 32768
        rcases this.2.2 with e | e <;> omega) (fun j hj => by
        have e : (⟨ab, ao, none⟩ : Addr).add j = ⟨ab, ao + j, none⟩ := by unfold Addr.add; split <;> simp_all
        rw [e, hcell j hj, List.getD_eq_getElem?_getD, List.getElem?_eq_getElem hj]; rfl) (fun j hj => by rw [Nat.zero_add]; exact hc j (by omega)) (fun j _ => by rw [Nat.zero_add]; exact hf j)
    exact ⟨w', h1, h2.mono fun b o e => ⟨e.1, by omega⟩, fun j hj => by have := h3 j hj; rw [Nat.zero_add] at this; exact this⟩

theorem run_bytes32 (w : World) : (Instr.makeSlice 22 (.int .i64 32768) (.int .i64 32768)).run Tryd.prog w = .ok (.slice (some ⟨w.heap.size, 0, none⟩) 32768 32768) (w.alloc (.cells (madeCells #[.int .u8 0] 32768) 5)) :=
  run_bytes w 32768 (by omega)

theorem drop_get {dict l : List UInt8} {q j : Nat} (hl : l = dict.drop q) (hj : j < l.length) (hd : q + j < dict.length) : l[j] = dict[q + j] := by
  subst hl; rw [List.getElem_drop]

/-- What 'init' of the window gives. -/
def DictPost (w : World) (F HB : Nat) (dict : List UInt8) (S : Nat → Nat → Prop) (e : Ending) (w' : World) : Prop :=
  e = .returned (.tuple #[]) ∧ ∃ (g : Nat → UInt8) (wr : Nat) (full : Bool), Frm S w w' ∧ w'.cell? ⟨F, 1037, none⟩ = some (.slice (some ⟨HB, 0, none⟩) 32768 32768) ∧ w'.cell? ⟨F, 1038, none⟩ = some (.int .i64 (wr : Int)) ∧ w'.cell? ⟨F, 1039, none⟩ = some (.int .i64 (wr : Int)) ∧
    w'.cell? ⟨F, 1040, none⟩ = some (.bool full) ∧ (∀ i, i < 32768 → w'.cell? ⟨HB, i, none⟩ = some (.int .u8 ((g i).toNat : Int))) ∧ (∀ o, w'.frozen? ⟨HB, o, none⟩ = false) ∧
    WinB g wr (dict.drop (dict.length - 32768)) ∧ wr < 32768 ∧ (full = true → 32768 ≤ (dict.drop (dict.length - 32768)).length) ∧ (full = false → (dict.drop (dict.length - 32768)).length = wr)

set_option maxHeartbeats 2000000 in
theorem dictInit_new (w : World) (F : Nat) (base : Option Addr) (dict : List UInt8) (cap : Nat) (hb : Bytes w base dict) (hcap : dict.length ≤ cap) (hlen : dict.length ≤ 4294967296) (c37 : w.cell? ⟨F, 1037, none⟩ = some (.slice none 0 0)) (c38 : w.cell? ⟨F, 1038, none⟩ = some (.int .i64 0)) (c39 : w.cell? ⟨F, 1039, none⟩ = some (.int .i64 0)) (c40 : w.cell? ⟨F, 1040, none⟩ = some (.bool false))
    (f : ∀ o, w.frozen? ⟨F, o, none⟩ = false) (hne : ∀ a, base = some a → a.block ≠ F) :
    Calls Tryd.prog 57 #[.pointer (some ⟨F, 1037, none⟩), .int .i64 32768, .slice base dict.length cap] w (DictPost w F w.heap.size dict (fun b o => b = F ∧ 1037 ≤ o ∧ o < 1041)) := by
  have f37 := f 1037
  have f38 := f 1038
  have f39 := f 1039
  have f40 := f 1040
  go_enter Tryd.func57, Tryd.ntmps57
  obtain ⟨N, hN⟩ : ∃ N, N = 32768 := ⟨_, rfl⟩
  have HNN := Lib.hid hN
  have hsl : ∀ (w : World) (B : Nat), (Instr.sliceAt 22 (.slice (some ⟨B, 0, none⟩) N N) none (some (.int .i64 32768)) none).run Tryd.prog w = .ok (.slice (some ⟨B, 0, none⟩) N N) w := fun w B => by
    have hsz : ∀ w : World, (sizeOf (Tryd.prog.elem 22)).run Tryd.prog w = .ok 1 w := fun w => by kernel_rfl
    have hu : Tryd.prog.underlying 22 = some (.slice (Tryd.prog.elem 22)) := by kernel_rfl
    rw [run_sliceAt_slice w _ _ _ _ _ hu, run_slice_h w _ _ _ _ hu _ _ (by omega) (by omega), hsz]
    have e : (32768 : Int).toNat = N := by rw [hN]; rfl
    simp only [Result.andThen, sliced, e, Nat.sub_zero]
    rw [if_neg (by omega)]
    simp [Addr.add]
  have hF := cell_lt c37
  go_upto_region 2 with (fail)
  refine wp_region_lit ?_
  refine wpList_run (by rfl) (by rfl) ?_
  refine wpList_run (by rfl) (by rfl) ?_
  refine wpList_bytes (by rfl) _ _ (by rfl) .i64 .i64 N (by rw [hN]; rfl) (by rw [hN]; rfl) (by omega) ?_
  intro w2 hw2
  have hHB : ((((w.setCell ⟨F, 1037, none⟩ (.slice none 0 0)).setCell ⟨F, 1038, none⟩ (.int .i64 0)).setCell ⟨F, 1039, none⟩ (.int .i64 0)).setCell ⟨F, 1040, none⟩ (.bool false)).heap.size = w.heap.size := by simp [World.setCell]
  rw [hHB]
  obtain ⟨HB, hHBe⟩ : ∃ HB, HB = w.heap.size := ⟨_, rfl⟩
  rw [← hHBe]
  rw [← hHBe] at hF
  have hnew : ∀ j, j < 32768 → w2.cell? ⟨HB, j, none⟩ = some (.int .u8 0) := fun j hj => by
    rw [hw2, hHBe, ← hHB, hN]
    exact new_row _ _ _ _ _ hj
  have hfz : ∀ j, w2.frozen? ⟨HB, j, none⟩ = false := fun j => by rw [hw2, hHBe, ← hHB, World.frozen?_alloc_new]
  have hfr : Frm (fun b o => b = F ∧ 1037 ≤ o ∧ o < 1041) w w2 := by
    rw [hw2]
    exact (((((Frm.refl _ _).setCell (.inl ⟨rfl, by simp⟩) _).setCell (.inl ⟨rfl, by simp⟩) _).setCell (.inl ⟨rfl, by simp⟩) _).setCell (.inl ⟨rfl, by simp⟩) _).alloc _
  have hk : ∀ {o : Nat} {v : Value}, ((((w.setCell ⟨F, 1037, none⟩ (.slice none 0 0)).setCell ⟨F, 1038, none⟩ (.int .i64 0)).setCell ⟨F, 1039, none⟩ (.int .i64 0)).setCell ⟨F, 1040, none⟩ (.bool false)).cell? ⟨F, o, none⟩ = some v → w2.cell? ⟨F, o, none⟩ = some v := fun hc => by
    rw [hw2, World.cell?_of_block (Below.heap_alloc _ _ _ (by rw [hHB, ← hHBe]; exact hF))]; exact hc
  have d37 : w2.cell? ⟨F, 1037, none⟩ = some (.slice none 0 0) := hk (by go_simp)
  have d38 : w2.cell? ⟨F, 1038, none⟩ = some (.int .i64 0) := hk (by go_simp)
  have d39 : w2.cell? ⟨F, 1039, none⟩ = some (.int .i64 0) := hk (by go_simp)
  have d40 : w2.cell? ⟨F, 1040, none⟩ = some (.bool false) := hk (by go_simp)
  have g37 := (hfr.froz F 1037 (by rw [← hHBe]; exact hF)).trans f37
  have g38 := (hfr.froz F 1038 (by rw [← hHBe]; exact hF)).trans f38
  have g39 := (hfr.froz F 1039 (by rw [← hHBe]; exact hF)).trans f39
  have g40 := (hfr.froz F 1040 (by rw [← hHBe]; exact hF)).trans f40
  have hb2 : Bytes w2 base dict := hb.keep hfr (fun a ha j _ e => hne a ha e.1)
  have b1 : (N : Int) ≤ 32768 := by omega
  have b2 : (32768 : Int) ≤ (N : Int) := by omega
  have HX := Lib.hid (And.intro hnew (And.intro hfz (And.intro hfr hb2)))
  have HN := Lib.hid hN
  have HHB := Lib.hid hHBe
  have HFl := Lib.hid hF
  clear hw2 hHB hHBe hnew hfz hfr hk hb2 c37 c38 c39 c40 f37 f38 f39 f40 hN hb hF f
  go_upto_region 4 with (fail)
  obtain ⟨w3, hw3⟩ : ∃ w3, w3 = (w2.setCell ⟨F, 1037, none⟩ (.slice (some ⟨HB, 0, none⟩) N N)).setCell ⟨F, 1037, none⟩ (.slice (some ⟨HB, 0, none⟩) N N) := ⟨_, rfl⟩
  rw [← hw3]
  obtain ⟨hnew, hfz, hfr, hb2⟩ := HX.out
  have nFH : F ≠ HB := by have := HFl.out; omega
  have k37 : w3.cell? ⟨F, 1037, none⟩ = some (.slice (some ⟨HB, 0, none⟩) N N) := by rw [hw3]; exact set_get (set_get d37)
  have kk : ∀ {o : Nat} {v : Value}, o ≠ 1037 → w2.cell? ⟨F, o, none⟩ = some v → w3.cell? ⟨F, o, none⟩ = some v := fun ho hc => by rw [hw3, cell_set_off ho, cell_set_off ho]; exact hc
  have k38 := kk (by decide) d38
  have k39 := kk (by decide) d39
  have k40 := kk (by decide) d40
  have kz : ∀ o, w3.frozen? ⟨F, o, none⟩ = w2.frozen? ⟨F, o, none⟩ := fun o => by rw [hw3, World.frozen?_setCell, World.frozen?_setCell]
  have l37 := (kz 1037).trans g37
  have l38 := (kz 1038).trans g38
  have l39 := (kz 1039).trans g39
  have l40 := (kz 1040).trans g40
  have hnew3 : ∀ j, j < 32768 → w3.cell? ⟨HB, j, none⟩ = some (.int .u8 0) := fun j hj => by rw [hw3, cell_set_ne (.inl nFH.symm), cell_set_ne (.inl nFH.symm)]; exact hnew j hj
  have hfz3 : ∀ j, w3.frozen? ⟨HB, j, none⟩ = false := fun j => by rw [hw3, World.frozen?_setCell, World.frozen?_setCell]; exact hfz j
  have hfr3 : Frm (fun b o => b = F ∧ 1037 ≤ o ∧ o < 1041) w w3 := by rw [hw3]; exact (hfr.setCell (.inl ⟨rfl, by simp⟩) _).setCell (.inl ⟨rfl, by simp⟩) _
  have hb3 : Bytes w3 base dict := by
    rw [hw3]
    exact hb2.keep (S := fun b _ => b = F) (((Frm.refl _ _).setCell (.inl rfl) _).setCell (.inl rfl) _) (fun a ha j _ e => hne a ha e)
  obtain ⟨l, hl⟩ : ∃ l, l = dict.drop (dict.length - 32768) := ⟨_, rfl⟩
  have hll : l.length ≤ 32768 := by rw [hl, List.length_drop]; omega
  obtain ⟨D, hD⟩ : ∃ D, D = dict.length := ⟨_, rfl⟩
  rw [← hD]
  have b3 : (D : Int) ≤ 4294967296 := by omega
  have HX3 := Lib.hid (And.intro hnew3 (And.intro hfz3 (And.intro hfr3 hb3)))
  have HL := Lib.hid hl
  have HLL := Lib.hid hll
  have HDE := Lib.hid hD
  have HNE := Lib.hid hne
  have HCAP := Lib.hid hcap
  clear hw3 HX hnew hfz hfr hb2 nFH kk kz hnew3 hfz3 hfr3 hb3 d37 d38 d39 d40 g37 g38 g39 g40 hl hll hne hcap hlen hsl hD
  go_upto_if 41 with (fail)
  go_cut [2] (fun s wq => ∃ base' cap', s = .slice base' l.length cap' ∧ Hid (Bytes w3 base' l) ∧ w3 = wq)
  case first =>
    by_cases hgt : N < D
    · have e1 : N < D := hgt
      obtain ⟨q, hq⟩ : ∃ q, q = D - N := ⟨_, rfl⟩
      have z1 : (D : Int) - (N : Int) = (q : Int) := by omega
      have hb := HX3.out.2.2.2
      have hDl := HDE.out
      cases base with
      | none =>
        have : dict = [] := hb
        rw [this] at hDl
        simp at hDl
        omega
      | some a =>
        obtain ⟨hs, hcell⟩ := hb
        obtain ⟨ab, ao, asp⟩ := a
        simp only at hs
        subst hs
        obtain ⟨base', hsl, hbase⟩ := run_rest ab ao D cap q (by omega) (by have := HCAP.out; omega)
        have hbe := hbase (by omega)
        have hln : l.length = N := by rw [HL.out, List.length_drop]; have := HN.out; omega
        have hDq : D - q = l.length := by omega
        rw [hDq] at hsl
        have hby : Bytes w3 base' l := by
          rw [hbe]
          refine ⟨rfl, fun j hj => ?_⟩
          have hidx : q + j < dict.length := by omega
          have h1 := hcell (q + j) hidx
          rw [← Nat.add_assoc] at h1
          simp only at h1 ⊢
          rw [h1]
          have hqq : q = dict.length - 32768 := by have := HN.out; omega
          have hle : l[j] = dict[q + j] := drop_get (by rw [HL.out, ← hqq]) hj hidx
          rw [hle]
        have HBY := Lib.hid hby
        clear hcell hbase hbe hby hq hDl hDq hln
        go_wp2_with fail
        go_meet
        case rel => exact ⟨base', _, rfl, HBY, rfl⟩
    · have e1 : ¬ N < D := hgt
      have hld : l = dict := by rw [HL.out, show dict.length - 32768 = 0 by have := HDE.out; have := HN.out; omega, List.drop_zero]
      have hDl : D = l.length := by rw [hld]; exact HDE.out
      have HLD := Lib.hid hld
      have HDL := Lib.hid hDl
      clear hld hDl hgt
      go_wp2_with fail
      go_meet
      case rel => exact ⟨base, cap, by rw [HDL.out], by rw [HLD.out]; exact Lib.hid HX3.out.2.2.2, rfl⟩
  case rest =>
  obtain ⟨base', cap', rfl, hby, rfl⟩ := hcut
  obtain ⟨w4, hrun, hf4, hc4⟩ := copy_dict w3 HB base' l cap' hby.out (fun j hj => by rw [HX3.out.1 j hj]; rfl) HX3.out.2.1 HLL.out
  have hrun0 : ∀ ty, (Builtin.copy_ #[22, 22] ty #[.slice (some ⟨HB, 0, none⟩) N N, .slice base' l.length cap']).run Tryd.prog w3 = .ok (.int .i64 (l.length : Int)) w4 := fun ty => by rw [HN.out]; exact hrun 0 ty
  have nFH : F ≠ HB := by have := HFl.out; omega
  have hk4 : ∀ {o : Nat} {v : Value}, w3.cell? ⟨F, o, none⟩ = some v → w4.cell? ⟨F, o, none⟩ = some v := fun hc => hf4.keep hc (fun e => nFH e.1)
  have m37 := hk4 k37
  have m38 := hk4 k38
  have m39 := hk4 k39
  have m40 := hk4 k40
  have hFl3 := cell_lt k37
  have n37 := (hf4.froz F 1037 hFl3).trans l37
  have n38 := (hf4.froz F 1038 hFl3).trans l38
  have n39 := (hf4.froz F 1039 hFl3).trans l39
  have n40 := (hf4.froz F 1040 hFl3).trans l40
  obtain ⟨M, hM⟩ : ∃ M, M = l.length := ⟨_, rfl⟩
  rw [← hM] at hrun0 ⊢
  have hMN : M ≤ 32768 := by have := HLL.out; omega
  have b4 : (M : Int) ≤ 32768 := by omega
  obtain ⟨hnew, hfz, hfr, _⟩ := HX3.out
  have hHB3 : HB < w3.heap.size := cell_lt (hnew 0 (by omega))
  -- the window
  obtain ⟨g, hg⟩ : ∃ g : Nat → UInt8, g = fun i => if i < M then l.getD i 0 else 0 := ⟨_, rfl⟩
  have hwin : ∀ i, i < 32768 → w4.cell? ⟨HB, i, none⟩ = some (.int .u8 ((g i).toNat : Int)) := fun i hi => by
    rw [hg]
    simp only
    by_cases h : i < M
    · rw [if_pos h]; exact hc4 i (by omega)
    · rw [if_neg h]; exact hf4.keep (hnew i hi) (fun e => h (by omega))
  have hfz4 : ∀ o, w4.frozen? ⟨HB, o, none⟩ = false := fun o => (hf4.froz HB o hHB3).trans (hfz o)
  have hfr4 : Frm (fun b o => b = F ∧ 1037 ≤ o ∧ o < 1041) w w4 := hfr.trans' hf4 (fun b o hb e => by have := e.1; have := HHB.out; omega)
  have hwb : WinB g M l := ⟨hMN, by rw [hM], fun i hi _ => by rw [Nat.mod_eq_of_lt (by omega), hg]; simp only; rw [if_pos (by omega)]⟩
  have HE := Lib.hid (And.intro hwin (And.intro hfz4 (And.intro hfr4 hwb)))
  have HM := Lib.hid hM
  clear hrun hf4 hc4 hk4 hM hMN hnew hfz hfr hHB3 hg hwin hfz4 hfr4 hwb hby k38 k39 k40 l37 l38 l39 l40
  go_upto_region 7 with (with_reducible refine wpList_copy_run (by rfl) (.tmp 56) (.tmp 57) 22 22 (by rfl) (by rfl) (by rfl) hrun0 ?_)
  have nHF : HB ≠ F := fun e => nFH e.symm
  clear hrun0
  by_cases hfull : M = N
  · have t1 : ((M : Int) == (N : Int)) = true := by simp; omega
    have t2 : (M == N) = true := by simp; omega
    have HFU := Lib.hid hfull
    clear hfull
    (go_quiet (fail))
    go_wp2_with fail
    go_end0
    obtain ⟨hwin, hfz4, hfr4, hwb⟩ := HE.out
    rw [← HHB.out]
    refine ⟨rfl, g, 0, true, ?_, by rw [← HN.out]; go_simp, by go_simp, by go_simp, by go_simp, fun i hi => by rw [cell_set_ne (.inl nHF), cell_set_ne (.inl nHF), cell_set_ne (.inl nHF)]; exact (cell_set_ne (.inl nHF)).trans (hwin i hi), fun o => by rw [World.frozen?_setCell, World.frozen?_setCell, World.frozen?_setCell]; exact (World.frozen?_setCell w4 _ _ _).trans (hfz4 o), ?_, by omega, fun _ => ?_, fun e => Bool.noConfusion e⟩
    · exact ((((hfr4.setCell (.inl ⟨rfl, by simp⟩) _).drewN nq).setCell (.inl ⟨rfl, by simp⟩) _).setCell (.inl ⟨rfl, by simp⟩) _).setCell (.inl ⟨rfl, by simp⟩) _
    · rw [← HL.out]
      have := hwb
      rw [HFU.out, HN.out] at this
      exact this.round
    · rw [← HL.out, ← HM.out, HFU.out, HN.out]; exact Nat.le_refl _
  · have t1 : ((M : Int) == (N : Int)) = false := by simp; omega
    have t2 : (M == N) = false := by simp; omega
    have HFU := Lib.hid hfull
    clear hfull
    (go_quiet (fail))
    go_wp2_with fail
    go_end0
    obtain ⟨hwin, hfz4, hfr4, hwb⟩ := HE.out
    rw [← HHB.out]
    refine ⟨rfl, g, M, false, ?_, by rw [← HN.out]; go_simp, by go_simp, by go_simp, by go_simp, fun i hi => by rw [cell_set_ne (.inl nHF)]; exact (cell_set_ne (.inl nHF)).trans (hwin i hi), fun o => by rw [World.frozen?_setCell]; exact (World.frozen?_setCell w4 _ _ _).trans (hfz4 o), ?_, by have := HFU.out; have := HN.out; omega, fun e => Bool.noConfusion e, fun _ => ?_⟩
    · exact ((hfr4.setCell (.inl ⟨rfl, by simp⟩) _).drewN nq).setCell (.inl ⟨rfl, by simp⟩) _
    · rw [← HL.out]; exact hwb
    · rw [← HL.out]; exact HM.out.symm

theorem rep_at {α : Type} {x : α} {n j : Nat} (h : j < n) : (List.replicate n x).toArray.toList[j]? = some x := by
  simp only [List.getElem?_replicate]; rw [if_pos h]

/-- A new decompressor: its cells. -/
structure NewDec (w : World) (F : Nat) (W : World) : Prop where
  cell : ∀ j v, zeroDec[j]? = some v → W.cell? ⟨F, j, none⟩ = some v
  froz : ∀ j, W.frozen? ⟨F, j, none⟩ = false
  frm : Frm (fun _ _ => False) w W
  size : W.heap.size = F + 1
  old : w.heap.size = F

theorem newDec (w : World) (T : TypeId) : NewDec w w.heap.size (w.alloc (.cells zeroDec.toArray T)) :=
  ⟨fun j v hv => by rw [alloc_at]; exact hv, fun j => by rw [World.frozen?_alloc_new], (Frm.refl _ _).alloc _, by simp, rfl⟩

theorem zeroDec_len : zeroDec.length = 1054 := by kernel_rfl
theorem zeroDec_tab1 (j : Nat) (hj : j < 515) : zeroDec[5 + j]? = zeroTab.toList[j]? := by
  unfold zeroDec
  rw [List.getElem?_append_right (by simp)]
  rw [List.getElem?_append_left (by rw [zeroTab_len]; simp; omega)]
  congr 1; simp
theorem zeroDec_tab2 (j : Nat) (hj : j < 515) : zeroDec[520 + j]? = zeroTab.toList[j]? := by
  unfold zeroDec
  rw [List.getElem?_append_right (by simp; omega), List.getElem?_append_right (by rw [zeroTab_len]; simp; omega), List.getElem?_append_left (by rw [zeroTab_len]; simp; omega)]
  congr 1; rw [zeroTab_len]; simp; omega

theorem NewDec.tab {w W W' : World} {F o : Nat} (h : NewDec w F W) (ho : o = 5 ∨ o = 520) {S : Nat → Nat → Prop} (hf : Frm S W W') (hS : ∀ k, o ≤ k → k < o + 515 → ¬ S F k) : TabAt W' F o emptyTab (fun _ => False) := by
  have hz : ∀ j, j < 515 → ∀ v, zeroTab.toList[j]? = some v → W'.cell? ⟨F, o + j, none⟩ = some v := fun j hj v hv => by
    refine hf.keep (h.cell _ _ ?_) (hS _ (by omega) (by omega))
    rcases ho with rfl | rfl
    · rw [zeroDec_tab1 j hj]; exact hv
    · rw [zeroDec_tab2 j hj]; exact hv
  refine ⟨?_, fun i hi => ?_, ?_, fun _ => ?_, fun h => absurd rfl h⟩
  · exact hz 0 (by omega) _ rfl
  · have e : emptyTab.chunks.getD i 0 = 0 := rep_getD 512 i
    rw [e, Nat.add_assoc]
    exact hz (1 + i) (by omega) _ (zt_mid 512 _ _ _ i hi)
  · exact hz 514 (by omega) _ (zt_end 512 _ _ _ 1)
  · exact hz 513 (by omega) _ (zt_end 512 _ _ _ 0)

/-- What 'NewReader' turns of a new decompressor. -/
def SM (F : Nat) (b o : Nat) : Prop := b = F ∧ (o < 2 ∨ 1035 ≤ o ∧ o < 1041 ∨ o = 1045)

/-- The last so many bytes of a dictionary. -/
def tail32 (dict : List UInt8) : List UInt8 := dict.drop (dict.length - 32768)

/-- A new reader stands at the beginning. -/
theorem made_rs {w W1 w6 : World} {F C HB : Nat} {p : Ps} {R : Nat} {base : Option Addr} {src dict : List UInt8} {g : Nat → UInt8} {wr : Nat} {full : Bool} (hn : NewDec w F W1) (he : Env w C p) (hR : C ≤ R) (hs : Src w R base src 0) (hbl : ∀ a, base = some a → a.block < w.heap.size)
    (hf : Frm (SM F) W1 w6) (c0 : w6.cell? ⟨F, 0, none⟩ = some (rdrV R)) (c1 : w6.cell? ⟨F, 1, none⟩ = some (.pointer none)) (c35 : w6.cell? ⟨F, 1035, none⟩ = some (.pointer (some ⟨F + 1, 0, none⟩))) (c36 : w6.cell? ⟨F, 1036, none⟩ = some (.pointer (some ⟨F + 2, 0, none⟩)))
    (c45 : w6.cell? ⟨F, 1045, none⟩ = some (fnV 56)) (hbb : ∀ i, i < 316 → (w6.cell? ⟨F + 1, i, none⟩).isSome = true) (hcb : ∀ i, i < 19 → (w6.cell? ⟨F + 2, i, none⟩).isSome = true) (frB : ∀ o, w6.frozen? ⟨F + 1, o, none⟩ = false) (frC : ∀ o, w6.frozen? ⟨F + 2, o, none⟩ = false)
    (hHB : HB = F + 3) (c37 : w6.cell? ⟨F, 1037, none⟩ = some (.slice (some ⟨HB, 0, none⟩) 32768 32768)) (c38 : w6.cell? ⟨F, 1038, none⟩ = some (.int .i64 (wr : Int))) (c39 : w6.cell? ⟨F, 1039, none⟩ = some (.int .i64 (wr : Int))) (c40 : w6.cell? ⟨F, 1040, none⟩ = some (.bool full))
    (hwin : ∀ i, i < 32768 → w6.cell? ⟨HB, i, none⟩ = some (.int .u8 ((g i).toNat : Int))) (frH : ∀ o, w6.frozen? ⟨HB, o, none⟩ = false) (hwb : WinB g wr (tail32 dict)) (hwr : wr < 32768) (hful : full = true → 32768 ≤ (tail32 dict).length) (hnf : full = false → (tail32 dict).length = wr) :
    ∃ d, RS F C p d (.next ⟨0, 0⟩, tail32 dict) (tail32 dict).length w6 d (tail32 dict) 0 (.next ⟨0, 0⟩, tail32 dict) ∧ d.R = R ∧ d.base = base ∧ d.src = src ∧ d.HB = F + 3 ∧ d.BB = F + 1 ∧ d.CB = F + 2 ∧ Frm (fun _ _ => False) w w6 := by
  have hF := hn.old
  have hCF : C ≤ F := by have := he.le; omega
  have hfw : Frm (fun _ _ => False) w w6 := hn.frm.trans' hf (fun x o hx e => by have := e.1; omega)
  have k : ∀ {j : Nat} {v : Value}, zeroDec[j]? = some v → ¬ (j < 2 ∨ 1035 ≤ j ∧ j < 1041 ∨ j = 1045) → w6.cell? ⟨F, j, none⟩ = some v := fun hv hj => hf.keep (hn.cell _ _ hv) (fun e => hj e.2)
  have hRl : R < w.heap.size := hs.lt
  have hs6 : Src w6 R base src 0 := hs.keep hfw (fun o e => e) (fun a _ j _ e => e)
  obtain ⟨d, hd⟩ : ∃ d : DS, d = { R := R, base := base, src := src, pos := 0, BB := F + 1, CB := F + 2, HB := HB, g := g, roff := 0, b := 0, nb := 0, wr := wr, rd := wr, full := full, u0 := 0, u1 := 0, u2 := 0, u3 := 0, step := fnV 56, ss := 0, fin := false, err := .nilIface, toRead := .slice none 0 0, hl := .pointer none, hd := .pointer none, cl := 0, cd := 0 } := ⟨_, rfl⟩
  have hlF : F < W1.heap.size := by rw [hn.size]; omega
  have hD : Dec w6 F d := by
    rw [hd]
    refine ⟨c0, c1, k (by kernel_rfl) (by omega), k (by kernel_rfl) (by omega), k (by kernel_rfl) (by omega), c35, c36, c37, c38, c39, c40, k (by kernel_rfl) (by omega), k (by kernel_rfl) (by omega), k (by kernel_rfl) (by omega), k (by kernel_rfl) (by omega), c45,
      k (by kernel_rfl) (by omega), k (by kernel_rfl) (by omega), k (by kernel_rfl) (by omega), k (by kernel_rfl) (by omega), k (by kernel_rfl) (by omega), k (by kernel_rfl) (by omega), k (by kernel_rfl) (by omega), k (by kernel_rfl) (by omega),
      fun o h1 h2 => ?_, fun o => (hf.froz F o hlF).trans (hn.froz o), hs6, hwin, frH, hbb, hcb, frB, frC, ?_, fun a ha => ?_⟩
    · have : o < zeroDec.length := by rw [zeroDec_len]; omega
      rw [hf.live F o hlF, hn.cell o _ (List.getElem?_eq_getElem this)]; rfl
    · simp only [List.nodup_cons, List.mem_cons, List.not_mem_nil, or_false, not_or, List.nodup_nil, and_true, not_false_eq_true]
      omega
    · have := hbl a ha
      simp only [List.mem_cons, List.not_mem_nil, or_false, not_or]
      refine ⟨by omega, hs.ne a ha, by omega, by omega, by omega⟩
  refine ⟨d, ⟨⟨he.keep hfw (fun b o e => e.elim), hCF, by rw [hd]; exact hR, by rw [hd, hHB]; simp only; omega, by rw [hd]; simp only; omega, by rw [hd]; simp only; omega, hD, by rw [hd]; exact hwb, by rw [hd]; exact Nat.le_refl _, by rw [hd]; exact hwr, by rw [hd]; exact hful, by rw [hd]; exact hnf,
    ⟨by rw [hd]; simp, none, 0, by rw [hd], Nat.le_refl _, .inl rfl⟩, .inr (hn.tab (.inl rfl) hf (fun k h1 h2 e => by have := e.2; omega)), .inr (hn.tab (.inr rfl) hf (fun k h1 h2 e => by have := e.2; omega))⟩, ?_, .refl _, Same.refl _, by rw [hd]; exact hwr, fun _ => by rw [hd]⟩, by rw [hd], by rw [hd], by rw [hd], by rw [hd]; exact hHB, by rw [hd], by rw [hd], hfw⟩
  refine ⟨by rw [hd], .inl ⟨by rw [hd], rfl, ⟨Nat.le_refl _, Nat.zero_le _⟩, by decide, put_edge (q := 0) (by rw [hd]) (by rw [hd]) (by rw [hd]) (by rw [hd]), .inl (by rw [hd])⟩⟩

/-- What 'NewReader' and 'NewReaderDict' give. -/
def NewPost (w : World) (C : Nat) (p : Ps) (R : Nat) (base : Option Addr) (src dict : List UInt8) (e : Ending) (w' : World) : Prop :=
  ∃ F d, w.heap.size ≤ F ∧ e = .returned (.iface 121 (.pointer (some ⟨F, 0, none⟩))) ∧ Hid (RS F C p d (.next ⟨0, 0⟩, tail32 dict) (tail32 dict).length w' d (tail32 dict) 0 (.next ⟨0, 0⟩, tail32 dict) ∧
    d.R = R ∧ d.base = base ∧ d.src = src ∧ d.HB = F + 3 ∧ d.BB = F + 1 ∧ d.CB = F + 2 ∧ Frm (fun _ _ => False) w w')

set_option maxHeartbeats 2000000 in
theorem newReader_any (w : World) (C : Nat) (p : Ps) (R : Nat) (base : Option Addr) (src : List UInt8) (he : Env w C p) (hR : C ≤ R) (hs : Src w R base src 0) (hbl : ∀ a, base = some a → a.block < w.heap.size) :
    Calls Tryd.prog 34 #[rdrV R] w (NewPost w C p R base src []) := by
  have HE := Lib.hid he
  have HS := Lib.hid hs
  have HBL := Lib.hid hbl
  clear he hs hbl
  go_enter Tryd.func34, Tryd.ntmps34
  go_upto_region 1 with (fail)
  refine wp_region_lit ?_
  refine wpList_run (by rfl) (run_alloc_agg zeroDecompressor) ?_
  refine wpList_nil ?_
  obtain ⟨W1, hW1⟩ : ∃ W1, W1 = w.alloc (.cells zeroDec.toArray 117) := ⟨_, rfl⟩
  have hn := newDec w 117
  rw [← hW1] at hn ⊢
  obtain ⟨F, hF⟩ : ∃ F, F = w.heap.size := ⟨_, rfl⟩
  rw [← hF] at hn ⊢
  have z0 := hn.cell 0 _ (by kernel_rfl : zeroDec[0]? = some .nilIface)
  have z1 := hn.cell 1 _ (by kernel_rfl : zeroDec[1]? = some (.pointer none))
  have z35 := hn.cell 1035 _ (by kernel_rfl : zeroDec[1035]? = some (.pointer none))
  have z36 := hn.cell 1036 _ (by kernel_rfl : zeroDec[1036]? = some (.pointer none))
  have z37 := hn.cell 1037 _ (by kernel_rfl : zeroDec[1037]? = some (.slice none 0 0))
  have z38 := hn.cell 1038 _ (by kernel_rfl : zeroDec[1038]? = some (.int .i64 0))
  have z39 := hn.cell 1039 _ (by kernel_rfl : zeroDec[1039]? = some (.int .i64 0))
  have z40 := hn.cell 1040 _ (by kernel_rfl : zeroDec[1040]? = some (.bool false))
  have z45 := hn.cell 1045 _ (by kernel_rfl : zeroDec[1045]? = some .nilFunc)
  have hfz := hn.froz
  have hsz := hn.size
  have HN := Lib.hid hn
  have HW1 := Lib.hid hW1
  have HF := Lib.hid hF
  clear hn hW1 hF
  go_wp2_with fail
  refine (makeReader_any W1 F R ⟨_, z0⟩ ⟨_, z1⟩ (hfz 0) (hfz 1)).mono ?_
  rintro e w2 ⟨rfl, hw2⟩
  have hf2 : Frm (SM F) W1 w2 := by rw [← hw2]; exact ((Frm.refl _ _).setCell (.inl ⟨rfl, by simp⟩) _).setCell (.inl ⟨rfl, by simp⟩) _
  have s2 : w2.heap.size = F + 1 := by rw [← hw2]; simpa [World.setCell] using hsz
  have y0 : w2.cell? ⟨F, 0, none⟩ = some (rdrV R) := by rw [← hw2]; exact set_get ((cell_set_off (by decide)).trans z0)
  have y1 : w2.cell? ⟨F, 1, none⟩ = some (.pointer none) := by rw [← hw2]; exact (cell_set_off (by decide)).trans (set_get z1)
  have ky : ∀ {o : Nat} {v : Value}, 2 ≤ o → W1.cell? ⟨F, o, none⟩ = some v → w2.cell? ⟨F, o, none⟩ = some v := fun ho hc => by rw [← hw2, cell_set_off (by omega), cell_set_off (by omega)]; exact hc
  have y35 := ky (by decide) z35
  have y36 := ky (by decide) z36
  have y37 := ky (by decide) z37
  have y38 := ky (by decide) z38
  have y39 := ky (by decide) z39
  have y40 := ky (by decide) z40
  have y45 := ky (by decide) z45
  have fz2 : ∀ o, w2.frozen? ⟨F, o, none⟩ = false := fun o => by rw [← hw2, World.frozen?_setCell, World.frozen?_setCell]; exact hfz o
  have Y := Lib.hid (And.intro y0 (And.intro y1 (And.intro y36 (And.intro y37 (And.intro y38 (And.intro y39 (And.intro y40 (And.intro y45 (And.intro hf2 fz2)))))))))
  have f35 := fz2 1035
  clear hw2 hf2 ky y0 y1 y37 y38 y39 y40 y45 fz2 z0 z1 z35 z36 z37 z38 z39 z40 z45 hfz hsz
  go_upto_region 3 with (fail)
  refine wp_region_lit ?_
  refine wpList_run (by rfl) (run_alloc_agg zero316) ?_
  rw [s2]
  obtain ⟨w3, hw3⟩ : ∃ w3, w3 = w2.alloc (.cells (List.replicate 316 (.int .i64 0)).toArray 119) := ⟨_, rfl⟩
  rw [← hw3]
  have o3 : ∀ b, b < F + 1 → w3.heap[b]? = w2.heap[b]? := fun b hb => by rw [hw3]; exact Below.heap_alloc _ _ _ (by rw [s2]; exact hb)
  have c3 : ∀ o, w3.cell? ⟨F, o, none⟩ = w2.cell? ⟨F, o, none⟩ := fun o => World.cell?_of_block (o3 F (by omega))
  have x35 := (c3 1035).trans y35
  have h35 : w3.frozen? ⟨F, 1035, none⟩ = false := (World.frozen?_of_block (o3 F (by omega))).trans f35
  have s3 : w3.heap.size = F + 2 := by rw [hw3]; simp [s2]
  have hbb3 : ∀ i, i < 316 → w3.cell? ⟨F + 1, i, none⟩ = some (.int .i64 0) := fun i hi => by rw [hw3, ← s2, alloc_at]; exact rep_at hi
  have fbb3 : ∀ o, w3.frozen? ⟨F + 1, o, none⟩ = false := fun o => by rw [hw3, ← s2, World.frozen?_alloc_new]
  have hf3 : Frm (SM F) w2 w3 := by rw [hw3]; exact (Frm.refl _ _).alloc _
  have X3 := Lib.hid (And.intro o3 (And.intro c3 (And.intro hbb3 (And.intro fbb3 hf3))))
  clear hw3 o3 c3 hbb3 fbb3 hf3 y35 y36 f35
  go_upto_region 4 with (fail)
  obtain ⟨w4, hw4⟩ : ∃ w4, w4 = w3.setCell ⟨F, 1035, none⟩ (.pointer (some ⟨F + 1, 0, none⟩)) := ⟨_, rfl⟩
  rw [← hw4]
  have s4 : w4.heap.size = F + 2 := by rw [hw4]; simpa [World.setCell] using s3
  refine wp_region_lit ?_
  refine wpList_run (by rfl) (run_alloc_agg zero19) ?_
  rw [s4]
  obtain ⟨w5, hw5⟩ : ∃ w5, w5 = w4.alloc (.cells (List.replicate 19 (.int .i64 0)).toArray 120) := ⟨_, rfl⟩
  rw [← hw5]
  have o5 : ∀ b, b < F + 2 → w5.heap[b]? = w4.heap[b]? := fun b hb => by rw [hw5]; exact Below.heap_alloc _ _ _ (by rw [s4]; exact hb)
  have hf4 : Frm (SM F) w3 w4 := by rw [hw4]; exact (Frm.refl _ _).setCell (.inl ⟨rfl, by simp⟩) _
  have hf5 : Frm (SM F) w4 w5 := by rw [hw5]; exact (Frm.refl _ _).alloc _
  have s5 : w5.heap.size = F + 3 := by rw [hw5]; simp [s4]
  obtain ⟨o3, c3, hbb3, fbb3, hf3⟩ := X3.out
  obtain ⟨y0, y1, y36, y37, y38, y39, y40, y45, hf2, fz2⟩ := Y.out
  have k5 : ∀ {o : Nat} {v : Value}, o ≠ 1035 → w2.cell? ⟨F, o, none⟩ = some v → w5.cell? ⟨F, o, none⟩ = some v := fun ho hc => by
    rw [World.cell?_of_block (o5 F (by omega)), hw4, cell_set_off ho, c3]; exact hc
  have x35' : w5.cell? ⟨F, 1035, none⟩ = some (.pointer (some ⟨F + 1, 0, none⟩)) := by rw [World.cell?_of_block (o5 F (by omega)), hw4]; exact set_get x35
  have hf25 : Frm (SM F) W1 w5 := ((hf2.trans hf3).trans hf4).trans hf5
  have lt2 : F < w2.heap.size := by omega
  have fz5 : ∀ o, w5.frozen? ⟨F, o, none⟩ = false := fun o => (((hf3.trans hf4).trans hf5).froz F o lt2).trans (fz2 o)
  have hbb5 : ∀ i, i < 316 → w5.cell? ⟨F + 1, i, none⟩ = some (.int .i64 0) := fun i hi => (hf4.trans hf5).keep (hbb3 i hi) (fun e => by have := e.1; omega)
  have fbb5 : ∀ o, w5.frozen? ⟨F + 1, o, none⟩ = false := fun o => ((hf4.trans hf5).froz (F + 1) o (by omega)).trans (fbb3 o)
  have hcb5 : ∀ i, i < 19 → w5.cell? ⟨F + 2, i, none⟩ = some (.int .i64 0) := fun i hi => by rw [hw5, ← s4, alloc_at]; exact rep_at hi
  have fcb5 : ∀ o, w5.frozen? ⟨F + 2, o, none⟩ = false := fun o => by rw [hw5, ← s4, World.frozen?_alloc_new]
  have x36 := k5 (by decide) y36
  have x45 := k5 (by decide) y45
  have h36 := fz5 1036
  have h45 := fz5 1045
  have X5 := Lib.hid (And.intro (k5 (by decide) y0) (And.intro (k5 (by decide) y1) (And.intro (k5 (by decide) y37) (And.intro (k5 (by decide) y38) (And.intro (k5 (by decide) y39) (And.intro (k5 (by decide) y40) (And.intro x35' (And.intro hf25 (And.intro fz5 (And.intro hbb5 (And.intro fbb5 (And.intro hcb5 fcb5))))))))))))
  clear hw4 hw5 o5 hf4 hf5 o3 c3 hbb3 fbb3 hf3 y0 y1 y36 y37 y38 y39 y40 y45 hf2 fz2 k5 x35' hf25 fz5 hbb5 fbb5 hcb5 fcb5 X3 Y x35 h35 lt2 s3 s4
  go_wp2_with fail
  obtain ⟨w7, hw7⟩ : ∃ w7, w7 = (w5.setCell ⟨F, 1036, none⟩ (.pointer (some ⟨F + 2, 0, none⟩))).setCell ⟨F, 1045, none⟩ (fnV 56) := ⟨_, rfl⟩
  rw [← hw7]
  obtain ⟨u0, u1, u37, u38, u39, u40, u35, hf25, fz5, hbb5, fbb5, hcb5, fcb5⟩ := X5.out
  have k7 : ∀ {o : Nat} {v : Value}, o ≠ 1036 → o ≠ 1045 → w5.cell? ⟨F, o, none⟩ = some v → w7.cell? ⟨F, o, none⟩ = some v := fun h1 h2 hc => by rw [hw7, cell_set_off h2, cell_set_off h1]; exact hc
  have hf7 : Frm (SM F) w5 w7 := by rw [hw7]; exact ((Frm.refl _ _).setCell (.inl ⟨rfl, by simp⟩) _).setCell (.inl ⟨rfl, by simp⟩) _
  have s7 : w7.heap.size = F + 3 := by rw [hw7]; simpa [World.setCell] using s5
  have lt5 : F < w5.heap.size := by omega
  have hf17 := hf25.trans hf7
  have hinit := dictInit_new w7 F none [] 0 rfl (Nat.le_refl _) (by simp) (k7 (by decide) (by decide) u37) (k7 (by decide) (by decide) u38) (k7 (by decide) (by decide) u39) (k7 (by decide) (by decide) u40) (fun o => (hf7.froz F o lt5).trans (fz5 o)) (fun a ha => by simp at ha)
  rw [s7] at hinit
  have v36 : w7.cell? ⟨F, 1036, none⟩ = some (.pointer (some ⟨F + 2, 0, none⟩)) := by rw [hw7, cell_set_off (by decide)]; exact set_get x36
  have v45 : w7.cell? ⟨F, 1045, none⟩ = some (fnV 56) := by rw [hw7]; exact set_get ((cell_set_off (by decide)).trans x45)
  have nb7 : ∀ b o, b ≠ F → w7.cell? ⟨b, o, none⟩ = w5.cell? ⟨b, o, none⟩ := fun b o hb => by rw [hw7, cell_set_ne (.inl hb), cell_set_ne (.inl hb)]
  have HI := Lib.hid hinit
  have X7 := Lib.hid (And.intro (k7 (by decide) (by decide) u0) (And.intro (k7 (by decide) (by decide) u1) (And.intro (k7 (by decide) (by decide) u35) (And.intro v36 (And.intro v45 (And.intro hf17 (And.intro (fun i hi => (nb7 (F + 1) i (by omega)).trans (hbb5 i hi)) (And.intro (fun i hi => (nb7 (F + 2) i (by omega)).trans (hcb5 i hi)) (And.intro (fun o => (hf7.froz (F + 1) o (by omega)).trans (fbb5 o)) (fun o => (hf7.froz (F + 2) o (by omega)).trans (fcb5 o)))))))))))
  clear hw7 u0 u1 u37 u38 u39 u40 u35 hf25 fz5 hbb5 fbb5 hcb5 fcb5 k7 hf7 lt5 hf17 hinit v36 v45 nb7 X5 x36 x45 h36 h45 s5
  refine HI.out.mono ?_
  rintro e w8 ⟨rfl, hP⟩
  have HP := Lib.hid hP
  clear hP
  go_wp2_with fail
  go_ret
  obtain ⟨g, wr, full, hf8, d37, d38, d39, d40, hwin, frH, hwb, hwr, hful, hnf⟩ := HP.out
  obtain ⟨u0, u1, u35, u36, u45, hf17, hbb, hcb, fbb, fcb⟩ := X7.out
  have hf8' : Frm (SM F) w7 w8 := hf8.mono fun b o e => ⟨e.1, .inr (.inl (by omega))⟩
  have kF : ∀ {o : Nat} {v : Value}, o < 1037 ∨ 1041 ≤ o → w7.cell? ⟨F, o, none⟩ = some v → w8.cell? ⟨F, o, none⟩ = some v := fun ho hc => hf8.keep hc (fun e => by omega)
  obtain ⟨d, hrs, q1, q2, q3, q4, q5, q6, q7⟩ := made_rs (dict := []) HN.out HE.out hR HS.out HBL.out (hf17.trans hf8') (kF (by omega) u0) (kF (by omega) u1) (kF (by omega) u35) (kF (by omega) u36) (kF (by omega) u45) (fun i hi => by rw [hf8.keep (hbb i hi) (fun e => by have := e.1; omega)]; rfl) (fun i hi => by rw [hf8.keep (hcb i hi) (fun e => by have := e.1; omega)]; rfl)
    (fun o => (hf8.froz (F + 1) o (by omega)).trans (fbb o)) (fun o => (hf8.froz (F + 2) o (by omega)).trans (fcb o)) rfl d37 d38 d39 d40 hwin frH hwb hwr hful hnf
  exact ⟨F, d, by rw [← HF.out]; exact Nat.le_refl _, rfl, Lib.hid ⟨hrs, q1, q2, q3, q4, q5, q6, q7⟩⟩

set_option maxHeartbeats 2000000 in
theorem newReaderDict_any (w : World) (C : Nat) (p : Ps) (R : Nat) (base : Option Addr) (src : List UInt8) (he : Env w C p) (hR : C ≤ R) (hs : Src w R base src 0) (hbl : ∀ a, base = some a → a.block < w.heap.size) (dbase : Option Addr) (dict : List UInt8) (dcap : Nat) (hdb : Bytes w dbase dict) (hdc : dict.length ≤ dcap) (hdl : dict.length ≤ 4294967296) (hdn : ∀ a, dbase = some a → a.block < w.heap.size) :
    Calls Tryd.prog 35 #[rdrV R, .slice dbase dict.length dcap] w (NewPost w C p R base src dict) := by
  have HE := Lib.hid he
  have HS := Lib.hid hs
  have HBL := Lib.hid hbl
  have HDB := Lib.hid (And.intro hdb (And.intro hdc (And.intro hdl hdn)))
  clear he hs hbl hdb hdc hdl hdn
  go_enter Tryd.func35, Tryd.ntmps35
  go_upto_region 1 with (fail)
  refine wp_region_lit ?_
  refine wpList_run (by rfl) (run_alloc_agg zeroDecompressor) ?_
  refine wpList_nil ?_
  obtain ⟨W1, hW1⟩ : ∃ W1, W1 = w.alloc (.cells zeroDec.toArray 117) := ⟨_, rfl⟩
  have hn := newDec w 117
  rw [← hW1] at hn ⊢
  obtain ⟨F, hF⟩ : ∃ F, F = w.heap.size := ⟨_, rfl⟩
  rw [← hF] at hn ⊢
  have z0 := hn.cell 0 _ (by kernel_rfl : zeroDec[0]? = some .nilIface)
  have z1 := hn.cell 1 _ (by kernel_rfl : zeroDec[1]? = some (.pointer none))
  have z35 := hn.cell 1035 _ (by kernel_rfl : zeroDec[1035]? = some (.pointer none))
  have z36 := hn.cell 1036 _ (by kernel_rfl : zeroDec[1036]? = some (.pointer none))
  have z37 := hn.cell 1037 _ (by kernel_rfl : zeroDec[1037]? = some (.slice none 0 0))
  have z38 := hn.cell 1038 _ (by kernel_rfl : zeroDec[1038]? = some (.int .i64 0))
  have z39 := hn.cell 1039 _ (by kernel_rfl : zeroDec[1039]? = some (.int .i64 0))
  have z40 := hn.cell 1040 _ (by kernel_rfl : zeroDec[1040]? = some (.bool false))
  have z45 := hn.cell 1045 _ (by kernel_rfl : zeroDec[1045]? = some .nilFunc)
  have hfz := hn.froz
  have hsz := hn.size
  have HN := Lib.hid hn
  have HW1 := Lib.hid hW1
  have HF := Lib.hid hF
  clear hn hW1 hF
  go_wp2_with fail
  refine (makeReader_any W1 F R ⟨_, z0⟩ ⟨_, z1⟩ (hfz 0) (hfz 1)).mono ?_
  rintro e w2 ⟨rfl, hw2⟩
  have hf2 : Frm (SM F) W1 w2 := by rw [← hw2]; exact ((Frm.refl _ _).setCell (.inl ⟨rfl, by simp⟩) _).setCell (.inl ⟨rfl, by simp⟩) _
  have s2 : w2.heap.size = F + 1 := by rw [← hw2]; simpa [World.setCell] using hsz
  have y0 : w2.cell? ⟨F, 0, none⟩ = some (rdrV R) := by rw [← hw2]; exact set_get ((cell_set_off (by decide)).trans z0)
  have y1 : w2.cell? ⟨F, 1, none⟩ = some (.pointer none) := by rw [← hw2]; exact (cell_set_off (by decide)).trans (set_get z1)
  have ky : ∀ {o : Nat} {v : Value}, 2 ≤ o → W1.cell? ⟨F, o, none⟩ = some v → w2.cell? ⟨F, o, none⟩ = some v := fun ho hc => by rw [← hw2, cell_set_off (by omega), cell_set_off (by omega)]; exact hc
  have y35 := ky (by decide) z35
  have y36 := ky (by decide) z36
  have y37 := ky (by decide) z37
  have y38 := ky (by decide) z38
  have y39 := ky (by decide) z39
  have y40 := ky (by decide) z40
  have y45 := ky (by decide) z45
  have fz2 : ∀ o, w2.frozen? ⟨F, o, none⟩ = false := fun o => by rw [← hw2, World.frozen?_setCell, World.frozen?_setCell]; exact hfz o
  have Y := Lib.hid (And.intro y0 (And.intro y1 (And.intro y36 (And.intro y37 (And.intro y38 (And.intro y39 (And.intro y40 (And.intro y45 (And.intro hf2 fz2)))))))))
  have f35 := fz2 1035
  clear hw2 hf2 ky y0 y1 y37 y38 y39 y40 y45 fz2 z0 z1 z35 z36 z37 z38 z39 z40 z45 hfz hsz
  go_upto_region 3 with (fail)
  refine wp_region_lit ?_
  refine wpList_run (by rfl) (run_alloc_agg zero316) ?_
  rw [s2]
  obtain ⟨w3, hw3⟩ : ∃ w3, w3 = w2.alloc (.cells (List.replicate 316 (.int .i64 0)).toArray 119) := ⟨_, rfl⟩
  rw [← hw3]
  have o3 : ∀ b, b < F + 1 → w3.heap[b]? = w2.heap[b]? := fun b hb => by rw [hw3]; exact Below.heap_alloc _ _ _ (by rw [s2]; exact hb)
  have c3 : ∀ o, w3.cell? ⟨F, o, none⟩ = w2.cell? ⟨F, o, none⟩ := fun o => World.cell?_of_block (o3 F (by omega))
  have x35 := (c3 1035).trans y35
  have h35 : w3.frozen? ⟨F, 1035, none⟩ = false := (World.frozen?_of_block (o3 F (by omega))).trans f35
  have s3 : w3.heap.size = F + 2 := by rw [hw3]; simp [s2]
  have hbb3 : ∀ i, i < 316 → w3.cell? ⟨F + 1, i, none⟩ = some (.int .i64 0) := fun i hi => by rw [hw3, ← s2, alloc_at]; exact rep_at hi
  have fbb3 : ∀ o, w3.frozen? ⟨F + 1, o, none⟩ = false := fun o => by rw [hw3, ← s2, World.frozen?_alloc_new]
  have hf3 : Frm (SM F) w2 w3 := by rw [hw3]; exact (Frm.refl _ _).alloc _
  have X3 := Lib.hid (And.intro o3 (And.intro c3 (And.intro hbb3 (And.intro fbb3 hf3))))
  clear hw3 o3 c3 hbb3 fbb3 hf3 y35 y36 f35
  go_upto_region 4 with (fail)
  obtain ⟨w4, hw4⟩ : ∃ w4, w4 = w3.setCell ⟨F, 1035, none⟩ (.pointer (some ⟨F + 1, 0, none⟩)) := ⟨_, rfl⟩
  rw [← hw4]
  have s4 : w4.heap.size = F + 2 := by rw [hw4]; simpa [World.setCell] using s3
  refine wp_region_lit ?_
  refine wpList_run (by rfl) (run_alloc_agg zero19) ?_
  rw [s4]
  obtain ⟨w5, hw5⟩ : ∃ w5, w5 = w4.alloc (.cells (List.replicate 19 (.int .i64 0)).toArray 120) := ⟨_, rfl⟩
  rw [← hw5]
  have o5 : ∀ b, b < F + 2 → w5.heap[b]? = w4.heap[b]? := fun b hb => by rw [hw5]; exact Below.heap_alloc _ _ _ (by rw [s4]; exact hb)
  have hf4 : Frm (SM F) w3 w4 := by rw [hw4]; exact (Frm.refl _ _).setCell (.inl ⟨rfl, by simp⟩) _
  have hf5 : Frm (SM F) w4 w5 := by rw [hw5]; exact (Frm.refl _ _).alloc _
  have s5 : w5.heap.size = F + 3 := by rw [hw5]; simp [s4]
  obtain ⟨o3, c3, hbb3, fbb3, hf3⟩ := X3.out
  obtain ⟨y0, y1, y36, y37, y38, y39, y40, y45, hf2, fz2⟩ := Y.out
  have k5 : ∀ {o : Nat} {v : Value}, o ≠ 1035 → w2.cell? ⟨F, o, none⟩ = some v → w5.cell? ⟨F, o, none⟩ = some v := fun ho hc => by
    rw [World.cell?_of_block (o5 F (by omega)), hw4, cell_set_off ho, c3]; exact hc
  have x35' : w5.cell? ⟨F, 1035, none⟩ = some (.pointer (some ⟨F + 1, 0, none⟩)) := by rw [World.cell?_of_block (o5 F (by omega)), hw4]; exact set_get x35
  have hf25 : Frm (SM F) W1 w5 := ((hf2.trans hf3).trans hf4).trans hf5
  have lt2 : F < w2.heap.size := by omega
  have fz5 : ∀ o, w5.frozen? ⟨F, o, none⟩ = false := fun o => (((hf3.trans hf4).trans hf5).froz F o lt2).trans (fz2 o)
  have hbb5 : ∀ i, i < 316 → w5.cell? ⟨F + 1, i, none⟩ = some (.int .i64 0) := fun i hi => (hf4.trans hf5).keep (hbb3 i hi) (fun e => by have := e.1; omega)
  have fbb5 : ∀ o, w5.frozen? ⟨F + 1, o, none⟩ = false := fun o => ((hf4.trans hf5).froz (F + 1) o (by omega)).trans (fbb3 o)
  have hcb5 : ∀ i, i < 19 → w5.cell? ⟨F + 2, i, none⟩ = some (.int .i64 0) := fun i hi => by rw [hw5, ← s4, alloc_at]; exact rep_at hi
  have fcb5 : ∀ o, w5.frozen? ⟨F + 2, o, none⟩ = false := fun o => by rw [hw5, ← s4, World.frozen?_alloc_new]
  have x36 := k5 (by decide) y36
  have x45 := k5 (by decide) y45
  have h36 := fz5 1036
  have h45 := fz5 1045
  have X5 := Lib.hid (And.intro (k5 (by decide) y0) (And.intro (k5 (by decide) y1) (And.intro (k5 (by decide) y37) (And.intro (k5 (by decide) y38) (And.intro (k5 (by decide) y39) (And.intro (k5 (by decide) y40) (And.intro x35' (And.intro hf25 (And.intro fz5 (And.intro hbb5 (And.intro fbb5 (And.intro hcb5 fcb5))))))))))))
  clear hw4 hw5 o5 hf4 hf5 o3 c3 hbb3 fbb3 hf3 y0 y1 y36 y37 y38 y39 y40 y45 hf2 fz2 k5 x35' hf25 fz5 hbb5 fbb5 hcb5 fcb5 X3 Y x35 h35 lt2 s3 s4
  go_wp2_with fail
  obtain ⟨w7, hw7⟩ : ∃ w7, w7 = (w5.setCell ⟨F, 1036, none⟩ (.pointer (some ⟨F + 2, 0, none⟩))).setCell ⟨F, 1045, none⟩ (fnV 56) := ⟨_, rfl⟩
  rw [← hw7]
  obtain ⟨u0, u1, u37, u38, u39, u40, u35, hf25, fz5, hbb5, fbb5, hcb5, fcb5⟩ := X5.out
  have k7 : ∀ {o : Nat} {v : Value}, o ≠ 1036 → o ≠ 1045 → w5.cell? ⟨F, o, none⟩ = some v → w7.cell? ⟨F, o, none⟩ = some v := fun h1 h2 hc => by rw [hw7, cell_set_off h2, cell_set_off h1]; exact hc
  have hf7 : Frm (SM F) w5 w7 := by rw [hw7]; exact ((Frm.refl _ _).setCell (.inl ⟨rfl, by simp⟩) _).setCell (.inl ⟨rfl, by simp⟩) _
  have s7 : w7.heap.size = F + 3 := by rw [hw7]; simpa [World.setCell] using s5
  have lt5 : F < w5.heap.size := by omega
  have hf17 := hf25.trans hf7
  obtain ⟨hdb, hdc, hdl, hdn⟩ := HDB.out
  have hne : ∀ a, dbase = some a → a.block ≠ F := fun a ha => by have := hdn a ha; have := HF.out; omega
  have hb7 : Bytes w7 dbase dict := (hdb.keep HN.out.frm (fun a _ j _ e => e)).keep hf17 (fun a ha j _ e => hne a ha e.1)
  have hinit := dictInit_new w7 F dbase dict dcap hb7 hdc hdl (k7 (by decide) (by decide) u37) (k7 (by decide) (by decide) u38) (k7 (by decide) (by decide) u39) (k7 (by decide) (by decide) u40) (fun o => (hf7.froz F o lt5).trans (fz5 o)) hne
  rw [s7] at hinit
  have v36 : w7.cell? ⟨F, 1036, none⟩ = some (.pointer (some ⟨F + 2, 0, none⟩)) := by rw [hw7, cell_set_off (by decide)]; exact set_get x36
  have v45 : w7.cell? ⟨F, 1045, none⟩ = some (fnV 56) := by rw [hw7]; exact set_get ((cell_set_off (by decide)).trans x45)
  have nb7 : ∀ b o, b ≠ F → w7.cell? ⟨b, o, none⟩ = w5.cell? ⟨b, o, none⟩ := fun b o hb => by rw [hw7, cell_set_ne (.inl hb), cell_set_ne (.inl hb)]
  have HI := Lib.hid hinit
  have X7 := Lib.hid (And.intro (k7 (by decide) (by decide) u0) (And.intro (k7 (by decide) (by decide) u1) (And.intro (k7 (by decide) (by decide) u35) (And.intro v36 (And.intro v45 (And.intro hf17 (And.intro (fun i hi => (nb7 (F + 1) i (by omega)).trans (hbb5 i hi)) (And.intro (fun i hi => (nb7 (F + 2) i (by omega)).trans (hcb5 i hi)) (And.intro (fun o => (hf7.froz (F + 1) o (by omega)).trans (fbb5 o)) (fun o => (hf7.froz (F + 2) o (by omega)).trans (fcb5 o)))))))))))
  clear hw7 u0 u1 u37 u38 u39 u40 u35 hf25 fz5 hbb5 fbb5 hcb5 fcb5 k7 hf7 lt5 hf17 hinit v36 v45 nb7 X5 x36 x45 h36 h45 s5 hdb hdc hdl hdn hne hb7
  refine HI.out.mono ?_
  rintro e w8 ⟨rfl, hP⟩
  have HP := Lib.hid hP
  clear hP
  go_wp2_with fail
  go_ret
  obtain ⟨g, wr, full, hf8, d37, d38, d39, d40, hwin, frH, hwb, hwr, hful, hnf⟩ := HP.out
  obtain ⟨u0, u1, u35, u36, u45, hf17, hbb, hcb, fbb, fcb⟩ := X7.out
  have hf8' : Frm (SM F) w7 w8 := hf8.mono fun b o e => ⟨e.1, .inr (.inl (by omega))⟩
  have kF : ∀ {o : Nat} {v : Value}, o < 1037 ∨ 1041 ≤ o → w7.cell? ⟨F, o, none⟩ = some v → w8.cell? ⟨F, o, none⟩ = some v := fun ho hc => hf8.keep hc (fun e => by omega)
  obtain ⟨d, hrs, q1, q2, q3, q4, q5, q6, q7⟩ := made_rs (dict := dict) HN.out HE.out hR HS.out HBL.out (hf17.trans hf8') (kF (by omega) u0) (kF (by omega) u1) (kF (by omega) u35) (kF (by omega) u36) (kF (by omega) u45) (fun i hi => by rw [hf8.keep (hbb i hi) (fun e => by have := e.1; omega)]; rfl) (fun i hi => by rw [hf8.keep (hcb i hi) (fun e => by have := e.1; omega)]; rfl)
    (fun o => (hf8.froz (F + 1) o (by omega)).trans (fbb o)) (fun o => (hf8.froz (F + 2) o (by omega)).trans (fcb o)) rfl d37 d38 d39 d40 hwin frH hwb hwr hful hnf
  exact ⟨F, d, by rw [← HF.out]; exact Nat.le_refl _, rfl, Lib.hid ⟨hrs, q1, q2, q3, q4, q5, q6, q7⟩⟩

end Go.Proofs.YthfncdfcklbigaaDoor
