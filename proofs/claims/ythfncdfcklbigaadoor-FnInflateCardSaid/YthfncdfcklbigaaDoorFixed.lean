/-
  THE WALK OF 'fixedHuffman'; new variables of many cells.
-/
import Derived.Test.YthfncdfcklbigaaDoorInit
import Derived.Test.YthfncdfcklbigaaDoorFlow
set_option linter.unusedVariables false
set_option linter.unusedSimpArgs false
namespace Go.Proofs.YthfncdfcklbigaaDoor
open Go.RowKit Flate
set_option maxRecDepth 100000

/-- A new variable: its cells as a list. -/
theorem run_alloc_agg {P : Program} {ρ : Operand → Value} {w : World} {dst : Option Tmp} {ty T : TypeId} {pos : String} {after : Array Edge} {zs : Array Value} (hz : (P.info? T).map (·.zero) = some (some (.agg zs))) :
    (execOp ρ ⟨dst, .alloc T, ty, pos, after, none⟩).run P w = .ok (.value (.pointer (some ⟨w.heap.size, 0, none⟩))) (w.alloc (.cells zs T)) := by
  obtain ⟨i, hi, h1⟩ := Option.map_eq_some_iff.1 hz
  simp [execOp, Instr.alloc, zeroValue, typeInfo, hi, h1, newVar, newRow, go_sem]

theorem alloc_at (w : World) (zs : Array Value) (T : TypeId) (j : Nat) : (w.alloc (.cells zs T)).cell? ⟨w.heap.size, j, none⟩ = zs.toList[j]? := by
  rw [World.cell?_alloc_new]; simp

/-- The lengths of the fixed code, laid as far as k. -/
structure FxInv (w : World) (nb k : Nat) (wr : World) : Prop where
  new : w.heap.size ≤ nb
  cell : ∀ j, j < 288 → wr.cell? ⟨nb, j, none⟩ = some (.int .i64 ((if j < k then fixedLens.getD j 0 else 0 : Nat) : Int))
  froz : ∀ j, wr.frozen? ⟨nb, j, none⟩ = false
  frm : Frm (fun _ _ => False) w wr

theorem FxInv.step {w wr : World} {nb k v : Nat} (h : FxInv w nb k wr) (hk : k < 288) (hv : fixedLens.getD k 0 = v) : FxInv w nb (k + 1) (wr.setCell ⟨nb, k, none⟩ (.int .i64 (v : Int))) := by
  refine ⟨h.new, fun j hj => ?_, fun j => by rw [World.frozen?_setCell]; exact h.froz j, h.frm.setCell (.inr h.new) _⟩
  by_cases e : j = k
  · subst e
    rw [set_get (h.cell j hj), if_pos (by omega), hv]
  · rw [cell_set_off e, h.cell j hj]
    by_cases q : j < k
    · rw [if_pos q, if_pos (by omega)]
    · rw [if_neg q, if_neg (by omega)]

theorem fixedLens_getD (j : Nat) (hj : j < 288) : fixedLens.getD j 0 = if j < 144 then 8 else if j < 256 then 9 else if j < 280 then 7 else 8 := by
  have : ∀ j : Fin 288, fixedLens.getD j.1 0 = if j.1 < 144 then 8 else if j.1 < 256 then 9 else if j.1 < 280 then 7 else 8 := by decide +kernel
  exact this ⟨j, hj⟩

theorem fx1 {k : Nat} (_ : 0 ≤ k) (h2 : k < 144) : fixedLens.getD k 0 = 8 := by rw [fixedLens_getD k (by omega), if_pos h2]
theorem fx2 {k : Nat} (h1 : 144 ≤ k) (h2 : k < 256) : fixedLens.getD k 0 = 9 := by rw [fixedLens_getD k (by omega), if_neg (by omega), if_pos h2]
theorem fx3 {k : Nat} (h1 : 256 ≤ k) (h2 : k < 280) : fixedLens.getD k 0 = 7 := by rw [fixedLens_getD k (by omega), if_neg (by omega), if_neg (by omega), if_pos h2]
theorem fx4 {k : Nat} (h1 : 280 ≤ k) (h2 : k < 288) : fixedLens.getD k 0 = 8 := by rw [fixedLens_getD k (by omega), if_neg (by omega), if_neg (by omega), if_neg (by omega)]

theorem zero288 : (Tryd.prog.info? 172).map (·.zero) = some (some (.agg (List.replicate 288 (.int .i64 0)).toArray)) := by kernel_rfl
theorem zeroHuff : (Tryd.prog.info? 108).map (·.zero) = some (some (.agg zeroTab)) := by kernel_rfl

theorem FxInv.new_ (w : World) (T : TypeId) : FxInv w w.heap.size 0 (w.alloc (.cells (List.replicate 288 (.int .i64 0)).toArray T)) := by
  refine ⟨Nat.le_refl _, fun j hj => ?_, fun o => by rw [World.frozen?_alloc_new], (Frm.refl _ _).alloc _⟩
  rw [alloc_at, if_neg (by omega)]
  simp only [List.getElem?_replicate]
  rw [if_pos hj]; rfl

theorem newTab (w : World) (T : TypeId) (N : Nat → Prop) : TabAt (w.alloc (.cells zeroTab T)) w.heap.size 0 emptyTab N := by
  refine ⟨?_, fun i hi => ?_, ?_, fun _ => ?_, fun h => absurd rfl h⟩
  · rw [alloc_at]; rfl
  · have e : emptyTab.chunks.getD i 0 = 0 := rep_getD 512 i
    rw [e, alloc_at, Nat.zero_add]
    exact zt_mid 512 _ _ _ i hi
  · rw [alloc_at]; exact zt_end 512 _ _ _ 1
  · rw [alloc_at]; exact zt_end 512 _ _ _ 0

theorem initFixed : initTab fixedLens = some (some fixedTab) := by
  have hl := initTab_law fixedLens_le (by rw [fixedLens_length]; omega)
  have h0 : ¬ (cntAll fixedLens).max = 0 := by decide +kernel
  have hc : (nextAll (cntAll fixedLens)).1 = 2 ^ (cntAll fixedLens).max := by decide +kernel
  obtain ⟨x, nx, hn⟩ : ∃ x nx, nextAll (cntAll fixedLens) = (x, nx) := ⟨_, _, rfl⟩
  rw [hn] at hc
  obtain ⟨_, b, _, hb⟩ := initTab_go rfl h0 hn (by simp [show x = 2 ^ (cntAll fixedLens).max from hc]) hl.1
  unfold fixedTab
  rw [hb]

set_option maxHeartbeats 2000000 in
theorem fixedHuffman_any (w : World) :
    Calls Tryd.prog 75 #[] w fun e w' => ∃ B, w.heap.size ≤ B ∧ e = .returned (.pointer (some ⟨B, 0, none⟩)) ∧ TabAt w' B 0 fixedTab (fun b => w.heap.size ≤ b) ∧ Frm (fun _ _ => False) w w' := by
  go_enter Tryd.func75, Tryd.ntmps75
  go_upto_region 1 with (fail)
  refine wp_region_lit ?_
  refine wpList_run (by rfl) (run_alloc_agg zero288) ?_
  refine wpList_nil ?_
  obtain ⟨nb, hnb⟩ : ∃ nb, nb = w.heap.size := ⟨_, rfl⟩
  have hF := FxInv.new_ w 172
  rw [← hnb] at hF ⊢
  have HF := Lib.hid hF
  have HNB := Lib.hid hnb
  clear hF hnb
  go_wp2_with fail
  go_loopw [2] (fun i wr => ∃ k : Nat, 0 ≤ k ∧ k ≤ 144 ∧ i = .int .i64 (k : Int) ∧ FxInv w nb k wr) (fun i _ => 288 - (intOf i).toNat)
  case atStart => exact ⟨0, Nat.le_refl _, by omega, rfl, HF.out⟩
  case round =>
    obtain ⟨k, ka, kb, rfl, hF⟩ := hrel
    obtain ⟨KA, KB⟩ := And.intro (Lib.hid ka) (Lib.hid kb)
    by_cases hlt : k < 144
    · have e1 : decide ((k : Int) < 144) = true := by simp; omega
      have b1 : (k : Int) ≤ 287 := by omega
      have hc := hF.cell k (by omega)
      have hfz := hF.froz k
      have HFI := Lib.hid hF
      have HLT := Lib.hid hlt
      clear hF ka kb hlt
      go_wp2_with fail
      go_roundw
      case rel => exact ⟨k + 1, by have := KA.out; omega, by have := HLT.out; omega, by go_num, HFI.out.step (by have := HLT.out; omega) (by have := KA.out; have := HLT.out; exact fx1 (by omega) (by omega))⟩
      case measure => have := HLT.out; simp [intOf]; omega
    · have e1 : decide ((k : Int) < 144) = false := by simp; omega
      obtain rfl : k = 144 := by omega
      have HF := Lib.hid hF
      clear hF ka kb hlt KA KB e1
      go_wp2_with fail
      go_loopw [3] (fun i wr => ∃ k : Nat, 144 ≤ k ∧ k ≤ 256 ∧ i = .int .i64 (k : Int) ∧ FxInv w nb k wr) (fun i _ => 288 - (intOf i).toNat)
      case atStart => exact ⟨144, Nat.le_refl _, by omega, rfl, HF.out⟩
      case round =>
        obtain ⟨k, ka, kb, rfl, hF⟩ := hrel
        obtain ⟨KA, KB⟩ := And.intro (Lib.hid ka) (Lib.hid kb)
        by_cases hlt : k < 256
        · have e1 : decide ((k : Int) < 256) = true := by simp; omega
          have b1 : (k : Int) ≤ 287 := by omega
          have hc := hF.cell k (by omega)
          have hfz := hF.froz k
          have HFI := Lib.hid hF
          have HLT := Lib.hid hlt
          clear hF ka kb hlt
          go_wp2_with fail
          go_roundw
          case rel => exact ⟨k + 1, by have := KA.out; omega, by have := HLT.out; omega, by go_num, HFI.out.step (by have := HLT.out; omega) (by have := KA.out; have := HLT.out; exact fx2 (by omega) (by omega))⟩
          case measure => have := HLT.out; simp [intOf]; omega
        · have e1 : decide ((k : Int) < 256) = false := by simp; omega
          obtain rfl : k = 256 := by omega
          have HF := Lib.hid hF
          clear hF ka kb hlt KA KB e1
          go_wp2_with fail
          go_loopw [4] (fun i wr => ∃ k : Nat, 256 ≤ k ∧ k ≤ 280 ∧ i = .int .i64 (k : Int) ∧ FxInv w nb k wr) (fun i _ => 288 - (intOf i).toNat)
          case atStart => exact ⟨256, Nat.le_refl _, by omega, rfl, HF.out⟩
          case round =>
            obtain ⟨k, ka, kb, rfl, hF⟩ := hrel
            obtain ⟨KA, KB⟩ := And.intro (Lib.hid ka) (Lib.hid kb)
            by_cases hlt : k < 280
            · have e1 : decide ((k : Int) < 280) = true := by simp; omega
              have b1 : (k : Int) ≤ 287 := by omega
              have hc := hF.cell k (by omega)
              have hfz := hF.froz k
              have HFI := Lib.hid hF
              have HLT := Lib.hid hlt
              clear hF ka kb hlt
              go_wp2_with fail
              go_roundw
              case rel => exact ⟨k + 1, by have := KA.out; omega, by have := HLT.out; omega, by go_num, HFI.out.step (by have := HLT.out; omega) (by have := KA.out; have := HLT.out; exact fx3 (by omega) (by omega))⟩
              case measure => have := HLT.out; simp [intOf]; omega
            · have e1 : decide ((k : Int) < 280) = false := by simp; omega
              obtain rfl : k = 280 := by omega
              have HF := Lib.hid hF
              clear hF ka kb hlt KA KB e1
              go_wp2_with fail
              go_loopw [5] (fun i wr => ∃ k : Nat, 280 ≤ k ∧ k ≤ 288 ∧ i = .int .i64 (k : Int) ∧ FxInv w nb k wr) (fun i _ => 288 - (intOf i).toNat)
              case atStart => exact ⟨280, Nat.le_refl _, by omega, rfl, HF.out⟩
              case round =>
                obtain ⟨k, ka, kb, rfl, hF⟩ := hrel
                obtain ⟨KA, KB⟩ := And.intro (Lib.hid ka) (Lib.hid kb)
                by_cases hlt : k < 288
                · have e1 : decide ((k : Int) < 288) = true := by simp; omega
                  have b1 : (k : Int) ≤ 287 := by omega
                  have hc := hF.cell k (by omega)
                  have hfz := hF.froz k
                  have HFI := Lib.hid hF
                  have HLT := Lib.hid hlt
                  clear hF ka kb hlt
                  go_wp2_with fail
                  go_roundw
                  case rel => exact ⟨k + 1, by have := KA.out; omega, by have := HLT.out; omega, by go_num, HFI.out.step (by have := HLT.out; omega) (by have := KA.out; have := HLT.out; exact fx4 (by omega) (by omega))⟩
                  case measure => have := HLT.out; simp [intOf]; omega
                · have e1 : decide ((k : Int) < 288) = false := by simp; omega
                  obtain rfl : k = 288 := by omega
                  have HF := Lib.hid hF
                  clear hF ka kb hlt KA KB e1
                  go_upto_region 18 with (fail)
                  refine wp_region_lit ?_
                  refine wpList_run (by rfl) (run_alloc_agg zeroHuff) ?_
                  refine wpList_run (by rfl) (by rfl) ?_
                  refine wpList_nil ?_
                  obtain ⟨B, hB⟩ : ∃ B, B = wr.heap.size := ⟨_, rfl⟩
                  have hsz := HF.out.frm.size
                  have hnew := HF.out.new
                  have hnbl : nb < wr.heap.size := cell_lt (HF.out.cell 0 (by omega))
                  obtain ⟨W, hW⟩ : ∃ W, W = wr.alloc (.cells zeroTab 108) := ⟨_, rfl⟩
                  have hfrm : Frm (fun _ _ => False) w W := by rw [hW]; exact HF.out.frm.alloc _
                  have hWs : B < W.heap.size := by rw [hW, hB]; simp
                  have hinit := init_any W B 0 nb 0 288 fixedLens (.inr (by rw [hW, hB]; exact newTab wr _ _)) (fun j hj => by
                      rw [hW, hB, alloc_at, Nat.zero_add, List.getElem?_eq_getElem (by rw [zeroTab_len]; exact hj)]; rfl) (fun k => by rw [hW, hB, World.frozen?_alloc_new])
                    (fun j hj => by
                      rw [fixedLens_length] at hj
                      rw [hW, Nat.zero_add, World.cell?_of_block (Below.heap_alloc _ _ _ hnbl), HF.out.cell j hj, if_pos hj]) (by omega) (by rw [fixedLens_length]; omega) fixedLens_le (by rw [initFixed]; simp)
                  rw [fixedLens_length] at hinit
                  rw [← hB, ← hW]
                  have hBw : w.heap.size ≤ B := by omega
                  have HI := Lib.hid hinit
                  have HFRM := Lib.hid hfrm
                  clear hinit hfrm hB hW HF
                  go_wp2_with fail
                  refine HI.out.mono ?_
                  intro e w' hP
                  unfold InitPost at hP
                  rw [initFixed] at hP
                  obtain ⟨rfl, hT, hf⟩ := hP
                  have hsz2 := HFRM.out.size
                  have hT2 : TabAt w' B 0 fixedTab (fun b => w.heap.size ≤ b) := ⟨hT.min, hT.ch, hT.mask, hT.none_, fun e => by
                    obtain ⟨L, h1, h2, h3⟩ := hT.some_ e
                    exact ⟨L, Nat.le_trans hsz2 h1, h2, fun k hk => by obtain ⟨b, q1, q2⟩ := h3 k hk; exact ⟨b, Nat.le_trans hsz2 q1, q2⟩⟩⟩
                  have hf2 : Frm (fun _ _ => False) w w' := HFRM.out.trans' hf (fun x o hx e => by have := e.1; omega)
                  have HT2 := Lib.hid hT2
                  have HF2 := Lib.hid hf2
                  clear hT hf hT2 hf2
                  go_wp2_with fail
                  go_ret
                  exact ⟨B, by omega, rfl, HT2.out, HF2.out⟩

end Go.Proofs.YthfncdfcklbigaaDoor
