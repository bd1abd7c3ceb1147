/-
  Several texts in one: Fixed Next Rdr Bufs Mk Err InflK LawK.
-/
import Derived.Test.YthfncdfcklbigaaGreatDoorPi
import Derived.Test.YthfncdfcklbigaaGreatDoorPa
import Derived.Test.YthfncdfcklbigaaGreatDoorPh
import Derived.Test.YthfncdfcklbigaaGreatDoorPr
import Derived.Test.YthfncdfcklbigaaGreatDoorPd
import Derived.LaidEql
import Derived.Stop.Asserts
import Derived.RowKitTokens
set_option linter.unusedVariables false
set_option linter.unusedSimpArgs false
namespace Go.Proofs.YthfncdfcklbigaaGreatDoor
open Go.RowKit Flate
set_option maxRecDepth 100000
theorem run_alloc_agg {P : Program} {ρ : Operand → Value} {w : World} {dst : Option Tmp} {ty T : TypeId} {pos : String} {after : Array Edge} {zs : Array Value} (hz : (P.info? T).map (·.zero) = some (some (.agg zs))) :
 (execOp ρ ⟨dst, .alloc T, ty, pos, after, none⟩).run P w = .ok (.value (.pointer (some ⟨w.heap.size, 0, none⟩))) (w.alloc (.cells zs T)) := by
 obtain ⟨i, hi, h1⟩ := Option.map_eq_some_iff.1 hz
 simp [execOp, Instr.alloc, zeroValue, typeInfo, hi, h1, newVar, newRow, go_sem]
theorem alloc_at (w : World) (zs : Array Value) (T : TypeId) (j : Nat) : (w.alloc (.cells zs T)).cell? ⟨w.heap.size, j, none⟩ = zs.toList[j]? := by
 rw [World.cell?_alloc_new]; simp
structure FxInv (w : World) (nb k : Nat) (wr : World) : Prop where
 new : w.heap.size ≤ nb
 cell : ∀ j, j < 288 → wr.cell? ⟨nb, j, none⟩ = some (.int .i64 ((if j < k then fixedLens.getD j 0 else 0 : Nat) : Int))
 froz : ∀ j, wr.frozen? ⟨nb, j, none⟩ = false
 frm : Frm (fun _ _ => False) w wr
theorem FxInv.step {w wr : World} {nb k v : Nat} (h : FxInv w nb k wr) (hk : k < 288) (hv : fixedLens.getD k 0 = v) : FxInv w nb (k + 1) (wr.setCell ⟨nb, k, none⟩ (.int .i64 (v : Int))) := by
 refine ⟨h.new, fun j hj => ?_, fun j => by rw [World.frozen?_setCell]; exact h.froz j, h.frm.setCell (.inr h.new) _⟩
 by_cases e : j = k
 · subst e; rw [set_get (h.cell j hj), if_pos (by omega), hv]
 · rw [cell_set_off e, h.cell j hj]
   by_cases q : j < k
   · rw [if_pos q, if_pos (by omega)]
   · rw [if_neg q, if_neg (by omega)]
theorem fixedLens_getD (j : Nat) (hj : j < 288) : fixedLens.getD j 0 = if j < 144 then 8 else if j < 256 then 9 else if j < 280 then 7 else 8 := by
 have : ∀ j : Fin 288, fixedLens.getD j.1 0 = if j.1 < 144 then 8 else if j.1 < 256 then 9 else if j.1 < 280 then 7 else 8 := by decide +kernel
 exact this ⟨j, hj⟩
theorem fx1 {k : Nat} (_ : 0 ≤ k) (h2 : k < 144) : fixedLens.getD k 0 = 8 := by rw [fixedLens_getD k (by omega), if_pos h2]
theorem fx2 {k : Nat} (h1 : 144 ≤ k) (h2 : k < 256) : fixedLens.getD k 0 = 9 := by rw [fixedLens_getD k (by omega), if_neg (by omega), if_pos h2]
theorem fx3 {k : Nat} (h1 : 256 ≤ k) (h2 : k < 280) : fixedLens.getD k 0 = 7 := by rw [fixedLens_getD k (by omega), if_neg (by omega), if_neg (by omega), if_pos h2]
theorem fx4 {k : Nat} (h1 : 280 ≤ k) (h2 : k < 288) : fixedLens.getD k 0 = 8 := by rw [fixedLens_getD k (by omega), if_neg (by omega), if_neg (by omega), if_neg (by omega)]
theorem zero288 : (Tryz.prog.info? 184).map (·.zero) = some (some (.agg (List.replicate 288 (.int .i64 0)).toArray)) := by kernel_rfl
theorem zeroHuff : (Tryz.prog.info? 149).map (·.zero) = some (some (.agg zeroTab)) := by kernel_rfl
theorem FxInv.new_ (w : World) (T : TypeId) : FxInv w w.heap.size 0 (w.alloc (.cells (List.replicate 288 (.int .i64 0)).toArray T)) := by
 refine ⟨Nat.le_refl _, fun j hj => ?_, fun o => by rw [World.frozen?_alloc_new], (Frm.refl _ _).alloc _⟩
 rw [alloc_at, if_neg (by omega)]
 simp only [List.getElem?_replicate]
 rw [if_pos hj]; rfl
theorem newTab (w : World) (T : TypeId) (N : Nat → Prop) : TabAt (w.alloc (.cells zeroTab T)) w.heap.size 0 emptyTab N := by
 refine ⟨?_, fun i hi => ?_, ?_, fun _ => ?_, fun h => absurd rfl h⟩
 · rw [alloc_at]; rfl
 · have e : emptyTab.chunks.getD i 0 = 0 := rep_getD 512 i; rw [e, alloc_at, Nat.zero_add]; exact zt_mid 512 _ _ _ i hi
 · rw [alloc_at]; exact zt_end 512 _ _ _ 1
 · rw [alloc_at]; exact zt_end 512 _ _ _ 0
theorem initFixed : initTab fixedLens = some (some fixedTab) := by
 have hl := initTab_law fixedLens_le (by rw [fixedLens_length]; omega)
 have h0 : ¬ (cntAll fixedLens).max = 0 := by decide +kernel
 have hc : (nextAll (cntAll fixedLens)).1 = 2 ^ (cntAll fixedLens).max := by decide +kernel
 obtain ⟨x, nx, hn⟩ : ∃ x nx, nextAll (cntAll fixedLens) = (x, nx) := ⟨_, _, rfl⟩
 rw [hn] at hc
 obtain ⟨_, b, _, hb⟩ := initTab_go rfl h0 hn (by simp [show x = 2 ^ (cntAll fixedLens).max from hc]) hl.1
 unfold fixedTab
 rw [hb]
set_option maxHeartbeats 2000000 in
theorem fixedHuffman_any (w : World) :
 Calls Tryz.prog 81 #[] w fun e w' => ∃ B, w.heap.size ≤ B ∧ e = .returned (.pointer (some ⟨B, 0, none⟩)) ∧ TabAt w' B 0 fixedTab (fun b => w.heap.size ≤ b) ∧ Frm (fun _ _ => False) w w' := by
 go_enter Tryz.func81, Tryz.ntmps81
 go_upto_region 1 with (fail)
 refine wp_region_lit ?_
 refine wpList_run (by rfl) (run_alloc_agg zero288) ?_
 refine wpList_nil ?_
 obtain ⟨nb, hnb⟩ : ∃ nb, nb = w.heap.size := ⟨_, rfl⟩
 have hF := FxInv.new_ w 184
 rw [← hnb] at hF ⊢
 have HF := zHi hF
 have HNB := zHi hnb
 clear hF hnb
 go_wp2_with fail
 go_loopw [2] (fun i wr => ∃ k : Nat, 0 ≤ k ∧ k ≤ 144 ∧ i = .int .i64 (k : Int) ∧ FxInv w nb k wr) (fun i _ => 288 - (intOf i).toNat)
 case atStart => exact ⟨0, Nat.le_refl _, by omega, rfl, HF.out⟩
 case round =>
  obtain ⟨k, ka, kb, rfl, hF⟩ := hrel; obtain ⟨KA, KB⟩ := zAi (zHi ka) (zHi kb)
  by_cases hlt : k < 144
  · have e1 : decide ((k : Int) < 144) = true := by simp; omega
    have b1 : (k : Int) ≤ 287 := by omega
    have hc := hF.cell k (by omega)
    have hfz := hF.froz k; have HFI := zHi hF; have HLT := zHi hlt; clear hF ka kb hlt; go_wp2_with fail
    go_roundw
    case rel => exact ⟨k + 1, by have := KA.out; omega, by have := HLT.out; omega, by go_num, HFI.out.step (by have := HLT.out; omega) (by have := KA.out; have := HLT.out; exact fx1 (by omega) (by omega))⟩
    case measure => have := HLT.out; simp [intOf]; omega
  · have e1 : decide ((k : Int) < 144) = false := by simp; omega
    obtain rfl : k = 144 := by omega
    have HF := zHi hF; clear hF ka kb hlt KA KB e1; go_wp2_with fail
    go_loopw [3] (fun i wr => ∃ k : Nat, 144 ≤ k ∧ k ≤ 256 ∧ i = .int .i64 (k : Int) ∧ FxInv w nb k wr) (fun i _ => 288 - (intOf i).toNat)
    case atStart => exact ⟨144, Nat.le_refl _, by omega, rfl, HF.out⟩
    case round =>
     obtain ⟨k, ka, kb, rfl, hF⟩ := hrel; obtain ⟨KA, KB⟩ := zAi (zHi ka) (zHi kb)
     by_cases hlt : k < 256
     · have e1 : decide ((k : Int) < 256) = true := by simp; omega
       have b1 : (k : Int) ≤ 287 := by omega
       have hc := hF.cell k (by omega)
       have hfz := hF.froz k; have HFI := zHi hF; have HLT := zHi hlt; clear hF ka kb hlt; go_wp2_with fail
       go_roundw
       case rel => exact ⟨k + 1, by have := KA.out; omega, by have := HLT.out; omega, by go_num, HFI.out.step (by have := HLT.out; omega) (by have := KA.out; have := HLT.out; exact fx2 (by omega) (by omega))⟩
       case measure => have := HLT.out; simp [intOf]; omega
     · have e1 : decide ((k : Int) < 256) = false := by simp; omega
       obtain rfl : k = 256 := by omega
       have HF := zHi hF; clear hF ka kb hlt KA KB e1; go_wp2_with fail
       go_loopw [4] (fun i wr => ∃ k : Nat, 256 ≤ k ∧ k ≤ 280 ∧ i = .int .i64 (k : Int) ∧ FxInv w nb k wr) (fun i _ => 288 - (intOf i).toNat)
       case atStart => exact ⟨256, Nat.le_refl _, by omega, rfl, HF.out⟩
       case round =>
        obtain ⟨k, ka, kb, rfl, hF⟩ := hrel; obtain ⟨KA, KB⟩ := zAi (zHi ka) (zHi kb)
        by_cases hlt : k < 280
        · have e1 : decide ((k : Int) < 280) = true := by simp; omega
          have b1 : (k : Int) ≤ 287 := by omega
          have hc := hF.cell k (by omega)
          have hfz := hF.froz k; have HFI := zHi hF; have HLT := zHi hlt; clear hF ka kb hlt; go_wp2_with fail
          go_roundw
          case rel => exact ⟨k + 1, by have := KA.out; omega, by have := HLT.out; omega, by go_num, HFI.out.step (by have := HLT.out; omega) (by have := KA.out; have := HLT.out; exact fx3 (by omega) (by omega))⟩
          case measure => have := HLT.out; simp [intOf]; omega
        · have e1 : decide ((k : Int) < 280) = false := by simp; omega
          obtain rfl : k = 280 := by omega
          have HF := zHi hF; clear hF ka kb hlt KA KB e1; go_wp2_with fail
          go_loopw [5] (fun i wr => ∃ k : Nat, 280 ≤ k ∧ k ≤ 288 ∧ i = .int .i64 (k : Int) ∧ FxInv w nb k wr) (fun i _ => 288 - (intOf i).toNat)
          case atStart => exact ⟨280, Nat.le_refl _, by omega, rfl, HF.out⟩
          case round =>
           obtain ⟨k, ka, kb, rfl, hF⟩ := hrel; obtain ⟨KA, KB⟩ := zAi (zHi ka) (zHi kb)
           by_cases hlt : k < 288
           · have e1 : decide ((k : Int) < 288) = true := by simp; omega
             have b1 : (k : Int) ≤ 287 := by omega
             have hc := hF.cell k (by omega)
             have hfz := hF.froz k; have HFI := zHi hF; have HLT := zHi hlt; clear hF ka kb hlt; go_wp2_with fail
             go_roundw
             case rel => exact ⟨k + 1, by have := KA.out; omega, by have := HLT.out; omega, by go_num, HFI.out.step (by have := HLT.out; omega) (by have := KA.out; have := HLT.out; exact fx4 (by omega) (by omega))⟩
             case measure => have := HLT.out; simp [intOf]; omega
           · have e1 : decide ((k : Int) < 288) = false := by simp; omega
             obtain rfl : k = 288 := by omega
             have HF := zHi hF; clear hF ka kb hlt KA KB e1; go_upto_region 18 with (fail)
             refine wp_region_lit ?_; refine wpList_run (by rfl) (run_alloc_agg zeroHuff) ?_
             refine wpList_run (by rfl) (by rfl) ?_
             refine wpList_nil ?_; obtain ⟨B, hB⟩ : ∃ B, B = wr.heap.size := ⟨_, rfl⟩; have hsz := HF.out.frm.size; have hnew := HF.out.new; have hnbl : nb < wr.heap.size := cell_lt (HF.out.cell 0 (by omega))
             obtain ⟨W, hW⟩ : ∃ W, W = wr.alloc (.cells zeroTab 149) := ⟨_, rfl⟩; have hfrm : Frm (fun _ _ => False) w W := by rw [hW]; exact HF.out.frm.alloc _
             have hWs : B < W.heap.size := by rw [hW, hB]; simp
             have hinit := init_any W B 0 nb 0 288 fixedLens (.inr (by rw [hW, hB]; exact newTab wr _ _)) (fun j hj => by
              rw [hW, hB, alloc_at, Nat.zero_add, List.getElem?_eq_getElem (by rw [zeroTab_len]; exact hj)]; rfl) (fun k => by rw [hW, hB, World.frozen?_alloc_new])
              (fun j hj => by
               rw [fixedLens_length] at hj; rw [hW, Nat.zero_add, World.cell?_of_block (Below.heap_alloc _ _ _ hnbl), HF.out.cell j hj, if_pos hj]) (by omega) (by rw [fixedLens_length]; omega) fixedLens_le (by rw [initFixed]; simp)
             rw [fixedLens_length] at hinit; rw [← hB, ← hW]; have hBw : w.heap.size ≤ B := by omega
             have HI := zHi hinit; have HFRM := zHi hfrm; clear hinit hfrm hB hW HF; go_wp2_with fail
             refine HI.out.mono ?_; intro e w' hP; unfold InitPost at hP; rw [initFixed] at hP; obtain ⟨rfl, hT, hf⟩ := hP; have hsz2 := HFRM.out.size; have hT2 : TabAt w' B 0 fixedTab (fun b => w.heap.size ≤ b) := ⟨hT.min, hT.ch, hT.mask, hT.none_, fun e => by
              obtain ⟨L, h1, h2, h3⟩ := hT.some_ e; exact ⟨L, Nat.le_trans hsz2 h1, h2, fun k hk => by obtain ⟨b, q1, q2⟩ := h3 k hk; exact ⟨b, Nat.le_trans hsz2 q1, q2⟩⟩⟩
             have hf2 : Frm (fun _ _ => False) w w' := HFRM.out.trans' hf (fun x o hx e => by have := e.1; omega)
             have HT2 := zHi hT2; have HF2 := zHi hf2; clear hT hf hT2 hf2; go_wp2_with fail
             go_ret
             exact ⟨B, by omega, rfl, HT2.out, HF2.out⟩
theorem Dec.err_nil {w : World} {F : Nat} {d : DS} (h : Dec w F d) (he : d.err = .nilIface) : Dec (w.setCell ⟨F, 1048, none⟩ .nilIface) F d := by
 have := h.set_err .nilIface
 have e : ({ d with err := .nilIface } : DS) = d := by rw [← he]
 rwa [e] at this
def NB (w : World) (F : Nat) (d : DS) (r : Br) (n gk : Nat) (wr : World) : Prop :=
 ∃ r', Dec wr F (d.put r') ∧ r'.ok d.src ∧ r'.nb ≤ 22 ∧ fill d.src.length n r' = fill d.src.length n r ∧ Frm (SX F d) w wr ∧ gk = d.src.length - r'.pos
theorem bits3 {src : List UInt8} {r : Br} (h : 3 ≤ r.nb) {bb b1 b2 : Nat} (hb : bb = r.b src) (h1 : b1 = bb / 2) (h2 : b2 = b1 / 4) :
 bb % 2 = bv src r.at_ 1 ∧ b1 % 4 = bv src (r.at_ + 1) 2 ∧ b2 = ({ r with at_ := r.at_ + 3 } : Br).b src := by
 have e := b_mod (src := src) (r := r) (n := 1) (by omega)
 have s1 := b_skip (src := src) (r := r) (n := 1) (by omega)
 have n1 : ({ r with at_ := r.at_ + 1 } : Br).nb = r.nb - 1 := by unfold Br.nb; simp only; omega
 have e1 := b_mod (src := src) (r := { r with at_ := r.at_ + 1 }) (n := 2) (by rw [n1]; omega)
 have s2 := b_skip (src := src) (r := { r with at_ := r.at_ + 1 }) (n := 2) (by rw [n1]; omega)
 simp only [Nat.add_assoc, Nat.reduceAdd, Nat.reducePow] at e s1 e1 s2
 rw [← hb, ← h1] at s1
 rw [← s1, ← h2] at s2
 rw [← hb] at e
 rw [← s1] at e1
 exact ⟨e, e1, s2⟩
theorem next_cut {src : List UInt8} {r r' : Br} {H : List UInt8} (h : getBits src 3 r = .bad .cut r') : nextStep src r H = (.done .cut r'.pos, H) := by
 unfold getBits at h
 unfold nextStep
 cases hf : fill src.length 3 r with
 | mk t q =>
  rw [hf] at h
  cases t with
  | false => simp only [Rd.bad.injEq, true_and] at h; rw [h]
  | true => simp at h
theorem next_go {src : List UInt8} {r r1 r2 : Br} {H : List UInt8} {last : Bool} {t : Nat} (h : fill src.length 3 r = (true, r1)) (h2 : r2 = { r1 with at_ := r1.at_ + 3 }) (hl : last = (bv src r1.at_ 1 == 1)) (ht : t = bv src (r1.at_ + 1) 2) :
 nextStep src r H = if t = 0 then storedStep src last r2.pos H else if t = 1 then (.huff last r2 fixedTab none, H) else if t = 2 then
  match readHuff src r2 with
  | .bad e r' => (.done e r'.pos, H)
  | .ok (T, D) r3 => (.huff last r3 T (some D), H)
 else (.done .corrupt r2.pos, H) := by
 unfold nextStep
 rw [h, h2, hl, ht]
 rfl
theorem StepPost.step {w w' : World} {F C : Nat} {p : Ps} {d : DS} {k m : Nat} {x y : Cfg × List UInt8} {e : Ending} (h : StepPost w F C p d k m y e w') (hx : sstep d.src x = y) : StepPost w F C p d k m x e w' := by
 obtain ⟨h1, d', H', n', x', h2, h3, h4, h5⟩ := h
 exact ⟨h1, d', H', n', x', h2, h3, .step (by rw [hx]; exact h4), h5⟩
theorem fixedTab_ok : fixedTab.OK := ((initTab_law fixedLens_le (by rw [fixedLens_length]; omega)).2 fixedTab initFixed).1
theorem step_done {w w' : World} {F C : Nat} {p : Ps} {d d' : DS} {H : List UInt8} {k m : Nat} {x : Cfg × List UInt8} {e : Err} (hS : St w' F C p d' H k 0) (hs : Same d d') (hw : d'.wr < 32768) (hv : ErrV p e d'.err) (hx : x = (.done e d'.pos, H)) (hf : Frm (SA F d) w w') (hm : 0 < m) :
 StepPost w F C p d k m x (.returned (.tuple #[])) w' := by
 refine ⟨rfl, d', H, 0, x, hS, by rw [hx]; exact .inl ⟨hv, rfl, rfl⟩, .refl _, hs, ⟨hw, fun q => absurd q (by omega)⟩, .inr ?_, hf⟩
 have : dmu d' = 0 := by
  unfold dmu
  cases e with
  | eof => rw [hv]
  | cut => rw [hv]
  | corrupt => obtain ⟨y, hv⟩ := hv; rw [hv]
 omega
theorem put_tabs {d : DS} {r : Br} (h : d = d.put r) (a b : Value) : ({ d with hl := a, hd := b } : DS) = ({ d with hl := a, hd := b } : DS).put r := by
 conv => lhs; rw [h]
 rfl
set_option maxHeartbeats 4000000 in
theorem nextBlock_any (w : World) (F C : Nat) (p : Ps) (d : DS) (H : List UInt8) (k m : Nat) (r : Br) (h : St w F C p d H k 0) (he : d.err = .nilIface) (hw : d.wr < 32768) (hd : d = d.put r) (hr : r.ok d.src) (hnb : r.nb ≤ 22) (hs0 : SS0 d H)
 (hm : 2 * (8 * d.src.length + 1 - r.at_) + 1 ≤ m) :
 Calls Tryz.prog 74 #[.pointer (some ⟨F, 0, none⟩)] w (StepPost w F C p d k m (.next r, H)) := by
 have hI0 : RI w F C p d H k w r := ⟨by rw [← hd]; exact h, hr, hnb, Frm.refl _ _⟩
 have HI0 := zHi hI0
 have HS0 := zHi hs0
 have HHH := zHi h
 have hm0 : 0 < m := by omega
 have HM := zHi hm
 clear h hd hr hnb hI0 hs0 hm
 go_enter Tryz.func74, Tryz.ntmps74
 go_upto_block 0 with (fail)
 go_cut [10] (fun _ wq => ∃ r1, fill d.src.length 3 r = (true, r1) ∧ 3 ≤ r1.nb ∧ RI w F C p d H k wq r1)
 case first => as_aux_lemma =>
  go_wp2_with fail
  go_loopg [10] (d.src.length - r.pos) (fun gk _ wr => NB w F d r 3 gk wr)
  case atStart => exact ⟨r, HI0.out.st.dec, HI0.out.ok, HI0.out.nb, rfl, Frm.refl _ _, rfl⟩
  case round =>
   obtain ⟨r', hD', ho', hn', hfl', hf', hgk⟩ := hrel; obtain ⟨nv, hnv⟩ : ∃ nv, nv = r'.nb := ⟨_, rfl⟩; have q4 : wr.cell? ⟨F, 4, none⟩ = some (.int .u64 (nv : Int)) := by rw [hnv]; exact hD'.nb
   have b6 : (nv : Int) ≤ 22 := by omega
   by_cases hlt : 3 ≤ r'.nb
   · have e4 : decide ((nv : Int) < 3) = false := by simp; omega
     have hfe : fill d.src.length 3 r = (true, r') := by rw [← hfl', fill_has hlt]
     have hI1 : RI w F C p d H k wr r' := ⟨HI0.out.st.of hD' hf' (SX.ok (d := d.put r) HI0.out.st) ⟨rfl, rfl, rfl, rfl, rfl, rfl⟩ ⟨rfl, rfl, rfl, rfl, rfl⟩, ho', hn', hf'.mono fun b o e => SX.sa e⟩
     have HFE := zHi hfe; have HI1 := zHi hI1; have HLT := zHi hlt; clear hfl' hf' hD' hn' hnv hlt ho' hfe hI1 hgk; go_wp2_with fail
     go_meet
     case rel => exact ⟨r', HFE.out, HLT.out, HI1.out⟩
   · have e4 : decide ((nv : Int) < 3) = true := by simp; omega
     by_cases hp : r'.pos < d.src.length
     · have hmb := MB.call_more hD' ho' rfl (Frm.refl _ _) hlt (by omega) hp
       have HMB := zHi hmb; have HF' := zHi hf'; have HFL := zHi hfl'; have HGK := zHi hgk; have HLN := zHi (leftN_of hD'); clear hmb hfl' hf' hD' hn' hnv hlt ho' hgk; go_wp2_with fail
       refine HMB.out.mono ?_; rintro e wm ⟨rfl, HM⟩; obtain ⟨⟨r2, hD2, ho2, hn2, hfl2, hf2⟩, hln⟩ := HM.out; have c48 := hD2.err; have g48 := hD2.fr 1048; have HD2 := zHi hD2; have HX := zHi (zAi ho2 (zAi hn2 (zAi hfl2 (zAi hf2 hln)))); clear hD2 ho2 hn2 hfl2 hf2 hln; go_wp2_with fail
       go_roundg (d.src.length - r2.pos)
       case measure =>
        have h1 := HLN.out; have h2 := leftN_of HD2.out; obtain ⟨_, _, _, _, h3⟩ := HX.out; have h1' : leftN d.src.length d.R wr = d.src.length - r'.pos := h1; have h2' : leftN d.src.length d.R wm = d.src.length - r2.pos := h2; have := HGK.out; omega
       case rel =>
        obtain ⟨g1, g2, g3, g4, _⟩ := HX.out; exact ⟨r2, HD2.out.err_nil he, g1, g2, g3.trans HFL.out, (HF'.out.trans (g4.mono fun b o e => SB_x e)).setCell (.inl (.inr (.inr ⟨rfl, by simp⟩))) _, rfl⟩
     · have hmb := MB.call_end (p := p) (C := C) (w := wr) (n := 3) (r := r') (HI0.out.st.env.keep hf' (fun b o e => ((SX.ok (d := d.put r) HI0.out.st) b o e).1)) HI0.out.st.cR HI0.out.st.cF hD' ho' rfl (Frm.refl _ _) hlt hp
       have HMB := zHi hmb; have HF' := zHi hf'; have HFL := zHi hfl'; have HO := zHi (zAi ho' (zAi hlt hp)); clear hmb hf' hfl' hD' hn' hp hnv hlt ho' hgk; go_wp2_with fail
       refine HMB.out.mono ?_; rintro e wm ⟨rfl, hDm, HGC⟩; have p48 := hDm.err; have t48 := hDm.fr 1048; have HDm := zHi hDm; clear hDm q4; go_wp2_with fail
       go_end0
       obtain ⟨hgc, hfm⟩ := HGC.out; obtain ⟨o1, o2, o3⟩ := HO.out; have hgc2 : getBits d.src 3 r = .bad .cut r' := getBits_cut HFL.out o2 (by have := o1.2; omega) o1
       have hf2 : Frm (SX F d) w (wm.setCell ⟨F, 1048, none⟩ (errAt p.U)) := (HF'.out.trans (hfm.mono fun b o e => SB_x e)).setCell (.inl (.inr (.inr ⟨rfl, by simp⟩))) _
       have hS := HI0.out.st.of (HDm.out.set_err (errAt p.U)) hf2 (SX.ok (d := d.put r) HI0.out.st) ⟨rfl, rfl, rfl, rfl, rfl, rfl⟩ ⟨rfl, rfl, rfl, rfl, rfl⟩; exact (step_done (d := d) (e := .cut) (H := H) (x := (.done .cut r'.pos, H)) hS ⟨rfl, rfl, rfl, rfl, rfl, rfl⟩ hw rfl rfl (hf2.mono fun b o e => SX.sa e) hm0).step (show sstep d.src (.next r, H) = _ from next_cut hgc2)
 case rest =>
 as_aux_lemma =>
 obtain ⟨r1, hf1, hn3, hI1⟩ := hcut
 generalize wc = w1 at hI1 ⊢
 obtain ⟨bb, hbb⟩ : ∃ bb, bb = r1.b d.src := ⟨_, rfl⟩
 obtain ⟨b1, hb1⟩ : ∃ b1, b1 = bb / 2 := ⟨_, rfl⟩
 obtain ⟨b2, hb2⟩ : ∃ b2, b2 = b1 / 4 := ⟨_, rfl⟩
 obtain ⟨x1, x2, x3⟩ := bits3 hn3 hbb hb1 hb2
 obtain ⟨lb, hlb⟩ : ∃ lb, lb = bb % 2 := ⟨_, rfl⟩
 obtain ⟨ty, hty⟩ : ∃ ty, ty = b1 % 4 := ⟨_, rfl⟩
 obtain ⟨last, hlast⟩ : ∃ last : Bool, last = (lb == 1) := ⟨_, rfl⟩
 obtain ⟨r2, hr2⟩ : ∃ r2 : Br, r2 = { r1 with at_ := r1.at_ + 3 } := ⟨_, rfl⟩
 obtain ⟨nv, hnv⟩ : ∃ nv, nv = r1.nb := ⟨_, rfl⟩
 obtain ⟨nb2, hnb2⟩ : ∃ nb2, nb2 = r1.nb - 3 := ⟨_, rfl⟩
 have hgo := next_go (H := H) (last := last) hf1 hr2 (by rw [hlast, hlb, x1]) (hty.trans x2)
 have hb24 : bb < 2 ^ 22 := by
  have h1 := bv_lt d.src r1.at_ r1.nb; have h2 : 2 ^ r1.nb ≤ 2 ^ 22 := Nat.pow_le_pow_right (by omega) hI1.nb
  rw [hbb]; unfold Br.b; omega
 have y1 : bits .and .u32 (bb : Int) 1 = (lb : Int) := by rw [show (1 : Int) = ((2 : Nat) : Int) - 1 from rfl, mask_bits bb 1 2 rfl (by omega) (by omega), hlb]
 have y2 : bits .and .u32 (b1 : Int) 3 = (ty : Int) := by rw [show (3 : Int) = ((4 : Nat) : Int) - 1 from rfl, mask_bits b1 2 4 rfl (by omega) (by omega), hty]
 have y3 : (bb : Int) / 2 = (b1 : Int) := by rw [hb1]; rfl
 have y4 : (b1 : Int) / 4 = (b2 : Int) := by rw [hb2]; rfl
 have y5 : (bb : Int) ≤ 4194304 := by omega
 have y6 : (b1 : Int) ≤ 4194304 := by omega
 have y7 : ((lb : Int) == 1) = last := by rw [hlast, Bool.eq_iff_iff]; simp; omega
 have y8 : (nv : Int) - 3 = (nb2 : Int) := by omega
 have y9 : (nv : Int) ≤ 22 := by have := hI1.nb; omega
 have y10 : (lb : Int) ≤ 1 := by omega
 have y11 : (ty : Int) ≤ 3 := by omega
 have Y11 := zHi (show ty ≤ 3 by omega)
 have c3 : w1.cell? ⟨F, 3, none⟩ = some (.int .u32 (bb : Int)) := by rw [hbb]; exact hI1.st.dec.b
 have c4 : w1.cell? ⟨F, 4, none⟩ = some (.int .u64 (nv : Int)) := by rw [hnv]; exact hI1.st.dec.nb
 have c47 := hI1.st.dec.fin
 have g3 := hI1.st.dec.fr 3
 have g4 := hI1.st.dec.fr 4
 have g47 := hI1.st.dec.fr 1047
 obtain ⟨k1, k2⟩ := skip_ok hI1.ok hn3
 obtain ⟨d3, hd3⟩ : ∃ d3 : DS, d3 = { d.put r2 with fin := last } := ⟨_, rfl⟩
 obtain ⟨w3, hw3⟩ : ∃ w3, w3 = (((w1.setCell ⟨F, 1047, none⟩ (.bool last)).setCell ⟨F, 3, none⟩ (.int .u32 (b1 : Int))).setCell ⟨F, 3, none⟩ (.int .u32 (b2 : Int))).setCell ⟨F, 4, none⟩ (.int .u64 (nb2 : Int)) := ⟨_, rfl⟩
 have hf3 : Frm (SX F d) w1 w3 := by
  rw [hw3]; exact ((((Frm.refl _ _).setCell (.inl (.inr (.inr ⟨rfl, by simp⟩))) _).setCell (.inl (.inr (.inr ⟨rfl, by simp⟩))) _).setCell (.inl (.inr (.inr ⟨rfl, by simp⟩))) _).setCell (.inl (.inr (.inr ⟨rfl, by simp⟩))) _
 have hD3 : Dec w3 F d3 := by
  have hD := (((hI1.st.dec.set_fin last).set_b b1).set_b b2).set_nb nb2; rw [← hw3] at hD; have e1 : b2 = r2.b d.src := by rw [hr2]; exact x3
  have e2 : nb2 = r2.nb := by rw [hr2, k2]; exact hnb2
  have e3 : d3 = { d.put r1 with fin := last, b := b2, nb := nb2 } := by rw [hd3]; unfold DS.put; rw [← e1, ← e2, hr2]
  rw [e3]; exact hD
 have s3 : Same d d3 := by rw [hd3]; exact ⟨rfl, rfl, rfl, rfl, rfl, rfl⟩
 have hS3 : St w3 F C p d3 H k 0 := hI1.st.of hD3 hf3 (SX.ok (d := d.put r1) hI1.st) (by rw [hd3]; exact ⟨rfl, rfl, rfl, rfl, rfl, rfl⟩) (by rw [hd3]; exact ⟨rfl, rfl, rfl, rfl, rfl⟩)
 have hF3 : Frm (SA F d) w w3 := hI1.frm.trans (hf3.mono fun b o e => SX.sa e)
 have hr2ok : r2.ok d.src := by rw [hr2]; exact k1
 have hr2nb : r2.nb ≤ 22 := by rw [hr2, k2]; have := hI1.nb; omega
 have hat : r.at_ + 3 ≤ r2.at_ := by
  have := (fill_ok HI0.out.ok hf1).2.1; rw [hr2]; simp only; omega
 have q1 : d3.err = .nilIface := by rw [hd3]; exact he
 have q2 : d3.wr < 32768 := by rw [hd3]; exact hw
 have q3 : d3.fin = last := by rw [hd3]
 have q4 : d3 = d3.put r2 := by rw [hd3]; rfl
 have q5 : SS0 d3 H := HS0.out.same (by rw [hd3]; rfl) (by rw [hd3]; rfl) (by rw [hd3]; rfl) (Nat.le_refl _)
 have HD3 := zHi (zAi hS3 (zAi hF3 (zAi s3 (zAi hr2ok (zAi hr2nb (zAi hat (zAi q1 (zAi q2 (zAi q3 (zAi q4 q5))))))))))
 have HGO := zHi (show sstep d.src (.next r, H) = _ from hgo)
 have HW3 := zHi hw3
 clear hbb hb1 hb2 x1 x2 x3 hlb hty hlast hr2 hnv hnb2 hgo hb24 k1 k2 hd3 hw3 hf3 hD3 s3 hS3 hF3 hr2ok hr2nb hat q1 q2 q3 q4 q5 hf1 hn3 hI1
 go_upto_region 8 with (fail)
 rw [← HW3.out]
 clear c3 c4 c47 g3 g4 g47 y1 y2 y3 y4 y5 y6 y7 y8 y9 y10
 by_cases t0 : ty = 0
 · as_aux_lemma =>
   have e0 : ((ty : Int) == 0) = true := by simp; omega
   obtain ⟨hS3, hF3, s3, k1, k2, hat, q1, q2, q3, q4, q5⟩ := HD3.out; have hgo := HGO.out; rw [if_pos t0] at hgo; have HG := zHi hgo; have hpos : d3.pos = r2.pos := congrArg DS.pos q4; have hcall := dataBlock_any w3 F C p d3 H k m (storedStep d.src last r2.pos H) hS3 q1 (by rw [congrArg DS.roff q4, hpos]; rfl) q2 q5 (by rw [q3, hpos, s3.src]) (fun hle => by
    have h1 := HM.out; have h2 := k1.1; rw [s3.src, hpos] at *; omega) hm0
   have HC := zHi hcall; clear t0 hS3 hF3 s3 k1 k2 hat q1 q2 q3 q4 q5 hgo hpos hcall; go_wp2_with fail
   refine HC.out.mono ?_; intro e w4 hP; obtain rfl : e = .returned (.tuple #[]) := hP.1; have HP := zHi hP; clear hP; go_wp2_with fail
   go_end0
   exact (HP.out.from_ HD3.out.2.2.1 HD3.out.2.1).step HG.out
 have e0 : ((ty : Int) == 0) = false := by simp; omega
 by_cases t1 : ty = 1
 · as_aux_lemma =>
   have e1 : ((ty : Int) == 1) = true := by simp; omega
   have hgo := HGO.out; rw [if_neg t0, if_pos t1] at hgo; have HG := zHi hgo; clear t0 t1 hgo; have c50 := HD3.out.1.dec.hl; have g50 := HD3.out.1.dec.fr 1050; go_wp2_with fail
   refine (fixedHuffman_any w3).mono ?_; rintro e w4 ⟨B, hB, rfl, hT, hf⟩; obtain ⟨hS3, hF3, s3, k1, k2, hat, q1, q2, q3, q4, q5⟩ := HD3.out; have hf' : Frm (SX F d3) w3 w4 := hf.mono fun b o e => e.elim
   have hD4 : Dec w4 F d3 := hS3.dec.keep hf (fun o e => e.elim) (fun o e => e) (fun o e => e) (fun a _ j _ e => e)
   have hS4 : St w4 F C p d3 H k 0 := hS3.of hD4 hf' (SX.ok hS3) (Same.refl _) ⟨rfl, rfl, rfl, rfl, rfl⟩; have c50' := hD4.hl; have c51' := hD4.hd; have g50' := hD4.fr 1050; have g51' := hD4.fr 1051; have HT := zHi hT; have HS4 := zHi hS4; have HF4 := zHi hf; have HBB := zHi hB; have HNL := zHi ((show RI w3 F C p d3 H k w3 r2 from ⟨by rw [← q4]; exact hS3, by rw [s3.src]; exact k1, k2, Frm.refl _ _⟩).new)
   clear hf hf' hD4 hS4 hT hB hS3 hF3 s3 k1 k2 hat q1 q2 q3 q4 q5 c50 g50; go_wp2_with fail
   obtain ⟨w5, hw5⟩ : ∃ w5, w5 = (w4.setCell ⟨F, 1050, none⟩ (.pointer (some ⟨B, 0, none⟩))).setCell ⟨F, 1051, none⟩ (.pointer none) := ⟨_, rfl⟩; rw [← hw5]; obtain ⟨hS3, hF3, s3, k1, k2, hat, q1, q2, q3, q4, q5⟩ := HD3.out; obtain ⟨d5, hd5⟩ : ∃ d5 : DS, d5 = { d3 with hl := .pointer (some ⟨B, 0, none⟩), hd := .pointer none } := ⟨_, rfl⟩; have hf5 : Frm (SX F d3) w4 w5 := by rw [hw5]; exact ((Frm.refl _ _).setCell (.inl (.inr (.inr ⟨rfl, by simp⟩))) _).setCell (.inl (.inr (.inr ⟨rfl, by simp⟩))) _
   have hD5 : Dec w5 F d5 := by rw [hw5, hd5]; exact (HS4.out.dec.set_hl _).set_hd _
   have s5 : Same d3 d5 := by rw [hd5]; exact ⟨rfl, rfl, rfl, rfl, rfl, rfl⟩
   have hS5 : St w5 F C p d5 H k 0 := HS4.out.of hD5 hf5 (SX.ok HS4.out) s5 (by rw [hd5]; exact ⟨rfl, rfl, rfl, rfl, rfl⟩)
   obtain ⟨n1, n2, n3, n4, n5⟩ := HNL.out B HBB.out; have hTB : TabAt w5 B 0 fixedTab (LinkB F d3) := (HT.out.mono HNL.out).keep hf5 (fun x _ _ e => by
    rcases e with e | e | e
    · exact n2 e
    · exact n3 e
    · exact n1 e.1) (fun b hb x e => by
    rcases e with e | e | e
    · exact hb.2.1 e
    · exact hb.2.2.1 e
    · exact hb.1 e.1)
   have hN : LinkB F d5 = LinkB F d3 := by funext b; unfold LinkB; rw [s5.R, s5.HB, s5.BB, s5.CB]
   have hTabs : Tabs w5 F d5 fixedTab none := by
    refine ⟨⟨B, 0, by rw [hd5], by rw [hN]; exact hTB, fixedTab_ok, by rw [s5.R]; exact n2, by rw [s5.HB]; exact n3, by rw [s5.BB]; exact n4, by rw [s5.CB]; exact n5, fun e => absurd e n1⟩, by rw [hd5]⟩
   have hcall := huffmanBlock_any w5 F C p d5 H k m last r2 fixedTab none H hS5 (by rw [hd5]; exact q1) (by rw [hd5]; exact q2) (by rw [hd5]; exact q3) (by rw [s5.src, s3.src]; exact k1) k2 (by rw [hd5]; exact put_tabs q4 _ _) hTabs (by
    have hq : SS0 d5 H := q5.same (by rw [hd5]) (by rw [hd5]) (by rw [hd5]) (Nat.le_refl _)
    rcases hq with hq | ⟨hq, hc, D', a1, a2, a3, a4⟩
    · exact .inl ⟨hq, rfl⟩
    · exact .inr ⟨hq, 0, D', hc, a1, by omega, a2, a3, a4, (lz_zero H D').symm⟩) (by rw [s5.src, s3.src]; have := HM.out; omega)
   have HC := zHi hcall; have HFF := zHi (show Frm (SA F d) w w5 from (hF3.trans (HF4.out.mono fun b o e => e.elim)).trans (hf5.mono fun b o e => s3.SA (SX.sa e)))
   have HSS := zHi (s3.trans s5); clear hw5 hd5 hf5 hD5 s5 hS5 n1 n2 n3 n4 n5 hTB hN hTabs hcall hS3 hF3 s3 k1 k2 hat q1 q2 q3 q4 q5 c50' c51' g50' g51'; go_wp2_with fail
   refine HC.out.mono ?_; intro e w6 hP; obtain rfl : e = .returned (.tuple #[]) := hP.1; have HP := zHi hP; clear hP; go_wp2_with fail
   go_end0
   exact (HP.out.from_ HSS.out HFF.out).step HG.out
 have e1 : ((ty : Int) == 1) = false := by simp; omega
 by_cases t2 : ty = 2
 · as_aux_lemma =>
   have e2 : ((ty : Int) == 2) = true := by simp; omega
   have hgo := HGO.out; rw [if_neg t0, if_neg t1, if_pos t2] at hgo; have HG := zHi hgo; have hcall := readHuffman_any w3 F C p d3 H k r2 HD3.out.1 HD3.out.2.2.2.2.2.2.2.2.2.1 (by rw [HD3.out.2.2.1.src]; exact HD3.out.2.2.2.1) HD3.out.2.2.2.2.1
   rw [HD3.out.2.2.1.src] at hcall; have hgood := readHuff_good HD3.out.2.2.2.1 HD3.out.2.2.2.2.1; have HC := zHi hcall; have HGOOD := zHi hgood; clear t0 t1 t2 hgo hcall hgood; go_wp2_with fail
   refine HC.out.mono ?_; intro e w4 hP
   cases hRH : readHuff d.src r2 with
   | bad er rb =>
    rw [hRH] at hP; have hg := HG.out; rw [hRH] at hg; have HG2 := zHi hg; obtain ⟨v, d4, rfl, hv, hS4, s4, hp4, hwr4, hf4⟩ := hP; have c48 := hS4.dec.err; have g48 := hS4.dec.fr 1048; have HS4 := zHi (zAi hv (zAi hS4 (zAi s4 (zAi hp4 (zAi hwr4 hf4))))); have hvv : (∃ q, v = errAt q) ∨ ∃ x : Nat, v = corruptAt x := by
     cases er with
     | eof => exact .inl ⟨_, hv⟩
     | cut => exact .inl ⟨_, hv⟩
     | corrupt => exact .inr hv
    have hend : StepPost w F C p d k m (.next r, H) (.returned (.tuple #[])) (w4.setCell ⟨F, 1048, none⟩ v) := by
     obtain ⟨hS3, hF3, s3, k1, k2, hat, q1, q2, q3, q4, q5⟩ := HD3.out; have hf5 : Frm (SX F d4) w4 (w4.setCell ⟨F, 1048, none⟩ v) := (Frm.refl _ _).setCell (.inl (.inr (.inr ⟨rfl, by simp⟩))) _
     have hS5 := hS4.of (hS4.dec.set_err v) hf5 (SX.ok hS4) ⟨rfl, rfl, rfl, rfl, rfl, rfl⟩ ⟨rfl, rfl, rfl, rfl, rfl⟩; have s5 := s3.trans s4; exact (step_done (d := d) (e := er) (x := (.done er rb.pos, H)) hS5 ⟨s5.R, s5.base, s5.src, s5.BB, s5.CB, s5.HB⟩ (by simp only; rw [hwr4]; exact q2) hv (by rw [← hp4]) ((hF3.trans (hf4.mono fun b o e => s3.SA e)).trans (hf5.mono fun b o e => s5.SA (SX.sa e))) hm0).step HG2.out
    have HEND := zHi hend; clear hv hS4 s4 hp4 hwr4 hf4 hg hRH hend; rcases hvv with ⟨q, rfl⟩ | ⟨x, rfl⟩
    · go_wp2_with fail
      go_end0
      exact HEND.out
    · go_wp2_with fail
      go_end0
      exact HEND.out
   | ok TD r3 =>
    obtain ⟨T, D⟩ := TD; rw [hRH] at hP; have hg := HG.out; rw [hRH] at hg; have HG2 := zHi hg; have hgood := HGOOD.out; rw [hRH] at hgood; have HGD := zHi hgood; obtain ⟨rfl, hI4, hT1, hT2⟩ := hP; have c48 := hI4.st.dec.err; have c50 := hI4.st.dec.hl; have c51 := hI4.st.dec.hd; have g48 := hI4.st.dec.fr 1048; have g50 := hI4.st.dec.fr 1050; have g51 := hI4.st.dec.fr 1051; have HI4 := zHi hI4; have HT1 := zHi hT1; have HT2 := zHi hT2; clear hg hRH hgood hI4 hT1 hT2; go_wp2_with fail
    obtain ⟨w5, hw5⟩ : ∃ w5, w5 = ((w4.setCell ⟨F, 1048, none⟩ .nilIface).setCell ⟨F, 1050, none⟩ (.pointer (some ⟨F, 5, none⟩))).setCell ⟨F, 1051, none⟩ (.pointer (some ⟨F, 520, none⟩)) := ⟨_, rfl⟩; rw [← hw5]; obtain ⟨hS3, hF3, s3, k1, k2, hat, q1, q2, q3, q4, q5⟩ := HD3.out; obtain ⟨⟨o1, o2⟩, gk1, gk2, gk3⟩ := HGD.out; obtain ⟨d5, hd5⟩ : ∃ d5 : DS, d5 = { d3.put r3 with hl := .pointer (some ⟨F, 5, none⟩), hd := .pointer (some ⟨F, 520, none⟩) } := ⟨_, rfl⟩; have hf5 : Frm (SX F d3) w4 w5 := by rw [hw5]; exact (((Frm.refl _ _).setCell (.inl (.inr (.inr ⟨rfl, by simp⟩))) _).setCell (.inl (.inr (.inr ⟨rfl, by simp⟩))) _).setCell (.inl (.inr (.inr ⟨rfl, by simp⟩))) _
    have hD5 : Dec w5 F d5 := by rw [hw5, hd5]; exact ((HI4.out.st.dec.err_nil q1).set_hl _).set_hd _
    have s5 : Same d3 d5 := by rw [hd5]; exact ⟨rfl, rfl, rfl, rfl, rfl, rfl⟩
    have hS5 : St w5 F C p d5 H k 0 := HI4.out.st.of hD5 hf5 (SX.ok (d := d3.put r3) HI4.out.st) (by rw [hd5]; exact ⟨rfl, rfl, rfl, rfl, rfl, rfl⟩) (by rw [hd5]; exact ⟨rfl, rfl, rfl, rfl, rfl⟩)
    have hN : LinkB F d5 = LinkB F d3 := by funext b; unfold LinkB; rw [s5.R, s5.HB, s5.BB, s5.CB]
    have nBF := hD5.neBF; have nCF := hD5.neCF; have nRF := hD5.neRF; have nHF := hD5.neHF; have hkeep : ∀ (o : Nat) (T : Tab), 5 ≤ o → o + 515 ≤ 1035 → TabAt w4 F o T (LinkB F d3) → TabAt w5 F o T (LinkB F d5) := fun o T h1 h2 hT => by
     rw [hN]; rw [s5.R] at nRF; rw [s5.HB] at nHF; exact hT.keep hf5 (fun x h3 h4 e => by
      rcases e with e | e | e
      · exact nRF e.symm
      · exact nHF e.symm
      · omega) (fun b hb x e => by
      rcases e with e | e | e
      · exact hb.2.1 e
      · exact hb.2.2.1 e
      · exact hb.1 e.1)
    have hTabs : Tabs w5 F d5 T (some D) :=
     ⟨⟨F, 5, by rw [hd5], hkeep 5 T (by omega) (by omega) HT1.out, o1, fun e => nRF e.symm, fun e => nHF e.symm, fun e => nBF e.symm, fun e => nCF e.symm, fun _ => by omega⟩,
      ⟨F, 520, by rw [hd5], hkeep 520 D (by omega) (by omega) HT2.out, o2, fun e => nRF e.symm, fun e => nHF e.symm, fun e => nBF e.symm, fun e => nCF e.symm, fun _ => by omega⟩⟩
    have hcall := huffmanBlock_any w5 F C p d5 H k m last r3 T (some D) H hS5 (by rw [hd5]; exact q1) (by rw [hd5]; exact q2) (by rw [hd5]; exact q3) (by rw [s5.src, s3.src]; exact gk1) gk3 (by rw [hd5]; exact put_tabs (d := d3.put r3) rfl _ _) hTabs (by
     have hq : SS0 d5 H := q5.same (by rw [hd5]; rfl) (by rw [hd5]; rfl) (by rw [hd5]; rfl) (Nat.le_refl _)
     rcases hq with hq | ⟨hq, hc, D', a1, a2, a3, a4⟩
     · exact .inl ⟨hq, rfl⟩
     · exact .inr ⟨hq, 0, D', hc, a1, by omega, a2, a3, a4, (lz_zero H D').symm⟩) (by rw [s5.src, s3.src]; have := HM.out; omega)
    have HC2 := zHi hcall; have HFF := zHi (show Frm (SA F d) w w5 from (hF3.trans (HI4.out.frm.mono fun b o e => s3.SA e)).trans (hf5.mono fun b o e => s3.SA (SX.sa e)))
    have HSS := zHi (s3.trans s5); clear hw5 hd5 hf5 hD5 s5 hS5 hN hkeep hTabs hcall hS3 hF3 s3 k1 k2 hat q1 q2 q3 q4 q5 o1 o2 gk1 gk2 gk3 nBF nCF nRF nHF c48 c50 c51 g48 g50 g51; go_wp2_with fail
    refine HC2.out.mono ?_; intro e w6 hP; obtain rfl : e = .returned (.tuple #[]) := hP.1; have HP := zHi hP; clear hP; go_wp2_with fail
    go_end0
    exact (HP.out.from_ HSS.out HFF.out).step HG2.out
 · as_aux_lemma =>
   have e2 : ((ty : Int) == 2) = false := by simp; omega
   have hgo := HGO.out; rw [if_neg t0, if_neg t1, if_neg t2] at hgo; have HG := zHi hgo; have c2 : w3.cell? ⟨F, 2, none⟩ = some (.int .i64 (r2.pos : Int)) := by
    obtain ⟨hS3, hF3, s3, k1, k2, hat, q1, q2, q3, q4, q5⟩ := HD3.out; have := hS3.dec.roff; rw [congrArg DS.roff q4] at this; exact this
   have c48 := HD3.out.1.dec.err; have g48 := HD3.out.1.dec.fr 1048; clear t0 t1 t2 hgo; go_wp2_with fail
   go_end0
   obtain ⟨hS3, hF3, s3, k1, k2, hat, q1, q2, q3, q4, q5⟩ := HD3.out; have hf5 : Frm (SX F d3) w3 (w3.setCell ⟨F, 1048, none⟩ (corruptAt r2.pos)) := (Frm.refl _ _).setCell (.inl (.inr (.inr ⟨rfl, by simp⟩))) _
   have hS5 := hS3.of (hS3.dec.set_err (corruptAt r2.pos)) hf5 (SX.ok hS3) ⟨rfl, rfl, rfl, rfl, rfl, rfl⟩ ⟨rfl, rfl, rfl, rfl, rfl⟩; have hpos : d3.pos = r2.pos := congrArg DS.pos q4; exact (step_done (d := d) (e := .corrupt) (x := (.done .corrupt r2.pos, H)) hS5 ⟨s3.R, s3.base, s3.src, s3.BB, s3.CB, s3.HB⟩ q2 ⟨r2.pos, rfl⟩ (by rw [← hpos]) (hF3.trans (hf5.mono fun b o e => s3.SA (SX.sa e))) hm0).step HG.out
structure RS (F C : Nat) (p : Ps) (d0 : DS) (x0 : Cfg × List UInt8) (k : Nat) (w : World) (d : DS) (H : List UInt8) (n : Nat) (x : Cfg × List UInt8) : Prop where
 st : St w F C p d H k n
 mode : Mode w F p d H x
 reach : Flate.Reach d0.src x0 x
 same : Same d0 d
 wr : d.wr < 32768
 fl : (0 < n ∨ d.err ≠ .nilIface) → d.rd = d.wr
theorem errV_ne {p : Ps} {e : Err} {v : Value} (h : ErrV p e v) : v ≠ .nilIface ∧ ((∃ q, v = errAt q) ∨ ∃ x : Nat, v = corruptAt x) := by
 cases e with
 | eof => rw [h]; exact ⟨by simp, .inl ⟨_, rfl⟩⟩
 | cut => rw [h]; exact ⟨by simp, .inl ⟨_, rfl⟩⟩
 | corrupt => obtain ⟨y, rfl⟩ := h; exact ⟨by simp, .inr ⟨y, rfl⟩⟩
theorem Mode.err {w : World} {F : Nat} {p : Ps} {d : DS} {H : List UInt8} {x : Cfg × List UInt8} (h : Mode w F p d H x) :
 d.err = .nilIface ∨ ∃ e q, x = (.done e q, H) ∧ ErrV p e d.err ∧ d.pos = q := by
 obtain ⟨c, H'⟩ := x
 cases c with
 | next r => exact .inl h.1
 | huff last r T D => exact .inl h.1
 | done e q =>
  rcases h with ⟨h1, h2, h3⟩ | h
  · exact .inr ⟨e, q, by rw [h2], h1, h3⟩
  · exact .inl h.1
def StepFn (fn : Nat) : Prop := ∀ (a : Addr) (W : World), (callFunc fn #[.pointer (some a)]).run Tryz.prog W = .ok (.enter fn #[.pointer (some a)]) W
theorem step_copy : StepFn 87 := fun a W => by kernel_rfl
theorem step_next : StepFn 74 := fun a W => by kernel_rfl
theorem step_huff : StepFn 82 := fun a W => by kernel_rfl
theorem step_any {F C : Nat} {p : Ps} {d0 : DS} {x0 : Cfg × List UInt8} {k : Nat} {w : World} {d : DS} {H : List UInt8} {x : Cfg × List UInt8} (h : RS F C p d0 x0 k w d H 0 x) (he : d.err = .nilIface) :
 ∃ fn, d.step = fnV fn ∧ StepFn fn ∧ Calls Tryz.prog fn #[.pointer (some ⟨F, 0, none⟩)] w (StepPost w F C p d k (dmu d) x) := by
 have hcp : ∀ (n : Nat) (y : Cfg × List UInt8), d.step = fnV 87 → SS1 d H → d.cl = n → n ≤ 65535 → d = d.put ⟨8 * d.pos, d.pos⟩ → stRest d.src d.fin d.pos n H = y →
  ∃ fn, d.step = fnV fn ∧ StepFn fn ∧ Calls Tryz.prog fn #[.pointer (some ⟨F, 0, none⟩)] w (StepPost w F C p d k (dmu d) y) := by
  intro n y hstep hs1 hcl hn hd hst; have hnb : d.nb = 0 := by have := congrArg DS.nb hd; rw [this]; unfold DS.put Br.nb; simp only; omega
  have hmu := dmu_nil he; have hN : stepN d.step = 1 := by rw [hstep]; rfl
  have hle := h.st.dec.so.le; exact ⟨_, hstep, step_copy, copyData_any w F C p d H k n (dmu d) y h.st he hd hcl hn h.wr hs1 hst (fun hl => by rw [hmu, hN, hnb]; omega) (by rw [hmu]; omega)⟩
 obtain ⟨c, H'⟩ := x
 have hm := h.mode
 cases c with
 | next r =>
  obtain ⟨_, ⟨hstep, rfl, hr, hnb, hd, hs0⟩ | ⟨hstep, hs1, n, hcl, hn, hd, hst⟩⟩ := hm
  · refine ⟨_, hstep, step_next, nextBlock_any w F C p d H' k (dmu d) r h.st he h.wr hd hr hnb hs0 ?_⟩; rw [dmu_nil he]; have h1 : d.pos = r.pos := congrArg DS.pos hd; have h2 : d.nb = r.nb := congrArg DS.nb hd; have h3 := hr.1; rw [h1, h2]; unfold Br.nb; omega
  · exact hcp n _ hstep hs1 hcl hn hd hst
 | huff last r T D =>
  obtain ⟨_, hstep, hfin, hr, hnb, hd, hT, hs⟩ := hm; refine ⟨_, hstep, step_huff, huffmanBlock_any w F C p d H k (dmu d) last r T D H' h.st he h.wr hfin hr hnb hd hT hs ?_⟩; rw [dmu_nil he]; have h1 : d.pos = r.pos := congrArg DS.pos hd; have h2 : d.nb = r.nb := congrArg DS.nb hd; have h3 := hr.1; rw [h1, h2]; unfold Br.nb; omega
 | done e q =>
  rcases hm with ⟨h1, _⟩ | ⟨_, hstep, hs1, n, hcl, hn, hd, hst⟩
  · exact absurd he (errV_ne h1).1
  · exact hcp n _ hstep hs1 hcl hn hd hst
theorem TabAt.buf {w w' : World} {B o : Nat} {T : Tab} {N : Nat → Prop} {BX : Nat} {u : Int} (h : TabAt w B o T N) (hu : w.cell? ⟨BX, 0, none⟩ = some (.int .u8 u)) (hf : Frm (fun b _ => b = BX) w w') (hB : B ≠ BX) : TabAt w' B o T N := by
 have ne : ∀ {b : Nat} {v : Value}, w.cell? ⟨b, 0, none⟩ = some v → v ≠ .int .u8 u → b ≠ BX := fun hc hv e => by
  rw [e, hu] at hc; exact hv (Option.some.inj hc).symm
 refine ⟨hf.keep h.min hB, fun i hi => hf.keep (h.ch i hi) hB, hf.keep h.mask hB, fun e => hf.keep (h.none_ e) hB, fun e => ?_⟩
 obtain ⟨L, hL, h1, h2⟩ := h.some_ e
 have hlen : 0 < T.links.length := List.length_pos_iff.2 e
 obtain ⟨b0, _, h30, _⟩ := h2 0 hlen
 have hLne : L ≠ BX := ne h30 (by simp)
 refine ⟨L, hL, hf.keep h1 hB, fun k hk => ?_⟩
 obtain ⟨b, hb, h3, h4⟩ := h2 k hk
 have hbne : b ≠ BX := ne (h4 0 (by omega)) (by simp)
 exact ⟨b, hb, hf.keep h3 hLne, fun j hj => hf.keep (h4 j hj) hbne⟩
structure Buf (w : World) (F C : Nat) (d : DS) (BX L : Nat) : Prop where
 lo : C ≤ BX
 cell : ∀ j, j < L → ∃ u : UInt8, w.cell? ⟨BX, j, none⟩ = some (.int .u8 (u.toNat : Int))
 all : ∀ o v, w.cell? ⟨BX, o, none⟩ = some v → ∃ u : Int, v = .int .u8 u
 froz : ∀ j, w.frozen? ⟨BX, j, none⟩ = false
 nF : BX ≠ F
 nR : BX ≠ d.R
 nH : BX ≠ d.HB
 nB : BX ≠ d.BB
 nC : BX ≠ d.CB
 nS : ∀ a, d.base = some a → a.block ≠ BX
theorem Buf.keep {w w' : World} {F C : Nat} {d d' : DS} {BX L : Nat} (h : Buf w F C d BX L) (hL : 0 < L) (hf : Frm (SA F d) w w') (hs : Same d d') : Buf w' F C d' BX L := by
 have hn : ∀ o, ¬ SA F d BX o := fun o e => by
  rcases e with e | e | e | e | e
  · exact h.nF e
  · exact h.nR e
  · exact h.nH e
  · exact h.nB e
  · exact h.nC e
 obtain ⟨u, hu⟩ := h.cell 0 hL
 have hlt := cell_lt hu
 exact ⟨h.lo, fun j hj => by obtain ⟨u, hu⟩ := h.cell j hj; exact ⟨u, hf.keep hu (hn j)⟩, fun o v hv => h.all o v ((hf.cell BX o hlt (hn o)).symm.trans hv), fun j => (hf.froz BX j hlt).trans (h.froz j), h.nF, by rw [hs.R]; exact h.nR, by rw [hs.HB]; exact h.nH, by rw [hs.BB]; exact h.nB, by rw [hs.CB]; exact h.nC, by rw [hs.base]; exact h.nS⟩
theorem St.buf {w w' : World} {F C : Nat} {p : Ps} {d : DS} {H : List UInt8} {k n BX L : Nat} (h : St w F C p d H k n) (hb : Buf w F C d BX L) (hf : Frm (fun b _ => b = BX) w w') : St w' F C p d H k n := by
 refine h.of (h.dec.keep hf (fun o e => absurd e.symm hb.nF) (fun o e => hb.nR e.symm) (fun o e => hb.nH e.symm) (fun a ha j _ e => hb.nS a ha e)) hf (fun b o e => ?_) (Same.refl _) ⟨rfl, rfl, rfl, rfl, rfl⟩
 subst e; exact ⟨hb.lo, fun e => absurd e hb.nF⟩
theorem TabV.buf {w w' : World} {F C : Nat} {d d' : DS} {BX L : Nat} {v : Value} {T : Tab} (h : TabV w F d v T) (hb : Buf w F C d BX L) (hL : 0 < L) (hf : Frm (fun b _ => b = BX) w w') (hs : Same d d') : TabV w' F d' v T := by
 obtain ⟨B, o, h1, h2, h3, h4, h5, h6, h7, h8⟩ := h
 obtain ⟨u, hu⟩ := hb.cell 0 hL
 have hN : LinkB F d' = LinkB F d := by funext b; unfold LinkB; rw [hs.R, hs.HB, hs.BB, hs.CB]
 have hB : B ≠ BX := by
  intro e; have hm := h2.min; rw [e] at hm; obtain ⟨u', hu'⟩ := hb.all _ _ hm; simp at hu'
 exact ⟨B, o, h1, by rw [hN]; exact h2.buf hu hf hB, h3, by rw [hs.R]; exact h4, by rw [hs.HB]; exact h5, by rw [hs.BB]; exact h6, by rw [hs.CB]; exact h7, h8⟩
theorem Tabs.buf {w w' : World} {F C : Nat} {d d' : DS} {BX L : Nat} {T : Tab} {D : Option Tab} (h : Tabs w F d T D) (hb : Buf w F C d BX L) (hL : 0 < L) (hf : Frm (fun b _ => b = BX) w w') (hs : Same d d') (h1 : d'.hl = d.hl) (h2 : d'.hd = d.hd) : Tabs w' F d' T D := by
 cases D with
 | none => exact ⟨by rw [h1]; exact h.1.buf hb hL hf hs, h2.trans h.2⟩
 | some D => exact ⟨by rw [h1]; exact h.1.buf hb hL hf hs, by rw [h2]; exact h.2.buf hb hL hf hs⟩
structure MSame (d d' : DS) : Prop where
 err : d'.err = d.err
 step : d'.step = d.step
 fin : d'.fin = d.fin
 ss : d'.ss = d.ss
 cl : d'.cl = d.cl
 cd : d'.cd = d.cd
 pos : d'.pos = d.pos
 b : d'.b = d.b
 nb : d'.nb = d.nb
 roff : d'.roff = d.roff
theorem MSame.put {d d' : DS} (h : MSame d d') (hs : Same d d') {r : Br} (hd : d = d.put r) : d' = d'.put r := by
 have e1 : d'.b = r.b d'.src := by rw [h.b, hs.src]; exact congrArg DS.b hd
 have e2 : d'.nb = r.nb := h.nb.trans (congrArg DS.nb hd)
 have e3 : d'.roff = r.pos := h.roff.trans (congrArg DS.roff hd)
 have e4 : d'.pos = r.pos := h.pos.trans (congrArg DS.pos hd)
 clear h hs hd
 cases d'
 simp only at e1 e2 e3 e4
 subst e3 e4
 unfold DS.put
 simp only
 rw [← e1, ← e2]
theorem Mode.of {w w' : World} {F : Nat} {p : Ps} {d d' : DS} {H : List UInt8} {x : Cfg × List UInt8} (h : Mode w F p d H x) (hs : Same d d') (hm : MSame d d') (hT : ∀ T D, Tabs w F d T D → Tabs w' F d' T D) : Mode w' F p d' H x := by
 have hput0 : d = d.put ⟨8 * d.pos, d.pos⟩ → d' = d'.put ⟨8 * d'.pos, d'.pos⟩ := fun hd => by
  have := hm.put hs hd; rw [hm.pos]; exact this
 obtain ⟨c, H'⟩ := x
 cases c with
 | next r =>
  obtain ⟨he, ⟨hstep, h1, hr, hnb, hd, hs0⟩ | ⟨hstep, hs1, n, hcl, hn, hd, hst⟩⟩ := h
  · exact ⟨hm.err.trans he, .inl ⟨hm.step.trans hstep, h1, by rw [hs.src]; exact hr, hnb, hm.put hs hd, hs0.same hm.ss hm.cd hm.cl (Nat.le_refl _)⟩⟩
  · exact ⟨hm.err.trans he, .inr ⟨hm.step.trans hstep, hs1.same hm.ss hm.cd (Nat.le_refl _), n, hm.cl.trans hcl, hn, hput0 hd, by rw [hs.src, hm.fin, hm.pos]; exact hst⟩⟩
 | huff last r T D =>
  obtain ⟨he, hstep, hfin, hr, hnb, hd, hTT, hss⟩ := h; refine ⟨hm.err.trans he, hm.step.trans hstep, hm.fin.trans hfin, by rw [hs.src]; exact hr, hnb, hm.put hs hd, hT _ _ hTT, ?_⟩
  rcases hss with ⟨e1, e2⟩ | ⟨e1, n, D', e2, e3, e4⟩
  · exact .inl ⟨hm.ss.trans e1, e2⟩
  · exact .inr ⟨hm.ss.trans e1, n, D', hm.cl.trans e2, hm.cd.trans e3, e4⟩
 | done e q =>
  rcases h with ⟨h1, h2, h3⟩ | ⟨he, hstep, hs1, n, hcl, hn, hd, hst⟩
  · exact .inl ⟨by rw [hm.err]; exact h1, h2, hm.pos.trans h3⟩
  · exact .inr ⟨hm.err.trans he, hm.step.trans hstep, hs1.same hm.ss hm.cd (Nat.le_refl _), n, hm.cl.trans hcl, hn, hput0 hd, by rw [hs.src, hm.fin, hm.pos]; exact hst⟩
theorem run_rest (HB off n cap m : Nat) (hm : m ≤ n) (hc : n ≤ cap) :
 ∃ base, (∀ w : World, (Instr.sliceAt 22 (.slice (some ⟨HB, off, none⟩) n cap) (some (.int .i64 (m : Int))) none none).run Tryz.prog w = .ok (.slice base (n - m) (cap - m)) w) ∧ (m < n → base = some ⟨HB, off + m, none⟩) := by
 have hsz : ∀ w : World, (sizeOf (Tryz.prog.elem 22)).run Tryz.prog w = .ok 1 w := fun w => by kernel_rfl
 have hu : Tryz.prog.underlying 22 = some (.slice (Tryz.prog.elem 22)) := by kernel_rfl
 refine ⟨if cap = m then some ⟨HB, off, none⟩ else some (Addr.add ⟨HB, off, none⟩ m), fun w => ?_, fun h => ?_⟩
 · rw [run_sliceAt_slice w _ _ _ _ _ hu, run_slice_l w _ _ _ _ hu _ _ (by omega) (by omega), hsz]
   simp [Result.andThen, sliced]
 · rw [if_neg (by omega)]
   unfold Addr.add; split
   · rename_i e; subst e; rfl
   · rfl
def ReadDone (F C : Nat) (p : Ps) (d0 : DS) (x0 : Cfg × List UInt8) (k L BX : Nat) (w : World) (e : Ending) (w' : World) : Prop :=
 ∃ (m : Nat) (errv : Value), e = .returned (.tuple #[.int .i64 (m : Int), errv]) ∧ ∃ d H n x, m ≤ L ∧ RS F C p d0 x0 (k + m) w' d H n x ∧ Frm (fun b o => SA F d0 b o ∨ b = BX) w w' ∧ Buf w' F C d BX L ∧
  (∀ j, j < m → w'.cell? ⟨BX, j, none⟩ = some (.int .u8 ((H.getD (k + j) 0).toNat : Int))) ∧
  (errv = .nilIface ∧ 1 ≤ m ∨ ∃ er q, x = (.done er q, H) ∧ ErrV p er errv ∧ k + m = H.length ∧ d.pos = q ∧ d.err = errv)
theorem RS.taken {F C : Nat} {p : Ps} {d0 : DS} {x0 : Cfg × List UInt8} {k : Nat} {wr w2 : World} {d : DS} {H : List UInt8} {n : Nat} {x : Cfg × List UInt8} (h : RS F C p d0 x0 k wr d H n x) {BX L : Nat} (hb : Buf wr F C d BX L) (hL : 0 < L) (hf : Frm (fun b _ => b = BX) wr w2)
 (hall : ∀ o v, w2.cell? ⟨BX, o, none⟩ = some v → ∃ u : Int, v = .int .u8 u) (hcell : ∀ j, j < L → ∃ u : UInt8, w2.cell? ⟨BX, j, none⟩ = some (.int .u8 (u.toNat : Int))) {m nm off cap : Nat} {base' : Option Addr} (hm : m ≤ n) (hnm : nm = n - m) (hcap : n ≤ cap) (hoff : off + n ≤ 32768) (hval : ∀ j, j < n → d.g (off + j) = H.getD (k + j) 0) (hbase : m < n → base' = some ⟨d.HB, off + m, none⟩) (hn : 0 < n) :
 RS F C p d0 x0 (k + m) (w2.setCell ⟨F, 1049, none⟩ (.slice base' nm (cap - m))) { d with toRead := .slice base' nm (cap - m) } H nm x ∧ Buf (w2.setCell ⟨F, 1049, none⟩ (.slice base' nm (cap - m))) F C { d with toRead := .slice base' nm (cap - m) } BX L := by
 have hS2 := h.st.buf hb hf
 have hf3 : Frm (SX F d) w2 (w2.setCell ⟨F, 1049, none⟩ (.slice base' nm (cap - m))) := (Frm.refl _ _).setCell (.inl (.inr (.inr ⟨rfl, by simp⟩))) _
 have hD := hS2.dec.set_toRead (.slice base' nm (cap - m))
 have hbb : ∀ b o, SX F d b o → C ≤ b := fun b o x => ((SX.ok hS2) b o x).1
 have hp : ∀ x, 5 ≤ x → x < 1035 → ¬ SX F d F x := fun x h1 h2 e => by have := ((SX.ok hS2) F x e).2 rfl; omega
 have hsum := h.st.out.sum
 refine ⟨⟨⟨hS2.env.keep hf3 hbb, hS2.cF, hS2.cR, hS2.cH, hS2.cB, hS2.cC, hD, hS2.win, hS2.rd, hS2.rd2, hS2.ful, hS2.nful, ⟨by show k + m + nm + (d.wr - d.rd) = H.length; omega, base', cap - m, rfl, by omega, ?_⟩, hS2.pre1.keep hf3 (fun x a b => hp x a (by omega)), hS2.pre2.keep hf3 (fun x a b => hp x (by omega) (by omega))⟩, ?_, h.reach, ⟨h.same.R, h.same.base, h.same.src, h.same.BB, h.same.CB, h.same.HB⟩, h.wr, fun q => h.fl (.inl hn)⟩, ?_⟩
 · by_cases h0 : nm = 0
   · exact .inl h0
   · refine .inr ⟨off + m, hbase (by omega), by omega, fun j hj => ?_⟩
     have := hval (m + j) (by omega)
     rw [← Nat.add_assoc, ← Nat.add_assoc] at this; exact this
 · refine h.mode.of ⟨rfl, rfl, rfl, rfl, rfl, rfl⟩ ⟨rfl, rfl, rfl, rfl, rfl, rfl, rfl, rfl, rfl, rfl⟩ (fun T D hT => ?_)
   have h1 := hT.buf hb hL hf (Same.refl d) rfl rfl; exact h1.keep hf3 ⟨rfl, rfl, rfl, rfl, rfl, rfl⟩ rfl rfl
 · have hlt : BX < w2.heap.size := by obtain ⟨u, hu⟩ := hcell 0 hL; exact cell_lt hu
   obtain ⟨u0, hu0⟩ := hb.cell 0 hL; exact ⟨hb.lo, fun j hj => by rw [cell_set_ne (.inl hb.nF)]; exact hcell j hj, fun o v hv => by rw [cell_set_ne (.inl hb.nF)] at hv; exact hall o v hv, fun j => by rw [World.frozen?_setCell]; exact (hf.froz BX j (cell_lt hu0)).trans (hb.froz j), hb.nF, hb.nR, hb.nH, hb.nB, hb.nC, hb.nS⟩
theorem RS.drewN {F C : Nat} {p : Ps} {d0 : DS} {x0 : Cfg × List UInt8} {k : Nat} {w : World} {d : DS} {H : List UInt8} {n : Nat} {x : Cfg × List UInt8} (h : RS F C p d0 x0 k w d H n x) (q : Nat) : RS F C p d0 x0 k (w.drewN q) d H n x := by
 have hf : Frm (SX F d) w (w.drewN q) := (Frm.refl _ _).drewN q
 exact ⟨h.st.of (h.st.dec.drewN q) hf (SX.ok h.st) (Same.refl _) ⟨rfl, rfl, rfl, rfl, rfl⟩, h.mode.of (Same.refl _) ⟨rfl, rfl, rfl, rfl, rfl, rfl, rfl, rfl, rfl, rfl⟩ (fun T D hT => hT.keep hf (Same.refl _) rfl rfl), h.reach, h.same, h.wr, h.fl⟩
theorem Buf.drewN {w : World} {F C : Nat} {d : DS} {BX L : Nat} (h : Buf w F C d BX L) (q : Nat) : Buf (w.drewN q) F C d BX L := ⟨h.lo, h.cell, h.all, h.froz, h.nF, h.nR, h.nH, h.nB, h.nC, h.nS⟩
def RdInv (F C : Nat) (p : Ps) (d0 : DS) (x0 : Cfg × List UInt8) (k BX L : Nat) (w : World) (gk : Nat) (wr : World) : Prop :=
 ∃ d H n x, RS F C p d0 x0 k wr d H n x ∧ Frm (SA F d0) w wr ∧ Buf wr F C d BX L ∧ gk = if 0 < n then 0 else dmu d
set_option maxHeartbeats 4000000 in
theorem read_any (w : World) (F C : Nat) (p : Ps) (d : DS) (x : Cfg × List UInt8) (k n : Nat) (H : List UInt8) (d0 : DS) (x0 : Cfg × List UInt8) (h : RS F C p d0 x0 k w d H n x) (BX L cap : Nat) (hb : Buf w F C d BX L) (hL : 1 ≤ L) (hL2 : L ≤ 1048576) :
 Calls Tryz.prog 130 #[.pointer (some ⟨F, 0, none⟩), .slice (some ⟨BX, 0, none⟩) L cap] w (ReadDone F C p d0 x0 k L BX w) := by
 have HRS := zHi h
 have HB := zHi hb
 clear h hb
 go_enter Tryz.func130, Tryz.ntmps130
 go_wp2_with fail
 go_loopg [6] (if 0 < n then 0 else dmu d) (fun gk _ wr => RdInv F C p d0 x0 k BX L w gk wr)
 case atStart => exact ⟨d, H, n, x, HRS.out, Frm.refl _ _, HB.out, rfl⟩
 case round =>
  clear HRS HB; obtain ⟨d, H, n, x, hRS, hF, hB, hgk⟩ := hrel; obtain ⟨base, tcap, ht, hcap, hcells⟩ := hRS.st.out.at_; have c49 := hRS.st.dec.toRead; rw [ht] at c49; have g49 := hRS.st.dec.fr 1049; have c48 := hRS.st.dec.err; have HRS := zHi hRS; have HF := zHi hF; have HB := zHi hB
  by_cases hn : 0 < n
  · as_aux_lemma =>
    rcases hcells with e | ⟨off, rfl, hoff, hval⟩
    · omega
    obtain ⟨m, hm⟩ : ∃ m, m = Nat.min n L := ⟨_, rfl⟩; obtain ⟨m1, m2, m3⟩ := min_cases n L; rw [← hm] at m1 m2 m3; have nHX : d.HB ≠ BX := fun e => hB.nH e.symm
    obtain ⟨w2, hrun, hf2, hc2⟩ := copy_bytes wr BX 0 L cap ⟨d.HB, off, none⟩ n tcap m (fun j => H.getD (k + j) 0) hm (fun j hj => by
     have e : (⟨d.HB, off, none⟩ : Addr).add j = ⟨d.HB, off + j, none⟩ := by unfold Addr.add; split <;> simp_all
     rw [e, hRS.st.dec.win (off + j) (by omega), hval j (by omega)]) (fun j hj => by
     obtain ⟨u, hu⟩ := hB.cell j (by omega)
     rw [Nat.zero_add, hu]; rfl) (fun j _ => by rw [Nat.zero_add]; exact hB.froz j)
    have hrun0 : ∀ ty, (Builtin.copy_ #[22, 22] ty #[.slice (some ⟨BX, 0, none⟩) L cap, .slice (some ⟨d.HB, off, none⟩) n tcap]).run Tryz.prog wr = .ok (.int .i64 (m : Int)) w2 := fun ty => hrun 0 ty
    obtain ⟨base', hsl, hbase⟩ := run_rest d.HB off n tcap m m1 hcap; obtain ⟨nm, hnm⟩ : ∃ nm, nm = n - m := ⟨_, rfl⟩; rw [← hnm] at hsl; have hf2' : Frm (fun b _ => b = BX) wr w2 := hf2.mono fun b o e => e.1
    have hS2 := hRS.st.buf hB hf2'; have e49 := hS2.dec.toRead; rw [ht] at e49; have k49 := hS2.dec.fr 1049; have e48 := hS2.dec.err; have b1 : (n : Int) ≤ 32768 := by omega
    have b2 : (m : Int) ≤ (n : Int) := by omega
    have b3 : 0 < m := by omega
    have hcell2 : ∀ j, j < L → ∃ u : UInt8, w2.cell? ⟨BX, j, none⟩ = some (.int .u8 (u.toNat : Int)) := fun j hj => by
     by_cases hjm : j < m
     · have := hc2 j hjm; rw [Nat.zero_add] at this; exact ⟨_, this⟩
     · obtain ⟨u, hu⟩ := hB.cell j hj; exact ⟨u, hf2.keep hu (fun e => by omega)⟩
    have hall2 : ∀ o v, w2.cell? ⟨BX, o, none⟩ = some v → ∃ u : Int, v = .int .u8 u := fun o v hv => by
     by_cases hom : o < m
     · have := hc2 o hom; rw [Nat.zero_add, hv] at this; exact ⟨_, Option.some.inj this⟩
     · obtain ⟨u0, hu0⟩ := hB.cell 0 (by omega)
       exact hB.all o v ((hf2.cell BX o (cell_lt hu0) (fun e => by omega)).symm.trans hv)
    obtain ⟨hR3, hB3⟩ := hRS.taken hB (by omega) hf2' hall2 hcell2 m1 hnm hcap hoff hval hbase hn
    have hc3 : ∀ j, j < m → (w2.setCell ⟨F, 1049, none⟩ (.slice base' nm (tcap - m))).cell? ⟨BX, j, none⟩ = some (.int .u8 ((H.getD (k + j) 0).toNat : Int)) := fun j hj => by
     rw [cell_set_ne (.inl hB.nF)]; have := hc2 j hj; rw [Nat.zero_add] at this; exact this
    have hF3 : Frm (fun b o => SA F d0 b o ∨ b = BX) w (w2.setCell ⟨F, 1049, none⟩ (.slice base' nm (tcap - m))) := ((hF.mono fun b o e => .inl e).trans (hf2'.mono fun b o e => .inr e)).setCell (.inl (.inl (.inl rfl))) _
    have HEND := zHi (zAi hR3 (zAi hB3 (zAi hc3 hF3))); have q48 : (w2.setCell ⟨F, 1049, none⟩ (.slice base' nm (tcap - m))).cell? ⟨F, 1048, none⟩ = some d.err := hR3.st.dec.err; have HQ48 := zHi q48; clear hR3 hB3 hc3 hF3 hcell2 hall2 q48; have HS2 := zHi hS2; have HF2 := zHi hf2'; have HC2 := zHi hc2; have HBASE := zHi hbase; have HVAL := zHi hval; have HT := zHi ht; have HM := zHi (zAi m1 (zAi m2 m3)); have HCAP := zHi hcap; have HOFF := zHi hoff; have HGK := zHi hgk; clear hRS hF hB hf2 hf2' hc2 hbase hval hrun hm m1 m2 m3 ht hgk hS2 hcap hoff; have HNM := zHi hnm; clear hnm; have KC := c49; go_upto_region 3 with (with_reducible refine wpList_copy_run (by rfl) (.tmp 13) (.tmp 17) 22 22 (by rfl) (by rfl) (by rfl) hrun0 ?_)
    clear c49 g49 c48 hrun0 KC; go_upto_region 4 with (fail)
    clear hsl
    generalize hw3 : w2.setCell ⟨F, 1049, none⟩ (.slice base' nm (tcap - m)) = w3 at HEND HQ48 ⊢
    have c49 : w3.cell? ⟨F, 1049, none⟩ = some (.slice base' nm (tcap - m)) := by rw [← hw3]; exact set_get e49
    clear hw3 e49 k49 e48; have q48 := HQ48.out
    by_cases h0 : nm = 0
    · have e0 : ((nm : Int) == 0) = true := by simp; omega
      have H0 := zHi h0; clear h0; go_wp2_with fail
      (go_quiet (fail))
      go_wp2_with fail
      go_ret2
      obtain ⟨hR3, hB3, hc3, hF3⟩ := HEND.out; refine ⟨m, d.err, rfl, _, H, nm, x, HM.out.2.1, hR3.drewN nq, hF3.drewN nq, hB3.drewN nq, hc3, ?_⟩; rcases HRS.out.mode.err with e | ⟨er, q, e1, e2, e3⟩
      · exact .inl ⟨e, b3⟩
      · refine .inr ⟨er, q, e1, e2, ?_, e3, rfl⟩; have h1 := hR3.st.out.sum; have h2 := HRS.out.fl (.inl hn); have h3 := H0.out; simp only at h1; omega
    · have e0 : ((nm : Int) == 0) = false := by simp; omega
      clear h0; go_wp2_with fail
      go_ret2
      obtain ⟨hR3, hB3, hc3, hF3⟩ := HEND.out; exact ⟨m, .nilIface, rfl, _, H, nm, x, HM.out.2.1, hR3, hF3, hB3, hc3, .inl ⟨rfl, b3⟩⟩
  · as_aux_lemma =>
    obtain rfl : n = 0 := by omega
    clear hn hcells; rcases hRS.mode.err with he | ⟨er, q, e1, e2, e3⟩
    · obtain ⟨fn, hstep, hsf, hcall⟩ := step_any hRS he; have hcf := fun W => hsf ⟨F, 0, none⟩ W
      clear hsf; have c45 := hRS.st.dec.step; rw [hstep] at c45; rw [he] at c48; have HC := zHi hcall; have HGK := zHi hgk; have HHE := zHi he; clear hRS hF hB ht hgk hcall hstep hcap he; go_wp2_with fail
      refine HC.out.mono ?_; intro e w2 hP; obtain ⟨rfl, d', H', n', x', hS', hM', hr', hs', hw', hmu', hf'⟩ := hP; have hpos : 0 < dmu d := by rw [dmu_nil HHE.out]; omega
      have hRS' : (0 < n' ∨ d'.err = .nilIface) → RS F C p d0 x0 k w2 d' H' n' x' := fun hq => ⟨hS', hM', HRS.out.reach.trans (by rw [← HRS.out.same.src]; exact hr'), HRS.out.same.trans hs', hw'.1, fun q => hw'.2 (by
       rcases q with q | q
       · exact q
       · rcases hq with z | z
         · exact z
         · exact absurd z q)⟩
      have hF2 : Frm (SA F d0) w w2 := HF.out.trans (hf'.mono fun b o e => HRS.out.same.SA e)
      have hB2 := HB.out.keep (by omega) hf' hs'
      have hgk' : (if 0 < n' then 0 else dmu d') < gk := by
       have hge : gk = dmu d := by rw [HGK.out, if_neg (Nat.lt_irrefl 0)]
       rw [hge]; split
       · exact hpos
       · rcases hmu' with z | z <;> omega
      obtain ⟨base', tcap', ht', hcap', _⟩ := hS'.out.at_; have k49 := hS'.dec.toRead; rw [ht'] at k49; have k48 := hS'.dec.err; have l49 := hS'.dec.fr 1049; have hs2 : d'.rd ≤ d'.wr := hS'.rd; have hs3 : d'.rd < 32768 := hS'.rd2; have HX := zHi (zAi hRS' (zAi hF2 (zAi hB2 (zAi hgk' (zAi hS' (zAi hM' (zAi hr' (zAi hs' (zAi hw' hf'))))))))); clear hRS' hF2 hB2 hgk' hr' hs' hmu' hf' ht' hcap' hpos c45 c48 c49 g49 hcf; rcases hM'.err with he' | ⟨er, q, e1, e2, e3⟩
      · rw [he'] at k48; have HE' := zHi he'; clear hM' he' hS' hw'; go_wp2_with fail
        go_roundg (if 0 < n' then 0 else dmu d')
        case measure => exact HX.out.2.2.2.1
        case rel => exact ⟨d', H', n', x', HX.out.1 (.inr HE'.out), HX.out.2.1, HX.out.2.2.1, rfl⟩
      · obtain ⟨hne, hev⟩ := errV_ne e2
        by_cases hn' : 0 < n'
        · have en : ((n' : Int) == 0) = false := by simp; omega
          have HN' := zHi hn'; clear hM' hS' hw' e1 e2 e3 hn' hne; have HD := zHi (rfl : d'.err = d'.err)
          generalize d'.err = ev at k48 hev
          clear HD; rcases hev with ⟨q', rfl⟩ | ⟨y, rfl⟩
          all_goals
           go_wp2_with fail
           go_roundg (if 0 < n' then 0 else dmu d')
           case measure => exact HX.out.2.2.2.1
           case rel => exact ⟨d', H', n', x', HX.out.1 (.inl HN'.out), HX.out.2.1, HX.out.2.2.1, rfl⟩
        · obtain rfl : n' = 0 := by omega
          have HE := zHi (zAi e1 (zAi e2 e3)); have hwr := hw'.1; clear hM' hw' e1 e2 e3 hn' hne; have HDD := zHi hS'.dec; have HHS := zHi hS'; clear hS'; obtain ⟨ev, hevd⟩ : ∃ ev, ev = d'.err := ⟨_, rfl⟩; rw [← hevd] at k48 hev; clear hevd; rcases hev with ⟨q', rfl⟩ | ⟨y, rfl⟩
          all_goals
           go_wp2_with fail
           refine (readFlush_any _ F d' HDD.out (by omega) hs2 hs3).mono ?_
           rintro e w3 ⟨rfl, hD3, hf3⟩; rw [show (if d'.wr = 32768 then { d' with wr := 0, rd := 0, full := true } else { d' with rd := d'.wr } : DS) = d'.flushed from rfl] at hD3
           have m49 := hD3.toRead; have n49 := hD3.fr 1049; have HD3 := zHi hD3; have HF3 := zHi hf3; clear hD3 hf3 k48 k49 l49; go_wp2_with fail
           go_roundg 0
           case measure => exact Nat.lt_of_le_of_lt (Nat.zero_le _) HX.out.2.2.2.1
           case rel =>
            obtain ⟨_, hF2, hB2, _, hS', hM', hr', hs', hw', hf'⟩ := HX.out; obtain ⟨e1, e2, e3⟩ := HE.out; obtain ⟨fs, fp, fg⟩ := flushed_same d'; obtain ⟨f1, _⟩ := flushed_more d'; have hf4 : Frm (SX F d') w2 (w3.setCell ⟨F, 1049, none⟩ (.slice (some ⟨d'.HB, d'.rd, none⟩) (d'.wr - d'.rd) (32768 - d'.rd))) := (HF3.out.mono fun b o e => .inr (.inr ⟨e.1, by omega⟩)).setCell (.inl (.inr (.inr ⟨rfl, by simp⟩))) _
            obtain ⟨g1, g2, g3⟩ := hS'.flush (HD3.out.set_toRead (.slice (some ⟨d'.HB, d'.rd, none⟩) (d'.wr - d'.rd) (32768 - d'.rd))) hf4 (SX.ok hS') ⟨fs.R, fs.base, fs.src, fs.BB, fs.CB, fs.HB⟩ fg rfl rfl rfl rfl; have hs4 : Same d' { d'.flushed with toRead := .slice (some ⟨d'.HB, d'.rd, none⟩) (d'.wr - d'.rd) (32768 - d'.rd) } := ⟨fs.R, fs.base, fs.src, fs.BB, fs.CB, fs.HB⟩; refine ⟨_, H', _, x', ⟨g1, ?_, HRS.out.reach.trans (by rw [← HRS.out.same.src]; exact hr'), (HRS.out.same.trans hs').trans hs4, g2, fun _ => g3⟩, hF2.trans (hf4.mono fun b o e => (HRS.out.same.trans hs').SA (SX.sa e)), hB2.keep (by omega) (hf4.mono fun b o e => SX.sa e) hs4, ?_⟩
            · rw [e1]; exact .inl ⟨by show ErrV p er d'.flushed.err; rw [f1]; exact e2, rfl, by show d'.flushed.pos = q; rw [fp]; exact e3⟩
            · split
              · rfl
              · symm
                show dmu _ = 0
                have hne := (errV_ne e2).1; have : ({ d'.flushed with toRead := .slice (some ⟨d'.HB, d'.rd, none⟩) (d'.wr - d'.rd) (32768 - d'.rd) } : DS).err = d'.err := f1; unfold dmu; rw [this]; split
                · rename_i z; exact absurd z hne
                · rfl
    · have hev := (errV_ne e2).2; have HE := zHi (zAi e1 (zAi e2 e3)); have HGK := zHi hgk; have HEV := zHi (rfl : d.err = d.err); obtain ⟨ev, hevd⟩ : ∃ ev, ev = d.err := ⟨_, rfl⟩; rw [← hevd] at c48 hev; have HED := zHi hevd; clear hRS hF hB ht hgk hcap e1 e2 e3 hevd HEV; rcases hev with ⟨q', rfl⟩ | ⟨y, rfl⟩
      all_goals
       go_wp2_with fail
       (go_quiet (fail))
       go_wp2_with fail
       go_ret2
       obtain ⟨e1, e2, e3⟩ := HE.out; have hfl := HRS.out.fl (.inr (errV_ne e2).1); have hsum := HRS.out.st.out.sum; refine ⟨0, d.err, by rw [← HED.out]; rfl, d, H, 0, x, Nat.zero_le _, HRS.out.drewN nq, (HF.out.mono fun b o e => .inl e).drewN nq, HB.out.drewN nq, fun j hj => absurd hj (by omega), .inr ⟨er, q, e1, e2, by omega, e3, rfl⟩⟩
def SBy (w : World) (N0 : Nat) (b _ : Nat) : Prop := N0 ≤ b ∧ ByteBlock w b
theorem TabAt.by_ {w w' : World} {B o : Nat} {T : Tab} {N : Nat → Prop} {N0 : Nat} (h : TabAt w B o T N) (hf : Frm (SBy w N0) w w') : TabAt w' B o T N := by
 have key : ∀ {b o : Nat} {v : Value}, w.cell? ⟨b, o, none⟩ = some v → (∀ u : Int, v ≠ .int .u8 u) → w'.cell? ⟨b, o, none⟩ = some v := fun hc hv => hf.keep hc (fun q => by
  obtain ⟨u, hu⟩ := q.2 _ _ hc; exact hv u hu)
 refine ⟨key h.min (by simp), fun i hi => key (h.ch i hi) (by simp), key h.mask (by simp), fun e => key (h.none_ e) (by simp), fun e => ?_⟩
 obtain ⟨L, hL, h1, h2⟩ := h.some_ e
 refine ⟨L, hL, key h1 (by simp), fun k hk => ?_⟩
 obtain ⟨b, hb, h3, h4⟩ := h2 k hk
 exact ⟨b, hb, key h3 (by simp), fun j hj => key (h4 j hj) (by simp)⟩
theorem TabV.by_ {w w' : World} {F : Nat} {d : DS} {v : Value} {T : Tab} {N0 : Nat} (h : TabV w F d v T) (hf : Frm (SBy w N0) w w') : TabV w' F d v T := by
 obtain ⟨B, o, h1, h2, h3⟩ := h
 exact ⟨B, o, h1, h2.by_ hf, h3⟩
theorem Tabs.by_ {w w' : World} {F : Nat} {d : DS} {T : Tab} {D : Option Tab} {N0 : Nat} (h : Tabs w F d T D) (hf : Frm (SBy w N0) w w') : Tabs w' F d T D := by
 cases D with
 | none => exact ⟨h.1.by_ hf, h.2⟩
 | some D => exact ⟨h.1.by_ hf, h.2.by_ hf⟩
structure LowD (F : Nat) (d : DS) (N0 : Nat) : Prop where
 F : F < N0
 R : d.R < N0
 H : d.HB < N0
 B : d.BB < N0
 C : d.CB < N0
 S : ∀ a, d.base = some a → a.block < N0
theorem LowD.same {F : Nat} {d d' : DS} {N0 : Nat} (h : LowD F d N0) (hs : Same d d') : LowD F d' N0 :=
 ⟨h.F, by rw [hs.R]; exact h.R, by rw [hs.HB]; exact h.H, by rw [hs.BB]; exact h.B, by rw [hs.CB]; exact h.C, by rw [hs.base]; exact h.S⟩
theorem RS.by_ {F C : Nat} {p : Ps} {d0 : DS} {x0 : Cfg × List UInt8} {k : Nat} {w w' : World} {d : DS} {H : List UInt8} {n : Nat} {x : Cfg × List UInt8} {N0 : Nat} (h : RS F C p d0 x0 k w d H n x) (hl : LowD F d N0) (hC : C ≤ N0) (hf : Frm (SBy w N0) w w') : RS F C p d0 x0 k w' d H n x := by
 have hlt : ∀ {b o : Nat}, b < N0 → ¬ SBy w N0 b o := fun hb q => by have := q.1; omega
 have hdec : Dec w' F d := h.st.dec.keep hf (fun o q => (hlt hl.F q).elim) (fun o q => (hlt hl.R q).elim) (fun o q => (hlt hl.H q).elim) (fun a ha j _ q => (hlt (hl.S a ha) q).elim)
 refine ⟨h.st.of hdec hf (fun b o q => ⟨by have := q.1; omega, fun e => by subst e; exact absurd q (hlt hl.F)⟩) (Same.refl _) ⟨rfl, rfl, rfl, rfl, rfl⟩, h.mode.of (Same.refl _) ⟨rfl, rfl, rfl, rfl, rfl, rfl, rfl, rfl, rfl, rfl⟩ (fun T D hT => hT.by_ hf), h.reach, h.same, h.wr, h.fl⟩
theorem Mode.pre {w : World} {F : Nat} {p : Ps} {d : DS} {H : List UInt8} {x : Cfg × List UInt8} (h : Mode w F p d H x) : ∃ Y, x.2 = H ++ Y := by
 have hst : ∀ (n : Nat) {y : Cfg × List UInt8}, stRest d.src d.fin d.pos n H = y → ∃ Y, y.2 = H ++ Y := fun n y hy => by
  rw [← hy]; unfold stRest; split
  · exact ⟨_, rfl⟩
  · exact ⟨_, rfl⟩
 obtain ⟨c, H'⟩ := x
 cases c with
 | next r =>
  obtain ⟨_, ⟨_, rfl, _⟩ | ⟨_, _, n, _, _, _, hs⟩⟩ := h
  · exact ⟨[], by simp⟩
  · exact hst n hs
 | huff last r T D =>
  obtain ⟨_, _, _, _, _, _, _, ⟨_, rfl⟩ | ⟨_, n, D', _, _, _, _, _, _, rfl⟩⟩ := h
  · exact ⟨[], by simp⟩
  · exact ⟨_, rfl⟩
 | done e q =>
  rcases h with ⟨_, rfl, _⟩ | ⟨_, _, _, n, _, _, _, hs⟩
  · exact ⟨[], by simp⟩
  · exact hst n hs
def MD (F : Nat) (d : DS) (b : Nat) : Prop := b = F ∨ b = d.R ∨ b = d.HB ∨ b = d.BB ∨ b = d.CB
def IFl (F C : Nat) (p : Ps) (d0 : DS) (x0 : Cfg × List UInt8) (k : Nat) (w : World) : Prop := ∃ d H n x, RS F C p d0 x0 k w d H n x
def JFl (F C : Nat) (p : Ps) (d0 : DS) (x0 : Cfg × List UInt8) (er : Err) (P : Nat) (FH : List UInt8) (v : Value) (w : World) : Prop := ErrV p er v ∧ ∃ d n, RS F C p d0 x0 FH.length w d FH n (.done er P, FH) ∧ d.pos = P ∧ d.err = v
theorem flate_meth (n : Nat) (a : Addr) (w : World) : (method (n + 1) 161 (.pointer (some a)) "Read").run Tryz.prog w = .ok (130, .pointer (some a)) w := by kernel_rfl
theorem flate_enter (args : Array Value) (w : World) : (callFunc 130 args).run Tryz.prog w = .ok (.enter 130 args) w := by kernel_rfl
theorem flate_reader {F C : Nat} {p : Ps} {d0 : DS} {x0 : Cfg × List UInt8} {er : Err} {P N0 : Nat} {FH : List UInt8} (hfin : Flate.Reach d0.src x0 (.done er P, FH)) (hx0 : CfgOK d0.src x0.1) (hl : LowD F d0 N0) (hC : C ≤ N0) :
 Reader 161 130 F N0 (MD F d0) FH (IFl F C p d0 x0) (JFl F C p d0 x0 er P FH) where
 meth := flate_meth
 enter := flate_enter
 low := by
  rintro b (rfl | rfl | rfl | rfl | rfl)
  · exact hl.F
  · exact hl.R
  · exact hl.H
  · exact hl.B
  · exact hl.C
 read := by
  rintro k w BX L cap ⟨d, H, n, x, h⟩ hb h1 h2; have hld := hl.same h.same; have hlo := hb.lo; have hbuf : Buf w F C d BX L := ⟨by omega, hb.cell, hb.all, hb.froz, by have := hld.F; omega, by have := hld.R; omega, by have := hld.H; omega, by have := hld.B; omega, by have := hld.C; omega, fun a ha => by have := hld.S a ha; omega⟩
  refine (read_any w F C p d x k n H d0 x0 h BX L cap hbuf h1 h2).mono ?_; rintro e w' ⟨m, errv, rfl, d', H', n', x', hm, hRS, hf, hbuf', hcells, hend⟩; have hback := hfin.back hRS.reach; have hok := (hRS.reach.ok hx0).1; obtain ⟨_, Z, hZ⟩ := hback.ok hok; obtain ⟨Y, hY⟩ := hRS.mode.pre; have hsum := hRS.st.out.sum; have hFH : FH = H' ++ (Y ++ Z) := by rw [← List.append_assoc, ← hY]; exact hZ
  have hHle : H'.length ≤ FH.length := by rw [hFH, List.length_append]; omega
  refine ⟨m, errv, rfl, hm, hf, fun j hj => ?_, ?_⟩
  · rw [hcells j hj, hFH]; have hlt : k + j < H'.length := by omega
    rw [List.getD_eq_getElem?_getD, List.getD_eq_getElem?_getD, List.getElem?_append_left hlt]
  · rcases hend with ⟨h1, h2⟩ | ⟨er', q, h1, h2, h3, h4, h5⟩
    · exact .inl ⟨h1, h2, by omega, d', H', n', x', hRS⟩
    · subst h1; have hd := hback.done; simp only [Prod.mk.injEq, Cfg.done.injEq] at hd; obtain ⟨⟨rfl, rfl⟩, rfl⟩ := hd; refine .inr ⟨(errV_ne h2).2, h3, h2, d', n', ?_, h4, h5⟩; rw [← h3]; exact hRS
 keep := by
  rintro k w w' ⟨d, H, n, x, h⟩ hf; exact ⟨d, H, n, x, h.by_ (hl.same h.same) hC hf⟩
 keepJ := by
  rintro v w w' ⟨h1, d, n, h, h2, h3⟩ hf; exact ⟨h1, d, n, h.by_ (hl.same h.same) hC hf, h2, h3⟩
def zeroDec : List Value :=
 [.nilIface, .pointer none, .int .i64 0, .int .u32 0, .int .u64 0] ++ (zeroTab.toList ++ (zeroTab.toList ++ [.pointer none, .pointer none, .slice none 0 0, .int .i64 0, .int .i64 0, .bool false, .int .u8 0, .int .u8 0, .int .u8 0, .int .u8 0,
  .nilFunc, .int .i64 0, .bool false, .nilIface, .slice none 0 0, .pointer none, .pointer none, .int .i64 0, .int .i64 0]))
theorem zeroDecompressor : (Tryz.prog.info? 157).map (·.zero) = some (some (.agg zeroDec.toArray)) := by kernel_rfl
theorem zero316 : (Tryz.prog.info? 159).map (·.zero) = some (some (.agg (List.replicate 316 (.int .i64 0)).toArray)) := by kernel_rfl
theorem zero19 : (Tryz.prog.info? 160).map (·.zero) = some (some (.agg (List.replicate 19 (.int .i64 0)).toArray)) := by kernel_rfl
abbrev rdrV (R : Nat) : Value := .iface 48 (.pointer (some ⟨R, 0, none⟩))
theorem close_eof (w : World) (F C : Nat) (p : Ps) (he : Env w C p) (c48 : w.cell? ⟨F, 1048, none⟩ = some (errAt p.E)) :
 Calls Tryz.prog 129 #[.pointer (some ⟨F, 0, none⟩)] w fun e w' => e = .returned .nilIface ∧ ∃ n, w' = w.drewN n := by
 have h0 := he.eof
 have hq := fun w => eql_same p.E w
 clear he
 go_enter Tryz.func129, Tryz.ntmps129
 go_wp2_with fail
 (go_quiet (fail))
 go_wp2_with fail
 go_ret
 exact ⟨rfl, nq, rfl⟩
theorem makeReader_any (w : World) (F R : Nat) (c0 : ∃ v, w.cell? ⟨F, 0, none⟩ = some v) (c1 : ∃ v, w.cell? ⟨F, 1, none⟩ = some v) (f0 : w.frozen? ⟨F, 0, none⟩ = false) (f1 : w.frozen? ⟨F, 1, none⟩ = false) :
 Calls Tryz.prog 73 #[.pointer (some ⟨F, 0, none⟩), rdrV R] w fun e w' => e = .returned (.tuple #[]) ∧ (w.setCell ⟨F, 1, none⟩ (.pointer none)).setCell ⟨F, 0, none⟩ (rdrV R) = w' := by
 obtain ⟨v0, c0⟩ := c0
 obtain ⟨v1, c1⟩ := c1
 have hta : ∀ w : World, (Instr.typeAssert (rdrV R) 79 82 true).run Tryz.prog w = .ok (.tuple #[rdrV R, .bool true]) w := fun w => by kernel_rfl
 go_enter Tryz.func73, Tryz.ntmps73
 go_wp2_with fail
 ((try simp only [Exit.inBlock, Exit.then]); refine bodyPost_ret (results_none rfl _ _ _) rfl ?_)
 exact ⟨rfl, rfl⟩
theorem copy_dict (w : World) (HB : Nat) (base : Option Addr) (l : List UInt8) (cap : Nat) (hb : Bytes w base l) (hc : ∀ j, j < 32768 → (w.cell? ⟨HB, j, none⟩).isSome = true) (hf : ∀ j, w.frozen? ⟨HB, j, none⟩ = false) (hl : l.length ≤ 32768) :
 ∃ w', (∀ m ty, (Builtin.copy_ #[22, 22] ty #[.slice (some ⟨HB, 0, none⟩) 32768 32768, .slice base l.length cap]).run Tryz.prog (w.drewN m) = .ok (.int .i64 (l.length : Int)) (w'.drewN m)) ∧
  Frm (fun x y => x = HB ∧ y < l.length) w w' ∧ ∀ j, j < l.length → w'.cell? ⟨HB, j, none⟩ = some (.int .u8 ((l.getD j 0).toNat : Int)) := by
 cases base with
 | none =>
  obtain rfl : l = [] := hb; exact ⟨w, fun m ty => by simp [Builtin.copy_, go_sem], Frm.refl _ _, fun j hj => absurd hj (by simp)⟩
 | some a =>
  obtain ⟨hs, hcell⟩ := hb; obtain ⟨ab, ao, asp⟩ := a; simp only at hs; subst hs; obtain ⟨w', h1, h2, h3⟩ := copy_bytes w HB 0 32768 32768 ⟨ab, ao, none⟩ l.length cap l.length (fun j => l.getD j 0) (by
   have := min_cases l.length 32768; rcases this.2.2 with e | e <;> omega) (fun j hj => by
   have e : (⟨ab, ao, none⟩ : Addr).add j = ⟨ab, ao + j, none⟩ := by unfold Addr.add; split <;> simp_all
   rw [e, hcell j hj, List.getD_eq_getElem?_getD, List.getElem?_eq_getElem hj]; rfl) (fun j hj => by rw [Nat.zero_add]; exact hc j (by omega)) (fun j _ => by rw [Nat.zero_add]; exact hf j)
  exact ⟨w', h1, h2.mono fun b o e => ⟨e.1, by omega⟩, fun j hj => by have := h3 j hj; rw [Nat.zero_add] at this; exact this⟩
theorem drop_get {dict l : List UInt8} {q j : Nat} (hl : l = dict.drop q) (hj : j < l.length) (hd : q + j < dict.length) : l[j] = dict[q + j] := by
 subst hl; rw [List.getElem_drop]
def DictPost (w : World) (F HB : Nat) (dict : List UInt8) (S : Nat → Nat → Prop) (e : Ending) (w' : World) : Prop :=
 e = .returned (.tuple #[]) ∧ ∃ (g : Nat → UInt8) (wr : Nat) (full : Bool), Frm S w w' ∧ w'.cell? ⟨F, 1037, none⟩ = some (.slice (some ⟨HB, 0, none⟩) 32768 32768) ∧ w'.cell? ⟨F, 1038, none⟩ = some (.int .i64 (wr : Int)) ∧ w'.cell? ⟨F, 1039, none⟩ = some (.int .i64 (wr : Int)) ∧
  w'.cell? ⟨F, 1040, none⟩ = some (.bool full) ∧ (∀ i, i < 32768 → w'.cell? ⟨HB, i, none⟩ = some (.int .u8 ((g i).toNat : Int))) ∧ (∀ o, w'.frozen? ⟨HB, o, none⟩ = false) ∧
  WinB g wr (dict.drop (dict.length - 32768)) ∧ wr < 32768 ∧ (full = true → 32768 ≤ (dict.drop (dict.length - 32768)).length) ∧ (full = false → (dict.drop (dict.length - 32768)).length = wr)
set_option maxHeartbeats 2000000 in
theorem dictInit_new (w : World) (F : Nat) (base : Option Addr) (dict : List UInt8) (cap : Nat) (hb : Bytes w base dict) (hcap : dict.length ≤ cap) (hlen : dict.length ≤ 4294967296) (c37 : w.cell? ⟨F, 1037, none⟩ = some (.slice none 0 0)) (c38 : w.cell? ⟨F, 1038, none⟩ = some (.int .i64 0)) (c39 : w.cell? ⟨F, 1039, none⟩ = some (.int .i64 0)) (c40 : w.cell? ⟨F, 1040, none⟩ = some (.bool false))
 (f : ∀ o, w.frozen? ⟨F, o, none⟩ = false) (hne : ∀ a, base = some a → a.block ≠ F) :
 Calls Tryz.prog 75 #[.pointer (some ⟨F, 1037, none⟩), .int .i64 32768, .slice base dict.length cap] w (DictPost w F w.heap.size dict (fun b o => b = F ∧ 1037 ≤ o ∧ o < 1041)) := by
 have f37 := f 1037
 have f38 := f 1038
 have f39 := f 1039
 have f40 := f 1040
 go_enter Tryz.func75, Tryz.ntmps75
 obtain ⟨N, hN⟩ : ∃ N, N = 32768 := ⟨_, rfl⟩
 have HNN := zHi hN
 have hsl : ∀ (w : World) (B : Nat), (Instr.sliceAt 22 (.slice (some ⟨B, 0, none⟩) N N) none (some (.int .i64 32768)) none).run Tryz.prog w = .ok (.slice (some ⟨B, 0, none⟩) N N) w := fun w B => by
  have hsz : ∀ w : World, (sizeOf (Tryz.prog.elem 22)).run Tryz.prog w = .ok 1 w := fun w => by kernel_rfl
  have hu : Tryz.prog.underlying 22 = some (.slice (Tryz.prog.elem 22)) := by kernel_rfl
  rw [run_sliceAt_slice w _ _ _ _ _ hu, run_slice_h w _ _ _ _ hu _ _ (by omega) (by omega), hsz]
  have e : (32768 : Int).toNat = N := by rw [hN]; rfl
  simp only [Result.andThen, sliced, e, Nat.sub_zero]; rw [if_neg (by omega)]
  simp [Addr.add]
 have hF := cell_lt c37
 go_upto_region 2 with (fail)
 refine wp_region_lit ?_
 refine wpList_run (by rfl) (by rfl) ?_
 refine wpList_run (by rfl) (by rfl) ?_
 refine wpList_bytes (by rfl) _ _ (by rfl) .i64 .i64 N (by rw [hN]; rfl) (by rw [hN]; rfl) (by omega) ?_
 intro w2 hw2
 have hHB : ((((w.setCell ⟨F, 1037, none⟩ (.slice none 0 0)).setCell ⟨F, 1038, none⟩ (.int .i64 0)).setCell ⟨F, 1039, none⟩ (.int .i64 0)).setCell ⟨F, 1040, none⟩ (.bool false)).heap.size = w.heap.size := by simp [World.setCell]
 rw [hHB]
 obtain ⟨HB, hHBe⟩ : ∃ HB, HB = w.heap.size := ⟨_, rfl⟩
 rw [← hHBe]
 rw [← hHBe] at hF
 have hnew : ∀ j, j < 32768 → w2.cell? ⟨HB, j, none⟩ = some (.int .u8 0) := fun j hj => by
  rw [hw2, hHBe, ← hHB, hN]; exact new_row _ _ _ _ _ hj
 have hfz : ∀ j, w2.frozen? ⟨HB, j, none⟩ = false := fun j => by rw [hw2, hHBe, ← hHB, World.frozen?_alloc_new]
 have hfr : Frm (fun b o => b = F ∧ 1037 ≤ o ∧ o < 1041) w w2 := by
  rw [hw2]; exact (((((Frm.refl _ _).setCell (.inl ⟨rfl, by simp⟩) _).setCell (.inl ⟨rfl, by simp⟩) _).setCell (.inl ⟨rfl, by simp⟩) _).setCell (.inl ⟨rfl, by simp⟩) _).alloc _
 have hk : ∀ {o : Nat} {v : Value}, ((((w.setCell ⟨F, 1037, none⟩ (.slice none 0 0)).setCell ⟨F, 1038, none⟩ (.int .i64 0)).setCell ⟨F, 1039, none⟩ (.int .i64 0)).setCell ⟨F, 1040, none⟩ (.bool false)).cell? ⟨F, o, none⟩ = some v → w2.cell? ⟨F, o, none⟩ = some v := fun hc => by
  rw [hw2, World.cell?_of_block (Below.heap_alloc _ _ _ (by rw [hHB, ← hHBe]; exact hF))]; exact hc
 have d37 : w2.cell? ⟨F, 1037, none⟩ = some (.slice none 0 0) := hk (by go_simp)
 have d38 : w2.cell? ⟨F, 1038, none⟩ = some (.int .i64 0) := hk (by go_simp)
 have d39 : w2.cell? ⟨F, 1039, none⟩ = some (.int .i64 0) := hk (by go_simp)
 have d40 : w2.cell? ⟨F, 1040, none⟩ = some (.bool false) := hk (by go_simp)
 have g37 := (hfr.froz F 1037 (by rw [← hHBe]; exact hF)).trans f37
 have g38 := (hfr.froz F 1038 (by rw [← hHBe]; exact hF)).trans f38
 have g39 := (hfr.froz F 1039 (by rw [← hHBe]; exact hF)).trans f39
 have g40 := (hfr.froz F 1040 (by rw [← hHBe]; exact hF)).trans f40
 have hb2 : Bytes w2 base dict := hb.keep hfr (fun a ha j _ e => hne a ha e.1)
 have b1 : (N : Int) ≤ 32768 := by omega
 have b2 : (32768 : Int) ≤ (N : Int) := by omega
 have HX := zHi (zAi hnew (zAi hfz (zAi hfr hb2)))
 have HN := zHi hN
 have HHB := zHi hHBe
 have HFl := zHi hF
 clear hw2 hHB hHBe hnew hfz hfr hk hb2 c37 c38 c39 c40 f37 f38 f39 f40 hN hb hF f
 go_upto_region 4 with (fail)
 obtain ⟨w3, hw3⟩ : ∃ w3, w3 = (w2.setCell ⟨F, 1037, none⟩ (.slice (some ⟨HB, 0, none⟩) N N)).setCell ⟨F, 1037, none⟩ (.slice (some ⟨HB, 0, none⟩) N N) := ⟨_, rfl⟩
 rw [← hw3]
 obtain ⟨hnew, hfz, hfr, hb2⟩ := HX.out
 have nFH : F ≠ HB := by have := HFl.out; omega
 have k37 : w3.cell? ⟨F, 1037, none⟩ = some (.slice (some ⟨HB, 0, none⟩) N N) := by rw [hw3]; exact set_get (set_get d37)
 have kk : ∀ {o : Nat} {v : Value}, o ≠ 1037 → w2.cell? ⟨F, o, none⟩ = some v → w3.cell? ⟨F, o, none⟩ = some v := fun ho hc => by rw [hw3, cell_set_off ho, cell_set_off ho]; exact hc
 have k38 := kk (by decide) d38
 have k39 := kk (by decide) d39
 have k40 := kk (by decide) d40
 have kz : ∀ o, w3.frozen? ⟨F, o, none⟩ = w2.frozen? ⟨F, o, none⟩ := fun o => by rw [hw3, World.frozen?_setCell, World.frozen?_setCell]
 have l37 := (kz 1037).trans g37
 have l38 := (kz 1038).trans g38
 have l39 := (kz 1039).trans g39
 have l40 := (kz 1040).trans g40
 have hnew3 : ∀ j, j < 32768 → w3.cell? ⟨HB, j, none⟩ = some (.int .u8 0) := fun j hj => by rw [hw3, cell_set_ne (.inl nFH.symm), cell_set_ne (.inl nFH.symm)]; exact hnew j hj
 have hfz3 : ∀ j, w3.frozen? ⟨HB, j, none⟩ = false := fun j => by rw [hw3, World.frozen?_setCell, World.frozen?_setCell]; exact hfz j
 have hfr3 : Frm (fun b o => b = F ∧ 1037 ≤ o ∧ o < 1041) w w3 := by rw [hw3]; exact (hfr.setCell (.inl ⟨rfl, by simp⟩) _).setCell (.inl ⟨rfl, by simp⟩) _
 have hb3 : Bytes w3 base dict := by
  rw [hw3]; exact hb2.keep (S := fun b _ => b = F) (((Frm.refl _ _).setCell (.inl rfl) _).setCell (.inl rfl) _) (fun a ha j _ e => hne a ha e)
 obtain ⟨l, hl⟩ : ∃ l, l = dict.drop (dict.length - 32768) := ⟨_, rfl⟩
 have hll : l.length ≤ 32768 := by rw [hl, List.length_drop]; omega
 obtain ⟨D, hD⟩ : ∃ D, D = dict.length := ⟨_, rfl⟩
 rw [← hD]
 have b3 : (D : Int) ≤ 4294967296 := by omega
 have HX3 := zHi (zAi hnew3 (zAi hfz3 (zAi hfr3 hb3)))
 have HL := zHi hl
 have HLL := zHi hll
 have HDE := zHi hD
 have HNE := zHi hne
 have HCAP := zHi hcap
 clear hw3 HX hnew hfz hfr hb2 nFH kk kz hnew3 hfz3 hfr3 hb3 d37 d38 d39 d40 g37 g38 g39 g40 hl hll hne hcap hlen hsl hD
 go_upto_if 41 with (fail)
 go_cut [2] (fun s wq => ∃ base' cap', s = .slice base' l.length cap' ∧ Hid (Bytes w3 base' l) ∧ w3 = wq)
 case first =>
  by_cases hgt : N < D
  · have e1 : N < D := hgt; obtain ⟨q, hq⟩ : ∃ q, q = D - N := ⟨_, rfl⟩; have z1 : (D : Int) - (N : Int) = (q : Int) := by omega
    have hb := HX3.out.2.2.2; have hDl := HDE.out
    cases base with
    | none =>
     have : dict = [] := hb; rw [this] at hDl; simp at hDl; omega
    | some a =>
     obtain ⟨hs, hcell⟩ := hb; obtain ⟨ab, ao, asp⟩ := a; simp only at hs; subst hs; obtain ⟨base', hsl, hbase⟩ := run_rest ab ao D cap q (by omega) (by have := HCAP.out; omega)
     have hbe := hbase (by omega)
     have hln : l.length = N := by rw [HL.out, List.length_drop]; have := HN.out; omega
     have hDq : D - q = l.length := by omega
     rw [hDq] at hsl; have hby : Bytes w3 base' l := by
      rw [hbe]; refine ⟨rfl, fun j hj => ?_⟩
      have hidx : q + j < dict.length := by omega
      have h1 := hcell (q + j) hidx; rw [← Nat.add_assoc] at h1; simp only at h1 ⊢; rw [h1]; have hqq : q = dict.length - 32768 := by have := HN.out; omega
      have hle : l[j] = dict[q + j] := drop_get (by rw [HL.out, ← hqq]) hj hidx
      rw [hle]
     have HBY := zHi hby; clear hcell hbase hbe hby hq hDl hDq hln; go_wp2_with fail
     go_meet
     case rel => exact ⟨base', _, rfl, HBY, rfl⟩
  · have e1 : ¬ N < D := hgt; have hld : l = dict := by rw [HL.out, show dict.length - 32768 = 0 by have := HDE.out; have := HN.out; omega, List.drop_zero]
    have hDl : D = l.length := by rw [hld]; exact HDE.out
    have HLD := zHi hld; have HDL := zHi hDl; clear hld hDl hgt; go_wp2_with fail
    go_meet
    case rel => exact ⟨base, cap, by rw [HDL.out], by rw [HLD.out]; exact zHi HX3.out.2.2.2, rfl⟩
 case rest =>
 obtain ⟨base', cap', rfl, hby, rfl⟩ := hcut
 obtain ⟨w4, hrun, hf4, hc4⟩ := copy_dict w3 HB base' l cap' hby.out (fun j hj => by rw [HX3.out.1 j hj]; rfl) HX3.out.2.1 HLL.out
 have hrun0 : ∀ ty, (Builtin.copy_ #[22, 22] ty #[.slice (some ⟨HB, 0, none⟩) N N, .slice base' l.length cap']).run Tryz.prog w3 = .ok (.int .i64 (l.length : Int)) w4 := fun ty => by rw [HN.out]; exact hrun 0 ty
 have nFH : F ≠ HB := by have := HFl.out; omega
 have hk4 : ∀ {o : Nat} {v : Value}, w3.cell? ⟨F, o, none⟩ = some v → w4.cell? ⟨F, o, none⟩ = some v := fun hc => hf4.keep hc (fun e => nFH e.1)
 have m37 := hk4 k37
 have m38 := hk4 k38
 have m39 := hk4 k39
 have m40 := hk4 k40
 have hFl3 := cell_lt k37
 have n37 := (hf4.froz F 1037 hFl3).trans l37
 have n38 := (hf4.froz F 1038 hFl3).trans l38
 have n39 := (hf4.froz F 1039 hFl3).trans l39
 have n40 := (hf4.froz F 1040 hFl3).trans l40
 obtain ⟨M, hM⟩ : ∃ M, M = l.length := ⟨_, rfl⟩
 rw [← hM] at hrun0 ⊢
 have hMN : M ≤ 32768 := by have := HLL.out; omega
 have b4 : (M : Int) ≤ 32768 := by omega
 obtain ⟨hnew, hfz, hfr, _⟩ := HX3.out
 have hHB3 : HB < w3.heap.size := cell_lt (hnew 0 (by omega))
 obtain ⟨g, hg⟩ : ∃ g : Nat → UInt8, g = fun i => if i < M then l.getD i 0 else 0 := ⟨_, rfl⟩
 have hwin : ∀ i, i < 32768 → w4.cell? ⟨HB, i, none⟩ = some (.int .u8 ((g i).toNat : Int)) := fun i hi => by
  rw [hg]; simp only
  by_cases h : i < M
  · rw [if_pos h]; exact hc4 i (by omega)
  · rw [if_neg h]; exact hf4.keep (hnew i hi) (fun e => h (by omega))
 have hfz4 : ∀ o, w4.frozen? ⟨HB, o, none⟩ = false := fun o => (hf4.froz HB o hHB3).trans (hfz o)
 have hfr4 : Frm (fun b o => b = F ∧ 1037 ≤ o ∧ o < 1041) w w4 := hfr.trans' hf4 (fun b o hb e => by have := e.1; have := HHB.out; omega)
 have hwb : WinB g M l := ⟨hMN, by rw [hM], fun i hi _ => by rw [Nat.mod_eq_of_lt (by omega), hg]; simp only; rw [if_pos (by omega)]⟩
 have HE := zHi (zAi hwin (zAi hfz4 (zAi hfr4 hwb)))
 have HM := zHi hM
 clear hrun hf4 hc4 hk4 hM hMN hnew hfz hfr hHB3 hg hwin hfz4 hfr4 hwb hby k38 k39 k40 l37 l38 l39 l40
 go_upto_region 7 with (with_reducible refine wpList_copy_run (by rfl) (.tmp 56) (.tmp 57) 22 22 (by rfl) (by rfl) (by rfl) hrun0 ?_)
 have nHF : HB ≠ F := fun e => nFH e.symm
 clear hrun0
 by_cases hfull : M = N
 · have t1 : ((M : Int) == (N : Int)) = true := by simp; omega
   have t2 : (M == N) = true := by simp; omega
   have HFU := zHi hfull; clear hfull
   (go_quiet (fail))
   go_wp2_with fail
   go_end0
   obtain ⟨hwin, hfz4, hfr4, hwb⟩ := HE.out; rw [← HHB.out]; refine ⟨rfl, g, 0, true, ?_, by rw [← HN.out]; go_simp, by go_simp, by go_simp, by go_simp, fun i hi => by rw [cell_set_ne (.inl nHF), cell_set_ne (.inl nHF), cell_set_ne (.inl nHF)]; exact (cell_set_ne (.inl nHF)).trans (hwin i hi), fun o => by rw [World.frozen?_setCell, World.frozen?_setCell, World.frozen?_setCell]; exact (World.frozen?_setCell w4 _ _ _).trans (hfz4 o), ?_, by omega, fun _ => ?_, fun e => Bool.noConfusion e⟩
   · exact ((((hfr4.setCell (.inl ⟨rfl, by simp⟩) _).drewN nq).setCell (.inl ⟨rfl, by simp⟩) _).setCell (.inl ⟨rfl, by simp⟩) _).setCell (.inl ⟨rfl, by simp⟩) _
   · rw [← HL.out]; have := hwb; rw [HFU.out, HN.out] at this; exact this.round
   · rw [← HL.out, ← HM.out, HFU.out, HN.out]; exact Nat.le_refl _
 · have t1 : ((M : Int) == (N : Int)) = false := by simp; omega
   have t2 : (M == N) = false := by simp; omega
   have HFU := zHi hfull; clear hfull
   (go_quiet (fail))
   go_wp2_with fail
   go_end0
   obtain ⟨hwin, hfz4, hfr4, hwb⟩ := HE.out; rw [← HHB.out]; refine ⟨rfl, g, M, false, ?_, by rw [← HN.out]; go_simp, by go_simp, by go_simp, by go_simp, fun i hi => by rw [cell_set_ne (.inl nHF)]; exact (cell_set_ne (.inl nHF)).trans (hwin i hi), fun o => by rw [World.frozen?_setCell]; exact (World.frozen?_setCell w4 _ _ _).trans (hfz4 o), ?_, by have := HFU.out; have := HN.out; omega, fun e => Bool.noConfusion e, fun _ => ?_⟩
   · exact ((hfr4.setCell (.inl ⟨rfl, by simp⟩) _).drewN nq).setCell (.inl ⟨rfl, by simp⟩) _
   · rw [← HL.out]; exact hwb
   · rw [← HL.out]; exact HM.out.symm
theorem rep_at {α : Type} {x : α} {n j : Nat} (h : j < n) : (List.replicate n x).toArray.toList[j]? = some x := by
 simp only [List.getElem?_replicate]; rw [if_pos h]
structure NewDec (w : World) (F : Nat) (W : World) : Prop where
 cell : ∀ j v, zeroDec[j]? = some v → W.cell? ⟨F, j, none⟩ = some v
 froz : ∀ j, W.frozen? ⟨F, j, none⟩ = false
 frm : Frm (fun _ _ => False) w W
 size : W.heap.size = F + 1
 old : w.heap.size = F
theorem newDec (w : World) (T : TypeId) : NewDec w w.heap.size (w.alloc (.cells zeroDec.toArray T)) :=
 ⟨fun j v hv => by rw [alloc_at]; exact hv, fun j => by rw [World.frozen?_alloc_new], (Frm.refl _ _).alloc _, by simp, rfl⟩
theorem zeroDec_len : zeroDec.length = 1054 := by kernel_rfl
theorem zeroDec_tab1 (j : Nat) (hj : j < 515) : zeroDec[5 + j]? = zeroTab.toList[j]? := by
 unfold zeroDec
 rw [List.getElem?_append_right (by simp)]
 rw [List.getElem?_append_left (by rw [zeroTab_len]; simp; omega)]
 congr 1; simp
theorem zeroDec_tab2 (j : Nat) (hj : j < 515) : zeroDec[520 + j]? = zeroTab.toList[j]? := by
 unfold zeroDec
 rw [List.getElem?_append_right (by simp; omega), List.getElem?_append_right (by rw [zeroTab_len]; simp; omega), List.getElem?_append_left (by rw [zeroTab_len]; simp; omega)]
 congr 1; rw [zeroTab_len]; simp; omega
theorem NewDec.tab {w W W' : World} {F o : Nat} (h : NewDec w F W) (ho : o = 5 ∨ o = 520) {S : Nat → Nat → Prop} (hf : Frm S W W') (hS : ∀ k, o ≤ k → k < o + 515 → ¬ S F k) : TabAt W' F o emptyTab (fun _ => False) := by
 have hz : ∀ j, j < 515 → ∀ v, zeroTab.toList[j]? = some v → W'.cell? ⟨F, o + j, none⟩ = some v := fun j hj v hv => by
  refine hf.keep (h.cell _ _ ?_) (hS _ (by omega) (by omega))
  rcases ho with rfl | rfl
  · rw [zeroDec_tab1 j hj]; exact hv
  · rw [zeroDec_tab2 j hj]; exact hv
 refine ⟨?_, fun i hi => ?_, ?_, fun _ => ?_, fun h => absurd rfl h⟩
 · exact hz 0 (by omega) _ rfl
 · have e : emptyTab.chunks.getD i 0 = 0 := rep_getD 512 i; rw [e, Nat.add_assoc]; exact hz (1 + i) (by omega) _ (zt_mid 512 _ _ _ i hi)
 · exact hz 514 (by omega) _ (zt_end 512 _ _ _ 1)
 · exact hz 513 (by omega) _ (zt_end 512 _ _ _ 0)
def SM (F : Nat) (b o : Nat) : Prop := b = F ∧ (o < 2 ∨ 1035 ≤ o ∧ o < 1041 ∨ o = 1045)
def tail32 (dict : List UInt8) : List UInt8 := dict.drop (dict.length - 32768)
theorem made_rs {w W1 w6 : World} {F C HB : Nat} {p : Ps} {R : Nat} {base : Option Addr} {src dict : List UInt8} {g : Nat → UInt8} {wr : Nat} {full : Bool} (hn : NewDec w F W1) (he : Env w C p) (hR : C ≤ R) (hs : Src w R base src 0) (hbl : ∀ a, base = some a → a.block < w.heap.size)
 (hf : Frm (SM F) W1 w6) (c0 : w6.cell? ⟨F, 0, none⟩ = some (rdrV R)) (c1 : w6.cell? ⟨F, 1, none⟩ = some (.pointer none)) (c35 : w6.cell? ⟨F, 1035, none⟩ = some (.pointer (some ⟨F + 1, 0, none⟩))) (c36 : w6.cell? ⟨F, 1036, none⟩ = some (.pointer (some ⟨F + 2, 0, none⟩)))
 (c45 : w6.cell? ⟨F, 1045, none⟩ = some (fnV 74)) (hbb : ∀ i, i < 316 → (w6.cell? ⟨F + 1, i, none⟩).isSome = true) (hcb : ∀ i, i < 19 → (w6.cell? ⟨F + 2, i, none⟩).isSome = true) (frB : ∀ o, w6.frozen? ⟨F + 1, o, none⟩ = false) (frC : ∀ o, w6.frozen? ⟨F + 2, o, none⟩ = false)
 (hHB : HB = F + 3) (c37 : w6.cell? ⟨F, 1037, none⟩ = some (.slice (some ⟨HB, 0, none⟩) 32768 32768)) (c38 : w6.cell? ⟨F, 1038, none⟩ = some (.int .i64 (wr : Int))) (c39 : w6.cell? ⟨F, 1039, none⟩ = some (.int .i64 (wr : Int))) (c40 : w6.cell? ⟨F, 1040, none⟩ = some (.bool full))
 (hwin : ∀ i, i < 32768 → w6.cell? ⟨HB, i, none⟩ = some (.int .u8 ((g i).toNat : Int))) (frH : ∀ o, w6.frozen? ⟨HB, o, none⟩ = false) (hwb : WinB g wr (tail32 dict)) (hwr : wr < 32768) (hful : full = true → 32768 ≤ (tail32 dict).length) (hnf : full = false → (tail32 dict).length = wr) :
 ∃ d, RS F C p d (.next ⟨0, 0⟩, tail32 dict) (tail32 dict).length w6 d (tail32 dict) 0 (.next ⟨0, 0⟩, tail32 dict) ∧ d.R = R ∧ d.base = base ∧ d.src = src ∧ d.HB = F + 3 ∧ d.BB = F + 1 ∧ d.CB = F + 2 ∧ Frm (fun _ _ => False) w w6 := by
 have hF := hn.old
 have hCF : C ≤ F := by have := he.le; omega
 have hfw : Frm (fun _ _ => False) w w6 := hn.frm.trans' hf (fun x o hx e => by have := e.1; omega)
 have k : ∀ {j : Nat} {v : Value}, zeroDec[j]? = some v → ¬ (j < 2 ∨ 1035 ≤ j ∧ j < 1041 ∨ j = 1045) → w6.cell? ⟨F, j, none⟩ = some v := fun hv hj => hf.keep (hn.cell _ _ hv) (fun e => hj e.2)
 have hRl : R < w.heap.size := hs.lt
 have hs6 : Src w6 R base src 0 := hs.keep hfw (fun o e => e) (fun a _ j _ e => e)
 obtain ⟨d, hd⟩ : ∃ d : DS, d = { R := R, base := base, src := src, pos := 0, BB := F + 1, CB := F + 2, HB := HB, g := g, roff := 0, b := 0, nb := 0, wr := wr, rd := wr, full := full, u0 := 0, u1 := 0, u2 := 0, u3 := 0, step := fnV 74, ss := 0, fin := false, err := .nilIface, toRead := .slice none 0 0, hl := .pointer none, hd := .pointer none, cl := 0, cd := 0 } := ⟨_, rfl⟩
 have hlF : F < W1.heap.size := by rw [hn.size]; omega
 have hD : Dec w6 F d := by
  rw [hd]; refine ⟨c0, c1, k (by kernel_rfl) (by omega), k (by kernel_rfl) (by omega), k (by kernel_rfl) (by omega), c35, c36, c37, c38, c39, c40, k (by kernel_rfl) (by omega), k (by kernel_rfl) (by omega), k (by kernel_rfl) (by omega), k (by kernel_rfl) (by omega), c45,
   k (by kernel_rfl) (by omega), k (by kernel_rfl) (by omega), k (by kernel_rfl) (by omega), k (by kernel_rfl) (by omega), k (by kernel_rfl) (by omega), k (by kernel_rfl) (by omega), k (by kernel_rfl) (by omega), k (by kernel_rfl) (by omega),
   fun o h1 h2 => ?_, fun o => (hf.froz F o hlF).trans (hn.froz o), hs6, hwin, frH, hbb, hcb, frB, frC, ?_, fun a ha => ?_⟩
  · have : o < zeroDec.length := by rw [zeroDec_len]; omega
    rw [hf.live F o hlF, hn.cell o _ (List.getElem?_eq_getElem this)]; rfl
  · simp only [List.nodup_cons, List.mem_cons, List.not_mem_nil, or_false, not_or, List.nodup_nil, and_true, not_false_eq_true]; omega
  · have := hbl a ha; simp only [List.mem_cons, List.not_mem_nil, or_false, not_or]; refine ⟨by omega, hs.ne a ha, by omega, by omega, by omega⟩
 refine ⟨d, ⟨⟨he.keep hfw (fun b o e => e.elim), hCF, by rw [hd]; exact hR, by rw [hd, hHB]; simp only; omega, by rw [hd]; simp only; omega, by rw [hd]; simp only; omega, hD, by rw [hd]; exact hwb, by rw [hd]; exact Nat.le_refl _, by rw [hd]; exact hwr, by rw [hd]; exact hful, by rw [hd]; exact hnf,
  ⟨by rw [hd]; simp, none, 0, by rw [hd], Nat.le_refl _, .inl rfl⟩, .inr (hn.tab (.inl rfl) hf (fun k h1 h2 e => by have := e.2; omega)), .inr (hn.tab (.inr rfl) hf (fun k h1 h2 e => by have := e.2; omega))⟩, ?_, .refl _, Same.refl _, by rw [hd]; exact hwr, fun _ => by rw [hd]⟩, by rw [hd], by rw [hd], by rw [hd], by rw [hd]; exact hHB, by rw [hd], by rw [hd], hfw⟩
 refine ⟨by rw [hd], .inl ⟨by rw [hd], rfl, ⟨Nat.le_refl _, Nat.zero_le _⟩, by decide, put_edge (q := 0) (by rw [hd]) (by rw [hd]) (by rw [hd]) (by rw [hd]), .inl (by rw [hd])⟩⟩
def NewPost (w : World) (C : Nat) (p : Ps) (R : Nat) (base : Option Addr) (src dict : List UInt8) (e : Ending) (w' : World) : Prop :=
 ∃ F d, w.heap.size ≤ F ∧ e = .returned (.iface 161 (.pointer (some ⟨F, 0, none⟩))) ∧ Hid (RS F C p d (.next ⟨0, 0⟩, tail32 dict) (tail32 dict).length w' d (tail32 dict) 0 (.next ⟨0, 0⟩, tail32 dict) ∧
  d.R = R ∧ d.base = base ∧ d.src = src ∧ d.HB = F + 3 ∧ d.BB = F + 1 ∧ d.CB = F + 2 ∧ Frm (fun _ _ => False) w w')
set_option maxHeartbeats 2000000 in
theorem newReader_any (w : World) (C : Nat) (p : Ps) (R : Nat) (base : Option Addr) (src : List UInt8) (he : Env w C p) (hR : C ≤ R) (hs : Src w R base src 0) (hbl : ∀ a, base = some a → a.block < w.heap.size) :
 Calls Tryz.prog 60 #[rdrV R] w (NewPost w C p R base src []) := by
 have HE := zHi he
 have HS := zHi hs
 have HBL := zHi hbl
 clear he hs hbl
 go_enter Tryz.func60, Tryz.ntmps60
 go_upto_region 1 with (fail)
 refine wp_region_lit ?_
 refine wpList_run (by rfl) (run_alloc_agg zeroDecompressor) ?_
 refine wpList_nil ?_
 obtain ⟨W1, hW1⟩ : ∃ W1, W1 = w.alloc (.cells zeroDec.toArray 157) := ⟨_, rfl⟩
 have hn := newDec w 157
 rw [← hW1] at hn ⊢
 obtain ⟨F, hF⟩ : ∃ F, F = w.heap.size := ⟨_, rfl⟩
 rw [← hF] at hn ⊢
 have z0 := hn.cell 0 _ (by kernel_rfl : zeroDec[0]? = some .nilIface)
 have z1 := hn.cell 1 _ (by kernel_rfl : zeroDec[1]? = some (.pointer none))
 have z35 := hn.cell 1035 _ (by kernel_rfl : zeroDec[1035]? = some (.pointer none))
 have z36 := hn.cell 1036 _ (by kernel_rfl : zeroDec[1036]? = some (.pointer none))
 have z37 := hn.cell 1037 _ (by kernel_rfl : zeroDec[1037]? = some (.slice none 0 0))
 have z38 := hn.cell 1038 _ (by kernel_rfl : zeroDec[1038]? = some (.int .i64 0))
 have z39 := hn.cell 1039 _ (by kernel_rfl : zeroDec[1039]? = some (.int .i64 0))
 have z40 := hn.cell 1040 _ (by kernel_rfl : zeroDec[1040]? = some (.bool false))
 have z45 := hn.cell 1045 _ (by kernel_rfl : zeroDec[1045]? = some .nilFunc)
 have hfz := hn.froz
 have hsz := hn.size
 have HN := zHi hn
 have HW1 := zHi hW1
 have HF := zHi hF
 clear hn hW1 hF
 go_wp2_with fail
 refine (makeReader_any W1 F R ⟨_, z0⟩ ⟨_, z1⟩ (hfz 0) (hfz 1)).mono ?_
 rintro e w2 ⟨rfl, hw2⟩
 have hf2 : Frm (SM F) W1 w2 := by rw [← hw2]; exact ((Frm.refl _ _).setCell (.inl ⟨rfl, by simp⟩) _).setCell (.inl ⟨rfl, by simp⟩) _
 have s2 : w2.heap.size = F + 1 := by rw [← hw2]; simpa [World.setCell] using hsz
 have y0 : w2.cell? ⟨F, 0, none⟩ = some (rdrV R) := by rw [← hw2]; exact set_get ((cell_set_off (by decide)).trans z0)
 have y1 : w2.cell? ⟨F, 1, none⟩ = some (.pointer none) := by rw [← hw2]; exact (cell_set_off (by decide)).trans (set_get z1)
 have ky : ∀ {o : Nat} {v : Value}, 2 ≤ o → W1.cell? ⟨F, o, none⟩ = some v → w2.cell? ⟨F, o, none⟩ = some v := fun ho hc => by rw [← hw2, cell_set_off (by omega), cell_set_off (by omega)]; exact hc
 have y35 := ky (by decide) z35
 have y36 := ky (by decide) z36
 have y37 := ky (by decide) z37
 have y38 := ky (by decide) z38
 have y39 := ky (by decide) z39
 have y40 := ky (by decide) z40
 have y45 := ky (by decide) z45
 have fz2 : ∀ o, w2.frozen? ⟨F, o, none⟩ = false := fun o => by rw [← hw2, World.frozen?_setCell, World.frozen?_setCell]; exact hfz o
 have Y := zHi (zAi y0 (zAi y1 (zAi y36 (zAi y37 (zAi y38 (zAi y39 (zAi y40 (zAi y45 (zAi hf2 fz2)))))))))
 have f35 := fz2 1035
 clear hw2 hf2 ky y0 y1 y37 y38 y39 y40 y45 fz2 z0 z1 z35 z36 z37 z38 z39 z40 z45 hfz hsz
 go_upto_region 3 with (fail)
 refine wp_region_lit ?_
 refine wpList_run (by rfl) (run_alloc_agg zero316) ?_
 rw [s2]
 obtain ⟨w3, hw3⟩ : ∃ w3, w3 = w2.alloc (.cells (List.replicate 316 (.int .i64 0)).toArray 159) := ⟨_, rfl⟩
 rw [← hw3]
 have o3 : ∀ b, b < F + 1 → w3.heap[b]? = w2.heap[b]? := fun b hb => by rw [hw3]; exact Below.heap_alloc _ _ _ (by rw [s2]; exact hb)
 have c3 : ∀ o, w3.cell? ⟨F, o, none⟩ = w2.cell? ⟨F, o, none⟩ := fun o => World.cell?_of_block (o3 F (by omega))
 have x35 := (c3 1035).trans y35
 have h35 : w3.frozen? ⟨F, 1035, none⟩ = false := (World.frozen?_of_block (o3 F (by omega))).trans f35
 have s3 : w3.heap.size = F + 2 := by rw [hw3]; simp [s2]
 have hbb3 : ∀ i, i < 316 → w3.cell? ⟨F + 1, i, none⟩ = some (.int .i64 0) := fun i hi => by rw [hw3, ← s2, alloc_at]; exact rep_at hi
 have fbb3 : ∀ o, w3.frozen? ⟨F + 1, o, none⟩ = false := fun o => by rw [hw3, ← s2, World.frozen?_alloc_new]
 have hf3 : Frm (SM F) w2 w3 := by rw [hw3]; exact (Frm.refl _ _).alloc _
 have X3 := zHi (zAi o3 (zAi c3 (zAi hbb3 (zAi fbb3 hf3))))
 clear hw3 o3 c3 hbb3 fbb3 hf3 y35 y36 f35
 go_upto_region 4 with (fail)
 obtain ⟨w4, hw4⟩ : ∃ w4, w4 = w3.setCell ⟨F, 1035, none⟩ (.pointer (some ⟨F + 1, 0, none⟩)) := ⟨_, rfl⟩
 rw [← hw4]
 have s4 : w4.heap.size = F + 2 := by rw [hw4]; simpa [World.setCell] using s3
 refine wp_region_lit ?_
 refine wpList_run (by rfl) (run_alloc_agg zero19) ?_
 rw [s4]
 obtain ⟨w5, hw5⟩ : ∃ w5, w5 = w4.alloc (.cells (List.replicate 19 (.int .i64 0)).toArray 160) := ⟨_, rfl⟩
 rw [← hw5]
 have o5 : ∀ b, b < F + 2 → w5.heap[b]? = w4.heap[b]? := fun b hb => by rw [hw5]; exact Below.heap_alloc _ _ _ (by rw [s4]; exact hb)
 have hf4 : Frm (SM F) w3 w4 := by rw [hw4]; exact (Frm.refl _ _).setCell (.inl ⟨rfl, by simp⟩) _
 have hf5 : Frm (SM F) w4 w5 := by rw [hw5]; exact (Frm.refl _ _).alloc _
 have s5 : w5.heap.size = F + 3 := by rw [hw5]; simp [s4]
 obtain ⟨o3, c3, hbb3, fbb3, hf3⟩ := X3.out
 obtain ⟨y0, y1, y36, y37, y38, y39, y40, y45, hf2, fz2⟩ := Y.out
 have k5 : ∀ {o : Nat} {v : Value}, o ≠ 1035 → w2.cell? ⟨F, o, none⟩ = some v → w5.cell? ⟨F, o, none⟩ = some v := fun ho hc => by
  rw [World.cell?_of_block (o5 F (by omega)), hw4, cell_set_off ho, c3]; exact hc
 have x35' : w5.cell? ⟨F, 1035, none⟩ = some (.pointer (some ⟨F + 1, 0, none⟩)) := by rw [World.cell?_of_block (o5 F (by omega)), hw4]; exact set_get x35
 have hf25 : Frm (SM F) W1 w5 := ((hf2.trans hf3).trans hf4).trans hf5
 have lt2 : F < w2.heap.size := by omega
 have fz5 : ∀ o, w5.frozen? ⟨F, o, none⟩ = false := fun o => (((hf3.trans hf4).trans hf5).froz F o lt2).trans (fz2 o)
 have hbb5 : ∀ i, i < 316 → w5.cell? ⟨F + 1, i, none⟩ = some (.int .i64 0) := fun i hi => (hf4.trans hf5).keep (hbb3 i hi) (fun e => by have := e.1; omega)
 have fbb5 : ∀ o, w5.frozen? ⟨F + 1, o, none⟩ = false := fun o => ((hf4.trans hf5).froz (F + 1) o (by omega)).trans (fbb3 o)
 have hcb5 : ∀ i, i < 19 → w5.cell? ⟨F + 2, i, none⟩ = some (.int .i64 0) := fun i hi => by rw [hw5, ← s4, alloc_at]; exact rep_at hi
 have fcb5 : ∀ o, w5.frozen? ⟨F + 2, o, none⟩ = false := fun o => by rw [hw5, ← s4, World.frozen?_alloc_new]
 have x36 := k5 (by decide) y36
 have x45 := k5 (by decide) y45
 have h36 := fz5 1036
 have h45 := fz5 1045
 have X5 := zHi (zAi (k5 (by decide) y0) (zAi (k5 (by decide) y1) (zAi (k5 (by decide) y37) (zAi (k5 (by decide) y38) (zAi (k5 (by decide) y39) (zAi (k5 (by decide) y40) (zAi x35' (zAi hf25 (zAi fz5 (zAi hbb5 (zAi fbb5 (zAi hcb5 fcb5))))))))))))
 clear hw4 hw5 o5 hf4 hf5 o3 c3 hbb3 fbb3 hf3 y0 y1 y36 y37 y38 y39 y40 y45 hf2 fz2 k5 x35' hf25 fz5 hbb5 fbb5 hcb5 fcb5 X3 Y x35 h35 lt2 s3 s4
 go_wp2_with fail
 obtain ⟨w7, hw7⟩ : ∃ w7, w7 = (w5.setCell ⟨F, 1036, none⟩ (.pointer (some ⟨F + 2, 0, none⟩))).setCell ⟨F, 1045, none⟩ (fnV 74) := ⟨_, rfl⟩
 rw [← hw7]
 obtain ⟨u0, u1, u37, u38, u39, u40, u35, hf25, fz5, hbb5, fbb5, hcb5, fcb5⟩ := X5.out
 have k7 : ∀ {o : Nat} {v : Value}, o ≠ 1036 → o ≠ 1045 → w5.cell? ⟨F, o, none⟩ = some v → w7.cell? ⟨F, o, none⟩ = some v := fun h1 h2 hc => by rw [hw7, cell_set_off h2, cell_set_off h1]; exact hc
 have hf7 : Frm (SM F) w5 w7 := by rw [hw7]; exact ((Frm.refl _ _).setCell (.inl ⟨rfl, by simp⟩) _).setCell (.inl ⟨rfl, by simp⟩) _
 have s7 : w7.heap.size = F + 3 := by rw [hw7]; simpa [World.setCell] using s5
 have lt5 : F < w5.heap.size := by omega
 have hf17 := hf25.trans hf7
 have hinit := dictInit_new w7 F none [] 0 rfl (Nat.le_refl _) (by simp) (k7 (by decide) (by decide) u37) (k7 (by decide) (by decide) u38) (k7 (by decide) (by decide) u39) (k7 (by decide) (by decide) u40) (fun o => (hf7.froz F o lt5).trans (fz5 o)) (fun a ha => by simp at ha)
 rw [s7] at hinit
 have v36 : w7.cell? ⟨F, 1036, none⟩ = some (.pointer (some ⟨F + 2, 0, none⟩)) := by rw [hw7, cell_set_off (by decide)]; exact set_get x36
 have v45 : w7.cell? ⟨F, 1045, none⟩ = some (fnV 74) := by rw [hw7]; exact set_get ((cell_set_off (by decide)).trans x45)
 have nb7 : ∀ b o, b ≠ F → w7.cell? ⟨b, o, none⟩ = w5.cell? ⟨b, o, none⟩ := fun b o hb => by rw [hw7, cell_set_ne (.inl hb), cell_set_ne (.inl hb)]
 have HI := zHi hinit
 have X7 := zHi (zAi (k7 (by decide) (by decide) u0) (zAi (k7 (by decide) (by decide) u1) (zAi (k7 (by decide) (by decide) u35) (zAi v36 (zAi v45 (zAi hf17 (zAi (fun i hi => (nb7 (F + 1) i (by omega)).trans (hbb5 i hi)) (zAi (fun i hi => (nb7 (F + 2) i (by omega)).trans (hcb5 i hi)) (zAi (fun o => (hf7.froz (F + 1) o (by omega)).trans (fbb5 o)) (fun o => (hf7.froz (F + 2) o (by omega)).trans (fcb5 o)))))))))))
 clear hw7 u0 u1 u37 u38 u39 u40 u35 hf25 fz5 hbb5 fbb5 hcb5 fcb5 k7 hf7 lt5 hf17 hinit v36 v45 nb7 X5 x36 x45 h36 h45 s5
 refine HI.out.mono ?_
 rintro e w8 ⟨rfl, hP⟩
 have HP := zHi hP
 clear hP
 go_wp2_with fail
 go_ret
 obtain ⟨g, wr, full, hf8, d37, d38, d39, d40, hwin, frH, hwb, hwr, hful, hnf⟩ := HP.out
 obtain ⟨u0, u1, u35, u36, u45, hf17, hbb, hcb, fbb, fcb⟩ := X7.out
 have hf8' : Frm (SM F) w7 w8 := hf8.mono fun b o e => ⟨e.1, .inr (.inl (by omega))⟩
 have kF : ∀ {o : Nat} {v : Value}, o < 1037 ∨ 1041 ≤ o → w7.cell? ⟨F, o, none⟩ = some v → w8.cell? ⟨F, o, none⟩ = some v := fun ho hc => hf8.keep hc (fun e => by omega)
 obtain ⟨d, hrs, q1, q2, q3, q4, q5, q6, q7⟩ := made_rs (dict := []) HN.out HE.out hR HS.out HBL.out (hf17.trans hf8') (kF (by omega) u0) (kF (by omega) u1) (kF (by omega) u35) (kF (by omega) u36) (kF (by omega) u45) (fun i hi => by rw [hf8.keep (hbb i hi) (fun e => by have := e.1; omega)]; rfl) (fun i hi => by rw [hf8.keep (hcb i hi) (fun e => by have := e.1; omega)]; rfl)
  (fun o => (hf8.froz (F + 1) o (by omega)).trans (fbb o)) (fun o => (hf8.froz (F + 2) o (by omega)).trans (fcb o)) rfl d37 d38 d39 d40 hwin frH hwb hwr hful hnf
 exact ⟨F, d, by rw [← HF.out]; exact Nat.le_refl _, rfl, zHi ⟨hrs, q1, q2, q3, q4, q5, q6, q7⟩⟩
set_option maxHeartbeats 2000000 in
theorem newReaderDict_any (w : World) (C : Nat) (p : Ps) (R : Nat) (base : Option Addr) (src : List UInt8) (he : Env w C p) (hR : C ≤ R) (hs : Src w R base src 0) (hbl : ∀ a, base = some a → a.block < w.heap.size) (dbase : Option Addr) (dict : List UInt8) (dcap : Nat) (hdb : Bytes w dbase dict) (hdc : dict.length ≤ dcap) (hdl : dict.length ≤ 4294967296) (hdn : ∀ a, dbase = some a → a.block < w.heap.size) :
 Calls Tryz.prog 59 #[rdrV R, .slice dbase dict.length dcap] w (NewPost w C p R base src dict) := by
 have HE := zHi he
 have HS := zHi hs
 have HBL := zHi hbl
 have HDB := zHi (zAi hdb (zAi hdc (zAi hdl hdn)))
 clear he hs hbl hdb hdc hdl hdn
 go_enter Tryz.func59, Tryz.ntmps59
 go_upto_region 1 with (fail)
 refine wp_region_lit ?_
 refine wpList_run (by rfl) (run_alloc_agg zeroDecompressor) ?_
 refine wpList_nil ?_
 obtain ⟨W1, hW1⟩ : ∃ W1, W1 = w.alloc (.cells zeroDec.toArray 157) := ⟨_, rfl⟩
 have hn := newDec w 157
 rw [← hW1] at hn ⊢
 obtain ⟨F, hF⟩ : ∃ F, F = w.heap.size := ⟨_, rfl⟩
 rw [← hF] at hn ⊢
 have z0 := hn.cell 0 _ (by kernel_rfl : zeroDec[0]? = some .nilIface)
 have z1 := hn.cell 1 _ (by kernel_rfl : zeroDec[1]? = some (.pointer none))
 have z35 := hn.cell 1035 _ (by kernel_rfl : zeroDec[1035]? = some (.pointer none))
 have z36 := hn.cell 1036 _ (by kernel_rfl : zeroDec[1036]? = some (.pointer none))
 have z37 := hn.cell 1037 _ (by kernel_rfl : zeroDec[1037]? = some (.slice none 0 0))
 have z38 := hn.cell 1038 _ (by kernel_rfl : zeroDec[1038]? = some (.int .i64 0))
 have z39 := hn.cell 1039 _ (by kernel_rfl : zeroDec[1039]? = some (.int .i64 0))
 have z40 := hn.cell 1040 _ (by kernel_rfl : zeroDec[1040]? = some (.bool false))
 have z45 := hn.cell 1045 _ (by kernel_rfl : zeroDec[1045]? = some .nilFunc)
 have hfz := hn.froz
 have hsz := hn.size
 have HN := zHi hn
 have HW1 := zHi hW1
 have HF := zHi hF
 clear hn hW1 hF
 go_wp2_with fail
 refine (makeReader_any W1 F R ⟨_, z0⟩ ⟨_, z1⟩ (hfz 0) (hfz 1)).mono ?_
 rintro e w2 ⟨rfl, hw2⟩
 have hf2 : Frm (SM F) W1 w2 := by rw [← hw2]; exact ((Frm.refl _ _).setCell (.inl ⟨rfl, by simp⟩) _).setCell (.inl ⟨rfl, by simp⟩) _
 have s2 : w2.heap.size = F + 1 := by rw [← hw2]; simpa [World.setCell] using hsz
 have y0 : w2.cell? ⟨F, 0, none⟩ = some (rdrV R) := by rw [← hw2]; exact set_get ((cell_set_off (by decide)).trans z0)
 have y1 : w2.cell? ⟨F, 1, none⟩ = some (.pointer none) := by rw [← hw2]; exact (cell_set_off (by decide)).trans (set_get z1)
 have ky : ∀ {o : Nat} {v : Value}, 2 ≤ o → W1.cell? ⟨F, o, none⟩ = some v → w2.cell? ⟨F, o, none⟩ = some v := fun ho hc => by rw [← hw2, cell_set_off (by omega), cell_set_off (by omega)]; exact hc
 have y35 := ky (by decide) z35
 have y36 := ky (by decide) z36
 have y37 := ky (by decide) z37
 have y38 := ky (by decide) z38
 have y39 := ky (by decide) z39
 have y40 := ky (by decide) z40
 have y45 := ky (by decide) z45
 have fz2 : ∀ o, w2.frozen? ⟨F, o, none⟩ = false := fun o => by rw [← hw2, World.frozen?_setCell, World.frozen?_setCell]; exact hfz o
 have Y := zHi (zAi y0 (zAi y1 (zAi y36 (zAi y37 (zAi y38 (zAi y39 (zAi y40 (zAi y45 (zAi hf2 fz2)))))))))
 have f35 := fz2 1035
 clear hw2 hf2 ky y0 y1 y37 y38 y39 y40 y45 fz2 z0 z1 z35 z36 z37 z38 z39 z40 z45 hfz hsz
 go_upto_region 3 with (fail)
 refine wp_region_lit ?_
 refine wpList_run (by rfl) (run_alloc_agg zero316) ?_
 rw [s2]
 obtain ⟨w3, hw3⟩ : ∃ w3, w3 = w2.alloc (.cells (List.replicate 316 (.int .i64 0)).toArray 159) := ⟨_, rfl⟩
 rw [← hw3]
 have o3 : ∀ b, b < F + 1 → w3.heap[b]? = w2.heap[b]? := fun b hb => by rw [hw3]; exact Below.heap_alloc _ _ _ (by rw [s2]; exact hb)
 have c3 : ∀ o, w3.cell? ⟨F, o, none⟩ = w2.cell? ⟨F, o, none⟩ := fun o => World.cell?_of_block (o3 F (by omega))
 have x35 := (c3 1035).trans y35
 have h35 : w3.frozen? ⟨F, 1035, none⟩ = false := (World.frozen?_of_block (o3 F (by omega))).trans f35
 have s3 : w3.heap.size = F + 2 := by rw [hw3]; simp [s2]
 have hbb3 : ∀ i, i < 316 → w3.cell? ⟨F + 1, i, none⟩ = some (.int .i64 0) := fun i hi => by rw [hw3, ← s2, alloc_at]; exact rep_at hi
 have fbb3 : ∀ o, w3.frozen? ⟨F + 1, o, none⟩ = false := fun o => by rw [hw3, ← s2, World.frozen?_alloc_new]
 have hf3 : Frm (SM F) w2 w3 := by rw [hw3]; exact (Frm.refl _ _).alloc _
 have X3 := zHi (zAi o3 (zAi c3 (zAi hbb3 (zAi fbb3 hf3))))
 clear hw3 o3 c3 hbb3 fbb3 hf3 y35 y36 f35
 go_upto_region 4 with (fail)
 obtain ⟨w4, hw4⟩ : ∃ w4, w4 = w3.setCell ⟨F, 1035, none⟩ (.pointer (some ⟨F + 1, 0, none⟩)) := ⟨_, rfl⟩
 rw [← hw4]
 have s4 : w4.heap.size = F + 2 := by rw [hw4]; simpa [World.setCell] using s3
 refine wp_region_lit ?_
 refine wpList_run (by rfl) (run_alloc_agg zero19) ?_
 rw [s4]
 obtain ⟨w5, hw5⟩ : ∃ w5, w5 = w4.alloc (.cells (List.replicate 19 (.int .i64 0)).toArray 160) := ⟨_, rfl⟩
 rw [← hw5]
 have o5 : ∀ b, b < F + 2 → w5.heap[b]? = w4.heap[b]? := fun b hb => by rw [hw5]; exact Below.heap_alloc _ _ _ (by rw [s4]; exact hb)
 have hf4 : Frm (SM F) w3 w4 := by rw [hw4]; exact (Frm.refl _ _).setCell (.inl ⟨rfl, by simp⟩) _
 have hf5 : Frm (SM F) w4 w5 := by rw [hw5]; exact (Frm.refl _ _).alloc _
 have s5 : w5.heap.size = F + 3 := by rw [hw5]; simp [s4]
 obtain ⟨o3, c3, hbb3, fbb3, hf3⟩ := X3.out
 obtain ⟨y0, y1, y36, y37, y38, y39, y40, y45, hf2, fz2⟩ := Y.out
 have k5 : ∀ {o : Nat} {v : Value}, o ≠ 1035 → w2.cell? ⟨F, o, none⟩ = some v → w5.cell? ⟨F, o, none⟩ = some v := fun ho hc => by
  rw [World.cell?_of_block (o5 F (by omega)), hw4, cell_set_off ho, c3]; exact hc
 have x35' : w5.cell? ⟨F, 1035, none⟩ = some (.pointer (some ⟨F + 1, 0, none⟩)) := by rw [World.cell?_of_block (o5 F (by omega)), hw4]; exact set_get x35
 have hf25 : Frm (SM F) W1 w5 := ((hf2.trans hf3).trans hf4).trans hf5
 have lt2 : F < w2.heap.size := by omega
 have fz5 : ∀ o, w5.frozen? ⟨F, o, none⟩ = false := fun o => (((hf3.trans hf4).trans hf5).froz F o lt2).trans (fz2 o)
 have hbb5 : ∀ i, i < 316 → w5.cell? ⟨F + 1, i, none⟩ = some (.int .i64 0) := fun i hi => (hf4.trans hf5).keep (hbb3 i hi) (fun e => by have := e.1; omega)
 have fbb5 : ∀ o, w5.frozen? ⟨F + 1, o, none⟩ = false := fun o => ((hf4.trans hf5).froz (F + 1) o (by omega)).trans (fbb3 o)
 have hcb5 : ∀ i, i < 19 → w5.cell? ⟨F + 2, i, none⟩ = some (.int .i64 0) := fun i hi => by rw [hw5, ← s4, alloc_at]; exact rep_at hi
 have fcb5 : ∀ o, w5.frozen? ⟨F + 2, o, none⟩ = false := fun o => by rw [hw5, ← s4, World.frozen?_alloc_new]
 have x36 := k5 (by decide) y36
 have x45 := k5 (by decide) y45
 have h36 := fz5 1036
 have h45 := fz5 1045
 have X5 := zHi (zAi (k5 (by decide) y0) (zAi (k5 (by decide) y1) (zAi (k5 (by decide) y37) (zAi (k5 (by decide) y38) (zAi (k5 (by decide) y39) (zAi (k5 (by decide) y40) (zAi x35' (zAi hf25 (zAi fz5 (zAi hbb5 (zAi fbb5 (zAi hcb5 fcb5))))))))))))
 clear hw4 hw5 o5 hf4 hf5 o3 c3 hbb3 fbb3 hf3 y0 y1 y36 y37 y38 y39 y40 y45 hf2 fz2 k5 x35' hf25 fz5 hbb5 fbb5 hcb5 fcb5 X3 Y x35 h35 lt2 s3 s4
 go_wp2_with fail
 obtain ⟨w7, hw7⟩ : ∃ w7, w7 = (w5.setCell ⟨F, 1036, none⟩ (.pointer (some ⟨F + 2, 0, none⟩))).setCell ⟨F, 1045, none⟩ (fnV 74) := ⟨_, rfl⟩
 rw [← hw7]
 obtain ⟨u0, u1, u37, u38, u39, u40, u35, hf25, fz5, hbb5, fbb5, hcb5, fcb5⟩ := X5.out
 have k7 : ∀ {o : Nat} {v : Value}, o ≠ 1036 → o ≠ 1045 → w5.cell? ⟨F, o, none⟩ = some v → w7.cell? ⟨F, o, none⟩ = some v := fun h1 h2 hc => by rw [hw7, cell_set_off h2, cell_set_off h1]; exact hc
 have hf7 : Frm (SM F) w5 w7 := by rw [hw7]; exact ((Frm.refl _ _).setCell (.inl ⟨rfl, by simp⟩) _).setCell (.inl ⟨rfl, by simp⟩) _
 have s7 : w7.heap.size = F + 3 := by rw [hw7]; simpa [World.setCell] using s5
 have lt5 : F < w5.heap.size := by omega
 have hf17 := hf25.trans hf7
 obtain ⟨hdb, hdc, hdl, hdn⟩ := HDB.out
 have hne : ∀ a, dbase = some a → a.block ≠ F := fun a ha => by have := hdn a ha; have := HF.out; omega
 have hb7 : Bytes w7 dbase dict := (hdb.keep HN.out.frm (fun a _ j _ e => e)).keep hf17 (fun a ha j _ e => hne a ha e.1)
 have hinit := dictInit_new w7 F dbase dict dcap hb7 hdc hdl (k7 (by decide) (by decide) u37) (k7 (by decide) (by decide) u38) (k7 (by decide) (by decide) u39) (k7 (by decide) (by decide) u40) (fun o => (hf7.froz F o lt5).trans (fz5 o)) hne
 rw [s7] at hinit
 have v36 : w7.cell? ⟨F, 1036, none⟩ = some (.pointer (some ⟨F + 2, 0, none⟩)) := by rw [hw7, cell_set_off (by decide)]; exact set_get x36
 have v45 : w7.cell? ⟨F, 1045, none⟩ = some (fnV 74) := by rw [hw7]; exact set_get ((cell_set_off (by decide)).trans x45)
 have nb7 : ∀ b o, b ≠ F → w7.cell? ⟨b, o, none⟩ = w5.cell? ⟨b, o, none⟩ := fun b o hb => by rw [hw7, cell_set_ne (.inl hb), cell_set_ne (.inl hb)]
 have HI := zHi hinit
 have X7 := zHi (zAi (k7 (by decide) (by decide) u0) (zAi (k7 (by decide) (by decide) u1) (zAi (k7 (by decide) (by decide) u35) (zAi v36 (zAi v45 (zAi hf17 (zAi (fun i hi => (nb7 (F + 1) i (by omega)).trans (hbb5 i hi)) (zAi (fun i hi => (nb7 (F + 2) i (by omega)).trans (hcb5 i hi)) (zAi (fun o => (hf7.froz (F + 1) o (by omega)).trans (fbb5 o)) (fun o => (hf7.froz (F + 2) o (by omega)).trans (fcb5 o)))))))))))
 clear hw7 u0 u1 u37 u38 u39 u40 u35 hf25 fz5 hbb5 fbb5 hcb5 fcb5 k7 hf7 lt5 hf17 hinit v36 v45 nb7 X5 x36 x45 h36 h45 s5 hdb hdc hdl hdn hne hb7
 refine HI.out.mono ?_
 rintro e w8 ⟨rfl, hP⟩
 have HP := zHi hP
 clear hP
 go_wp2_with fail
 go_ret
 obtain ⟨g, wr, full, hf8, d37, d38, d39, d40, hwin, frH, hwb, hwr, hful, hnf⟩ := HP.out
 obtain ⟨u0, u1, u35, u36, u45, hf17, hbb, hcb, fbb, fcb⟩ := X7.out
 have hf8' : Frm (SM F) w7 w8 := hf8.mono fun b o e => ⟨e.1, .inr (.inl (by omega))⟩
 have kF : ∀ {o : Nat} {v : Value}, o < 1037 ∨ 1041 ≤ o → w7.cell? ⟨F, o, none⟩ = some v → w8.cell? ⟨F, o, none⟩ = some v := fun ho hc => hf8.keep hc (fun e => by omega)
 obtain ⟨d, hrs, q1, q2, q3, q4, q5, q6, q7⟩ := made_rs (dict := dict) HN.out HE.out hR HS.out HBL.out (hf17.trans hf8') (kF (by omega) u0) (kF (by omega) u1) (kF (by omega) u35) (kF (by omega) u36) (kF (by omega) u45) (fun i hi => by rw [hf8.keep (hbb i hi) (fun e => by have := e.1; omega)]; rfl) (fun i hi => by rw [hf8.keep (hcb i hi) (fun e => by have := e.1; omega)]; rfl)
  (fun o => (hf8.froz (F + 1) o (by omega)).trans (fbb o)) (fun o => (hf8.froz (F + 2) o (by omega)).trans (fcb o)) rfl d37 d38 d39 d40 hwin frH hwb hwr hful hnf
 exact ⟨F, d, by rw [← HF.out]; exact Nat.le_refl _, rfl, zHi ⟨hrs, q1, q2, q3, q4, q5, q6, q7⟩⟩
end Go.Proofs.YthfncdfcklbigaaGreatDoor
namespace Go.Proofs.YthfncdfcklbigaaGreatDoor
open Go.RowKit Go.Extern.Stop Go.Stop Go.Extern Flate
set_option maxRecDepth 100000
theorem isTypeOf (v : Value) (w : World) : (callFunc 62 #[.iface 194 v]).run Tryz.prog w = .ok (.value (.iface 165 (.agg #[.pointer (some ⟨10, 194, none⟩)]))) w := by kernel_rfl
theorem isComparable (w : World) : (callFunc 140 #[.agg #[.pointer (some ⟨10, 194, none⟩)]]).run Tryz.prog w = .ok (.value (.bool true)) w := by kernel_rfl
theorem isMethodComparable (n : Nat) (v : Value) (w : World) : (Go.method (n + 1) 165 v "Comparable").run Tryz.prog w = .ok (140, v) w := by kernel_rfl
theorem noIsE (v : Value) (xT : TypeId) (w : World) : (Instr.typeAssert (.iface 194 v) xT 167 true).run Tryz.prog w = .ok (.tuple #[.nilIface, .bool false]) w := run_typeAssert_lacksB Tryz.underlying167 (by kernel_rfl) (by kernel_rfl) v xT w
theorem noUnwrapE (v : Value) (xT : TypeId) (w : World) : (Instr.typeAssert (.iface 194 v) xT 170 true).run Tryz.prog w = .ok (.tuple #[.nilIface, .bool false]) w := run_typeAssert_lacksB Tryz.underlying170 (by kernel_rfl) (by kernel_rfl) v xT w
theorem noUnwrapsE (v : Value) (xT : TypeId) (w : World) : (Instr.typeAssert (.iface 194 v) xT 171 true).run Tryz.prog w = .ok (.tuple #[.nilIface, .bool false]) w := run_typeAssert_lacksB Tryz.underlying171 (by kernel_rfl) (by kernel_rfl) v xT w
theorem noIsC (v : Value) (xT : TypeId) (w : World) : (Instr.typeAssert (.iface 88 v) xT 167 true).run Tryz.prog w = .ok (.tuple #[.nilIface, .bool false]) w := run_typeAssert_lacksB Tryz.underlying167 (by kernel_rfl) (by kernel_rfl) v xT w
theorem noUnwrapC (v : Value) (xT : TypeId) (w : World) : (Instr.typeAssert (.iface 88 v) xT 170 true).run Tryz.prog w = .ok (.tuple #[.nilIface, .bool false]) w := run_typeAssert_lacksB Tryz.underlying170 (by kernel_rfl) (by kernel_rfl) v xT w
theorem noUnwrapsC (v : Value) (xT : TypeId) (w : World) : (Instr.typeAssert (.iface 88 v) xT 171 true).run Tryz.prog w = .ok (.tuple #[.nilIface, .bool false]) w := run_typeAssert_lacksB Tryz.underlying171 (by kernel_rfl) (by kernel_rfl) v xT w
theorem is_same (p : Addr) (w : World) : Calls Tryz.prog 41 #[errAt p, errAt p] w fun e w' => e = .returned (.bool true) ∧ w = w' := by
 have tT := isTypeOf
 have cT := isComparable
 have mR := isMethodComparable
 have heq := fun w => eql_same p w
 go_enter Tryz.func41, Tryz.ntmps41
 go_wp2
 refine wp_loop_rounds 1 ?_
 rw [rounds_succ]
 go_wp2
 go_ret
 exact ⟨rfl, rfl⟩
theorem is_other {B : Nat} {p : Ps} (w : World) (he : Env w B p) {x y : Addr} (hx : x ∈ p.all) (hy : y ∈ p.all) (hne : x ≠ y) : Calls Tryz.prog 41 #[errAt x, errAt y] w fun e w' => e = .returned (.bool false) ∧ w = w' := by
 have tT := isTypeOf
 have cT := isComparable
 have mR := isMethodComparable
 have nE := noIsE
 have uE := noUnwrapE
 have vE := noUnwrapsE
 have heq := eql_other he hx hy hne
 clear he hx hy hne
 go_enter Tryz.func41, Tryz.ntmps41
 go_wp2
 refine wp_loop_rounds 1 ?_
 rw [rounds_succ]
 go_wp2
 go_ret
 exact ⟨rfl, rfl⟩
theorem is_corrupt (n : Nat) (y : Addr) (w : World) : Calls Tryz.prog 41 #[corruptAt n, errAt y] w fun e w' => e = .returned (.bool false) ∧ w = w' := by
 obtain ⟨ms, hi⟩ := underlyingError
 have tT := isTypeOf
 have cT := isComparable
 have mR := isMethodComparable
 have nE := noIsC
 have uE := noUnwrapC
 have vE := noUnwrapsC
 have hty := run_eql_iface_types (P := Tryz.prog) 88 194 (.int .i64 (n : Int)) (.pointer (some y)) hi (by decide)
 clear hi
 go_enter Tryz.func41, Tryz.ntmps41
 go_wp2
 refine wp_loop_rounds 1 ?_
 rw [rounds_succ]
 go_wp2
 go_ret
 exact ⟨rfl, rfl⟩
theorem asC_E (v : Value) (xT : TypeId) (w : World) : (Instr.typeAssert (.iface 194 v) xT 88 true).run Tryz.prog w = .ok (.tuple #[.int .i64 0, .bool false]) w := by kernel_rfl
theorem asC_C (v : Value) (xT : TypeId) (w : World) : (Instr.typeAssert (.iface 88 v) xT 88 true).run Tryz.prog w = .ok (.tuple #[v, .bool true]) w := by kernel_rfl
theorem asC_nil (xT : TypeId) (w : World) : (Instr.typeAssert .nilIface xT 88 true).run Tryz.prog w = .ok (.tuple #[.int .i64 0, .bool false]) w := by kernel_rfl
theorem faultOf_nil (w : World) : Calls Tryz.prog 28 #[.nilIface] w fun e w' => e = .returned (.int .i64 0) ∧ w = w' := by
 have a0 := asC_nil
 go_enter Tryz.func28, Tryz.ntmps28
 go_wp2
 go_ret
 exact ⟨rfl, rfl⟩
theorem faultOf_corrupt (w : World) {B : Nat} {p : Ps} (he : Env w B p) (n : Nat) : Calls Tryz.prog 28 #[corruptAt n] w fun e w' => e = .returned (.int .i64 5) ∧ w = w' := by
 have a0 := asC_C
 have c1 := he.hdr
 have c2 := he.dic
 have c3 := he.sum
 have c4 := he.unx
 clear he
 go_enter Tryz.func28, Tryz.ntmps28
 go_wp2_with (go_at_call 41; refine (is_corrupt _ _ _).mono ?_; rintro e w' ⟨rfl, rfl⟩)
 go_ret
 exact ⟨rfl, rfl⟩
theorem faultOf_hdr (w : World) {B : Nat} {p : Ps} (he : Env w B p) : Calls Tryz.prog 28 #[errAt p.H] w fun e w' => e = .returned (.int .i64 1) ∧ w = w' := by
 have a0 := asC_E
 have c1 := he.hdr
 clear he
 go_enter Tryz.func28, Tryz.ntmps28
 go_wp2_with fail
 refine (is_same _ _).mono ?_
 rintro e w' ⟨rfl, rfl⟩
 go_wp2_with fail
 go_ret
 exact ⟨rfl, rfl⟩
theorem faultOf_dic (w : World) {B : Nat} {p : Ps} (he : Env w B p) : Calls Tryz.prog 28 #[errAt p.D] w fun e w' => e = .returned (.int .i64 2) ∧ w = w' := by
 have a0 := asC_E
 have c1 := he.hdr
 have c2 := he.dic
 have hn := he.nodup
 have k1 := is_other w he (x := p.D) (y := p.H) (by simp [Ps.all]) (by simp [Ps.all]) (by intro e; simp [Ps.all, e] at hn)
 have K1 := zHi k1
 clear he hn k1
 go_enter Tryz.func28, Tryz.ntmps28
 go_wp2_with fail
 refine K1.out.mono ?_
 rintro e w' ⟨rfl, rfl⟩
 go_wp2_with fail
 refine (is_same _ _).mono ?_
 rintro e w' ⟨rfl, rfl⟩
 go_wp2_with fail
 go_ret
 exact ⟨rfl, rfl⟩
theorem faultOf_sum (w : World) {B : Nat} {p : Ps} (he : Env w B p) : Calls Tryz.prog 28 #[errAt p.C] w fun e w' => e = .returned (.int .i64 3) ∧ w = w' := by
 have a0 := asC_E
 have c1 := he.hdr
 have c2 := he.dic
 have c3 := he.sum
 have hn := he.nodup
 have k1 := is_other w he (x := p.C) (y := p.H) (by simp [Ps.all]) (by simp [Ps.all]) (by intro e; simp [Ps.all, e] at hn)
 have k2 := is_other w he (x := p.C) (y := p.D) (by simp [Ps.all]) (by simp [Ps.all]) (by intro e; simp [Ps.all, e] at hn)
 have K1 := zHi k1
 have K2 := zHi k2
 clear he hn k1 k2
 go_enter Tryz.func28, Tryz.ntmps28
 go_wp2_with fail
 refine K1.out.mono ?_
 rintro e w' ⟨rfl, rfl⟩
 go_wp2_with fail
 refine K2.out.mono ?_
 rintro e w' ⟨rfl, rfl⟩
 go_wp2_with fail
 refine (is_same _ _).mono ?_
 rintro e w' ⟨rfl, rfl⟩
 go_wp2_with fail
 go_ret
 exact ⟨rfl, rfl⟩
theorem faultOf_unx (w : World) {B : Nat} {p : Ps} (he : Env w B p) : Calls Tryz.prog 28 #[errAt p.U] w fun e w' => e = .returned (.int .i64 4) ∧ w = w' := by
 have a0 := asC_E
 have c1 := he.hdr
 have c2 := he.dic
 have c3 := he.sum
 have c4 := he.unx
 have hn := he.nodup
 have k1 := is_other w he (x := p.U) (y := p.H) (by simp [Ps.all]) (by simp [Ps.all]) (by intro e; simp [Ps.all, e] at hn)
 have k2 := is_other w he (x := p.U) (y := p.D) (by simp [Ps.all]) (by simp [Ps.all]) (by intro e; simp [Ps.all, e] at hn)
 have k3 := is_other w he (x := p.U) (y := p.C) (by simp [Ps.all]) (by simp [Ps.all]) (by intro e; simp [Ps.all, e] at hn)
 have K1 := zHi k1
 have K2 := zHi k2
 have K3 := zHi k3
 clear he hn k1 k2 k3
 go_enter Tryz.func28, Tryz.ntmps28
 go_wp2_with fail
 refine K1.out.mono ?_
 rintro e w' ⟨rfl, rfl⟩
 go_wp2_with fail
 refine K2.out.mono ?_
 rintro e w' ⟨rfl, rfl⟩
 go_wp2_with fail
 refine K3.out.mono ?_
 rintro e w' ⟨rfl, rfl⟩
 go_wp2_with fail
 refine (is_same _ _).mono ?_
 rintro e w' ⟨rfl, rfl⟩
 go_wp2_with fail
 go_ret
 exact ⟨rfl, rfl⟩
end Go.Proofs.YthfncdfcklbigaaGreatDoor
namespace Go.Proofs.YthfncdfcklbigaaGreatDoor
open Go.RowKit Flate
set_option maxRecDepth 100000
theorem RS.low {F C : Nat} {p : Ps} {d0 : DS} {x0 : Cfg × List UInt8} {k : Nat} {w : World} {d : DS} {H : List UInt8} {n : Nat} {x : Cfg × List UInt8} (h : RS F C p d0 x0 k w d H n x) (hb : ∀ a, d.base = some a → a.block < w.heap.size) : LowD F d w.heap.size where
 F := cell_lt h.st.dec.r
 R := h.st.dec.so.lt
 H := cell_lt (h.st.dec.win 0 (by omega))
 B := by
  obtain ⟨v, hv⟩ := Option.isSome_iff_exists.1 (h.st.dec.bb 0 (by omega))
  exact cell_lt hv
 C := by
  obtain ⟨v, hv⟩ := Option.isSome_iff_exists.1 (h.st.dec.cb 0 (by omega))
  exact cell_lt hv
 S := hb
theorem conv_bytes {w : World} {b : Option Addr} {l : List UInt8} {c : Nat} (h : Bytes w b l) : (convert 22 9 (.slice b l.length c)).run Tryz.prog w = .ok (.string ⟨l.toArray⟩) w := by
 cases b with
 | none =>
  have hl : l = [] := h; subst hl; rw [show ([] : List UInt8).length = 0 from rfl, run_convert_bytes_string w 22 9 5 none 0 c Tryz.underlying22 Tryz.underlying5 Tryz.underlying9]
  rfl
 | some a =>
  obtain ⟨ab, ao, sp⟩ := a; obtain ⟨hs, hc⟩ := h; simp only at hs; subst hs; exact run_convert_bytes_back w 22 9 5 ⟨ab, ao, none⟩ c l Tryz.underlying22 Tryz.underlying5 Tryz.underlying9 (fun j hj => by rw [Addr.add_lit]; exact hc j hj)
def sameB (l m : List UInt8) : Bool := l == m
theorem sameB_true {l m : List UInt8} : sameB l m = true ↔ l = m := by unfold sameB; exact beq_iff_eq
theorem sameB_refl (l : List UInt8) : sameB l l = true := sameB_true.2 rfl
theorem same_any (w : World) (b1 b2 : Option Addr) (l1 l2 : List UInt8) (c1 c2 : Nat) (h1 : Bytes w b1 l1) (h2 : Bytes w b2 l2) :
 Calls Tryz.prog 17 #[.slice b1 l1.length c1, .slice b2 l2.length c2] w fun e w' => e = .returned (.bool (sameB l1 l2)) ∧ w = w' := by
 have k1 := conv_bytes (c := c1) h1
 have k2 := conv_bytes (c := c2) h2
 have k3 : ((⟨l1.toArray⟩ : ByteArray).toList == (⟨l2.toArray⟩ : ByteArray).toList) = sameB l1 l2 := by rw [ByteArray.toList_mk, ByteArray.toList_mk]; rfl
 generalize (⟨l1.toArray⟩ : ByteArray) = s1 at k1 k3
 generalize (⟨l2.toArray⟩ : ByteArray) = s2 at k2 k3
 clear h1 h2
 have K3 := zHi k3
 clear k3
 generalize l1.length = n1 at k1 ⊢
 generalize l2.length = n2 at k2 ⊢
 go_enter Tryz.func17, Tryz.ntmps17
 go_wp2_with fail
 go_ret
 exact ⟨congrArg (fun b => Ending.returned (.bool b)) K3.out, rfl⟩
theorem nilSizes (w : World) (N0 : Nat) (M : Nat → Prop) : Sizes w N0 M (.slice none 0 0) := .inl ⟨_, _, rfl⟩
theorem bytes_new (w : World) (cs : Array Value) (t : TypeId) (l : List UInt8) (h : ∀ j (hj : j < l.length), cs[j]? = some (byteV l[j])) : Bytes (w.alloc (.cells cs t)) (some ⟨w.heap.size, 0, none⟩) l :=
 ⟨rfl, fun j hj => by
  rw [Nat.zero_add]; exact (cells_at (heap_alloc_new w _)).trans (h j hj)⟩
end Go.Proofs.YthfncdfcklbigaaGreatDoor
