/-
  Several texts in one: Rh.
-/
import Derived.Test.YthfncdfcklbigaaGreatDoorPj
import Derived.Test.YthfncdfcklbigaaGreatDoorPb
import Derived.BigRegion
import Derived.Deep.RegionWith
import Derived.Deep.CutBlock
import Derived.Deep.LoopGhost
import Derived.IntWalk
import Derived.Deep.RegionHeld3
set_option linter.unusedVariables false
set_option linter.unusedSimpArgs false
namespace Go.Proofs.YthfncdfcklbigaaGreatDoor
open Go.RowKit Flate
set_option maxRecDepth 100000
def rhTail (src : List UInt8) (nlit ndist nclen : Nat) (r : Br) : Rd (Tab × Tab) :=
 match clRead src nclen [] r with
 | .bad e r' => .bad e r'
 | .ok vs r2 =>
  match initTab (clens vs) with
  | none | some none => .bad .corrupt r2
  | some (some TC) =>
   match lenRead src TC (nlit + ndist) 400 [] r2 with
   | .bad e r' => .bad e r'
   | .ok ls r3 => twoTabs ls nlit r3
theorem rh_cut {src : List UInt8} {r r' : Br} (h : getBits src 14 r = .bad .cut r') : readHuff src r = .bad .cut r' := by
 unfold getBits at h
 unfold readHuff
 cases hf : fill src.length 14 r with
 | mk t q =>
  rw [hf] at h
  cases t with
  | false => simp only [Rd.bad.injEq, true_and] at h; rw [h]
  | true => simp at h
theorem rh_go {src : List UInt8} {r r1 : Br} (h : fill src.length 14 r = (true, r1)) : readHuff src r = if 29 < bv src r1.at_ 5 then .bad .corrupt r1
 else if 29 < bv src (r1.at_ + 5) 5 then .bad .corrupt r1
 else rhTail src (bv src r1.at_ 5 + 257) (bv src (r1.at_ + 5) 5 + 1) (bv src (r1.at_ + 10) 4 + 4) { r1 with at_ := r1.at_ + 14 } := by
 unfold readHuff rhTail
 rw [h]
 rfl
theorem nb3 {src : List UInt8} {r : Br} (h : 14 ≤ r.nb) {bb b1 b2 b3 : Nat} (hb : bb = r.b src) (h1 : b1 = bb / 32) (h2 : b2 = b1 / 32) (h3 : b3 = b2 / 16) :
 bb % 32 = bv src r.at_ 5 ∧ b1 % 32 = bv src (r.at_ + 5) 5 ∧ b2 % 16 = bv src (r.at_ + 10) 4 ∧ b3 = ({ r with at_ := r.at_ + 14 } : Br).b src := by
 have e := b_mod (src := src) (r := r) (n := 5) (by omega)
 have s1 := b_skip (src := src) (r := r) (n := 5) (by omega)
 have n1 : ({ r with at_ := r.at_ + 5 } : Br).nb = r.nb - 5 := by unfold Br.nb; simp only; omega
 have e1 := b_mod (src := src) (r := { r with at_ := r.at_ + 5 }) (n := 5) (by rw [n1]; omega)
 have s2 := b_skip (src := src) (r := { r with at_ := r.at_ + 5 }) (n := 5) (by rw [n1]; omega)
 have n2 : ({ r with at_ := r.at_ + 10 } : Br).nb = r.nb - 10 := by unfold Br.nb; simp only; omega
 have e2 := b_mod (src := src) (r := { r with at_ := r.at_ + 10 }) (n := 4) (by rw [n2]; omega)
 have s3 := b_skip (src := src) (r := { r with at_ := r.at_ + 10 }) (n := 4) (by rw [n2]; omega)
 simp only [Nat.add_assoc, Nat.reduceAdd, Nat.reducePow] at e s1 e1 s2 e2 s3
 rw [← hb, ← h1] at s1
 rw [← s1, ← h2] at s2
 rw [← s2, ← h3] at s3
 rw [← hb] at e
 rw [← s1] at e1
 rw [← s2] at e2
 exact ⟨e, e1, e2, s3⟩
def rhLen (src : List UInt8) (TC : Tab) (nlit n f : Nat) (acc : List Nat) (r : Br) : Rd (Tab × Tab) :=
 match lenRead src TC n f acc r with
 | .bad e r' => .bad e r'
 | .ok ls r3 => twoTabs ls nlit r3
theorem rhTail_none {src : List UInt8} {nlit ndist nclen : Nat} {r r2 : Br} {vs : List Nat} (h : clRead src nclen [] r = .ok vs r2) (hT : initTab (clens vs) = some none) : rhTail src nlit ndist nclen r = .bad .corrupt r2 := by
 unfold rhTail; rw [h]; simp only; rw [hT]
theorem rhTail_some {src : List UInt8} {nlit ndist nclen : Nat} {r r2 : Br} {vs : List Nat} {TC : Tab} (h : clRead src nclen [] r = .ok vs r2) (hT : initTab (clens vs) = some (some TC)) : rhTail src nlit ndist nclen r = rhLen src TC nlit (nlit + ndist) 400 [] r2 := by
 unfold rhTail rhLen; rw [h]; simp only; rw [hT]
theorem rhLen_bad {src : List UInt8} {TC : Tab} {nlit n f : Nat} {acc : List Nat} {r r' : Br} {e : Err} (hf : 0 < f) (hn : ¬ n ≤ acc.length) (h : lenStep src TC n acc r = .bad e r') : rhLen src TC nlit n f acc r = .bad e r' := by
 obtain ⟨q, rfl⟩ : ∃ q, f = q + 1 := ⟨f - 1, by omega⟩
 unfold rhLen
 rw [lenRead, if_neg hn, h]
theorem rhLen_step {src : List UInt8} {TC : Tab} {nlit n f : Nat} {acc acc' : List Nat} {r r' : Br} (hf : 0 < f) (hn : ¬ n ≤ acc.length) (h : lenStep src TC n acc r = .ok acc' r') : rhLen src TC nlit n f acc r = rhLen src TC nlit n (f - 1) acc' r' := by
 obtain ⟨q, rfl⟩ : ∃ q, f = q + 1 := ⟨f - 1, by omega⟩
 unfold rhLen
 rw [lenRead, if_neg hn, h]; rfl
theorem rhLen_end {src : List UInt8} {TC : Tab} {nlit n f : Nat} {acc : List Nat} {r : Br} (hn : n ≤ acc.length) : rhLen src TC nlit n f acc r = twoTabs acc nlit r := by
 unfold rhLen
 cases f with
 | zero => rw [lenRead]
 | succ f => rw [lenRead, if_pos hn]
theorem lenStep_sym {src : List UInt8} {T : Tab} {n : Nat} {acc : List Nat} {r r' : Br} {e : Err} (h : symbol src T r = .bad e r') : lenStep src T n acc r = .bad e r' := by
 unfold lenStep; rw [h]
theorem lenStep_lit {src : List UInt8} {T : Tab} {n v : Nat} {acc : List Nat} {r r' : Br} (h : symbol src T r = .ok v r') (hv : v < 16) : lenStep src T n acc r = .ok (acc ++ [v]) r' := by
 unfold lenStep; rw [h]; simp only; rw [if_pos hv]
theorem lenStep_first {src : List UInt8} {T : Tab} {n v : Nat} {acc : List Nat} {r r' : Br} (h : symbol src T r = .ok v r') (hv : v = 16) (ha : acc.length = 0) : lenStep src T n acc r = .bad .corrupt r' := by
 unfold lenStep; rw [h]; simp only; rw [if_neg (by omega), if_pos ⟨hv, ha⟩]
theorem lenStep_rep {src : List UInt8} {T : Tab} {n v : Nat} {acc : List Nat} {r r' : Br} (h : symbol src T r = .ok v r') (hv : ¬ v < 16) (ha : ¬ (v = 16 ∧ acc.length = 0)) :
 lenStep src T n acc r = match getBits src (repOf v acc).2.1 r' with
  | .bad e r' => .bad e r'
  | .ok y r2 => if n < acc.length + ((repOf v acc).1 + y) then .bad .corrupt r2 else .ok (acc ++ List.replicate ((repOf v acc).1 + y) (repOf v acc).2.2) r2 := by
 unfold lenStep; rw [h]; simp only; rw [if_neg hv, if_neg ha]; rfl
theorem two_bad1 {ls : List Nat} {nlit : Nat} {r : Br} (h : initTab (ls.take nlit) = some none) : twoTabs ls nlit r = .bad .corrupt r := by
 unfold twoTabs; rw [h]
theorem two_bad2 {ls : List Nat} {nlit : Nat} {r : Br} {T1 : Tab} (h : initTab (ls.take nlit) = some (some T1)) (h2 : initTab (ls.drop nlit) = some none) : twoTabs ls nlit r = .bad .corrupt r := by
 unfold twoTabs; rw [h]; simp only; rw [h2]
theorem two_ok {ls : List Nat} {nlit : Nat} {r : Br} {T1 T2 : Tab} (h : initTab (ls.take nlit) = some (some T1)) (h2 : initTab (ls.drop nlit) = some (some T2)) :
 twoTabs ls nlit r = .ok ({ T1 with min := if T1.min < ls.getD 256 0 then ls.getD 256 0 else T1.min }, T2) r := by
 unfold twoTabs; rw [h]; simp only; rw [h2]
def ClAt (w : World) (CB i : Nat) (vs : List Nat) : Prop := ∀ j, j < i → w.cell? ⟨CB, clOrder.getD j 0, none⟩ = some (.int .i64 ((vs.getD j 0 : Nat) : Int))
theorem clOrder_lt (i : Nat) (h : i < 19) : clOrder.getD i 0 < 19 ∧ codeOrder.getD i 0 = clOrder.getD i 0 := by
 have : ∀ i : Fin 19, clOrder.getD i.1 0 < 19 ∧ codeOrder.getD i.1 0 = clOrder.getD i.1 0 := by decide
 exact this ⟨i, h⟩
theorem clOrder_ne {i j : Nat} (h : j < i) (hi : i < 19) : clOrder.getD j 0 ≠ clOrder.getD i 0 := by
 have : ∀ i : Fin 19, ∀ j : Fin 19, j.1 < i.1 → clOrder.getD j.1 0 ≠ clOrder.getD i.1 0 := by decide
 exact this ⟨i, hi⟩ ⟨j, by omega⟩ h
theorem ClAt.keep {S : Nat → Nat → Prop} {w w' : World} {CB i : Nat} {vs : List Nat} (h : ClAt w CB i vs) (hf : Frm S w w') (hS : ∀ o, ¬ S CB o) : ClAt w' CB i vs := fun j hj => hf.keep (h j hj) (hS _)
theorem ClAt.step {w : World} {CB i x : Nat} {vs vs' : List Nat} (h : ClAt w CB i vs) (hi : i < 19) (hl : (w.cell? ⟨CB, clOrder.getD i 0, none⟩).isSome = true) (hv : ∀ j, j < i → vs'.getD j 0 = vs.getD j 0) (hx : vs'.getD i 0 = x) :
 ClAt (w.setCell ⟨CB, clOrder.getD i 0, none⟩ (.int .i64 (x : Int))) CB (i + 1) vs' := by
 intro j hj
 obtain ⟨v, hv'⟩ := Option.isSome_iff_exists.1 hl
 by_cases e : j = i
 · subst e; rw [set_get hv', hx]
 · rw [cell_set_off (clOrder_ne (by omega) hi), h j (by omega), hv j (by omega)]
theorem clRead_step {src : List UInt8} {g x : Nat} {acc : List Nat} {r r' : Br} (h : getBits src 3 r = .ok x r') : clRead src (g + 1) acc r = clRead src g (acc ++ [x]) r' := by
 rw [clRead, h]
theorem clRead_cut {src : List UInt8} {g : Nat} {acc : List Nat} {r r' : Br} (hg : 0 < g) (h : getBits src 3 r = .bad .cut r') : clRead src g acc r = .bad .cut r' := by
 obtain ⟨q, rfl⟩ : ∃ q, g = q + 1 := ⟨g - 1, by omega⟩
 rw [clRead, h]
theorem rhTail_bad {src : List UInt8} {nlit ndist nclen : Nat} {r r' : Br} {e : Err} (h : clRead src nclen [] r = .bad e r') : rhTail src nlit ndist nclen r = .bad e r' := by
 unfold rhTail; rw [h]
theorem RI.zero {w0 w : World} {F C : Nat} {p : Ps} {d : DS} {H : List UInt8} {k : Nat} {r : Br} (h : RI w0 F C p d H k w r) {i : Nat} (hi : i < 19) :
 w.cell? ⟨7, i, none⟩ = some (.int .i64 ((clOrder.getD i 0 : Nat) : Int)) ∧ ∃ v, w.cell? ⟨d.CB, clOrder.getD i 0, none⟩ = some v := by
 refine ⟨by rw [h.st.env.ord i hi, (clOrder_lt i hi).2], ?_⟩
 exact Option.isSome_iff_exists.1 (h.st.dec.cb _ (clOrder_lt i hi).1)
theorem clOrder_idx (j : Nat) (h : j < 19) : clOrder.idxOf j < 19 ∧ clOrder.getD (clOrder.idxOf j) 0 = j := by
 have : ∀ j : Fin 19, clOrder.idxOf j.1 < 19 ∧ clOrder.getD (clOrder.idxOf j.1) 0 = j.1 := by decide
 exact this ⟨j, h⟩
theorem clens_getD (vs : List Nat) (j : Nat) (h : j < 19) : (clens vs).getD j 0 = vs.getD (clOrder.idxOf j) 0 := by
 unfold clens
 rw [List.getD_eq_getElem?_getD, List.getElem?_map, List.getElem?_range h]; rfl
set_option maxHeartbeats 4000000 in
theorem readHuffman_any (w : World) (F C : Nat) (p : Ps) (d : DS) (H : List UInt8) (k : Nat) (r : Br) (h : St w F C p d H k 0) (hd : d = d.put r) (hr : r.ok d.src) (hnb : r.nb ≤ 22) :
 Calls Tryz.prog 83 #[.pointer (some ⟨F, 0, none⟩)] w (RhPost w F C p d H k (readHuff d.src r)) := by
 have hI0 : RI w F C p d H k w r := ⟨by rw [← hd]; exact h, hr, hnb, Frm.refl _ _⟩
 have HI0 := zHi hI0
 clear h hd hr hnb hI0
 go_enter Tryz.func83, Tryz.ntmps83
 go_upto_block 0 with (fail)
 go_cut [3] (fun _ wq => ∃ r1, fill d.src.length 14 r = (true, r1) ∧ 14 ≤ r1.nb ∧ RI w F C p d H k wq r1)
 case first => as_aux_lemma =>
  go_wp2_with fail
  go_loopw [3] (fun ev wr => MB w F (d) r 14 wr) (fun _ wr => leftN (d).src.length (d).R wr)
  case atStart => exact ⟨r, HI0.out.st.dec, HI0.out.ok, HI0.out.nb, rfl, Frm.refl _ _⟩
  case round =>
   obtain ⟨r', hD', ho', hn', hfl', hf'⟩ := hrel; obtain ⟨nv, hnv⟩ : ∃ nv, nv = r'.nb := ⟨_, rfl⟩; have q4 : wr.cell? ⟨F, 4, none⟩ = some (.int .u64 (nv : Int)) := by rw [hnv]; exact hD'.nb
   have q48 := hD'.err; have s48 := hD'.fr 1048; have b6 : (nv : Int) ≤ 22 := by omega
   have HNV := zHi hnv
   by_cases hlt : 14 ≤ r'.nb
   · have e4 : decide ((nv : Int) < 14) = false := by simp; omega
     have hfe : fill d.src.length 14 r = (true, r') := by rw [← hfl', fill_has hlt]
     have hI1 := HI0.out.bits hD' hf' ho' hn'; have HFE := zHi hfe; have HI1 := zHi hI1; have HLT := zHi hlt; clear hfl' hf' hD' hn' hnv hlt ho' hfe hI1; go_wp2_with fail
     go_meet
     case rel => exact ⟨r', HFE.out, HLT.out, HI1.out⟩
   · have e4 : decide ((nv : Int) < 14) = true := by simp; omega
     by_cases hp : r'.pos < d.src.length
     · have hmb := MB.call_more hD' ho' hfl' hf' hlt (by omega) hp
       have HMB := zHi hmb; clear hmb hfl' hf' hD' hn' hnv hlt ho'; go_wp2_with fail
       refine HMB.out.mono ?_; rintro e wm ⟨rfl, HM⟩; go_wp2_with fail
       go_roundw
       case rel => first | exact HM.out.1 | ((repeat apply Exists.intro); exact ⟨HM.out.1, rfl⟩)
       case measure => exact HM.out.2
     · have hmb := MB.call_end HI0.out.st.env HI0.out.st.cR HI0.out.st.cF hD' ho' hfl' hf' hlt hp; have HMB := zHi hmb; clear hmb hf' hfl' hD' hn' hp hnv hlt ho'; go_wp2_with fail
       refine HMB.out.mono ?_; rintro e wm ⟨rfl, hDm, HGC⟩; have p48 := hDm.err; have t48 := hDm.fr 1048; have HDm := zHi hDm; clear hDm q48 s48 q4; go_wp2_with fail
       go_ret
       obtain ⟨hgc, hfm⟩ := HGC.out; exact HI0.out.cut HDm.out hfm (rh_cut hgc)
 case rest =>
 as_aux_lemma =>
 obtain ⟨r1, hf1, hn14, hI1⟩ := hcut
 generalize wc = w1 at hI1 ⊢
 have hR := rh_go hf1
 obtain ⟨bb, hbb⟩ : ∃ bb, bb = r1.b d.src := ⟨_, rfl⟩
 obtain ⟨b1, hb1⟩ : ∃ b1, b1 = bb / 32 := ⟨_, rfl⟩
 obtain ⟨b2, hb2⟩ : ∃ b2, b2 = b1 / 32 := ⟨_, rfl⟩
 obtain ⟨b3, hb3⟩ : ∃ b3, b3 = b2 / 16 := ⟨_, rfl⟩
 obtain ⟨x1, x2, x3, x4⟩ := nb3 hn14 hbb hb1 hb2 hb3
 rw [← x1, ← x2, ← x3] at hR
 obtain ⟨nl, hnl⟩ : ∃ nl, nl = bb % 32 := ⟨_, rfl⟩
 obtain ⟨nd, hnd⟩ : ∃ nd, nd = b1 % 32 := ⟨_, rfl⟩
 obtain ⟨nc, hnc⟩ : ∃ nc, nc = b2 % 16 := ⟨_, rfl⟩
 rw [← hnl, ← hnd, ← hnc] at hR
 have hb24 : bb < 2 ^ 22 := by
  have h1 := bv_lt d.src r1.at_ r1.nb; have h2 : 2 ^ r1.nb ≤ 2 ^ 22 := Nat.pow_le_pow_right (by omega) hI1.nb
  rw [hbb]; unfold Br.b; omega
 have y1 : bits .and .u32 (bb : Int) 31 = (nl : Int) := by rw [show (31 : Int) = ((32 : Nat) : Int) - 1 from rfl, mask_bits bb 5 32 rfl (by omega) (by omega), hnl]
 have y2 : bits .and .u32 (b1 : Int) 31 = (nd : Int) := by rw [show (31 : Int) = ((32 : Nat) : Int) - 1 from rfl, mask_bits b1 5 32 rfl (by omega) (by omega), hnd]
 have y3 : bits .and .u32 (b2 : Int) 15 = (nc : Int) := by rw [show (15 : Int) = ((16 : Nat) : Int) - 1 from rfl, mask_bits b2 4 16 rfl (by omega) (by omega), hnc]
 have y4 : (bb : Int) / 32 = (b1 : Int) := by rw [hb1]; rfl
 have y5 : (b1 : Int) / 32 = (b2 : Int) := by rw [hb2]; rfl
 have y6 : (b2 : Int) / 16 = (b3 : Int) := by rw [hb3]; rfl
 have y7 : (bb : Int) ≤ 4194304 := by omega
 have y8 : (nl : Int) ≤ 31 := by omega
 have y9 : (nd : Int) ≤ 31 := by omega
 have y10 : (nc : Int) ≤ 15 := by omega
 have y11 : (b1 : Int) ≤ 4194304 := by omega
 have y12 : (b2 : Int) ≤ 4194304 := by omega
 obtain ⟨nv, hnv⟩ : ∃ nv, nv = r1.nb := ⟨_, rfl⟩
 obtain ⟨nb2, hnb2⟩ : ∃ nb2, nb2 = r1.nb - 14 := ⟨_, rfl⟩
 have y13 : (nv : Int) - 14 = (nb2 : Int) := by omega
 have y14 : (nv : Int) ≤ 22 := by have := hI1.nb; omega
 have c2 := hI1.st.dec.roff
 have c3 : w1.cell? ⟨F, 3, none⟩ = some (.int .u32 (bb : Int)) := by rw [hbb]; exact hI1.st.dec.b
 have c4 : w1.cell? ⟨F, 4, none⟩ = some (.int .u64 (nv : Int)) := by rw [hnv]; exact hI1.st.dec.nb
 have g3 := hI1.st.dec.fr 3
 have g4 := hI1.st.dec.fr 4
 have HI1 := zHi hI1
 have HX4 := zHi x4
 have HNB2 := zHi hnb2
 have H14 := zHi hn14
 obtain ⟨nlit, hnlit⟩ : ∃ n, n = nl + 257 := ⟨_, rfl⟩
 obtain ⟨ndist, hndist⟩ : ∃ n, n = nd + 1 := ⟨_, rfl⟩
 obtain ⟨nclen, hnclen⟩ : ∃ n, n = nc + 4 := ⟨_, rfl⟩
 have z1 : (nl : Int) + 257 = (nlit : Int) := by omega
 have z2 : (nd : Int) + 1 = (ndist : Int) := by omega
 have z3 : (nc : Int) + 4 = (nclen : Int) := by omega
 rw [← hnlit, ← hndist, ← hnclen] at hR
 have hl : 29 < nl ↔ 286 < nlit := by omega
 have hdd : 29 < nd ↔ 30 < ndist := by omega
 have y17 : (nclen : Int) ≤ 19 := by omega
 have y20 : (4 : Int) ≤ (nclen : Int) := by omega
 have y18 : (257 : Int) ≤ (nlit : Int) := by omega
 have y19 : (1 : Int) ≤ (ndist : Int) := by omega
 have Y17 : nclen ≤ 19 := by omega
 simp only [hl, hdd] at hR
 clear hbb hb1 hb2 hb3 x1 x2 x3 x4 hnl hnd hnc hb24 hnb2 hnv hf1 hn14 hI1 hl hdd hnlit hndist hnclen
 by_cases hl29 : 286 < nlit
 · have e5 : decide ((286 : Int) < (nlit : Int)) = true := by simp; omega
   rw [if_pos hl29] at hR; have HR := zHi hR; clear hR hl29; go_wp2_with fail
   go_ret
   exact HI1.out.corrupt (d' := d.put r1) (r' := r1) rfl HR.out HI1.out.st.dec (Frm.refl _ _) rfl
 have e5 : decide ((286 : Int) < (nlit : Int)) = false := by simp; omega
 rw [if_neg hl29] at hR
 by_cases hd29 : 30 < ndist
 · have e6 : decide ((30 : Int) < (ndist : Int)) = true := by simp; omega
   rw [if_pos hd29] at hR; have HR := zHi hR; clear hR hl29 hd29; go_wp2_with fail
   go_ret
   exact HI1.out.corrupt (d' := { d.put r1 with b := b1 }) (r' := r1) rfl HR.out (HI1.out.st.dec.set_b b1) ((Frm.refl _ _).setCell (.inl (.inr (.inr ⟨rfl, by simp⟩))) _) rfl
 have e6 : decide ((30 : Int) < (ndist : Int)) = false := by simp; omega
 rw [if_neg hd29] at hR
 have y15 : (nlit : Int) ≤ 286 := by omega
 have y16 : (ndist : Int) ≤ 30 := by omega
 have Y15 : nlit ≤ 286 := by omega
 have Y16 : ndist ≤ 30 := by omega
 have HR := zHi hR
 clear hR hl29 hd29
 go_upto_block 2 with (fail)
 obtain ⟨r2, hr2⟩ : ∃ r2 : Br, r2 = { r1 with at_ := r1.at_ + 14 } := ⟨_, rfl⟩
 have hI2 : RI w F C p d H k ((((w1.setCell ⟨F, 3, none⟩ (.int .u32 (b1 : Int))).setCell ⟨F, 3, none⟩ (.int .u32 (b2 : Int))).setCell ⟨F, 3, none⟩ (.int .u32 (b3 : Int))).setCell ⟨F, 4, none⟩ (.int .u64 (nb2 : Int))) r2 := by
  have hD := (((HI1.out.st.dec.set_b b1).set_b b2).set_b b3).set_nb nb2; obtain ⟨k1, k2⟩ := skip_ok HI1.out.ok H14.out; have e1 : b3 = r2.b d.src := by rw [hr2]; exact HX4.out
  have e2 : nb2 = r2.nb := by rw [hr2, k2]; exact HNB2.out
  refine HI1.out.bits (r' := r2) ?_ (((((Frm.refl _ _).setCell (.inl (.inl ⟨rfl, by simp⟩)) _).setCell (.inl (.inl ⟨rfl, by simp⟩)) _).setCell (.inl (.inl ⟨rfl, by simp⟩)) _).setCell (.inl (.inl ⟨rfl, by simp⟩)) _) (by rw [hr2]; exact k1) (by rw [hr2, k2]; have := HI1.out.nb; omega)
  have e3 : d.put r2 = { d.put r1 with b := b3, nb := nb2 } := by unfold DS.put; rw [← e1, ← e2, hr2]
  rw [e3]; exact hD
 generalize (((w1.setCell ⟨F, 3, none⟩ (.int .u32 (b1 : Int))).setCell ⟨F, 3, none⟩ (.int .u32 (b2 : Int))).setCell ⟨F, 3, none⟩ (.int .u32 (b3 : Int))).setCell ⟨F, 4, none⟩ (.int .u64 (nb2 : Int)) = w2 at hI2 ⊢
 rw [← hr2] at HR
 have HI2 := zHi hI2
 clear hI2 hr2 c2 c3 c4 g3 g4 y1 y2 y3 y4 y5 y6 y7 y8 y9 y10 y11 y12 y13 y14 z1 z2 z3 e5 e6 HX4 HNB2 H14 HI1
 go_cut [7] (fun _ wq => ∃ vs r3, clRead d.src nclen [] r2 = .ok vs r3 ∧ vs.length = nclen ∧ RI w F C p d H k wq r3 ∧ ClAt wq d.CB nclen vs)
 case first => as_aux_lemma =>
  go_wp2_with fail
  go_loopg [7] nclen (fun gk i wr => ∃ vs r', i = .int .i64 ((nclen - gk : Nat) : Int) ∧ gk ≤ nclen ∧ vs.length = nclen - gk ∧ clRead d.src gk vs r' = clRead d.src nclen [] r2 ∧ RI w F C p d H k wr r' ∧ ClAt wr d.CB (nclen - gk) vs)
  case atStart => exact ⟨[], r2, by rw [Nat.sub_self]; rfl, Nat.le_refl _, by simp, rfl, HI2.out, fun j hj => by omega⟩
  case round =>
   obtain ⟨vs, ra, rfl, hg, hvl, hcl, hI, hC⟩ := hrel; obtain ⟨i, hi⟩ : ∃ i, i = nclen - gk := ⟨_, rfl⟩; rw [← hi] at hvl hC ⊢; have HI := zHi hI; have HC := zHi hC; have HCL := zHi hcl; have HVL := zHi hvl; have HIE := zHi hi; have HG := zHi hg
   generalize wr = wo at HI HC ⊢
   clear hI hC hcl hvl
   by_cases hlt : i < nclen
   · have b18 : (i : Int) ≤ 18 := by omega
     have HLT := zHi hlt; clear hi hg
     go_upto_block 4 with (fail)
     go_cut [8] (fun _ wq => ∃ r1, fill d.src.length 3 ra = (true, r1) ∧ 3 ≤ r1.nb ∧ RI w F C p d H k wq r1 ∧ ClAt wq d.CB i vs)
     case first =>
      go_wp2_with fail
      go_loopw [8] (fun ev wr => MB wo F (d) ra 3 wr) (fun _ wr => leftN (d).src.length (d).R wr)
      case atStart => exact ⟨ra, HI.out.st.dec, HI.out.ok, HI.out.nb, rfl, Frm.refl _ _⟩
      case round =>
       obtain ⟨r', hD', ho', hn', hfl', hf'⟩ := hrel; obtain ⟨nv, hnv⟩ : ∃ nv, nv = r'.nb := ⟨_, rfl⟩; have q4 : wr.cell? ⟨F, 4, none⟩ = some (.int .u64 (nv : Int)) := by rw [hnv]; exact hD'.nb
       have q48 := hD'.err; have s48 := hD'.fr 1048; have b6 : (nv : Int) ≤ 22 := by omega
       have HNV := zHi hnv
       by_cases hlt : 3 ≤ r'.nb
       · have e4 : decide ((nv : Int) < 3) = false := by simp; omega
         have hfe : fill d.src.length 3 ra = (true, r') := by rw [← hfl', fill_has hlt]
         have hI1 := HI.out.bits hD' hf' ho' hn'; have hC1 : ClAt wr d.CB i vs := HC.out.keep hf' (fun o e => by
          have h1 := HI.out.st.dec.neCF; have h2 := HI.out.st.dec.neRC; rcases e with e | e
          · exact h1 e.1
          · exact h2 e.symm)
         have HFE := zHi hfe; have HI1 := zHi hI1; have HC1 := zHi hC1; have HLT := zHi hlt; clear hfl' hf' hD' hn' hnv hlt ho' hfe hI1 hC1; go_wp2_with fail
         go_meet
         case rel => exact ⟨r', HFE.out, HLT.out, HI1.out, HC1.out⟩
       · have e4 : decide ((nv : Int) < 3) = true := by simp; omega
         by_cases hp : r'.pos < d.src.length
         · have hmb := MB.call_more hD' ho' hfl' hf' hlt (by omega) hp
           have HMB := zHi hmb; clear hmb hfl' hf' hD' hn' hnv hlt ho'; go_wp2_with fail
           refine HMB.out.mono ?_; rintro e wm ⟨rfl, HM⟩; go_wp2_with fail
           go_roundw
           case rel => first | exact HM.out.1 | ((repeat apply Exists.intro); exact ⟨HM.out.1, rfl⟩)
           case measure => exact HM.out.2
         · have hmb := MB.call_end HI.out.st.env HI.out.st.cR HI.out.st.cF hD' ho' hfl' hf' hlt hp; have HMB := zHi hmb; clear hmb hf' hfl' hD' hn' hp hnv hlt ho'; go_wp2_with fail
           refine HMB.out.mono ?_; rintro e wm ⟨rfl, hDm, HGC⟩; have p48 := hDm.err; have t48 := hDm.fr 1048; have HDm := zHi hDm; clear hDm q48 s48 q4; go_wp2_with fail
           go_ret
           obtain ⟨hgc, hfm⟩ := HGC.out; refine HI.out.cut HDm.out hfm ?_; rw [HR.out]; refine rhTail_bad ?_; rw [← HCL.out]; exact clRead_cut (by have := HIE.out; have := HLT.out; omega) hgc
     case rest =>
      obtain ⟨r1', hfl1, hn3, hI1, hC1⟩ := hcut
      generalize wc = w3 at hI1 hC1 ⊢
      obtain ⟨hz1, v0, hz2⟩ := hI1.zero (show i < 19 by omega)
      obtain ⟨c, hc⟩ : ∃ c, c = clOrder.getD i 0 := ⟨_, rfl⟩; rw [← hc] at hz1 hz2; have hc18 : (c : Int) ≤ 18 := by have := (clOrder_lt i (by omega)).1; omega
      obtain ⟨bb, hbb⟩ : ∃ bb, bb = r1'.b d.src := ⟨_, rfl⟩; obtain ⟨x, hx⟩ : ∃ x, x = bb % 8 := ⟨_, rfl⟩; obtain ⟨b3, hb3⟩ : ∃ b3, b3 = bb / 8 := ⟨_, rfl⟩; obtain ⟨nv, hnv⟩ : ∃ nv, nv = r1'.nb := ⟨_, rfl⟩; obtain ⟨nb2, hnb2⟩ : ∃ nb2, nb2 = r1'.nb - 3 := ⟨_, rfl⟩; have hb22 : bb < 2 ^ 22 := by
       have h1 := bv_lt d.src r1'.at_ r1'.nb; have h2 : 2 ^ r1'.nb ≤ 2 ^ 22 := Nat.pow_le_pow_right (by omega) hI1.nb
       rw [hbb]; unfold Br.b; omega
      have y1 : bits .and .u32 (bb : Int) 7 = (x : Int) := by rw [show (7 : Int) = ((8 : Nat) : Int) - 1 from rfl, mask_bits bb 3 8 rfl (by omega) (by omega), hx]
      have y2 : (bb : Int) / 8 = (b3 : Int) := by rw [hb3]; rfl
      have y3 : (nv : Int) - 3 = (nb2 : Int) := by omega
      have y4 : (nv : Int) ≤ 22 := by have := hI1.nb; omega
      have y5 : (bb : Int) ≤ 4194304 := by omega
      have y6 : (x : Int) ≤ 7 := by omega
      have c3 : w3.cell? ⟨F, 3, none⟩ = some (.int .u32 (bb : Int)) := by rw [hbb]; exact hI1.st.dec.b
      have c4 : w3.cell? ⟨F, 4, none⟩ = some (.int .u64 (nv : Int)) := by rw [hnv]; exact hI1.st.dec.nb
      have c36 := hI1.st.dec.cbits; have g3 := hI1.st.dec.fr 3; have g4 := hI1.st.dec.fr 4; have gC := hI1.st.dec.frC c; have nCF := hI1.st.dec.neCF; simp only [DS.put] at c36 gC nCF; have nFC : F ≠ d.CB := fun e => nCF e.symm
      have hgb : getBits d.src 3 ra = .ok x { r1' with at_ := r1'.at_ + 3 } := by
       unfold getBits; rw [hfl1]; simp only; rw [← b_mod hn3, hx, hbb]
      have hI4 : RI w F C p d H k (((w3.setCell ⟨d.CB, c, none⟩ (.int .i64 (x : Int))).setCell ⟨F, 3, none⟩ (.int .u32 (b3 : Int))).setCell ⟨F, 4, none⟩ (.int .u64 (nb2 : Int))) { r1' with at_ := r1'.at_ + 3 } := by
       have hI3 := hI1.row (B := d.CB) (j := c) (.inr rfl) (.int .i64 (x : Int)); obtain ⟨k1, k2⟩ := skip_ok hI1.ok hn3; exact hI3.bits (hI3.st.dec.take hI1.ok hn3 (by rw [hb3, hbb]) hnb2) (((Frm.refl _ _).setCell (.inl (.inl ⟨rfl, by simp⟩)) _).setCell (.inl (.inl ⟨rfl, by simp⟩)) _) k1 (by rw [k2]; have := hI1.nb; omega)
      have hC4 : ClAt (((w3.setCell ⟨d.CB, c, none⟩ (.int .i64 (x : Int))).setCell ⟨F, 3, none⟩ (.int .u32 (b3 : Int))).setCell ⟨F, 4, none⟩ (.int .u64 (nb2 : Int))) d.CB (i + 1) (vs ++ [x]) := by
       have h1 := hC1.step (vs' := vs ++ [x]) (x := x) (by omega) (by rw [← hc, hz2]; rfl) (fun j hj => by
        rw [List.getD_eq_getElem?_getD, List.getD_eq_getElem?_getD, List.getElem?_append_left (by rw [HVL.out]; exact hj)]) (by
        rw [List.getD_eq_getElem?_getD, List.getElem?_append_right (by rw [HVL.out]; exact Nat.le_refl _), HVL.out, Nat.sub_self]; rfl)
       rw [← hc] at h1; exact h1.keep (S := fun b _ => b = F) (((Frm.refl _ _).setCell (.inl rfl) _).setCell (.inl rfl) _) (fun o e => nCF e)
      have HI4 := zHi hI4; have HC4 := zHi hC4; have HGB := zHi hgb; have b19 : (1 : Int) ≤ (gk : Int) := by have := HIE.out; omega
      clear hI4 hC4 hgb hI1 hC1 hfl1 hn3 hc hbb hx hb3 hnv hnb2 hb22; go_upto_region 23 with (fail)
      have k19 : (i : Int) < 19 := by omega
      have kc19 : (c : Int) < 19 := by omega
      (refine region_tail 15 (by kernel_rfl) (by kernel_rfl) ?_; simp only [List.take_succ_cons, List.take_zero, List.drop_succ_cons, List.drop_zero]; (repeat still_step); refine wpStill_nil ?_)
      clear k19 kc19; go_wp2_with fail
      go_roundg (gk - 1)
      case measure => omega
      case rel =>
       have e : nclen - (gk - 1) = i + 1 := by have := HIE.out; have := HG.out; omega
       rw [e]; refine ⟨vs ++ [x], _, by go_num, by omega, by rw [List.length_append, HVL.out]; rfl, ?_, HI4.out.drew, HC4.out⟩
       rw [← HCL.out, show gk = (gk - 1) + 1 by omega, clRead_step HGB.out, Nat.add_sub_cancel]
   · have HLT := zHi hlt; have e1 : ¬ i < nclen := hlt; clear hi hg; go_wp2_with fail
     go_meet
     case rel =>
      have h0 : gk = 0 := by have := HIE.out; have := HG.out; omega
      subst h0; have hii : i = nclen := HIE.out; rw [← HCL.out, ← hii]; exact ⟨vs, ra, rfl, HVL.out, HI.out, HC.out⟩
 case rest =>
 as_aux_lemma =>
 obtain ⟨vs, r3, hcr, hvl, hI3, hC3⟩ := hcut
 generalize wc = w3 at hI3 hC3 ⊢
 have hcg := clRead_good (src := d.src) nclen (acc := []) HI2.out.ok HI2.out.nb (fun v hv => absurd hv List.not_mem_nil)
 rw [hcr] at hcg
 have CL7 := zHi hcg.1
 clear hcg
 have HI3 := zHi hI3
 have HC3 := zHi hC3
 have HCR := zHi hcr
 have HVL := zHi hvl
 clear hI3 hC3 hcr hvl
 go_upto_block 6 with (fail)
 go_cut [9] (fun _ wq => RI w F C p d H k wq r3 ∧ ClAt wq d.CB 19 vs)
 case first => as_aux_lemma =>
  go_wp2_with fail
  go_loopg [9] (19 - nclen) (fun gk i wr => i = .int .i64 ((19 - gk : Nat) : Int) ∧ gk + nclen ≤ 19 ∧ RI w F C p d H k wr r3 ∧ ClAt wr d.CB (19 - gk) vs)
  case atStart =>
   have e : 19 - (19 - nclen) = nclen := by omega
   rw [e]; exact ⟨rfl, by omega, HI3.out, HC3.out⟩
  case round =>
   obtain ⟨rfl, hg, hI, hC⟩ := hrel; obtain ⟨i, hi⟩ : ∃ i, i = 19 - gk := ⟨_, rfl⟩; rw [← hi] at hC ⊢; have HC := zHi hC; have HIE := zHi hi
   by_cases hlt : i < 19
   · obtain ⟨hz1, v0, hz2⟩ := hI.zero (show i < 19 by omega)
     obtain ⟨c, hc⟩ : ∃ c, c = clOrder.getD i 0 := ⟨_, rfl⟩; rw [← hc] at hz1 hz2; have hc18 : (c : Int) ≤ 18 := by have := (clOrder_lt i (by omega)).1; omega
     have b18 : (i : Int) ≤ 18 := by omega
     have c36 := hI.st.dec.cbits; have gC := hI.st.dec.frC c; simp only [DS.put] at c36 gC; have hI4 := hI.row (B := d.CB) (j := c) (.inr rfl) (.int .i64 0); have hC4 : ClAt (wr.setCell ⟨d.CB, c, none⟩ (.int .i64 0)) d.CB (i + 1) vs := by
      have h1 := hC.step (vs' := vs) (x := 0) hlt (by rw [← hc, hz2]; rfl) (fun j _ => rfl) (by
       rw [List.getD_eq_getElem?_getD, List.getElem?_eq_none (by rw [HVL.out]; omega)]; rfl)
      rw [← hc] at h1; exact h1
     have HI4 := zHi hI4; have HC4 := zHi hC4; have e1 : decide ((i : Int) < 19) = true := by simp; omega
     have HG := zHi hg; have HLT := zHi hlt; clear hI hC hI4 hC4 hc hi hlt hg; go_upto_region 29 with (fail)
     have k19 : (i : Int) < 19 := by omega
     have kc19 : (c : Int) < 19 := by omega
     (refine region_tail 9 (by kernel_rfl) (by kernel_rfl) ?_; simp only [List.take_succ_cons, List.take_zero, List.drop_succ_cons, List.drop_zero]; (repeat still_step); refine wpStill_nil ?_)
     clear k19 kc19; go_wp2_with fail
     go_roundg (gk - 1)
     case measure => have := HIE.out; have := HLT.out; omega
     case rel =>
      have e : 19 - (gk - 1) = i + 1 := by have := HIE.out; have := HLT.out; have := HG.out; omega
      rw [e]; exact ⟨by go_num, by have := HG.out; omega, HI4.out.drew, HC4.out⟩
   · have e1 : decide ((i : Int) < 19) = false := by simp; omega
     have h19 : i = 19 := by omega
     have HI := zHi hI; have H19 := zHi h19; clear hI hC hi hg hlt h19; go_wp2_with fail
     go_meet
     case rel => exact ⟨HI.out, by rw [← H19.out]; exact HC.out⟩
 case rest =>
 as_aux_lemma =>
 obtain ⟨hI4, hC4⟩ := hcut
 generalize wc = w4 at hI4 hC4 ⊢
 have hnp := initTab_law (lens := clens vs) (fun n hn => by
  have := clens_le (CL7.out).2 n hn; omega) (by rw [clens_length]; omega)
 obtain ⟨w5, hw5⟩ : ∃ w5, w5 = w4.drew := ⟨_, rfl⟩
 have hI5 : RI w F C p d H k w5 r3 := by rw [hw5]; exact hI4.drew
 have hL : Lens w5 d.CB 0 (clens vs) := fun j hj => by
  rw [clens_length] at hj; rw [Nat.zero_add, hw5]; have hj' := clOrder_idx j hj; have h1 := hC4 (clOrder.idxOf j) hj'.1; rw [hj'.2] at h1
  show w4.cell? _ = _
  rw [h1, clens_getD vs j hj]
 have nCF := hI4.st.dec.neCF
 have c36 := hI4.st.dec.cbits
 simp only [DS.put] at nCF c36
 have hcall := init_any w5 F 5 d.CB 0 19 (clens vs) (by rcases hI5.st.pre1 with h | h; exact .inl h; exact .inr ⟨h.min, h.ch, h.mask, h.none_, fun e => absurd rfl e⟩) (fun j hj => hI5.st.dec.tl (5 + j) (by omega) (by omega)) hI5.st.dec.fr hL nCF (by rw [clens_length]; omega) (fun n hn => by
  have := clens_le (CL7.out).2 n hn; omega) hnp.1
 rw [clens_length] at hcall
 have HCALL := zHi hcall
 have HI5 := zHi hI5
 have HTL := zHi hnp
 have HW5 := zHi hw5
 clear hcall hI4 hC4 hL hnp hI5 hw5
 go_upto_region 30 with (fail)
 (refine region_tail 9 (by kernel_rfl) (by kernel_rfl) ?_; simp only [List.take_succ_cons, List.take_zero, List.drop_succ_cons, List.drop_zero]; (repeat still_step); refine wpStill_nil ?_)
 go_wp2_with fail
 rw [← HW5.out]
 refine HCALL.out.mono ?_
 intro e w6 hP
 unfold InitPost at hP
 cases htc : initTab (clens vs) with
 | none => rw [htc] at hP; exact hP.elim
 | some o =>
 cases o with
 | none =>
  as_aux_lemma =>
  rw [htc] at hP; obtain ⟨rfl, hT6, hf6⟩ := hP; have hI6 := HI5.out.table (.inl rfl) hf6 (pre_of hT6 (.inl rfl)); have c2 : w6.cell? ⟨F, 2, none⟩ = some (.int .i64 (r3.pos : Int)) := hI6.st.dec.roff; have HI6 := zHi hI6; have HTC := zHi htc; clear hT6 hf6 hI6 htc; go_wp2_with fail
  go_ret
  exact HI6.out.corrupt (d' := d.put r3) (r' := r3) rfl (by rw [HR.out]; exact rhTail_none HCR.out HTC.out) HI6.out.st.dec (Frm.refl _ _) rfl
 | some TC =>
 as_aux_lemma =>
 rw [htc] at hP
 obtain ⟨rfl, hT6, hf6⟩ := hP
 have hI6 := HI5.out.table (.inl rfl) hf6 (pre_of hT6 (initTab_min htc))
 have hT6' := hT6.mono HI5.out.new
 obtain ⟨hok, hsym⟩ := HTL.out.2 TC htc
 rw [clens_length] at hsym
 obtain ⟨n, hn⟩ : ∃ n, n = nlit + ndist := ⟨_, rfl⟩
 have hR2 : readHuff d.src r = rhLen d.src TC nlit n 400 [] r3 := by rw [HR.out, hn]; exact rhTail_some HCR.out htc
 have z1 : (nlit : Int) + (ndist : Int) = (n : Int) := by omega
 have hn316 : n ≤ 316 := by omega
 have b316 : (n : Int) ≤ 316 := by omega
 have HOK := zHi hok
 have HSYM := zHi hsym
 have HR2 := zHi hR2
 have HI6 := zHi hI6
 have HT6 := zHi hT6'
 have HN := zHi hn
 clear hT6 hf6 hI6 htc hok hsym hR2 hT6' hn c36 nCF HR HCR HVL HCALL HI5 HTL HI2 HI0
 go_upto_block 8 with (fail)
 go_cut [10] (fun _ wq => ∃ ls r4, rhLen d.src TC nlit n 400 [] r3 = twoTabs ls nlit r4 ∧ ls.length = n ∧ (∀ v ∈ ls, v ≤ 15) ∧ RI w F C p d H k wq r4 ∧ Lens wq d.BB 0 ls)
 case first =>
  as_aux_lemma =>
  go_wp2_with fail
  go_loopg [10] n (fun gk i wr => ∃ acc ra fu, i = .int .i64 (acc.length : Int) ∧ acc.length + gk = n ∧ gk ≤ fu ∧ (∀ v ∈ acc, v ≤ 15) ∧ rhLen d.src TC nlit n fu acc ra = rhLen d.src TC nlit n 400 [] r3 ∧ RI w F C p d H k wr ra ∧ Lens wr d.BB 0 acc ∧ TabAt wr F 5 TC (LinkB F d))
  case atStart => exact ⟨[], r3, 400, rfl, by simp, by omega, fun v hv => absurd hv List.not_mem_nil, rfl, HI6.out, fun j hj => absurd hj (by simp), HT6.out⟩
  case round =>
   obtain ⟨acc, ra, fu, rfl, hg, hfu, h15, hre, hI, hB, hT⟩ := hrel; obtain ⟨i, hi⟩ : ∃ i, i = acc.length := ⟨_, rfl⟩; rw [← hi] at hg ⊢; have HIL := zHi hi; have H15 := zHi h15; have HRE := zHi hre; have HI := zHi hI; have HB := zHi hB; have HT := zHi hT; have HG := zHi hg; have HFU := zHi hfu
   by_cases hlt : i < n
   · have b1 : (i : Int) ≤ 315 := by omega
     have hcall := huffSym_any wr F F 5 p C (LinkB F d) d ra TC hI.st.env hI.st.cR hI.st.cF hI.st.dec hI.ok (by have := hI.nb; omega) hT HOK.out (fun b hb => ⟨hb.1, hb.2.1⟩) (fun e => hI.st.dec.neRF e.symm) (fun _ => ⟨Nat.le_refl _, by omega⟩)
     have HCALL := zHi hcall; have HLT := zHi hlt; clear hi h15 hre hI hB hT hg hfu hcall; have hn' : ¬ n ≤ acc.length := by have := HIL.out; omega
     have HN' := zHi hn'; clear hn' hlt; go_wp2_with fail
     refine HCALL.out.mono ?_; intro e w2 hP; have hgood := symbol_good HOK.out HI.out.ok HI.out.nb
     cases hsy : symbol d.src TC ra with
     | bad er rb =>
      rw [hsy] at hP; have hR3 : readHuff d.src r = .bad er rb := by
       rw [HR2.out, ← HRE.out]; exact rhLen_bad (by have := HFU.out; have := HG.out; have := HLT.out; omega) HN'.out (lenStep_sym hsy)
      have HR3 := zHi hR3; clear hgood hR3; rcases symBad 20 hsy with rfl | rfl
      · obtain ⟨rfl, hD2, hf2⟩ := hP; have HD2 := zHi hD2; have HF2 := zHi hf2; clear hsy hD2 hf2; go_wp2_with fail
        go_ret
        exact HI.out.cut HD2.out HF2.out HR3.out
      · obtain ⟨rfl, hD2, hf2⟩ := hP; have HD2 := zHi hD2; have HF2 := zHi hf2; clear hsy hD2 hf2; go_wp2_with fail
        go_ret
        exact HI.out.corrupt (r' := rb) rfl HR3.out HD2.out (HF2.out.mono fun b o e => e.elim SB_x (fun e => .inr (.inr ⟨e.1, by omega⟩))) rfl
     | ok v rb =>
      rw [hsy] at hP hgood; obtain ⟨rfl, hD2, hf2⟩ := hP; obtain ⟨g1, g2, g3, g4⟩ := hgood; have hv19 := sym_val HSYM.out 20 hsy; have hI2 := HI.out.bits hD2 hf2 g2 g4; have nBF := hI2.st.dec.neBF; have nRB := hI2.st.dec.neRB; simp only [DS.put] at nBF nRB; have hB2 : Lens w2 d.BB 0 acc := fun j hj => hf2.keep (HB.out j hj) (fun e => by
       rcases e with e | e
       · exact nBF e.1
       · exact nRB e.symm)
      have hT2 : TabAt w2 F 5 TC (LinkB F d) := HT.out.keep hf2 (fun x h1 h2 e => by
       rcases e with e | e
       · omega
       · exact hI2.st.dec.neRF e.symm) (fun b hb x e => by
       rcases e with e | e
       · exact hb.1 e.1
       · exact hb.2.1 e)
      have c35 := hI2.st.dec.bits; simp only [DS.put] at c35; have b2 : (v : Int) ≤ 18 := by omega
      have HSY := zHi hsy; have HI2 := zHi hI2; have HB2 := zHi hB2; have HT2 := zHi hT2; clear g1 g2 g3 g4 hD2 hf2 hI2 hB2 hT2 hsy nRB
      by_cases hv16 : v < 16
      · have e1 : decide ((v : Int) < 16) = true := by simp; omega
        obtain ⟨v0, hv0⟩ := Option.isSome_iff_exists.1 (HI2.out.st.dec.bb i (by have := HLT.out; omega))
        have gB := HI2.out.st.dec.frB i; simp only [DS.put] at hv0 gB; have HV16 := zHi hv16; have k316 : (i : Int) < 316 := by omega
        clear hv16; go_wp2_with fail
        go_roundg (gk - 1)
        case measure => have := HG.out; have := HLT.out; omega
        case rel =>
         have hl := HIL.out; have hlt := HLT.out; have hg := HG.out; have hfu := HFU.out; refine ⟨acc ++ [v], rb, fu - 1, by rw [List.length_append]; go_num, by simp; omega, by omega, fun x hx => ?_, ?_, HI2.out.row (.inl rfl) _, ?_, ?_⟩
         · rcases List.mem_append.1 hx with hx | hx
           · exact H15.out x hx
           · rw [List.mem_singleton.1 hx]; have := HV16.out; omega
         · rw [← HRE.out]; exact (rhLen_step (by omega) HN'.out (lenStep_lit HSY.out HV16.out)).symm
         · have := HB2.out.snoc (v := v) (by rw [← hl, hv0]; rfl)
           rw [← hl] at this; exact this
         · exact HT2.out.keep ((Frm.refl (fun b _ => b = d.BB) _).setCell (.inl rfl) _) (fun x h1 h2 e => nBF e.symm) (fun b hb x e => hb.2.2.2.1 e)
      · have e1 : decide ((v : Int) < 16) = false := by simp; omega
        have HV16 := zHi hv16; clear hv16
        go_upto_block 10 with (fail)
        go_cut [14, 15, 16] (fun x14 x15 x16 wq => ¬ (v = 16 ∧ acc.length = 0) ∧ x14 = .int .i64 ((repOf v acc).1 : Int) ∧ x15 = .int .u64 ((repOf v acc).2.1 : Int) ∧ x16 = .int .i64 ((repOf v acc).2.2 : Int) ∧ w2 = wq)
        case first => as_aux_lemma =>
         by_cases h16 : v = 16
         · have t16 : ((v : Int) == 16) = true := by simp; omega
           have H16 := zHi h16; clear h16
           by_cases hi0 : i = 0
           · have ti : ((i : Int) == 0) = true := by simp; omega
             have HI0 := zHi hi0; have c2 : w2.cell? ⟨F, 2, none⟩ = some (.int .i64 (rb.pos : Int)) := HI2.out.st.dec.roff; clear hi0; go_wp2_with fail
             go_ret
             refine HI2.out.corrupt (d' := d.put rb) (r' := rb) rfl ?_ HI2.out.st.dec (Frm.refl _ _) rfl; rw [HR2.out, ← HRE.out]; exact rhLen_bad (by have := HFU.out; have := HG.out; have := HLT.out; omega) HN'.out (lenStep_first HSY.out H16.out (by have := HIL.out; have := HI0.out; omega))
           · have ti : ((i : Int) == 0) = false := by simp; omega
             obtain ⟨i1, hi1⟩ : ∃ i1, i1 = i - 1 := ⟨_, rfl⟩; have z : (i : Int) - 1 = (i1 : Int) := by omega
             have k316 : (i1 : Int) < 316 := by omega
             have hc := HB2.out i1 (by have := HIL.out; omega)
             rw [Nat.zero_add] at hc; have hrep : repOf v acc = (3, 2, acc.getD i1 0) := by unfold repOf; rw [if_pos H16.out, hi1, HIL.out]
             have HREP := zHi hrep; have HI0 := zHi hi0; clear hi0 hi1 hrep; go_wp2_with fail
             go_meet
             case rel =>
              rw [HREP.out]; exact ⟨fun e => HI0.out (by have := HIL.out; omega), rfl, rfl, rfl, rfl⟩
         · have t16 : ((v : Int) == 16) = false := by simp; omega
           by_cases h17 : v = 17
           · have t17 : ((v : Int) == 17) = true := by simp; omega
             have hrep : repOf v acc = (3, 3, 0) := by unfold repOf; rw [if_neg h16, if_pos h17]
             have HREP := zHi hrep; have H16 := zHi h16; clear h16 h17 hrep; go_wp2_with fail
             go_meet
             case rel =>
              rw [HREP.out]; exact ⟨fun e => H16.out e.1, rfl, rfl, rfl, rfl⟩
           · have h18 : v = 18 := by have := HV16.out; omega
             have t17 : ((v : Int) == 17) = false := by simp; omega
             have t18 : ((v : Int) == 18) = true := by simp; omega
             have hrep : repOf v acc = (11, 7, 0) := by unfold repOf; rw [if_neg h16, if_neg h17]
             have HREP := zHi hrep; have H16 := zHi h16; clear h16 h17 h18 hrep; go_wp2_with fail
             go_meet
             case rel =>
              rw [HREP.out]; exact ⟨fun e => H16.out e.1, rfl, rfl, rfl, rfl⟩
        case rest =>
         obtain ⟨hne, rfl, rfl, rfl, rfl⟩ := hcut; have hrl := repOf_le (x := v) H15.out; have hlr := lenStep_rep (n := n) HSY.out HV16.out hne; obtain ⟨rp, hrp⟩ : ∃ x, x = (repOf v acc).1 := ⟨_, rfl⟩; obtain ⟨nx, hnx⟩ : ∃ x, x = (repOf v acc).2.1 := ⟨_, rfl⟩; obtain ⟨b0, hb0⟩ : ∃ x, x = (repOf v acc).2.2 := ⟨_, rfl⟩; rw [← hrp, ← hnx, ← hb0] at hrl hlr ⊢; have HLR := zHi hlr; obtain ⟨rl1, rl2, rl3, rl4, rl5⟩ := hrl; have q1 : (rp : Int) ≤ 11 := by omega
         have q2 : (nx : Int) ≤ 7 := by omega
         have q3 : (2 : Int) ≤ (nx : Int) := by omega
         clear hrp hnx hb0 hlr hne
         go_upto_block 11 with (fail)
         go_cut [17] (fun _ wq => ∃ r1, fill d.src.length nx rb = (true, r1) ∧ nx ≤ r1.nb ∧ RI w F C p d H k wq r1 ∧ Lens wq d.BB 0 acc ∧ TabAt wq F 5 TC (LinkB F d))
         case first => as_aux_lemma =>
          go_wp2_with fail
          go_loopw [17] (fun ev wr => MB w2 F (d) rb nx wr) (fun _ wr => leftN (d).src.length (d).R wr)
          case atStart => exact ⟨rb, HI2.out.st.dec, HI2.out.ok, HI2.out.nb, rfl, Frm.refl _ _⟩
          case round =>
           obtain ⟨r', hD', ho', hn', hfl', hf'⟩ := hrel; obtain ⟨nv, hnv⟩ : ∃ nv, nv = r'.nb := ⟨_, rfl⟩; have q4 : wr.cell? ⟨F, 4, none⟩ = some (.int .u64 (nv : Int)) := by rw [hnv]; exact hD'.nb
           have q48 := hD'.err; have s48 := hD'.fr 1048; have b6 : (nv : Int) ≤ 22 := by omega
           have HNV := zHi hnv
           by_cases hlt : nx ≤ r'.nb
           · have e4 : ¬ nv < nx := by omega
             have hfe : fill d.src.length nx rb = (true, r') := by rw [← hfl', fill_has hlt]
             have hI1 := HI2.out.bits hD' hf' ho' hn'; have HFE := zHi hfe; have HI1 := zHi hI1; have HLT := zHi hlt; have HL1 := zHi (HI2.out.lens hf' HB2.out); have HT1 := zHi (HI2.out.tabk hf' (Nat.le_refl _) HT2.out); clear hfl' hf' hD' hn' hnv hlt ho' hfe hI1; go_wp2_with fail
             go_meet
             case rel => exact ⟨r', HFE.out, HLT.out, HI1.out, HL1.out, HT1.out⟩
           · have e4 : nv < nx := by omega
             by_cases hp : r'.pos < d.src.length
             · have hmb := MB.call_more hD' ho' hfl' hf' hlt (by omega) hp
               have HMB := zHi hmb; clear hmb hfl' hf' hD' hn' hnv hlt ho'; go_wp2_with fail
               refine HMB.out.mono ?_; rintro e wm ⟨rfl, HM⟩; go_wp2_with fail
               go_roundw
               case rel => first | exact HM.out.1 | ((repeat apply Exists.intro); exact ⟨HM.out.1, rfl⟩)
               case measure => exact HM.out.2
             · have hmb := MB.call_end HI2.out.st.env HI2.out.st.cR HI2.out.st.cF hD' ho' hfl' hf' hlt hp; have HMB := zHi hmb; clear hmb hf' hfl' hD' hn' hp hnv hlt ho'; go_wp2_with fail
               refine HMB.out.mono ?_; rintro e wm ⟨rfl, hDm, HGC⟩; have p48 := hDm.err; have t48 := hDm.fr 1048; have HDm := zHi hDm; clear hDm q48 s48 q4; go_wp2_with fail
               go_ret
               obtain ⟨hgc, hfm⟩ := HGC.out; refine HI2.out.cut HDm.out hfm ?_; rw [HR2.out, ← HRE.out]; exact rhLen_bad (by have := HFU.out; have := HG.out; have := HLT.out; omega) HN'.out (by rw [HLR.out, show getBits d.src nx rb = .bad .cut r' from hgc])
         case rest =>
          obtain ⟨r1', hfl1, hn3, hI1, hL1, hT1⟩ := hcut
          generalize wc = w3 at hI1 hL1 hT1 ⊢
          obtain ⟨bb, hbb⟩ : ∃ bb, bb = r1'.b d.src := ⟨_, rfl⟩; obtain ⟨P, hP⟩ : ∃ P : Nat, P = 2 ^ nx := ⟨_, rfl⟩; obtain ⟨x, hx⟩ : ∃ x, x = bb % P := ⟨_, rfl⟩; obtain ⟨b3, hb3⟩ : ∃ b3, b3 = bb / P := ⟨_, rfl⟩; obtain ⟨nv, hnv⟩ : ∃ nv, nv = r1'.nb := ⟨_, rfl⟩; obtain ⟨nb2, hnb2⟩ : ∃ nb2, nb2 = r1'.nb - nx := ⟨_, rfl⟩; have hb22 : bb < 2 ^ 22 := by
           have h1 := bv_lt d.src r1'.at_ r1'.nb; have h2 : 2 ^ r1'.nb ≤ 2 ^ 22 := Nat.pow_le_pow_right (by omega) hI1.nb
           rw [hbb]; unfold Br.b; omega
          have hPl : P ≤ 128 := by
           have : 2 ^ nx ≤ 2 ^ 7 := Nat.pow_le_pow_right (by omega) (by omega)
           omega
          have hP1 : 1 ≤ P := by rw [hP]; exact Nat.one_le_two_pow
          have hxP := Nat.mod_lt bb (show 0 < P by omega)
          have y0 : (2 : Int) ^ nx = (P : Int) := by rw [hP]; simp
          have y1 : bits .and .u32 (bb : Int) ((P : Int) - 1) = (x : Int) := by rw [mask_bits bb nx P hP (by omega) (by omega), hx]
          have y2 : (bb : Int) / (P : Int) = (b3 : Int) := by rw [hb3]; rfl
          have y3 : (nv : Int) - (nx : Int) = (nb2 : Int) := by omega
          have y4 : (nv : Int) ≤ 22 := by have := hI1.nb; omega
          have y5 : (bb : Int) ≤ 4194304 := by omega
          have y6 : (x : Int) ≤ 127 := by omega
          have y7 : (P : Int) ≤ 128 := by omega
          have y8 : (1 : Int) ≤ (P : Int) := by omega
          obtain ⟨rep, hrep⟩ : ∃ rep, rep = rp + x := ⟨_, rfl⟩; have y9 : (rp : Int) + (x : Int) = (rep : Int) := by omega
          have y10 : (rep : Int) ≤ 138 := by omega
          obtain ⟨ir, hir⟩ : ∃ ir, ir = i + rep := ⟨_, rfl⟩; have y11 : (i : Int) + (rep : Int) = (ir : Int) := by omega
          have c3 : w3.cell? ⟨F, 3, none⟩ = some (.int .u32 (bb : Int)) := by rw [hbb]; exact hI1.st.dec.b
          have c4 : w3.cell? ⟨F, 4, none⟩ = some (.int .u64 (nv : Int)) := by rw [hnv]; exact hI1.st.dec.nb
          have c2 : w3.cell? ⟨F, 2, none⟩ = some (.int .i64 (r1'.pos : Int)) := hI1.st.dec.roff; have g3 := hI1.st.dec.fr 3; have g4 := hI1.st.dec.fr 4; have hgb : getBits d.src nx rb = .ok x { r1' with at_ := r1'.at_ + nx } := by
           unfold getBits; rw [hfl1]; simp only; rw [← b_mod hn3, hx, hbb, hP]
          have hst : lenStep d.src TC n acc ra = if n < ir then .bad .corrupt { r1' with at_ := r1'.at_ + nx } else .ok (acc ++ List.replicate rep b0) { r1' with at_ := r1'.at_ + nx } := by
           rw [HLR.out, hgb]; simp only; rw [← hrep, ← HIL.out, ← hir]
          obtain ⟨r2', hr2'⟩ : ∃ r2' : Br, r2' = { r1' with at_ := r1'.at_ + nx } := ⟨_, rfl⟩; rw [← hr2'] at hst; have hf4 : Frm (SB F d.R) w3 ((w3.setCell ⟨F, 3, none⟩ (.int .u32 (b3 : Int))).setCell ⟨F, 4, none⟩ (.int .u64 (nb2 : Int))) := ((Frm.refl _ _).setCell (.inl (.inl ⟨rfl, by simp⟩)) _).setCell (.inl (.inl ⟨rfl, by simp⟩)) _
          have hI4 : RI w F C p d H k ((w3.setCell ⟨F, 3, none⟩ (.int .u32 (b3 : Int))).setCell ⟨F, 4, none⟩ (.int .u64 (nb2 : Int))) r2' := by
           obtain ⟨k1, k2⟩ := skip_ok hI1.ok hn3; rw [hr2']; exact hI1.bits (hI1.st.dec.take hI1.ok hn3 (by rw [hb3, hbb, hP]) hnb2) hf4 k1 (by rw [k2]; have := hI1.nb; omega)
          have hL4 := hI1.lens hf4 hL1; have hT4 := hI1.tabk hf4 (Nat.le_refl _) hT1; have hpp : r2'.pos = r1'.pos := by rw [hr2']
          have HI4 := zHi hI4; have HL4 := zHi hL4; have HT4 := zHi hT4; have HST := zHi hst; have HPP := zHi hpp; have HIR := zHi hir; clear hI4 hL4 hT4 hst hpp hgb hI1 hL1 hT1 hfl1 hn3 hbb hP hx hb3 hnv hnb2 hb22 hPl hP1 hxP hrep hr2' hf4
          by_cases hbig : n < ir
          · have HBIG := zHi hbig; clear hir; go_wp2_with fail
            go_ret
            refine HI4.out.corrupt (d' := d.put r2') (r' := r2') rfl ?_ HI4.out.st.dec (Frm.refl _ _) rfl; rw [HR2.out, ← HRE.out]; exact rhLen_bad (by have := HFU.out; have := HG.out; have := HLT.out; omega) HN'.out (by rw [HST.out, if_pos HBIG.out])
          · have HBIG := zHi hbig; have e1 : ¬ n < ir := hbig; clear hir hbig
            go_upto_block 13 with (fail)
            generalize (w3.setCell ⟨F, 3, none⟩ (.int .u32 (b3 : Int))).setCell ⟨F, 4, none⟩ (.int .u64 (nb2 : Int)) = w4 at HI4 HL4 HT4 ⊢
            clear c2 c3 c4 g3 g4; go_wp2_with fail
            go_loopg [18, 10] rep (fun g2 jv iv wr => g2 ≤ rep ∧ jv = .int .i64 ((rep - g2 : Nat) : Int) ∧ iv = .int .i64 ((i + (rep - g2) : Nat) : Int) ∧ RI w F C p d H k wr r2' ∧ Lens wr d.BB 0 (acc ++ List.replicate (rep - g2) b0) ∧ TabAt wr F 5 TC (LinkB F d))
            case atStart => exact ⟨Nat.le_refl _, by rw [Nat.sub_self]; rfl, by rw [Nat.sub_self, Nat.add_zero], HI4.out, by rw [Nat.sub_self]; simpa using HL4.out, HT4.out⟩
            case round => as_aux_lemma =>
             obtain ⟨hg2, rfl, rfl, hI5, hL5, hT5⟩ := hrel; obtain ⟨j, hj⟩ : ∃ j, j = rep - gk := ⟨_, rfl⟩; obtain ⟨ij, hij⟩ : ∃ ij, ij = i + j := ⟨_, rfl⟩; rw [← hj, ← hij]; rw [← hj] at hL5; have HJ := zHi hj; have HIJ := zHi hij; have HG2 := zHi hg2
             by_cases hlj : j < rep
             · have hijn : ij < n := by have := HBIG.out; have := HIR.out; omega
               obtain ⟨v0, hv0⟩ := Option.isSome_iff_exists.1 (hI5.st.dec.bb ij (by omega))
               have gB := hI5.st.dec.frB ij; have c35 := hI5.st.dec.bits; simp only [DS.put] at hv0 gB c35; have k316 : (ij : Int) < 316 := by omega
               have q8 : (j : Int) ≤ 138 := by omega
               have hlen : (acc ++ List.replicate j b0).length = ij := by rw [List.length_append, List.length_replicate, ← HIL.out, hij]
               have hL6 := hL5.snoc (v := b0) (by rw [hlen, hv0]; rfl)
               rw [hlen, List.append_assoc, ← List.replicate_succ'] at hL6; have HI6 := zHi (hI5.row (B := d.BB) (j := ij) (.inl rfl) (.int .i64 (b0 : Int))); have HT6 := zHi (hI5.tabr hT5 (j := ij) (v := .int .i64 (b0 : Int))); have HL6 := zHi hL6; have HLJ := zHi hlj; clear hI5 hL5 hT5 hL6 hlen hj hij hg2 hijn; go_wp2_with fail
               go_roundg (gk - 1)
               case measure => have := HLJ.out; have := HJ.out; omega
               case rel =>
                have e : rep - (gk - 1) = j + 1 := by have := HJ.out; have := HLJ.out; have := HG2.out; omega
                rw [e]; exact ⟨by have := HG2.out; omega, by go_num, congrArg (Value.int .i64) (by have := HIJ.out; omega), HI6.out, HL6.out, HT6.out⟩
             · have e2 : ¬ j < rep := hlj; have hje : j = rep := by omega
               have HJE := zHi hje; have HI5 := zHi hI5; have HL5 := zHi hL5; have HT5 := zHi hT5; clear hI5 hL5 hT5 hj hij hg2 hlj hje; go_wp2_with fail
               go_roundg (n - ir)
               case measure => have := HG.out; have := HLT.out; have := HBIG.out; have := HIR.out; omega
               case rel =>
                have hl := HIL.out; have hlt := HLT.out; have hg := HG.out; have hfu := HFU.out; have hir := HIR.out; have hb := HBIG.out; have hjr := HJE.out; have hii : ij = ir := by have := HIJ.out; omega
                subst hjr; rw [hii]; refine ⟨acc ++ List.replicate j b0, r2', fu - 1, by rw [List.length_append, List.length_replicate, ← hl, ← hir], by rw [List.length_append, List.length_replicate, ← hl, ← hir]; omega, by omega, fun x hx => ?_, ?_, HI5.out, HL5.out, HT5.out⟩
                · rcases List.mem_append.1 hx with hx | hx
                  · exact H15.out x hx
                  · rw [(List.mem_replicate.1 hx).2]; exact rl5
                · rw [← HRE.out]; exact (rhLen_step (by omega) HN'.out (by rw [HST.out, if_neg hb])).symm
   · have HLT := zHi hlt; have e1 : ¬ i < n := hlt; clear hi h15 hre hI hB hT hg hfu; go_wp2_with fail
     go_meet
     case rel =>
      have hl := HIL.out; have hlt := HLT.out; have hg := HG.out; exact ⟨acc, ra, by rw [← HRE.out]; exact rhLen_end (by omega), by omega, H15.out, HI.out, HB.out⟩
 case rest =>
 as_aux_lemma =>
 obtain ⟨ls, r4, hls, hll, hl15, hI7, hL7⟩ := hcut
 generalize wc = w7 at hI7 hL7 ⊢
 have hRF : readHuff d.src r = twoTabs ls nlit r4 := by rw [HR2.out]; exact hls
 have HRF := zHi hRF
 have HI7 := zHi hI7
 have HL7 := zHi hL7
 have HLL := zHi hll
 have H15 := zHi hl15
 have c35 := hI7.st.dec.bits
 simp only [DS.put] at c35
 have c2 : w7.cell? ⟨F, 2, none⟩ = some (.int .i64 (r4.pos : Int)) := hI7.st.dec.roff
 clear hRF hI7 hL7 hll hl15 hls
 have k1 : nlit ≤ n := by have := HN.out; omega
 have hs1 : ∀ w : World, (Instr.sliceAt 159 (.pointer (some ⟨d.BB, 0, none⟩)) (some (.int .i64 0)) (some (.int .i64 (nlit : Int))) none).run Tryz.prog w = .ok (.slice (some ⟨d.BB, 0, none⟩) nlit 316) w := fun w => by
  have := run_bits w d.BB 0 nlit (by omega) (by omega) (by omega)
  rw [Nat.sub_zero, Nat.sub_zero] at this; exact this
 have l1 : (ls.take nlit).length = nlit := by rw [List.length_take, HLL.out]; omega
 have l2 : (ls.drop nlit).length = n - nlit := by rw [List.length_drop, HLL.out]
 have hc1 := (HI7.out.drew).init (o := 5) (xo := 0) (cap := 316) (.inl rfl) (show Lens w7.drew d.BB 0 (ls.take nlit) from HL7.out.take nlit) l1 (by omega) (fun v hv => H15.out v (List.mem_of_mem_take hv))
 have hnp1 := (initTab_law (lens := ls.take nlit) (fun v hv => H15.out v (List.mem_of_mem_take hv)) (by omega)).1
 have hnp2 := (initTab_law (lens := ls.drop nlit) (fun v hv => H15.out v (List.mem_of_mem_drop hv)) (by omega)).1
 cases ht1 : initTab (ls.take nlit) with
 | none => exact absurd ht1 hnp1
 | some o1 =>
  rw [ht1] at hc1
  cases o1 with
  | none =>
   as_aux_lemma =>
   have hc2 : Calls Tryz.prog 88 #[.pointer (some ⟨F, 5, none⟩), .slice (some ⟨d.BB, 0, none⟩) nlit 316] w7.drew fun e w' => e = .returned (.bool false) ∧ w'.cell? ⟨F, 1035, none⟩ = some (.pointer (some ⟨d.BB, 0, none⟩)) ∧ Hid (RI w F C p d H k w' r4) := by
    refine hc1.mono ?_; rintro e w' ⟨rfl, HM⟩; exact ⟨rfl, by have := HM.out.1.st.dec.bits; exact this, zHi HM.out.1⟩
   have HC1 := zHi hc2; have HT1 := zHi ht1; clear hc1 hc2 ht1 hnp1 hnp2 l1 l2; go_upto_region 73 with (fail)
   refine wp_region_held_drew (S := fun w' => w'.cell? ⟨F, 1035, none⟩ = some (.pointer (some ⟨d.BB, 0, none⟩))) (by kernel_rfl) c35 (fun hHeld => ?_)
   refine take_list (i := 0) (v := ?_) rfl (by kernel_rfl) (by kernel_rfl) (by kernel_rfl) (fun _ _ _ h => h) (Or.inl ⟨by rfl, ?_⟩) (by assumption) ?_
   rotate_left
   · (intro w hSw; (try dsimp only at hSw); go_simp; (try with_reducible rfl))
   (try simp only [Act.put, List.setIfInBounds_toArray, List.set_cons_zero, List.set_cons_succ])
   refine take_list (i := 1) (v := ?_) rfl (by kernel_rfl) (by kernel_rfl) (by kernel_rfl) (fun _ _ _ h => h) (Or.inl ⟨by rfl, ?_⟩) (by assumption) ?_
   rotate_left
   · (intro w hSw; (try dsimp only at hSw); go_simp; (try with_reducible rfl))
   (try simp only [Act.put, List.setIfInBounds_toArray, List.set_cons_zero, List.set_cons_succ])
   refine take_list (i := 2) (v := ?_) rfl (by kernel_rfl) (by kernel_rfl) (by kernel_rfl) (fun _ _ _ h => h) (Or.inl ⟨by rfl, ?_⟩) (by assumption) ?_
   rotate_left
   · (intro w hSw; (try dsimp only at hSw); go_simp; (try with_reducible rfl))
   (try simp only [Act.put, List.setIfInBounds_toArray, List.set_cons_zero, List.set_cons_succ])
   refine take_list (i := 3) (v := ?_) rfl (by kernel_rfl) (by kernel_rfl) (by kernel_rfl) (fun _ _ _ h => h) (Or.inl ⟨by rfl, ?_⟩) (by assumption) ?_
   rotate_left
   · (intro w hSw; (try dsimp only at hSw); go_simp; (try with_reducible rfl))
   (try simp only [Act.put, List.setIfInBounds_toArray, List.set_cons_zero, List.set_cons_succ])
   refine take_list (i := 4) (v := ?_) rfl (by kernel_rfl) (by kernel_rfl) (by kernel_rfl) (fun _ _ _ h => h) (Or.inl ⟨by rfl, ?_⟩) (by assumption) ?_
   rotate_left
   · (intro w hSw; (try dsimp only at hSw); go_simp; (try with_reducible rfl))
   (try simp only [Act.put, List.setIfInBounds_toArray, List.set_cons_zero, List.set_cons_succ])
   refine take_list (i := 5) (v := ?_) rfl (by kernel_rfl) (by kernel_rfl) (by kernel_rfl) (fun _ _ _ h => h) (Or.inl ⟨by rfl, ?_⟩) (by assumption) ?_
   rotate_left
   · (intro w hSw; (try dsimp only at hSw); go_simp; (try with_reducible rfl))
   (try simp only [Act.put, List.setIfInBounds_toArray, List.set_cons_zero, List.set_cons_succ])
   refine take_list (i := 6) (v := ?_) rfl (by kernel_rfl) (by kernel_rfl) (by kernel_rfl) (fun _ _ _ h => h) (Or.inl ⟨by rfl, ?_⟩) (by assumption) ?_
   rotate_left
   · (intro w hSw; (try dsimp only at hSw); go_simp; (try with_reducible rfl))
   (try simp only [Act.put, List.setIfInBounds_toArray, List.set_cons_zero, List.set_cons_succ])
   refine take_list (i := 7) (v := ?_) rfl (by kernel_rfl) (by kernel_rfl) (by kernel_rfl) (fun _ _ _ h => h) (Or.inl ⟨by rfl, ?_⟩) (by assumption) ?_
   rotate_left
   · (intro w hSw; (try dsimp only at hSw); go_simp; (try with_reducible rfl))
   (try simp only [Act.put, List.setIfInBounds_toArray, List.set_cons_zero, List.set_cons_succ])
   refine take_list (i := 8) (v := ?_) rfl (by kernel_rfl) (by kernel_rfl) (by kernel_rfl) (fun _ _ _ h => h) (Or.inl ⟨by rfl, ?_⟩) (by assumption) ?_
   rotate_left
   · (intro w hSw; (try dsimp only at hSw); go_simp; (try with_reducible rfl))
   (try simp only [Act.put, List.setIfInBounds_toArray, List.set_cons_zero, List.set_cons_succ])
   refine take_list (i := 9) (v := ?_) rfl (by kernel_rfl) (by kernel_rfl) (by kernel_rfl) (fun _ _ _ h => h) (Or.inl ⟨by rfl, ?_⟩) (by assumption) ?_
   rotate_left
   · (intro w hSw; (try dsimp only at hSw); go_simp; (try with_reducible rfl))
   (try simp only [Act.put, List.setIfInBounds_toArray, List.set_cons_zero, List.set_cons_succ])
   refine wpAnyH_ready (rs := [10]) (by kernel_rfl) (by simp) ?_
   refine AllReadyH.cons rfl (fun K hK => ?_) AllReadyH.nil
   go_simp
   refine HC1.out.mono ?_; rintro e w8 ⟨rfl, kp, HM⟩
   go_simp
   refine hK.out _ _ kp (fun hHeld8 => ?_)
   clear hK K
   (try simp only [Act.put, List.setIfInBounds_toArray, List.set_cons_zero, List.set_cons_succ])
   refine take_list (i := 11) (v := ?_) rfl (by kernel_rfl) (by kernel_rfl) (by kernel_rfl) (fun _ _ _ h => h) (Or.inl ⟨by rfl, ?_⟩) (by assumption) ?_
   rotate_left
   · (intro w hSw; (try dsimp only at hSw); go_simp; (try with_reducible rfl))
   (try simp only [Act.put, List.setIfInBounds_toArray, List.set_cons_zero, List.set_cons_succ])
   refine take_list (i := 12) (v := ?_) rfl (by kernel_rfl) (by kernel_rfl) (by kernel_rfl) (fun _ _ _ h => h) (Or.inl ⟨by rfl, ?_⟩) (by assumption) ?_
   rotate_left
   · (intro w hSw; (try dsimp only at hSw); go_simp; (try with_reducible rfl))
   (try simp only [Act.put, List.setIfInBounds_toArray, List.set_cons_zero, List.set_cons_succ])
   refine take_list (i := 13) (v := undef) rfl (by kernel_rfl) (by kernel_rfl) (by kernel_rfl) (fun _ _ _ h => h) (Or.inr ⟨by rfl, rfl⟩) (by assumption) ?_
   (try simp only [Act.put, List.setIfInBounds_toArray, List.set_cons_zero, List.set_cons_succ])
   refine take_list (i := 14) (v := undef) rfl (by kernel_rfl) (by kernel_rfl) (by kernel_rfl) (fun _ _ _ h => h) (Or.inr ⟨by rfl, rfl⟩) (by assumption) ?_
   (try simp only [Act.put, List.setIfInBounds_toArray, List.set_cons_zero, List.set_cons_succ])
   refine take_list (i := 15) (v := undef) rfl (by kernel_rfl) (by kernel_rfl) (by kernel_rfl) (fun _ _ _ h => h) (Or.inr ⟨by rfl, rfl⟩) (by assumption) ?_
   (try simp only [Act.put, List.setIfInBounds_toArray, List.set_cons_zero, List.set_cons_succ])
   refine take_list (i := 16) (v := undef) rfl (by kernel_rfl) (by kernel_rfl) (by kernel_rfl) (fun _ _ _ h => h) (Or.inr ⟨by rfl, rfl⟩) (by assumption) ?_
   (try simp only [Act.put, List.setIfInBounds_toArray, List.set_cons_zero, List.set_cons_succ])
   refine take_list (i := 17) (v := undef) rfl (by kernel_rfl) (by kernel_rfl) (by kernel_rfl) (fun _ _ _ h => h) (Or.inr ⟨by rfl, rfl⟩) (by assumption) ?_
   (try simp only [Act.put, List.setIfInBounds_toArray, List.set_cons_zero, List.set_cons_succ])
   refine take_list (i := 18) (v := undef) rfl (by kernel_rfl) (by kernel_rfl) (by kernel_rfl) (fun _ _ _ h => h) (Or.inr ⟨by rfl, rfl⟩) (by assumption) ?_
   (try simp only [Act.put, List.setIfInBounds_toArray, List.set_cons_zero, List.set_cons_succ])
   refine take_list (i := 19) (v := undef) rfl (by kernel_rfl) (by kernel_rfl) (by kernel_rfl) (fun _ _ _ h => h) (Or.inr ⟨by rfl, rfl⟩) (by assumption) ?_
   (try simp only [Act.put, List.setIfInBounds_toArray, List.set_cons_zero, List.set_cons_succ])
   refine take_list (i := 20) (v := undef) rfl (by kernel_rfl) (by kernel_rfl) (by kernel_rfl) (fun _ _ _ h => h) (Or.inr ⟨by rfl, rfl⟩) (by assumption) ?_
   (try simp only [Act.put, List.setIfInBounds_toArray, List.set_cons_zero, List.set_cons_succ])
   refine take_list (i := 21) (v := undef) rfl (by kernel_rfl) (by kernel_rfl) (by kernel_rfl) (fun _ _ _ h => h) (Or.inr ⟨by rfl, rfl⟩) (by assumption) ?_
   (try simp only [Act.put, List.setIfInBounds_toArray, List.set_cons_zero, List.set_cons_succ])
   refine take_list (i := 22) (v := undef) rfl (by kernel_rfl) (by kernel_rfl) (by kernel_rfl) (fun _ _ _ h => h) (Or.inr ⟨by rfl, rfl⟩) (by assumption) ?_
   (try simp only [Act.put, List.setIfInBounds_toArray, List.set_cons_zero, List.set_cons_succ])
   refine take_list (i := 23) (v := undef) rfl (by kernel_rfl) (by kernel_rfl) (by kernel_rfl) (fun _ _ _ h => h) (Or.inr ⟨by rfl, rfl⟩) (by assumption) ?_
   (try simp only [Act.put, List.setIfInBounds_toArray, List.set_cons_zero, List.set_cons_succ])
   refine take_list (i := 24) (v := undef) rfl (by kernel_rfl) (by kernel_rfl) (by kernel_rfl) (fun _ _ _ h => h) (Or.inr ⟨by rfl, rfl⟩) (by assumption) ?_
   (try simp only [Act.put, List.setIfInBounds_toArray, List.set_cons_zero, List.set_cons_succ])
   refine take_list (i := 25) (v := undef) rfl (by kernel_rfl) (by kernel_rfl) (by kernel_rfl) (fun _ _ _ h => h) (Or.inr ⟨by rfl, rfl⟩) (by assumption) ?_
   (try simp only [Act.put, List.setIfInBounds_toArray, List.set_cons_zero, List.set_cons_succ])
   refine take_list (i := 26) (v := undef) rfl (by kernel_rfl) (by kernel_rfl) (by kernel_rfl) (fun _ _ _ h => h) (Or.inr ⟨by rfl, rfl⟩) (by assumption) ?_
   (try simp only [Act.put, List.setIfInBounds_toArray, List.set_cons_zero, List.set_cons_succ])
   refine take_list (i := 27) (v := undef) rfl (by kernel_rfl) (by kernel_rfl) (by kernel_rfl) (fun _ _ _ h => h) (Or.inr ⟨by rfl, rfl⟩) (by assumption) ?_
   (try simp only [Act.put, List.setIfInBounds_toArray, List.set_cons_zero, List.set_cons_succ])
   refine take_list (i := 28) (v := ?_) rfl (by kernel_rfl) (by kernel_rfl) (by kernel_rfl) (fun _ _ _ h => h) (Or.inl ⟨by rfl, ?_⟩) (by assumption) ?_
   rotate_left
   · (intro w hSw; (try dsimp only at hSw); go_simp; (try with_reducible rfl))
   (try simp only [Act.put, List.setIfInBounds_toArray, List.set_cons_zero, List.set_cons_succ])
   refine wpAnyH_done (by kernel_rfl) ?_ _
   have c2' : w8.cell? ⟨F, 2, none⟩ = some (.int .i64 (r4.pos : Int)) := HM.out.st.dec.roff; go_wp2_with fail
   go_ret
   exact HM.out.corrupt (d' := d.put r4) (r' := r4) rfl (by rw [HRF.out]; exact two_bad1 HT1.out) HM.out.st.dec (Frm.refl _ _) rfl
  | some T1 =>
  as_aux_lemma =>
   have hs2 : ∀ w : World, (Instr.sliceAt 159 (.pointer (some ⟨d.BB, 0, none⟩)) (some (.int .i64 (nlit : Int))) (some (.int .i64 (n : Int))) none).run Tryz.prog w = .ok (.slice (some ⟨d.BB, nlit, none⟩) (n - nlit) (316 - nlit)) w := fun w => run_bits w d.BB nlit n k1 hn316 (by omega)
   have hwr : IntKind.i64.wrap (n : Int) = (n : Int) := IntWalk.i64_in _ (by omega)
   have hc2 : Calls Tryz.prog 88 #[.pointer (some ⟨F, 5, none⟩), .slice (some ⟨d.BB, 0, none⟩) nlit 316] w7.drew fun e w' => e = .returned (.bool true) ∧ w'.cell? ⟨F, 1035, none⟩ = some (.pointer (some ⟨d.BB, 0, none⟩)) ∧ Hid (RI w F C p d H k w' r4 ∧ TabAt w' F 5 T1 (LinkB F d) ∧ Frm (ST F 5) w7.drew w') := by
    refine hc1.mono ?_; rintro e w' ⟨rfl, HM⟩; exact ⟨rfl, by have := HM.out.1.st.dec.bits; exact this, HM⟩
   have hc3 : ∀ W : World, RI w F C p d H k W r4 → Lens W d.BB nlit (ls.drop nlit) → Calls Tryz.prog 88 #[.pointer (some ⟨F, 520, none⟩), .slice (some ⟨d.BB, nlit, none⟩) (n - nlit) (316 - nlit)] W (RowPost w F C p d H k W r4 520 (initTab (ls.drop nlit))) :=
    fun W hW hLW => hW.init (.inr rfl) hLW l2 (by omega) (fun v hv => H15.out v (List.mem_of_mem_drop hv))
   have HC1 := zHi hc2; have HT1 := zHi ht1
   cases ht2 : initTab (ls.drop nlit) with
   | none => exact absurd ht2 hnp2
   | some o2 =>
   rw [ht2] at hc3; have HC3 := zHi hc3; have HT2 := zHi ht2; clear hc1 hc2 hc3 ht1 ht2 hnp1 hnp2 l1 l2; go_upto_region 73 with (fail)
   refine wp_region_held_drew (S := fun w' => w'.cell? ⟨F, 1035, none⟩ = some (.pointer (some ⟨d.BB, 0, none⟩))) (by kernel_rfl) c35 (fun hHeld => ?_)
   refine take_list (i := 0) (v := ?_) rfl (by kernel_rfl) (by kernel_rfl) (by kernel_rfl) (fun _ _ _ h => h) (Or.inl ⟨by rfl, ?_⟩) (by assumption) ?_
   rotate_left
   · (intro w hSw; (try dsimp only at hSw); go_simp; (try with_reducible rfl))
   (try simp only [Act.put, List.setIfInBounds_toArray, List.set_cons_zero, List.set_cons_succ])
   refine take_list (i := 1) (v := ?_) rfl (by kernel_rfl) (by kernel_rfl) (by kernel_rfl) (fun _ _ _ h => h) (Or.inl ⟨by rfl, ?_⟩) (by assumption) ?_
   rotate_left
   · (intro w hSw; (try dsimp only at hSw); go_simp; (try with_reducible rfl))
   (try simp only [Act.put, List.setIfInBounds_toArray, List.set_cons_zero, List.set_cons_succ])
   refine take_list (i := 2) (v := ?_) rfl (by kernel_rfl) (by kernel_rfl) (by kernel_rfl) (fun _ _ _ h => h) (Or.inl ⟨by rfl, ?_⟩) (by assumption) ?_
   rotate_left
   · (intro w hSw; (try dsimp only at hSw); go_simp; (try with_reducible rfl))
   (try simp only [Act.put, List.setIfInBounds_toArray, List.set_cons_zero, List.set_cons_succ])
   refine take_list (i := 3) (v := ?_) rfl (by kernel_rfl) (by kernel_rfl) (by kernel_rfl) (fun _ _ _ h => h) (Or.inl ⟨by rfl, ?_⟩) (by assumption) ?_
   rotate_left
   · (intro w hSw; (try dsimp only at hSw); go_simp; (try with_reducible rfl))
   (try simp only [Act.put, List.setIfInBounds_toArray, List.set_cons_zero, List.set_cons_succ])
   refine take_list (i := 4) (v := ?_) rfl (by kernel_rfl) (by kernel_rfl) (by kernel_rfl) (fun _ _ _ h => h) (Or.inl ⟨by rfl, ?_⟩) (by assumption) ?_
   rotate_left
   · (intro w hSw; (try dsimp only at hSw); go_simp; (try with_reducible rfl))
   (try simp only [Act.put, List.setIfInBounds_toArray, List.set_cons_zero, List.set_cons_succ])
   refine take_list (i := 5) (v := ?_) rfl (by kernel_rfl) (by kernel_rfl) (by kernel_rfl) (fun _ _ _ h => h) (Or.inl ⟨by rfl, ?_⟩) (by assumption) ?_
   rotate_left
   · (intro w hSw; (try dsimp only at hSw); go_simp; (try with_reducible rfl))
   (try simp only [Act.put, List.setIfInBounds_toArray, List.set_cons_zero, List.set_cons_succ])
   refine take_list (i := 6) (v := ?_) rfl (by kernel_rfl) (by kernel_rfl) (by kernel_rfl) (fun _ _ _ h => h) (Or.inl ⟨by rfl, ?_⟩) (by assumption) ?_
   rotate_left
   · (intro w hSw; (try dsimp only at hSw); go_simp; (try with_reducible rfl))
   (try simp only [Act.put, List.setIfInBounds_toArray, List.set_cons_zero, List.set_cons_succ])
   refine take_list (i := 7) (v := ?_) rfl (by kernel_rfl) (by kernel_rfl) (by kernel_rfl) (fun _ _ _ h => h) (Or.inl ⟨by rfl, ?_⟩) (by assumption) ?_
   rotate_left
   · (intro w hSw; (try dsimp only at hSw); go_simp; (try with_reducible rfl))
   (try simp only [Act.put, List.setIfInBounds_toArray, List.set_cons_zero, List.set_cons_succ])
   refine take_list (i := 8) (v := ?_) rfl (by kernel_rfl) (by kernel_rfl) (by kernel_rfl) (fun _ _ _ h => h) (Or.inl ⟨by rfl, ?_⟩) (by assumption) ?_
   rotate_left
   · (intro w hSw; (try dsimp only at hSw); go_simp; (try with_reducible rfl))
   (try simp only [Act.put, List.setIfInBounds_toArray, List.set_cons_zero, List.set_cons_succ])
   refine take_list (i := 9) (v := ?_) rfl (by kernel_rfl) (by kernel_rfl) (by kernel_rfl) (fun _ _ _ h => h) (Or.inl ⟨by rfl, ?_⟩) (by assumption) ?_
   rotate_left
   · (intro w hSw; (try dsimp only at hSw); go_simp; (try with_reducible rfl))
   (try simp only [Act.put, List.setIfInBounds_toArray, List.set_cons_zero, List.set_cons_succ])
   refine wpAnyH_ready (rs := [10]) (by kernel_rfl) (by simp) ?_
   refine AllReadyH.cons rfl (fun K hK => ?_) AllReadyH.nil
   go_simp
   refine HC1.out.mono ?_; rintro e w8 ⟨rfl, kp, HM⟩
   go_simp
   refine hK.out _ _ kp (fun hHeld8 => ?_)
   clear hK K
   (try simp only [Act.put, List.setIfInBounds_toArray, List.set_cons_zero, List.set_cons_succ])
   refine take_list (i := 11) (v := ?_) rfl (by kernel_rfl) (by kernel_rfl) (by kernel_rfl) (fun _ _ _ h => h) (Or.inl ⟨by rfl, ?_⟩) (by assumption) ?_
   rotate_left
   · (intro w hSw; (try dsimp only at hSw); go_simp; (try with_reducible rfl))
   (try simp only [Act.put, List.setIfInBounds_toArray, List.set_cons_zero, List.set_cons_succ])
   refine take_list (i := 12) (v := ?_) rfl (by kernel_rfl) (by kernel_rfl) (by kernel_rfl) (fun _ _ _ h => h) (Or.inl ⟨by rfl, ?_⟩) (by assumption) ?_
   rotate_left
   · (intro w hSw; (try dsimp only at hSw); go_simp; (try with_reducible rfl))
   (try simp only [Act.put, List.setIfInBounds_toArray, List.set_cons_zero, List.set_cons_succ])
   refine take_list (i := 13) (v := ?_) rfl (by kernel_rfl) (by kernel_rfl) (by kernel_rfl) (fun _ _ _ h => h) (Or.inl ⟨by rfl, ?_⟩) (by assumption) ?_
   rotate_left
   · (intro w hSw; (try dsimp only at hSw); go_simp; (try with_reducible rfl))
   (try simp only [Act.put, List.setIfInBounds_toArray, List.set_cons_zero, List.set_cons_succ])
   refine take_list (i := 14) (v := ?_) rfl (by kernel_rfl) (by kernel_rfl) (by kernel_rfl) (fun _ _ _ h => h) (Or.inl ⟨by rfl, ?_⟩) (by assumption) ?_
   rotate_left
   · (intro w hSw; (try dsimp only at hSw); go_simp; (try with_reducible rfl))
   (try simp only [Act.put, List.setIfInBounds_toArray, List.set_cons_zero, List.set_cons_succ])
   refine take_list (i := 15) (v := ?_) rfl (by kernel_rfl) (by kernel_rfl) (by kernel_rfl) (fun _ _ _ h => h) (Or.inl ⟨by rfl, ?_⟩) (by assumption) ?_
   rotate_left
   · (intro w hSw; (try dsimp only at hSw); go_simp; (try with_reducible rfl))
   (try simp only [Act.put, List.setIfInBounds_toArray, List.set_cons_zero, List.set_cons_succ])
   refine take_list (i := 16) (v := ?_) rfl (by kernel_rfl) (by kernel_rfl) (by kernel_rfl) (fun _ _ _ h => h) (Or.inl ⟨by rfl, ?_⟩) (by assumption) ?_
   rotate_left
   · (intro w hSw; (try dsimp only at hSw); go_simp; (try with_reducible rfl))
   (try simp only [Act.put, List.setIfInBounds_toArray, List.set_cons_zero, List.set_cons_succ])
   refine take_list (i := 17) (v := ?_) rfl (by kernel_rfl) (by kernel_rfl) (by kernel_rfl) (fun _ _ _ h => h) (Or.inl ⟨by rfl, ?_⟩) (by assumption) ?_
   rotate_left
   · (intro w hSw; (try dsimp only at hSw); go_simp; (try with_reducible rfl))
   (try simp only [Act.put, List.setIfInBounds_toArray, List.set_cons_zero, List.set_cons_succ])
   refine take_list (i := 18) (v := ?_) rfl (by kernel_rfl) (by kernel_rfl) (by kernel_rfl) (fun _ _ _ h => h) (Or.inl ⟨by rfl, ?_⟩) (by assumption) ?_
   rotate_left
   · (intro w hSw; (try dsimp only at hSw); go_simp; (try with_reducible rfl))
   (try simp only [Act.put, List.setIfInBounds_toArray, List.set_cons_zero, List.set_cons_succ])
   refine take_list (i := 19) (v := ?_) rfl (by kernel_rfl) (by kernel_rfl) (by kernel_rfl) (fun _ _ _ h => h) (Or.inl ⟨by rfl, ?_⟩) (by assumption) ?_
   rotate_left
   · (intro w hSw; (try dsimp only at hSw); go_simp; (try with_reducible rfl))
   (try simp only [Act.put, List.setIfInBounds_toArray, List.set_cons_zero, List.set_cons_succ])
   refine take_list (i := 20) (v := ?_) rfl (by kernel_rfl) (by kernel_rfl) (by kernel_rfl) (fun _ _ _ h => h) (Or.inl ⟨by rfl, ?_⟩) (by assumption) ?_
   rotate_left
   · (intro w hSw; (try dsimp only at hSw); go_simp; (try with_reducible rfl))
   (try simp only [Act.put, List.setIfInBounds_toArray, List.set_cons_zero, List.set_cons_succ])
   refine take_list (i := 21) (v := ?_) rfl (by kernel_rfl) (by kernel_rfl) (by kernel_rfl) (fun _ _ _ h => h) (Or.inl ⟨by rfl, ?_⟩) (by assumption) ?_
   rotate_left
   · (intro w hSw; (try dsimp only at hSw); go_simp; (try with_reducible rfl))
   (try simp only [Act.put, List.setIfInBounds_toArray, List.set_cons_zero, List.set_cons_succ])
   refine take_list (i := 22) (v := ?_) rfl (by kernel_rfl) (by kernel_rfl) (by kernel_rfl) (fun _ _ _ h => h) (Or.inl ⟨by rfl, ?_⟩) (by assumption) ?_
   rotate_left
   · (intro w hSw; (try dsimp only at hSw); go_simp; (try with_reducible rfl))
   (try simp only [Act.put, List.setIfInBounds_toArray, List.set_cons_zero, List.set_cons_succ])
   refine take_list (i := 23) (v := ?_) rfl (by kernel_rfl) (by kernel_rfl) (by kernel_rfl) (fun _ _ _ h => h) (Or.inl ⟨by rfl, ?_⟩) (by assumption) ?_
   rotate_left
   · (intro w hSw; (try dsimp only at hSw); go_simp; (try with_reducible rfl))
   (try simp only [Act.put, List.setIfInBounds_toArray, List.set_cons_zero, List.set_cons_succ])
   refine take_list (i := 24) (v := ?_) rfl (by kernel_rfl) (by kernel_rfl) (by kernel_rfl) (fun _ _ _ h => h) (Or.inl ⟨by rfl, ?_⟩) (by assumption) ?_
   rotate_left
   · (intro w hSw; (try dsimp only at hSw); go_simp; (try with_reducible rfl))
   (try simp only [Act.put, List.setIfInBounds_toArray, List.set_cons_zero, List.set_cons_succ])
   refine take_list (i := 25) (v := ?_) rfl (by kernel_rfl) (by kernel_rfl) (by kernel_rfl) (fun _ _ _ h => h) (Or.inl ⟨by rfl, ?_⟩) (by assumption) ?_
   rotate_left
   · (intro w hSw; (try dsimp only at hSw); go_simp; (try with_reducible rfl))
   (try simp only [Act.put, List.setIfInBounds_toArray, List.set_cons_zero, List.set_cons_succ])
   refine wpAnyH_ready (rs := [26]) (by kernel_rfl) (by simp) ?_
   refine AllReadyH.cons rfl (fun K hK => ?_) AllReadyH.nil
   go_simp
   have hL8 : Lens w8 d.BB 0 ls := (HI7.out.drew).lensT HM.out.2.2 (show Lens w7.drew d.BB 0 ls from HL7.out)
   refine (HC3.out w8 HM.out.1 (hL8.drop nlit)).mono ?_; have HL8 := zHi hL8; clear hL8; intro e w9 hP
   cases o2 with
   | none =>
    obtain ⟨rfl, HM9⟩ := hP; have kp9 : w9.cell? ⟨F, 1035, none⟩ = some (.pointer (some ⟨d.BB, 0, none⟩)) := HM9.out.1.st.dec.bits
    go_simp
    refine hK.out _ _ kp9 (fun hHeld9 => ?_)
    clear hK K
    (try simp only [Act.put, List.setIfInBounds_toArray, List.set_cons_zero, List.set_cons_succ])
    refine take_list (i := 27) (v := ?_) rfl (by kernel_rfl) (by kernel_rfl) (by kernel_rfl) (fun _ _ _ h => h) (Or.inl ⟨by rfl, ?_⟩) (by assumption) ?_
    rotate_left
    · (intro w hSw; (try dsimp only at hSw); go_simp; (try with_reducible rfl))
    (try simp only [Act.put, List.setIfInBounds_toArray, List.set_cons_zero, List.set_cons_succ])
    refine take_list (i := 28) (v := ?_) rfl (by kernel_rfl) (by kernel_rfl) (by kernel_rfl) (fun _ _ _ h => h) (Or.inl ⟨by rfl, ?_⟩) (by assumption) ?_
    rotate_left
    · (intro w hSw; (try dsimp only at hSw); go_simp; (try with_reducible rfl))
    (try simp only [Act.put, List.setIfInBounds_toArray, List.set_cons_zero, List.set_cons_succ])
    refine wpAnyH_done (by kernel_rfl) ?_ _
    have c2' : w9.cell? ⟨F, 2, none⟩ = some (.int .i64 (r4.pos : Int)) := HM9.out.1.st.dec.roff; go_wp2_with fail
    go_ret
    exact HM9.out.1.corrupt (d' := d.put r4) (r' := r4) rfl (by rw [HRF.out]; exact two_bad2 HT1.out HT2.out) HM9.out.1.st.dec (Frm.refl _ _) rfl
   | some T2 =>
    obtain ⟨rfl, HM9⟩ := hP; have kp9 : w9.cell? ⟨F, 1035, none⟩ = some (.pointer (some ⟨d.BB, 0, none⟩)) := HM9.out.1.st.dec.bits
    go_simp
    refine hK.out _ _ kp9 (fun hHeld9 => ?_)
    clear hK K
    (try simp only [Act.put, List.setIfInBounds_toArray, List.set_cons_zero, List.set_cons_succ])
    refine take_list (i := 27) (v := ?_) rfl (by kernel_rfl) (by kernel_rfl) (by kernel_rfl) (fun _ _ _ h => h) (Or.inl ⟨by rfl, ?_⟩) (by assumption) ?_
    rotate_left
    · (intro w hSw; (try dsimp only at hSw); go_simp; (try with_reducible rfl))
    (try simp only [Act.put, List.setIfInBounds_toArray, List.set_cons_zero, List.set_cons_succ])
    refine take_list (i := 28) (v := ?_) rfl (by kernel_rfl) (by kernel_rfl) (by kernel_rfl) (fun _ _ _ h => h) (Or.inl ⟨by rfl, ?_⟩) (by assumption) ?_
    rotate_left
    · (intro w hSw; (try dsimp only at hSw); go_simp; (try with_reducible rfl))
    (try simp only [Act.put, List.setIfInBounds_toArray, List.set_cons_zero, List.set_cons_succ])
    refine wpAnyH_done (by kernel_rfl) ?_ _
    obtain ⟨hI9, hT9, hf9⟩ := HM9.out; have hT1 : TabAt w9 F 5 T1 (LinkB F d) := HM.out.2.1.keep hf9 (fun x h1 h2 e => by have := e.2; omega) (fun b hb x e => hb.1 e.1)
    have hL9 := HM.out.1.lensT hf9 HL8.out; obtain ⟨e256, he⟩ : ∃ x, x = ls.getD 256 0 := ⟨_, rfl⟩; have c256 := hL9 256 (by rw [HLL.out]; omega)
    rw [Nat.zero_add, ← he] at c256; have c5 := hT1.min; have g5 := hI9.st.dec.fr 5; have HI9 := zHi hI9; have HT9 := zHi hT9; have HTA := zHi hT1; have HE := zHi he; obtain ⟨tm, htm⟩ : ∃ tm, tm = T1.min := ⟨_, rfl⟩; rw [← htm] at c5; have HTM := zHi htm; clear hI9 hT9 hf9 hT1 hL9 he htm
    by_cases hlt : tm < e256
    · have HLT := zHi hlt; go_wp2_with fail
      (go_quiet (fail))
      go_wp2_with fail
      go_ret
      have hlt := HLT.out; rw [HTM.out] at hlt; obtain ⟨q1, q2, q3⟩ := (HI9.out.drewN nq).raise (m := e256) (show TabAt (w9.drewN nq) F 5 T1 (LinkB F d) from ⟨HTA.out.min, HTA.out.ch, HTA.out.mask, HTA.out.none_, HTA.out.some_⟩) (show TabAt (w9.drewN nq) F 520 T2 (LinkB F d) from ⟨HT9.out.min, HT9.out.ch, HT9.out.mask, HT9.out.none_, HT9.out.some_⟩) hlt
      rw [HRF.out, two_ok HT1.out HT2.out, ← HE.out, if_pos hlt]; exact ⟨rfl, q1, q2, q3⟩
    · have HLT := zHi hlt; go_wp2_with fail
      (go_quiet (fail))
      go_wp2_with fail
      go_ret
      have hlt := HLT.out; rw [HTM.out] at hlt; rw [HRF.out, two_ok HT1.out HT2.out, ← HE.out, if_neg hlt]; exact ⟨rfl, HI9.out.drewN nq, ⟨HTA.out.min, HTA.out.ch, HTA.out.mask, HTA.out.none_, HTA.out.some_⟩, ⟨HT9.out.min, HT9.out.ch, HT9.out.mask, HT9.out.none_, HT9.out.some_⟩⟩
end Go.Proofs.YthfncdfcklbigaaGreatDoor
