/-
  Several texts in one: Dfl.
-/
import Derived.Test.YthfncdfcklbigaaGreatDoorWd
import Derived.Test.YthfncdfcklbigaaGreatDoorWb
import Derived.Test.YthfncdfcklbigaaGreatDoorPj
set_option linter.unusedVariables false
set_option linter.unusedSimpArgs false
namespace Go.Proofs.YthfncdfcklbigaaGreatDoor
open Go.RowKit Go.IntWalk Flate
set_option maxRecDepth 100000
theorem xor_ffff (n : Nat) (h : n < 65536) : n ^^^ 65535 = 65535 - n := by
 have h1 := BitVec.xor_allOnes (x := BitVec.ofNat 16 n)
 have h2 := congrArg BitVec.toNat h1
 rw [BitVec.toNat_xor, BitVec.toNat_not, BitVec.toNat_allOnes, BitVec.toNat_ofNat, Nat.mod_eq_of_lt h] at h2
 simp at h2
 exact h2
theorem i64_xor_ffff (n : Nat) (h : n ≤ 65535) : bits .xor .i64 (n : Int) 65535 = ((65535 - n : Nat) : Int) := by
 rw [show (65535 : Int) = ((65535 : Nat) : Int) from rfl]
 show IntKind.i64.wrap ((BitVec.ofInt 64 (n : Int) ^^^ BitVec.ofInt 64 ((65535 : Nat) : Int)).toNat : Int) = _
 have ea : (BitVec.ofInt 64 (n : Int)).toNat = n := by rw [BitVec.toNat_ofInt]; omega
 have eb : (BitVec.ofInt 64 ((65535 : Nat) : Int)).toNat = 65535 := by rw [BitVec.toNat_ofInt]; omega
 rw [BitVec.toNat_xor, ea, eb, xor_ffff n (by omega)]
 exact i64_in _ (by omega)
def DfDict (w : World) (dict : List UInt8) (s : Value) (wq : World) : Prop :=
 ∃ b c, s = .slice b (lastOf dict).length c ∧ Bt w b (lastOf dict) c ∧ w = wq
def DfAll (w : World) (A : List UInt8) (l : List Int) (C0 W : Nat) (s : Value) (wq : World) : Prop :=
 ∃ ab ac, s = .slice ab A.length ac ∧ Bt wq ab A ac ∧ (∀ a, ab = some a → a.block ≠ C0 ∧ a.block ≠ W) ∧ Wt wq wq.heap.size W [] ∧ Chs wq w.heap.size C0 l 0 ∧ W < wq.heap.size ∧ Frm (fun _ _ => False) w wq
def DfInv (w5 : World) (M C0 W : Nat) (l : List Int) (d2 A : List UInt8) (G0 g : Nat) (cv fv : Value) (wr : World) : Prop :=
 ∃ (fr k C : Nat) (lx : List Int) (fresh : Bool) (L : List Bool), fv = .int .i64 (fr : Int) ∧ cv = .pointer (some ⟨C, 0, none⟩) ∧ d2.length ≤ fr ∧ fr ≤ A.length ∧ Chs wr M C lx k ∧ (C = C0 ∨ w5.heap.size ≤ C) ∧ k ≤ 20000 ∧ (fresh = true → k = 0 ∧ lx = []) ∧
  Wt wr w5.heap.size W L ∧ Blks d2 L (A.take fr) ∧ L.length ≤ 5200 * (G0 - g) + 60 * (fr - d2.length) ∧ g ≤ G0 ∧ g = dG (A.length - fr) fresh k ∧ Frm (fun b _ => b = C0 ∨ b = W) w5 wr
def DfN (wr : World) (M C : Nat) (lx : List Int) (k rest : Nat) (s : Value) (wq : World) : Prop :=
 ∃ n k1 : Nat, s = .int .i64 (n : Int) ∧ n ≤ rest ∧ n ≤ 65535 ∧ Chs wq M C lx k1 ∧ k < k1 ∧ k1 ≤ k + 2 ∧ (lx = [] → k = 0 → k1 = 1 ∧ n = min rest 65535) ∧ Frm (fun b _ => b = C) wr wq
def DfLast (wr : World) (M C : Nat) (lx : List Int) (k1 : Nat) (all : Prop) (s : Value) (wq : World) : Prop :=
 ∃ (b : Bool) (k2 : Nat), s = .int .i64 (b.toNat : Int) ∧ (b = true → all) ∧ (lx = [] → k1 = 1 → all → b = true) ∧ Chs wq M C lx k2 ∧ k1 ≤ k2 ∧ k2 ≤ k1 + 1 ∧ Frm (fun b _ => b = C) wr wq
def DfBlk (w4 : World) (N0 W M C : Nat) (lx : List Int) (k4 : Nat) (L : List Bool) (H H' : List UInt8) (last : Bool) (n : Nat) (wq : World) : Prop :=
 ∃ (B : List Bool) (k5 : Nat), Wt wq N0 W (L ++ B) ∧ Blk L.length H last B H' ∧ B.length ≤ 5200 + 60 * n ∧ Chs wq M C lx k5 ∧ k4 ≤ k5 ∧ Frm (fun b o => b = C ∨ SWr w4 N0 W b o) w4 wq
def DfPost (w : World) (dict data : List UInt8) (e : Ending) (w' : World) : Prop :=
 ∃ v L, e = .returned v ∧ Own w' w.heap.size v (pack L) ∧ Flate.Data (lastOf dict) L (lastOf dict ++ data) ∧ (pack L).length ≤ 549755813888 ∧ 0 < (pack L).length ∧ Frm (fun _ _ => False) w w'
theorem blk_pos {a : Nat} {H H' : List UInt8} {last : Bool} {B : List Bool} (h : Blk a H last B H') : 0 < B.length := by
 cases h <;> simp <;> omega
theorem chs_made {w : World} {lb : Option Addr} {l : List Int} {lc : Nat} (hl : It w lb l lc) (hll : l.length ≤ 2147483647) : Chs (w.alloc (.cells #[.slice lb l.length lc, .int .i64 0] 95)) w.heap.size w.heap.size l 0 := by
 have hc : ∀ o, (w.alloc (.cells #[.slice lb l.length lc, .int .i64 0] 95)).cell? ⟨w.heap.size, o, none⟩ = (#[.slice lb l.length lc, .int .i64 0] : Array Value)[o]? := fun o => cells_at (heap_alloc_new w _)
 exact ⟨⟨lb, lc, (hc 0).trans rfl, hl.keep ((Frm.refl _ _).alloc _), fun a ha => ⟨by have := hl.lt a ha; omega, hl.lt a ha⟩⟩, (hc 1).trans rfl, fun o => World.frozen?_alloc_new (w := w) .., hll⟩
theorem bytes_take {w : World} {b : Option Addr} {l : List UInt8} (h : Bytes w b l) (m : Nat) : Bytes w b (l.take m) := by
 cases b with
 | none => have : l = [] := h; subst this; rw [List.take_nil]; rfl
 | some a =>
  refine ⟨h.1, fun j hj => ?_⟩
  rw [List.length_take] at hj; rw [h.2 j (by omega), List.getElem_take]
theorem run_head_bytes {w : World} {b : Option Addr} {l : List UInt8} {cap : Nat} (h : Bt w b l cap) (m : Nat) (hm : m ≤ l.length) (w' : World) :
 (Instr.sliceAt 22 (.slice b l.length cap) none (some (.int .i64 (m : Int))) none).run Tryz.prog w' = .ok (.slice b m cap) w' := by
 have hsz : ∀ w : World, (sizeOf (Tryz.prog.elem 22)).run Tryz.prog w = .ok 1 w := fun w => by kernel_rfl
 have hu : Tryz.prog.underlying 22 = some (.slice (Tryz.prog.elem 22)) := by kernel_rfl
 have hcap := h.hcap
 rw [run_sliceAt_slice w' _ _ _ _ _ hu, run_slice_h w' _ _ _ _ hu _ _ (by omega) (by omega), hsz]
 simp only [Result.andThen, sliced, Int.toNat_natCast, Nat.sub_zero]
 cases b with
 | none => simp
 | some a => by_cases h : cap = 0 <;> simp [h, Addr.add]
theorem frm_CW_trans {a b c : World} {N0 W C : Nat} (h : Frm (fun x o => x = C ∨ SWr a N0 W x o) a b) (k : Frm (fun x o => x = C ∨ SWr b N0 W x o) b c) : Frm (fun x o => x = C ∨ SWr a N0 W x o) a c := by
 refine h.trans' k fun x o hx q => ?_
 by_cases hS : x = C ∨ SWr a N0 W x o
 · exact hS
 · refine .inr (.inr ?_); rcases q with q | q | ⟨q, hq⟩
   · exact absurd (.inl q) hS
   · exact absurd (.inr (.inl q)) hS
   · refine ⟨q, fun o' u hu => hq o' u ?_⟩
     have hS' : ¬ (x = C ∨ SWr a N0 W x o') := hS; rw [h.cell x o' hx hS']; exact hu
theorem df_frm {w5 wr w6 : World} {C C0 W : Nat} (hC : C = C0 ∨ w5.heap.size ≤ C) (h : Frm (fun b _ => b = C0 ∨ b = W) w5 wr) (k : Frm (fun b o => b = C ∨ SWr wr w5.heap.size W b o) wr w6) : Frm (fun b _ => b = C0 ∨ b = W) w5 w6 :=
 h.trans' k fun x o hx q => by
  rcases q with q | q | ⟨q, _⟩
  · rcases hC with e | e
    · exact .inl (q.trans e)
    · omega
  · exact .inr q
  · omega
theorem run_midB {w : World} {b : Option Addr} {l : List UInt8} {cap : Nat} (h : Bt w b l cap) (m1 m2 : Nat) (h12 : m1 ≤ m2) (h2 : m2 ≤ l.length) :
 ∃ b', (∀ w' : World, (Instr.sliceAt 22 (.slice b l.length cap) (some (.int .i64 (m1 : Int))) (some (.int .i64 (m2 : Int))) none).run Tryz.prog w' = .ok (.slice b' (m2 - m1) (cap - m1)) w') ∧ Bt w b' ((l.take m2).drop m1) (cap - m1) := by
 have hsz : ∀ w : World, (sizeOf (Tryz.prog.elem 22)).run Tryz.prog w = .ok 1 w := fun w => by kernel_rfl
 have hu : Tryz.prog.underlying 22 = some (.slice (Tryz.prog.elem 22)) := by kernel_rfl
 have hcap := h.hcap
 have hl : (l.take m2).length = m2 := by rw [List.length_take]; omega
 have ht : Bt w b (l.take m2) cap := ⟨bytes_take h.bytes m2, by rw [hl]; omega, h.lt, h.nilc⟩
 obtain ⟨b', hr, hb⟩ := run_tailB ht m1 (by rw [hl]; exact h12)
 refine ⟨b', fun w' => ?_, hb⟩
 have hb' : (if cap = m1 then b else b.map (·.add m1)) = b' := by
  have := hr w; rw [run_sliceAt_slice w _ _ _ _ _ hu, run_slice_l w _ _ _ _ hu _ _ (by omega) (by rw [hl]; omega), hsz] at this
  simp only [Result.andThen, sliced, Int.toNat_natCast, Nat.mul_one] at this; exact congrArg (fun r : Result Value => match r with | .ok (.slice b _ _) _ => b | _ => none) this
 rw [run_sliceAt_slice w' _ _ _ _ _ hu, run_slice_lh w' _ _ _ _ hu _ _ _ _ (by omega) (by omega) (by omega), hsz]
 simp only [Result.andThen, sliced, Int.toNat_natCast, Nat.mul_one]
 rw [hb']
set_option maxHeartbeats 4000000 in
theorem deflate_any (w : World) (base : Option Addr) (data : List UInt8) (cap : Nat) (hs : Bt w base data cap) (dbase : Option Addr) (dict : List UInt8) (dcap : Nat) (hd : Bt w dbase dict dcap) (lb : Option Addr) (l : List Int) (lc : Nat) (hl : It w lb l lc) (hdl : data.length ≤ 2147483647) (hdd : dict.length ≤ 2147483647) (hll : l.length ≤ 2147483647) :
 Calls Tryz.prog 32 #[.slice base data.length cap, .slice dbase dict.length dcap, .slice lb l.length lc] w (DfPost w dict data) := by
 have HS := zHi hs
 have HD := zHi hd
 have HL := zHi hl
 have HLL := zHi hll
 obtain ⟨n1, hn1⟩ : ∃ n1, n1 = data.length := ⟨_, rfl⟩
 obtain ⟨n2, hn2⟩ : ∃ n2, n2 = dict.length := ⟨_, rfl⟩
 obtain ⟨n3, hn3⟩ : ∃ n3, n3 = l.length := ⟨_, rfl⟩
 have hb1 : n1 ≤ 2147483647 := by omega
 have hb2 : n2 ≤ 2147483647 := by omega
 have hb3 : n3 ≤ 2147483647 := by omega
 have c1 : (n1 : Int) ≤ 2147483647 := by omega
 have c2 : (n2 : Int) ≤ 2147483647 := by omega
 have c3 : (n3 : Int) ≤ 2147483647 := by omega
 rw [← hn1, ← hn2, ← hn3]
 have HN := zHi (zAi hn1 (zAi hn2 hn3))
 have HB := zHi (zAi hb1 (zAi hb2 hb3))
 clear hn1 hn2 hn3 hs hd hl hdl hdd hll hb1 hb2 hb3
 go_enter Tryz.func32, Tryz.ntmps32
 go_upto_if 19 with (fail)
 go_cut [1] (fun s wq => DfDict w dict s wq)
 case first =>
  by_cases h : 32768 < n2
  · have t1 : decide ((32768 : Int) < (n2 : Int)) = true := by simp; omega
    obtain ⟨q, hq⟩ : ∃ q, q = n2 - 32768 := ⟨_, rfl⟩; have e1 : (n2 : Int) - 32768 = (q : Int) := by omega
    obtain ⟨b', hrun, hbt⟩ := run_tailB HD.out q (by have := HN.out.2.1; omega)
    have hq1 : dict.length - q = (lastOf dict).length := by unfold lastOf; rw [List.length_drop]; have := HN.out.2.1; omega
    have hq2 : dict.drop q = lastOf dict := by unfold lastOf; rw [hq, HN.out.2.1]
    rw [hq2] at hbt; rw [hq1, ← HN.out.2.1] at hrun; have HX := zHi (show DfDict w dict (.slice b' (lastOf dict).length (dcap - q)) w from ⟨b', dcap - q, rfl, hbt, rfl⟩)
    clear hq hbt hq1 hq2 h; rw [t1]; clear t1; go_wp2_with fail
    go_meet
    case rel => exact HX.out
  · have t1 : decide ((32768 : Int) < (n2 : Int)) = false := by simp; omega
    have hq2 : lastOf dict = dict := by unfold lastOf; have := HN.out.2.1; rw [show dict.length - 32768 = 0 by omega]; rfl
    have HX := zHi (show DfDict w dict (.slice dbase n2 dcap) w from ⟨dbase, dcap, by rw [hq2, HN.out.2.1], by rw [hq2]; exact HD.out, rfl⟩)
    clear hq2 h; rw [t1]; clear t1; go_wp2_with fail
    go_meet
    case rel => exact HX.out
 obtain ⟨b2, cp2, rfl, hbt2, rfl⟩ := hcut
 apply_assumption
 obtain ⟨d2, hd2⟩ : ∃ d2, d2 = lastOf dict := ⟨_, rfl⟩
 rw [← hd2] at hbt2 ⊢
 obtain ⟨m2, hm2⟩ : ∃ m2, m2 = d2.length := ⟨_, rfl⟩
 have hm2b : m2 ≤ 32768 := by rw [hm2, hd2]; unfold lastOf; rw [List.length_drop]; omega
 rw [← hm2]
 obtain ⟨A, hA⟩ : ∃ A, A = d2 ++ data := ⟨_, rfl⟩
 obtain ⟨nA, hnA⟩ : ∃ nA, nA = A.length := ⟨_, rfl⟩
 have hnA2 : nA = m2 + n1 := by rw [hnA, hA, List.length_append, hm2, HN.out.1]
 obtain ⟨w1, hw1⟩ : ∃ x, x = w.alloc (.cells #[.slice lb n3 lc, .int .i64 0] 95) := ⟨_, rfl⟩
 obtain ⟨w2, hw2⟩ : ∃ x, x = w1.alloc (.cells #[.slice none 0 0, .int .i64 0] 98) := ⟨_, rfl⟩
 obtain ⟨C0, hC0⟩ : ∃ x, x = w.heap.size := ⟨_, rfl⟩
 obtain ⟨W, hW⟩ : ∃ x, x = w.heap.size + 1 := ⟨_, rfl⟩
 have hs1 : w1.heap.size = w.heap.size + 1 := by rw [hw1]; simp
 have hs2 : w2.heap.size = w.heap.size + 2 := by rw [hw2]; simp [hs1]
 have hch1 : Chs w1 w.heap.size C0 l 0 := by rw [hw1, hC0, HN.out.2.2]; exact chs_made HL.out HLL.out
 have hf01 : Frm (fun _ _ => False) w w1 := by rw [hw1]; exact (Frm.refl _ _).alloc _
 have hf12 : Frm (fun _ _ => False) w1 w2 := by rw [hw2]; exact (Frm.refl _ _).alloc _
 have hwc : ∀ o, w2.cell? ⟨W, o, none⟩ = (#[.slice none 0 0, .int .i64 0] : Array Value)[o]? := fun o => by rw [hw2, hW, ← hs1]; exact cells_at (heap_alloc_new w1 _)
 have hwz : ∀ o, w2.frozen? ⟨W, o, none⟩ = false := fun o => by rw [hw2, hW, ← hs1]; exact World.frozen?_alloc_new (w := w1) ..
 have hf23 : Frm (fun _ _ => False) w2 (w2.alloc (.cells #[] 5)) := (Frm.refl _ _).alloc _
 have ho3 : Own (w2.alloc (.cells #[] 5)) w2.heap.size (.slice (some ⟨w2.heap.size, 0, none⟩) 0 0) [] := own_new w2 [] (by simp)
 have hf03 := (hf01.trans hf12).trans hf23
 obtain ⟨v4, w4, hr4, ho4, hfr4, _⟩ := append_bt _ w2.heap.size _ [] ho3 b2 d2 cp2 (hbt2.keep hf03) (by simp only [List.length_nil]; omega) hf23.size
 have hf4 := ho3.fresh hf23 (Nat.le_refl _) hfr4
 obtain ⟨v5, w5, hr5, ho5, hfr5, _⟩ := append_bt w4 w2.heap.size v4 _ ho4 base data cap (HS.out.keep ((hf01.trans hf12).trans hf4)) (by rw [List.nil_append]; have := HB.out.1; have := HN.out.1; omega) hf4.size
 have hf5 := ho4.fresh hf4 (Nat.le_refl _) hfr5
 rw [List.nil_append, ← hA] at ho5
 rw [← hm2] at hr4
 rw [← HN.out.1] at hr5
 have hrel : DfAll w A l C0 W v5 w5 := by
  obtain ⟨ab, ac, rfl, hbtA⟩ := ho5.bt; have hf25 : Frm (fun _ _ => False) w2 w5 := hf5
  refine ⟨ab, ac, rfl, hbtA, fun a ha => ?_, ⟨⟨_, hf25.keep ((hwc 0).trans rfl) (fun e => e), Row.nil _ _ _ _ _⟩, hf25.keep ((hwc 1).trans rfl) (fun e => e), fun o => (hf25.froz W o (by omega)).trans (hwz o)⟩, (hch1.keep0 hf12).keep0 hf25, by have := hf25.size; omega, (hf01.trans hf12).trans hf25⟩
  have hg : Value.ownBlock (.slice ab A.length ac) = some a.block := by subst ha; rfl
  have := (ho5.lt a.block hg).1; omega
 have HR := zHi hrel
 have HA := zHi (zAi hd2 (zAi hm2 (zAi hA (zAi hnA (zAi hC0 hW)))))
 have hr4' := fun ty => hr4 ty
 have hr5' := fun ty => hr5 ty
 have hWC : C0 + 1 = W := by rw [hC0, hW]
 clear hbt2 hd2 hm2 hA hnA hs1 hs2 hch1 hf01 hf12 hwc hwz hf23 ho3 hf03 hr4 ho4 hfr4 hf4 hr5 ho5 hfr5 hf5 hrel
 have H45 := zHi (zAi hr4' hr5')
 clear hr4' hr5'
 go_upto_region 5 with (fail)
 rw [← hw1, ← hw2, ← hC0, hWC]
 clear hw1 hw2 hWC
 go_cut [9] (fun s wq => DfAll w A l C0 W s wq)
 case first => as_aux_lemma =>
  obtain ⟨hr4, hr5⟩ := H45.out; clear hC0 hW; go_wp2_with (at_builtin; first | refine wpList_append_by (by rfl) (.tmp 30) (.tmp 31) 22 (by rfl) _ _ (by rfl) (by rfl) (hr4 _) ?_ | refine wpList_append_by (by rfl) (.tmp 32) (.tmp 33) 22 (by rfl) _ _ (by rfl) (by rfl) (hr5 _) ?_)
  go_meet
  case rel => exact HR.out
 clear H45 HR
 obtain ⟨ab, ac, rfl, hbA, habn, hwt, hch, hWl, hf5⟩ := hcut
 obtain ⟨w5, rfl⟩ : ∃ wr, wr = wc := ⟨_, rfl⟩
 rw [← HA.out.2.2.2.1]
 apply_assumption
 have H5 := zHi (zAi hbA (zAi habn (zAi hwt (zAi hch (zAi hWl hf5)))))
 have hd2A : m2 ≤ nA := by omega
 have hnAb : nA ≤ 2147516415 := by have := HB.out.1; omega
 have c4 : (nA : Int) ≤ 2147516415 := by omega
 have c5 : (m2 : Int) ≤ 32768 := by omega
 obtain ⟨G0, hG0⟩ : ∃ G0, G0 = dG (nA - m2) false 0 := ⟨_, rfl⟩
 have hG0b : G0 ≤ 655445537 := by
  have h1 := dG_le (nA - m2) false 0; have h2 : (nA - m2) / 65535 ≤ 2147483647 / 65535 := Nat.div_le_div_right (by have := HB.out.1; omega)
  omega
 have HG := zHi (zAi hG0 (zAi hG0b (zAi hd2A (zAi hnAb (zAi hnA2 hm2b)))))
 clear hbA habn hwt hch hWl hf5 hG0 hG0b hd2A hnAb hnA2 hm2b hC0 hW
 go_wp2_with fail
 go_loopg [7, 10] G0 (fun g cv fv wr => DfInv w5 w.heap.size C0 W l d2 A G0 g cv fv wr)
 case atStart =>
  obtain ⟨hbA, habn, hwt, hch, hWl, hf5⟩ := H5.out; obtain ⟨hG0, hG0b, hd2A, hnAb, hnA2, hm2b⟩ := HG.out; obtain ⟨hd2, hm2, hA, hnA, hC0, hW⟩ := HA.out; refine ⟨m2, 0, C0, l, false, [], rfl, rfl, by omega, by omega, hch, .inl rfl, by omega, fun h => by simp at h, hwt, ?_, by simp, Nat.le_refl _, by rw [hG0, ← hnA], Frm.refl _ _⟩
  rw [hA, hm2, List.take_left]; exact .nil
 case round =>
  obtain ⟨fr, k, C, lx, fresh, L, rfl, rfl, h1, h2, hC, hCC, hk, hfresh, hWr, hBk, hLl, hg1, hg2, hf⟩ := hrel; obtain ⟨rest, hrest⟩ : ∃ r, r = nA - fr := ⟨_, rfl⟩; have hfn : fr ≤ nA := by rw [HA.out.2.2.2.1]; exact h2
  have e1 : (nA : Int) - (fr : Int) = (rest : Int) := by omega
  have c6 : (fr : Int) ≤ (nA : Int) := by omega
  have c7 : (rest : Int) ≤ 2147516415 := by omega
  have HR := zHi (zAi h1 (zAi h2 (zAi hC (zAi hCC (zAi hk (zAi hfresh (zAi hWr (zAi hBk (zAi hLl (zAi hg1 (zAi hg2 (zAi hf (zAi hrest hfn))))))))))))); clear h1 h2 hC hCC hk hfresh hWr hBk hLl hg1 hg2 hf hrest hfn; go_upto_region 7 with (fail)
  go_cut [11] (fun s wq => s = .int .i64 ((min rest 65535 : Nat) : Int) ∧ wr = wq)
  case first => as_aux_lemma =>
   go_wp2_with fail
   all_goals
    go_meet
    case rel => exact ⟨by first | (rw [show min rest 65535 = rest by omega]) | (rw [show min rest 65535 = 65535 by omega]; rfl), rfl⟩
  obtain ⟨rfl, rfl⟩ := hcut; obtain ⟨wr, rfl⟩ : ∃ x, x = wr := ⟨_, rfl⟩; apply_assumption; obtain ⟨n0, hn0⟩ : ∃ n0, n0 = min rest 65535 := ⟨_, rfl⟩; rw [← hn0]; have c8 : (n0 : Int) ≤ 65535 := by omega
  have HN0 := zHi hn0; clear hn0 e1; refine wp_seq_k ?_; intro K1 hK1; go_cut [11] (fun s wq => DfN wr w.heap.size C lx k rest s wq)
  case first => as_aux_lemma =>
   have hn3 : Calls Tryz.prog 42 #[.pointer (some ⟨C, 0, none⟩), .int .i64 3] wr fun e w' => ∃ v : Nat, e = .returned (natV v) ∧ v < 3 ∧ (lx = [] → v = k % 3) ∧ Chs w' w.heap.size C lx (k + 1) ∧ Frm (fun b _ => b = C) wr w' := next_any wr w.heap.size C lx k HR.out.2.2.1 3 (by omega) (by omega) (by have := HR.out.2.2.2.2.1; omega)
   have HN3 := zHi hn3; clear hn3; go_wp2_with fail
   refine HN3.out.mono ?_; rintro e w1 ⟨v1, rfl, hv1, hz1, hC1, hf1⟩; have c9 : (v1 : Int) ≤ 2 := by omega
   have H1 := zHi (zAi hC1 (zAi hf1 hz1)); clear hC1 hf1 hv1 hz1
   by_cases hv : v1 = 0
   · subst hv; go_wp2_with fail
     go_meet
     case rel => exact ⟨n0, k + 1, rfl, by have := HN0.out; omega, by have := HN0.out; omega, H1.out.1, by omega, by omega, fun _ hk0 => ⟨by omega, HN0.out⟩, H1.out.2.1⟩
   · have d2 : decide ((0 : Int) < (v1 : Int)) = true := by simp; omega
     have d3 : 0 < v1 := by omega
     have HV := zHi hv; have hn2 : Calls Tryz.prog 42 #[.pointer (some ⟨C, 0, none⟩), .int .i64 200] w1 fun e w' => ∃ v : Nat, e = .returned (natV v) ∧ v < 200 ∧ (lx = [] → v = (k + 1) % 200) ∧ Chs w' w.heap.size C lx (k + 1 + 1) ∧ Frm (fun b _ => b = C) w1 w' := next_any w1 w.heap.size C lx (k + 1) H1.out.1 200 (by omega) (by omega) (by have := HR.out.2.2.2.2.1; omega)
     have HN2 := zHi hn2; clear hn2 hv; go_wp2_with fail
     refine HN2.out.mono ?_; rintro e w2 ⟨v2, rfl, hv2, _, hC2, hf2⟩; have c10 : (v2 : Int) ≤ 199 := by omega
     have H2 := zHi (zAi hC2 hf2); have hnot : lx = [] → k = 0 → k + 1 + 1 = 1 ∧ min n0 v2 = min rest 65535 := fun q1 q2 => by
      have := H1.out.2.2 q1; have := HV.out; omega
     have hrel : DfN wr w.heap.size C lx k rest (.int .i64 ((min n0 v2 : Nat) : Int)) w2 := ⟨min n0 v2, k + 1 + 1, rfl, by have := HN0.out; omega, by have := HN0.out; omega, hC2, by omega, by omega, hnot, H1.out.2.1.trans hf2⟩
     by_cases hle : n0 ≤ v2
     · have t1 : decide (n0 ≤ v2) = true := by simp; omega
       have hm : min n0 v2 = n0 := by omega
       rw [hm] at hrel; have HX := zHi hrel; clear hrel hnot hm hC2 hf2 hv2; go_wp2_with fail
       go_meet
       case rel => exact HX.out
     · have t1 : decide (n0 ≤ v2) = false := by simp; omega
       have hm : min n0 v2 = v2 := by omega
       rw [hm] at hrel; have HX := zHi hrel; clear hrel hnot hm hC2 hf2 hv2; go_wp2_with fail
       go_meet
       case rel => exact HX.out
  obtain ⟨n, k1, rfl, hn1, hn2, hC1, hk1, hk2, hfr, hf1⟩ := hcut; obtain ⟨w1, rfl⟩ : ∃ x, x = wc := ⟨_, rfl⟩; refine hK1 _ _ ?_; have c9 : (n : Int) ≤ 65535 := by omega
  obtain ⟨q, hq⟩ : ∃ q, q = fr + n := ⟨_, rfl⟩; have hqn : q ≤ nA := by have := HR.out.2.2.2.2.2.2.2.2.2.2.2.2; omega
  have e2 : (fr : Int) + (n : Int) = (q : Int) := by omega
  have c10 : (q : Int) ≤ (nA : Int) := by omega
  have H1 := zHi (zAi hC1 (zAi hk1 (zAi hk2 (zAi hfr (zAi hf1 (zAi hn1 (zAi hn2 (zAi hq hqn)))))))); clear hC1 hk1 hk2 hfr hf1 hn1 hn2 hq hqn; refine wp_seq_k ?_; intro K2 hK2; go_cut [12] (fun s wq => s = .int .i64 0 ∧ w1 = wq)
  case first => as_aux_lemma =>
   go_wp2_with fail
   go_meet
   case rel => exact ⟨rfl, rfl⟩
  obtain ⟨rfl, rfl⟩ := hcut; obtain ⟨w1, rfl⟩ : ∃ x, x = w1 := ⟨_, rfl⟩; refine hK2 _ _ ?_; refine wp_seq_k ?_; intro K3 hK3; go_cut [12] (fun s wq => DfLast w1 w.heap.size C lx k1 (q = nA) s wq)
  case first => as_aux_lemma =>
   by_cases hqe : q = nA
   · have t1 : ((q : Int) == (nA : Int)) = true := by simp; omega
     have hn4 : Calls Tryz.prog 42 #[.pointer (some ⟨C, 0, none⟩), .int .i64 4] w1 fun e w' => ∃ v : Nat, e = .returned (natV v) ∧ v < 4 ∧ (lx = [] → v = k1 % 4) ∧ Chs w' w.heap.size C lx (k1 + 1) ∧ Frm (fun b _ => b = C) w1 w' := next_any w1 w.heap.size C lx k1 H1.out.1 4 (by omega) (by omega) (by have := HR.out.2.2.2.2.1; have := H1.out.2.2.1; omega)
     have HN4 := zHi hn4; have HQ := zHi hqe; clear hn4 hqe; go_wp2_with fail
     refine HN4.out.mono ?_; rintro e w2 ⟨v2, rfl, hv2, hz2, hC2, hf2⟩; have c11 : (v2 : Int) ≤ 3 := by omega
     have H2 := zHi (zAi hC2 (zAi hf2 hz2)); clear hC2 hf2 hv2 hz2
     by_cases hv : v2 = 0
     · subst hv; go_wp2_with fail
       go_meet
       case rel => exact ⟨false, k1 + 1, rfl, fun h => by simp at h, fun q1 q2 _ => by have := H2.out.2.2 q1; omega, H2.out.1, by omega, by omega, H2.out.2.1⟩
     · have d2 : decide ((0 : Int) < (v2 : Int)) = true := by simp; omega
       have d3 : 0 < v2 := by omega
       clear hv; go_wp2_with fail
       go_meet
       case rel => exact ⟨true, k1 + 1, rfl, fun _ => HQ.out, fun _ _ _ => rfl, H2.out.1, by omega, by omega, H2.out.2.1⟩
   · have t1 : ((q : Int) == (nA : Int)) = false := by simp; omega
     have HQ := zHi hqe; clear hqe; go_wp2_with fail
     go_meet
     case rel => exact ⟨false, k1, rfl, fun h => by simp at h, fun _ _ h => absurd h HQ.out, H1.out.1, by omega, by omega, Frm.refl _ _⟩
  obtain ⟨b, k2, rfl, hb1, hb2, hC2, hk3, hk4, hf2⟩ := hcut; obtain ⟨w2, rfl⟩ : ∃ x, x = wc := ⟨_, rfl⟩; refine hK3 _ _ ?_; obtain ⟨lt, hlt⟩ : ∃ lt, lt = b.toNat := ⟨_, rfl⟩; rw [← hlt]; have hlt1 : lt ≤ 1 := by rw [hlt]; exact Bool.toNat_le b
  have hltb : (lt % 2 == 1) = b := by rw [hlt]; cases b <;> rfl
  have c11 : (lt : Int) ≤ 1 := by omega
  have hCW : C ≠ W := by
   have := H5.out.2.2.2.2.1; have := HA.out.2.2.2.2; rcases HR.out.2.2.2.1 with e | e <;> omega
  have hf02 : Frm (fun b _ => b = C) wr w2 := H1.out.2.2.2.2.1.trans hf2
  have hwt2 : Wt w2 w5.heap.size W L := HR.out.2.2.2.2.2.2.1.keepC HR.out.2.2.1 hCW hf02; have hW5 : W < w5.heap.size := H5.out.2.2.2.2.1; have hN2 : w5.heap.size ≤ w2.heap.size := Nat.le_trans HR.out.2.2.2.2.2.2.2.2.2.2.2.1.size hf02.size; have hLb : L.length ≤ 3538000000000 := by
   have := HR.out.2.2.2.2.2.2.2.2.1; have := HG.out; have := HR.out.2.1; have := HA.out.2.2.2.1; have := HA.out.2.1; omega
  have hbt := bit_any w2 w5.heap.size W L hwt2 hW5 hN2 (by omega) lt (by omega)
  rw [hltb] at hbt; have HBT := zHi hbt; have H2 := zHi (zAi hb1 (zAi hb2 (zAi hC2 (zAi hk3 (zAi hk4 (zAi hf02 (zAi hCW (zAi hW5 (zAi hN2 (zAi hLb hlt)))))))))); clear hb1 hb2 hC2 hk3 hk4 hf2 hlt hlt1 hltb hCW hf02 hwt2 hW5 hN2 hLb hbt; go_wp2_with fail
  refine HBT.out.mono ?_; rintro e w3 ⟨rfl, hw3, hf3⟩; have hC3 : Chs w3 w.heap.size C lx k2 := H2.out.2.2.1.keepW hf3 H2.out.2.2.2.2.2.2.1 (by have := HA.out.2.2.2.2; omega)
  have hn5 : Calls Tryz.prog 42 #[.pointer (some ⟨C, 0, none⟩), .int .i64 3] w3 fun e w' => ∃ v : Nat, e = .returned (natV v) ∧ v < 3 ∧ (lx = [] → v = k2 % 3) ∧ Chs w' w.heap.size C lx (k2 + 1) ∧ Frm (fun b _ => b = C) w3 w' := next_any w3 w.heap.size C lx k2 hC3 3 (by omega) (by omega) (by have := HR.out.2.2.2.2.1; have := H1.out.2.2.1; have := H2.out.2.2.2.2.1; omega)
  have HN5 := zHi hn5; have H3 := zHi (zAi hw3 (zAi hf3 hC3)); clear hn5 hw3 hf3 hC3 HBT; go_wp2_with fail
  refine HN5.out.mono ?_; rintro e w4 ⟨v4, rfl, hv4, _, hC4, hf4⟩; have c12 : (v4 : Int) ≤ 2 := by omega
  have hwt4 : Wt w4 w5.heap.size W (L ++ [b]) := H3.out.1.keepC H3.out.2.2 H2.out.2.2.2.2.2.2.1 hf4; have hN4 : w5.heap.size ≤ w4.heap.size := Nat.le_trans (Nat.le_trans H2.out.2.2.2.2.2.2.2.2.1 H3.out.2.1.size) hf4.size; have hb4 : Calls Tryz.prog 44 #[.pointer (some ⟨W, 0, none⟩), .int .i64 (v4 : Int), .int .i64 2] w4 fun e w' => e = .returned (.tuple #[]) ∧ Wt w' w5.heap.size W (L ++ [b] ++ enc v4 2) ∧ Frm (SWr w4 w5.heap.size W) w4 w' := bits_any w4 w5.heap.size W _ hwt4 H2.out.2.2.2.2.2.2.2.1 hN4 v4 2 (by omega) (by rw [List.length_append]; have := H2.out.2.2.2.2.2.2.2.2.2.1; simp only [List.length_cons, List.length_nil]; omega) (by omega)
  have HB4 := zHi hb4; have H4 := zHi (zAi hC4 (zAi hf4 (zAi hv4 hN4))); clear hb4 hC4 hf4 hv4 hwt4 hN4 HN5; go_upto_region 15 with (fail)
  go_cut [67] (fun _ wq => Wt wq w5.heap.size W (L ++ [b] ++ enc v4 2) ∧ Chs wq w.heap.size C lx (k2 + 1) ∧ Frm (fun b _ => b = C0 ∨ b = W) w5 wq ∧ Frm (fun b o => b = C ∨ SWr wr w5.heap.size W b o) wr wq)
  case first => as_aux_lemma =>
   go_wp2_with fail
   refine HB4.out.mono ?_; rintro e w6 ⟨rfl, hw6, hf6⟩; have hfa : Frm (fun b o => b = C ∨ SWr wr w5.heap.size W b o) wr w6 := frm_CW_trans (frm_CW_trans (frm_CW_trans (H2.out.2.2.2.2.2.1.mono fun _ _ e => .inl e) (H3.out.2.1.mono fun _ _ e => .inr e)) (H4.out.2.1.mono fun _ _ e => .inl e)) (hf6.mono fun _ _ e => .inr e)
   have HX := zHi (zAi hw6 (zAi (H4.out.1.keepW hf6 H2.out.2.2.2.2.2.2.1 (by have := HA.out.2.2.2.2; omega)) (zAi (df_frm HR.out.2.2.2.1 HR.out.2.2.2.2.2.2.2.2.2.2.2.1 hfa) hfa)))
   clear hw6 hf6 hfa; go_wp2_with fail
   go_meet
   case rel => exact HX.out
  obtain ⟨hw6, hC6, hf56, hfr6⟩ := hcut; obtain ⟨w6, rfl⟩ : ∃ x, x = wc := ⟨_, rfl⟩; apply_assumption; clear HB4 H3; have hbA6 : Bytes w6 ab A := H5.out.1.bytes.keep hf56 (fun a ha j _ e => by have := H5.out.2.1 a ha; rcases e with e | e <;> omega)
  have hq := H1.out.2.2.2.2.2.2.2.1; have hql : (A.take q).length = q := by rw [List.length_take]; have := HA.out.2.2.2.1; have := H1.out.2.2.2.2.2.2.2.2; omega
  have htkb : Bytes w6 ab (A.take q) := bytes_take hbA6 q; have haC : ∀ a, ab = some a → a.block ≠ C := fun a ha e => by
   have := H5.out.2.1 a ha; have := H5.out.1.lt a ha; rcases HR.out.2.2.2.1 with q | q <;> omega
  have hMw : w.heap.size ≤ w6.heap.size := by have := HA.out.2.2.2.2; have := H5.out.2.2.2.2.1; have := hf56.size; omega
  have htk := tokens_any w6 ab (A.take q) ac htkb (by rw [hql]; have := H1.out.2.2.2.2.2.2.2.2; have := HG.out; omega) fr (by rw [hql]; omega) w.heap.size C hMw lx (k2 + 1) hC6 (by have := HR.out.2.2.2.2.1; have := H1.out.2.2.1; have := H2.out.2.2.2.2.1; omega) haC
  have htt : (A.take q).take fr = A.take fr := by rw [List.take_take, Nat.min_eq_left (by omega)]
  rw [hql, htt] at htk; have s1 : ∀ W', (Instr.sliceAt 22 (.slice ab nA ac) none (some (.int .i64 (q : Int))) none).run Tryz.prog W' = .ok (.slice ab q ac) W' := by
   have := (run_head_bytes H5.out.1 q (by have := HA.out.2.2.2.1; omega))
   rw [← HA.out.2.2.2.1] at this; exact this
  have HTK := zHi htk; have H6 := zHi (zAi hw6 (zAi hC6 (zAi hf56 (zAi hfr6 (zAi hMw haC))))); clear hw6 hC6 hf56 hfr6 hbA6 hq hql htkb haC hMw htk htt; go_upto_region 16 with (fail)
  go_cut [14] (fun s wq => ∃ toks k4, OwnT 131 wq w6.heap.size s toks ∧ toksRun (A.take fr) toks = A.take q ∧ toksOk fr toks ∧ toks.length ≤ q - fr ∧ Chs wq w.heap.size C lx k4 ∧ k2 + 1 ≤ k4 ∧ k4 ≤ k2 + 1 + 4 * (q - fr) ∧ Frm (fun b _ => b = C) w6 wq)
  case first => as_aux_lemma =>
   go_wp2_with fail
   refine HTK.out.mono ?_; rintro e w7 ⟨v7, toks, k4, rfl, q1, q2, q3, q4, q5, q6, q7, q8⟩; have HX := zHi (zAi q1 (zAi q2 (zAi q3 (zAi q4 (zAi q5 (zAi q6 (zAi q7 q8))))))); clear q1 q2 q3 q4 q5 q6 q7 q8; go_wp2_with fail
   go_meet
   case rel => exact ⟨toks, k4, HX.out⟩
  obtain ⟨toks, k4, hT, htr, hto, htl, hC7, hk5, hk6, hf67⟩ := hcut; obtain ⟨w7, rfl⟩ : ∃ x, x = wc := ⟨_, rfl⟩; apply_assumption; clear HTK; obtain ⟨tb, tcp, rfl, _, hTks, hTlt⟩ := OwnT.tks hT; obtain ⟨nt, hnt⟩ : ∃ nt, nt = toks.length := ⟨_, rfl⟩; rw [← hnt]; have c13 : (nt : Int) ≤ 65535 := by have := H1.out.2.2.2.2.2.2.2.1; omega
  have hwt7 : Wt w7 w5.heap.size W (L ++ [b] ++ enc v4 2) := H6.out.1.keepC H6.out.2.1 H2.out.2.2.2.2.2.2.1 hf67; have hN7 : w5.heap.size ≤ w7.heap.size := Nat.le_trans H6.out.2.2.1.size hf67.size; have hbA7 : Bytes w7 ab A := (H5.out.1.bytes.keep H6.out.2.2.1 (fun a ha j _ e => by have := H5.out.2.1 a ha; rcases e with e | e <;> omega)).keep hf67 (fun a ha j _ e => H6.out.2.2.2.2.2 a ha e)
  have htW : ∀ a, tb = some a → a.block ≠ W ∧ a.block ≠ C ∧ a.block < w7.heap.size := fun a ha => by
   have h1 := (hTlt a ha).1; have h2 := (hTlt a ha).2; have h3 := H6.out.2.1.lt; have h4 := H6.out.1.lt; omega
  have hfrl : (A.take fr).length = fr := by rw [List.length_take]; have := HR.out.2.1; omega
  have H7 := zHi (zAi hTks (zAi hnt (zAi hwt7 (zAi hN7 (zAi hbA7 (zAi htW (zAi htr (zAi hto (zAi htl (zAi hC7 (zAi hk5 (zAi hk6 (zAi hf67 hfrl))))))))))))); clear hT hTks hTlt hnt hwt7 hN7 hbA7 htW htr hto htl hC7 hk5 hk6 hf67 hfrl s1; refine wp_seq_k ?_; intro K4 hK4; go_cut [81] (fun s wq => DfBlk w7 w5.heap.size W w.heap.size C lx k4 L (A.take fr) (A.take q) b n wq)
  case first =>
   have hv : v4 = 0 ∨ v4 = 1 ∨ v4 = 2 := by have := H4.out.2.2.1; omega
   have hcW : ∀ x : World, Frm (SWr w7 w5.heap.size W) w7 x → Chs x w.heap.size C lx k4 := fun x hf => H7.out.2.2.2.2.2.2.2.2.2.1.keepW hf H2.out.2.2.2.2.2.2.1 (by have := HA.out.2.2.2.2; have := H2.out.2.2.2.2.2.2.2.1; omega)
   have HCW := zHi hcW; clear hcW; rcases hv with rfl | rfl | rfl
   · as_aux_lemma =>
     rw [show natV 0 = Value.int .i64 0 from rfl]
     obtain ⟨xn, hxn⟩ : ∃ x, x = 65535 - n := ⟨_, rfl⟩; have e3 : bits .xor .i64 (n : Int) 65535 = (xn : Int) := by rw [hxn]; exact i64_xor_ffff n (by omega)
     obtain ⟨M0, hM0⟩ : ∃ M, M = L ++ [b] ++ enc 0 2 := ⟨_, rfl⟩; have hM0l : M0.length = L.length + 3 := by rw [hM0]; simp [enc_len]
     have hal := align_any w7 w5.heap.size W M0 (by rw [hM0]; exact H7.out.2.2.1) H2.out.2.2.2.2.2.2.2.1 (by have := H2.out.2.2.2.2.2.2.2.2.2.1; omega)
     have HAL := zHi hal; have HX := zHi (zAi hxn (zAi hM0 hM0l)); clear hal hxn hM0 hM0l; go_wp2_with fail
     refine HAL.out.mono ?_; rintro e w8 ⟨rfl, hw8, hf8⟩; have hp8 : (padTo M0).length = 8 * ((L.length + 3 + 7) / 8) := by rw [padTo_len, HX.out.2.2]
     have hb8 : Calls Tryz.prog 44 #[.pointer (some ⟨W, 0, none⟩), .int .i64 (n : Int), .int .i64 16] w8 fun e w' => e = .returned (.tuple #[]) ∧ Wt w' w5.heap.size W (padTo M0 ++ enc n 16) ∧ Frm (SWr w8 w5.heap.size W) w8 w' := bits_any w8 w5.heap.size W _ hw8 H2.out.2.2.2.2.2.2.2.1 (Nat.le_trans H7.out.2.2.2.1 hf8.size) n 16 (by omega) (by rw [hp8]; have := H2.out.2.2.2.2.2.2.2.2.2.1; omega) (by omega)
     have HB8 := zHi hb8; have H8 := zHi (zAi hf8 hp8); clear hb8 hw8 hf8 hp8 HAL; go_wp2_with fail
     refine HB8.out.mono ?_; rintro e w9 ⟨rfl, hw9, hf9⟩; have hf79 := frm_SWr_trans H8.out.1 hf9; have hb9 : Calls Tryz.prog 44 #[.pointer (some ⟨W, 0, none⟩), .int .i64 (xn : Int), .int .i64 16] w9 fun e w' => e = .returned (.tuple #[]) ∧ Wt w' w5.heap.size W (padTo M0 ++ enc n 16 ++ enc xn 16) ∧ Frm (SWr w9 w5.heap.size W) w9 w' := bits_any w9 w5.heap.size W _ hw9 H2.out.2.2.2.2.2.2.2.1 (Nat.le_trans H7.out.2.2.2.1 hf79.size) xn 16 (by omega) (by rw [List.length_append, H8.out.2, enc_len]; have := H2.out.2.2.2.2.2.2.2.2.2.1; omega) (by have := HX.out.1; omega)
     have HB9 := zHi hb9; have H9 := zHi hf79; clear hb9 hw9 hf9 hf79 HB8; go_wp2_with fail
     refine HB9.out.mono ?_; rintro e w10 ⟨rfl, hw10, hf10⟩; have hf710 := frm_SWr_trans H9.out hf10; obtain ⟨M1, hM1⟩ : ∃ M, M = padTo M0 ++ enc n 16 ++ enc xn 16 := ⟨_, rfl⟩; rw [← hM1] at hw10; have hM1l : M1.length = 8 * ((L.length + 3 + 7) / 8) + 32 := by rw [hM1]; simp only [List.length_append, H8.out.2, enc_len]
     obtain ⟨⟨v10, hv10, ho10⟩, hat10, hfr10⟩ := hw10; have hbA10 : Bt w10 ab A ac := ⟨H7.out.2.2.2.2.1.keep hf710 (fun a ha j _ e => by
      have h1 := H5.out.2.1 a ha; have h2 := H5.out.1.lt a ha; rcases e with e | ⟨e, _⟩ <;> omega), H5.out.1.hcap, fun a ha => Nat.lt_of_lt_of_le (H5.out.1.lt a ha) (Nat.le_trans H7.out.2.2.2.1 hf710.size), H5.out.1.nilc⟩
     obtain ⟨b3, hr3, hbt3⟩ := run_midB hbA10 fr q (by have := H1.out; omega) (by have := H1.out; have := HA.out.2.2.2.1; omega)
     obtain ⟨D, hD⟩ : ∃ D, D = (A.take q).drop fr := ⟨_, rfl⟩; rw [← hD] at hbt3; have hqn : q - fr = n := by have := H1.out.2.2.2.2.2.2.2.1; omega
     have hDl : D.length = n := by rw [hD, List.length_drop, List.length_take]; have := H1.out; have := HA.out.2.2.2.1; omega
     rw [hqn, ← HA.out.2.2.2.1] at hr3; have ho10d := ho10.keep (S := fun _ _ => False) ((Frm.refl _ _).drew) (fun _ _ _ e => e)
     have hbt3d := hbt3.keep ((Frm.refl _ _).drew); obtain ⟨v11, w11, hr11, ho11, hfr11, _⟩ := append_bt w10.drew w5.heap.size v10 _ ho10d b3 D _ hbt3d (by rw [pack_len, hM1l]; have := H2.out.2.2.2.2.2.2.2.2.2.1; omega) (Nat.le_trans H7.out.2.2.2.1 hf710.size)
     rw [hDl] at hr11; rw [← pack_bytes _ _ (by rw [hM1l]; omega)] at ho11
     obtain ⟨mp, hmp⟩ : ∃ m, m = (pack (M1 ++ bitsOf D)).length := ⟨_, rfl⟩; have hmp8 : 8 * mp = (M1 ++ bitsOf D).length := by rw [hmp, pack_len, List.length_append, bitsOf_len, hM1l, hDl]; omega
     obtain ⟨b4, cp4, rfl, _⟩ := ho11.bytes; rw [← hmp] at hr11 ho11; obtain ⟨b5, cp5, rfl, _⟩ := ho10.bytes; have f0 := hfr10 0; have f1 : w11.frozen? ⟨W, 0, none⟩ = false := (hfr11.froz W 0 (cell_lt (w := w10.drew) hat10)).trans (hfr10 0); have f2 : w11.frozen? ⟨W, 1, none⟩ = false := (hfr11.froz W 1 (cell_lt (w := w10.drew) hat10)).trans (hfr10 1); have hnW : ∀ o : Nat, ¬ (Value.slice b5 (pack M1).length cp5).ownBlock = some W := fun o e => by have := (ho10.lt W e).1; have := H2.out.2.2.2.2.2.2.2.1; omega
     have hv11 := hfr11.keep (w := w10.drew) hv10 (hnW 0); have hat11 := hfr11.keep (w := w10.drew) hat10 (hnW 1); have hfin : DfBlk w7 w5.heap.size W w.heap.size C lx k4 L (A.take fr) (A.take q) b n ((w11.setCell ⟨W, 0, none⟩ (.slice b4 mp cp4)).setCell ⟨W, 1, none⟩ (.int .i64 (8 * (mp : Int)))) := by
      have hf711 : Frm (SWr w7 w5.heap.size W) w7 w11 := frm_SWr_trans (hf710.drew) (frm_SWr_own ho10d hfr11); have hfall : Frm (SWr w7 w5.heap.size W) w7 ((w11.setCell ⟨W, 0, none⟩ (.slice b4 mp cp4)).setCell ⟨W, 1, none⟩ (.int .i64 (8 * (mp : Int)))) := (hf711.setCell (.inl (.inl rfl)) _).setCell (.inl (.inl rfl)) _; have hx : Wt ((w11.setCell ⟨W, 0, none⟩ (.slice b4 mp cp4)).setCell ⟨W, 1, none⟩ (.int .i64 (8 * (mp : Int)))) w5.heap.size W (M1 ++ bitsOf D) := by
       refine ⟨⟨_, (cell_set_off (by decide)).trans (set_get hv11), ?_⟩, ?_, fun o => ?_⟩
       · rw [hmp]; rw [hmp] at ho11; exact ho11.keep (S := fun b _ => b = W) (((Frm.refl _ _).setCell (.inl rfl) _).setCell (.inl rfl) _) (fun g o hg e => by have := (ho11.lt g hg).1; have := H2.out.2.2.2.2.2.2.2.1; omega)
       · have h1 := set_get (v := .int .i64 (8 * (mp : Int))) ((cell_set_off (v := .slice b4 mp cp4) (by decide : (1 : Nat) ≠ 0)).trans hat11)
         rw [h1, ← hmp8]; simp
       · rw [World.frozen?_setCell, World.frozen?_setCell]; exact (hfr11.froz W o (cell_lt (w := w10.drew) hat10)).trans (hfr10 o)
      refine ⟨[b] ++ enc 0 2 ++ List.replicate (8 * ((L.length + 3 + 7) / 8) - (L.length + 3)) false ++ enc D.length 16 ++ enc (65535 - D.length) 16 ++ bitsOf D, k4, ?_, ?_, ?_, HCW.out _ hfall, Nat.le_refl _, hfall.mono fun _ _ e => .inr e⟩
      · have e : L ++ ([b] ++ enc 0 2 ++ List.replicate (8 * ((L.length + 3 + 7) / 8) - (L.length + 3)) false ++ enc D.length 16 ++ enc (65535 - D.length) 16 ++ bitsOf D) = M1 ++ bitsOf D := by
         rw [hM1, hDl, ← HX.out.1]; unfold padTo; rw [HX.out.2.2, HX.out.2.1, Nat.mul_comm ((L.length + 3 + 7) / 8) 8]; simp only [List.append_assoc]
        rw [e]; exact hx
      · have e : A.take q = A.take fr ++ D := by
         rw [hD]; have := List.take_append_drop fr (A.take q); rw [List.take_take, Nat.min_eq_left (by have := H1.out; omega)] at this
         exact this.symm
        rw [e]; exact .stored (by rw [hDl]; omega)
      · have := storedBits_len L.length n b D hDl; rw [← hDl] at this ⊢; exact this
     have HFIN := zHi hfin; have HR11 := zHi hr11; have cW : (mp : Int) ≤ 549755813888 := by have := H2.out.2.2.2.2.2.2.2.2.2.1; rw [List.length_append, bitsOf_len, hM1l, hDl] at hmp8; omega
     have cfr : (fr : Int) ≤ (q : Int) := by have := H1.out; omega
     have cqa : (q : Int) ≤ (ac : Int) := by have := H1.out; have := H5.out.1.hcap; have := HA.out.2.2.2.1; omega
     have e4 : IntKind.i64.wrap (q : Int) = (q : Int) := i64_in _ (by omega)
     obtain ⟨p5, hp5⟩ : ∃ p, p = (pack M1).length := ⟨_, rfl⟩; rw [← hp5] at hv10 hv11 HR11; clear hf710 hM1 hM1l ho10 hat10 hfr10 hbA10 hbt3 ho10d hbt3d hD hqn hDl hr11 ho11 hfr11 hmp hmp8 hnW hfin hp5 hf10 HB9; go_upto_region 23 with (fail)
     refine wp_region_held_drew (S := fun _ => True) (by kernel_rfl) trivial (fun hHeld => ?_)
     refine take_list (i := 0) (v := ?_) rfl (by kernel_rfl) (by kernel_rfl) (by kernel_rfl) (fun _ _ _ h => h) (Or.inl ⟨by rfl, ?_⟩) (by assumption) ?_
     rotate_left
     · (intro w hSw; (try dsimp only at hSw); go_simp; (try with_reducible rfl))
     (try simp only [Act.put, List.setIfInBounds_toArray, List.set_cons_zero, List.set_cons_succ])
     refine take_list (i := 1) (v := ?_) rfl (by kernel_rfl) (by kernel_rfl) (by kernel_rfl) (fun _ _ _ h => h) (Or.inl ⟨by rfl, ?_⟩) (by assumption) ?_
     rotate_left
     · (intro w hSw; (try dsimp only at hSw); go_simp; (try with_reducible rfl))
     (try simp only [Act.put, List.setIfInBounds_toArray, List.set_cons_zero, List.set_cons_succ])
     refine take_list (i := 2) (v := ?_) rfl (by kernel_rfl) (by kernel_rfl) (by kernel_rfl) (fun _ _ _ h => h) (Or.inl ⟨by rfl, ?_⟩) (by assumption) ?_
     rotate_left
     · (intro w hSw; (try dsimp only at hSw); go_simp; (try with_reducible rfl))
     (try simp only [Act.put, List.setIfInBounds_toArray, List.set_cons_zero, List.set_cons_succ])
     refine take_list (i := 3) (v := ?_) rfl (by kernel_rfl) (by kernel_rfl) (by kernel_rfl) (fun _ _ _ h => h) (Or.inl ⟨by rfl, ?_⟩) (by assumption) ?_
     rotate_left
     · (intro w hSw; (try dsimp only at hSw); go_simp; (try with_reducible rfl))
     (try simp only [Act.put, List.setIfInBounds_toArray, List.set_cons_zero, List.set_cons_succ])
     refine take_list (i := 5) (v := ?_) rfl (by kernel_rfl) (by kernel_rfl) (by kernel_rfl) (fun _ _ _ h => h) (Or.inl ⟨by rfl, ?_⟩) (by assumption) ?_
     rotate_left
     · (intro w hSw; (try dsimp only at hSw); go_simp; (try with_reducible rfl))
     (try simp only [Act.put, List.setIfInBounds_toArray, List.set_cons_zero, List.set_cons_succ])
     refine take_list (i := 6) (v := ?_) rfl (by kernel_rfl) (by kernel_rfl) (by kernel_rfl) (fun _ _ _ h => h) (Or.inl ⟨by rfl, ?_⟩) (by assumption) ?_
     rotate_left
     · (intro w hSw; (try dsimp only at hSw); go_simp; (try with_reducible rfl))
     (try simp only [Act.put, List.setIfInBounds_toArray, List.set_cons_zero, List.set_cons_succ])
     refine take_list (i := 7) (v := ?_) rfl (by kernel_rfl) (by kernel_rfl) (by kernel_rfl) (fun _ _ _ h => h) (Or.inl ⟨by rfl, ?_⟩) (by assumption) ?_
     rotate_left
     · (intro w hSw; (try dsimp only at hSw); go_simp; (try with_reducible rfl))
     (try simp only [Act.put, List.setIfInBounds_toArray, List.set_cons_zero, List.set_cons_succ])
     refine take_list (i := 8) (v := ?_) rfl (by kernel_rfl) (by kernel_rfl) (by kernel_rfl) (fun _ _ _ h => h) (Or.inl ⟨by rfl, ?_⟩) (by assumption) ?_
     rotate_left
     · (intro w hSw; (try dsimp only at hSw); go_simp; (try with_reducible rfl))
     (try simp only [Act.put, List.setIfInBounds_toArray, List.set_cons_zero, List.set_cons_succ])
     refine take_list (i := 9) (v := ?_) rfl (by kernel_rfl) (by kernel_rfl) (by kernel_rfl) (fun _ _ _ h => h) (Or.inl ⟨by rfl, ?_⟩) (by assumption) ?_
     rotate_left
     · (intro w hSw; (try dsimp only at hSw); go_simp; (try with_reducible rfl))
     (try simp only [Act.put, List.setIfInBounds_toArray, List.set_cons_zero, List.set_cons_succ])
     refine take_list (i := 10) (v := ?_) rfl (by kernel_rfl) (by kernel_rfl) (by kernel_rfl) (fun _ _ _ h => h) (Or.inl ⟨by rfl, ?_⟩) (by assumption) ?_
     rotate_left
     · (intro w hSw; (try dsimp only at hSw); go_simp; (try with_reducible rfl))
     (try simp only [Act.put, List.setIfInBounds_toArray, List.set_cons_zero, List.set_cons_succ])
     refine wpAnyH_ready (rs := [4]) (by kernel_rfl) (by simp) ?_
     refine AllReadyH.cons rfl (fun K hK => ?_) AllReadyH.nil
     go_simp
     refine hK.out _ _ trivial (fun _ => ?_)
     clear hK K
     (try simp only [Act.put, List.setIfInBounds_toArray, List.set_cons_zero, List.set_cons_succ])
     refine wpAnyH_ready (rs := [11]) (by kernel_rfl) (by simp) ?_
     refine AllReadyH.cons rfl (fun K hK => ?_) AllReadyH.nil
     refine step_append_run (by rfl) _ _ _ (by rfl) (by rfl) (by rfl) HR11.out ?_
     refine hK.out _ _ trivial (fun _ => ?_)
     clear hK K
     (try simp only [Act.put, List.setIfInBounds_toArray, List.set_cons_zero, List.set_cons_succ])
     refine take_list (i := 12) (v := ?_) rfl (by kernel_rfl) (by kernel_rfl) (by kernel_rfl) (fun _ _ _ h => h) (Or.inl ⟨by rfl, ?_⟩) (by assumption) ?_
     rotate_left
     · (intro w hSw; (try dsimp only at hSw); go_simp; (try with_reducible rfl))
     (try simp only [Act.put, List.setIfInBounds_toArray, List.set_cons_zero, List.set_cons_succ])
     refine take_list (i := 13) (v := ?_) rfl (by kernel_rfl) (by kernel_rfl) (by kernel_rfl) (fun _ _ _ h => h) (Or.inl ⟨by rfl, ?_⟩) (by assumption) ?_
     rotate_left
     · (intro w hSw; (try dsimp only at hSw); go_simp; (try with_reducible rfl))
     (try simp only [Act.put, List.setIfInBounds_toArray, List.set_cons_zero, List.set_cons_succ])
     refine wpAnyH_ready (rs := [14]) (by kernel_rfl) (by simp) ?_
     refine AllReadyH.cons rfl (fun K hK => ?_) AllReadyH.nil
     go_simp
     refine hK.out _ _ trivial (fun _ => ?_)
     clear hK K
     (try simp only [Act.put, List.setIfInBounds_toArray, List.set_cons_zero, List.set_cons_succ])
     refine wpAnyH_done (by kernel_rfl) ?_ _
     go_wp2_with fail
     go_meet
     case rel => exact HFIN.out
   · as_aux_lemma =>
     rw [show natV 1 = Value.int .i64 1 from rfl]
     go_wp2_with fail
     refine (fixed_any w7).mono ?_; rintro e w8 ⟨v1, v2, rfl, h1, h2, hf8⟩; obtain ⟨b1, cp1, hv1, _, hnt1⟩ := OwnN.nt h1; obtain ⟨b2', cp2', hv2, _, hnt2⟩ := OwnN.nt h2; subst hv1 hv2; have l1 : fixedLens.length = 288 := fixedLens_length; have l2 : fixedDist.length = 32 := by unfold fixedDist; rw [List.length_replicate]
     have hWl : W < w7.heap.size := Nat.lt_of_lt_of_le H2.out.2.2.2.2.2.2.2.1 H7.out.2.2.2.1; have hbd := body_any w8 w5.heap.size W (L ++ [b] ++ enc 1 2) (H7.out.2.2.1.keep hf8 (fun _ e => e) (fun _ _ _ e => e)) H2.out.2.2.2.2.2.2.2.1 (Nat.le_trans H7.out.2.2.2.1 hf8.size) (by simp only [List.length_append, List.length_cons, List.length_nil, enc_len]; have := H2.out.2.2.2.2.2.2.2.2.2.1; omega)
      tb toks tcp (H7.out.1.keep hf8 (fun _ _ e => e)) (fun a ha => (H7.out.2.2.2.2.2.1 a ha).1) (by have := H7.out.2.1; omega)
      b1 fixedLens cp1 hnt1 (fun a ha e => by subst ha; have := (h1.lt a.block rfl).1; omega) fixedLens_le (by omega) (by omega)
      b2' fixedDist cp2' hnt2 (fun a ha e => by subst ha; have := (h2.lt a.block rfl).1; omega) fixedDist15 (by omega) (by omega) (tokIn_fixed H7.out.2.2.2.2.2.2.2.1) (fixedLens_ne0 256 (by omega))
     rw [l1, l2, ← H7.out.2.1] at hbd; rw [l1, l2]; have HBD := zHi hbd; have HF8 := zHi hf8; clear hbd hf8 h1 h2 hnt1 hnt2 l1 l2 hWl; go_wp2_with fail
     refine HBD.out.mono ?_; rintro e w9 ⟨rfl, hw9, hf9⟩; have hf79 : Frm (SWr w7 w5.heap.size W) w7 w9 := frm_SWr_trans (frm_SWr_none HF8.out) hf9; have hrel : DfBlk w7 w5.heap.size W w.heap.size C lx k4 L (A.take fr) (A.take q) b n w9 := by
      obtain ⟨hTks, hnt, hwt7, hN7, hbA7, htW, htr, hto, htl, hC7, hk5, hk6, hf67, hfrl⟩ := H7.out; refine ⟨[b] ++ enc 1 2 ++ bodyBits fixedLens fixedDist toks, k4, ?_, ?_, ?_, HCW.out _ hf79, Nat.le_refl _, hf79.mono fun _ _ e => .inr e⟩
      · have e : L ++ ([b] ++ enc 1 2 ++ bodyBits fixedLens fixedDist toks) = L ++ [b] ++ enc 1 2 ++ bodyBits fixedLens fixedDist toks := by simp only [List.append_assoc]
        rw [e]; exact hw9
      · rw [← htr]; exact .fixed (by rw [hfrl]; exact hto)
      · have hb1 := flat_len fixedLens_le fixedDist15 (tokIn_fixed hto); have hb2 : (code fixedLens 256).length ≤ 15 := by rw [code_len]; exact getD_le fixedLens_le
        unfold bodyBits; simp only [List.length_append, List.length_cons, List.length_nil, enc_len]; have := H1.out.2.2.2.2.2.2.2.1; omega
     have HX := zHi hrel; clear hw9 hf9 hf79 hrel; go_wp2_with fail
     go_meet
     case rel => exact HX.out
   · as_aux_lemma =>
     rw [show natV 2 = Value.int .i64 2 from rfl]
     have hdy := dynamic_any w7 w5.heap.size W (L ++ [b] ++ enc 2 2) H7.out.2.2.1 H2.out.2.2.2.2.2.2.2.1 H7.out.2.2.2.1 (by simp only [List.length_append, List.length_cons, List.length_nil, enc_len]; have := H2.out.2.2.2.2.2.2.2.2.2.1; omega)
      tb toks tcp H7.out.1 w.heap.size C H7.out.2.2.2.2.2.1 (by have := H7.out.2.1; omega) H7.out.2.2.2.2.2.2.2.1 lx k4 H7.out.2.2.2.2.2.2.2.2.2.1 (by have := H7.out.2.2.2.2.2.2.2.2.2.2.2.1; have := HR.out.2.2.2.2.1; have := H1.out.2.2.1; have := H2.out.2.2.2.2.1; have := H1.out.2.2.2.2.2.2.2.1; omega) H2.out.2.2.2.2.2.2.1 (by have := HA.out.2.2.2.2; omega)
     rw [← H7.out.2.1] at hdy; have HDY := zHi hdy; clear hdy; go_wp2_with fail
     refine HDY.out.mono ?_; rintro e w8 ⟨B, k5, rfl, hdb, hBl, hw8, hC8, hk1, hk2, hf8⟩; have hrel : DfBlk w7 w5.heap.size W w.heap.size C lx k4 L (A.take fr) (A.take q) b n w8 := by
      obtain ⟨hTks, hnt, hwt7, hN7, hbA7, htW, htr, hto, htl, hC7, hk5, hk6, hf67, hfrl⟩ := H7.out; refine ⟨[b] ++ enc 2 2 ++ B, k5, ?_, ?_, ?_, hC8, hk1, hf8⟩
      · have e : L ++ ([b] ++ enc 2 2 ++ B) = L ++ [b] ++ enc 2 2 ++ B := by simp only [List.append_assoc]
        rw [e]; exact hw8
      · rw [← htr]; exact hdb.blk (by rw [hfrl]; exact hto)
      · simp only [List.length_append, List.length_cons, List.length_nil, enc_len]; have := H1.out.2.2.2.2.2.2.2.1; omega
     have HX := zHi hrel; clear hdb hBl hw8 hC8 hk1 hk2 hf8 hrel; go_wp2_with fail
     go_meet
     case rel => exact HX.out
  obtain ⟨B, k5, hw8, hblk, hBl, hC8, hk7, hf8⟩ := hcut; obtain ⟨w8, rfl⟩ : ∃ x, x = wc := ⟨_, rfl⟩; refine hK4 _ _ ?_; have hfr8 : Frm (fun b o => b = C ∨ SWr wr w5.heap.size W b o) wr w8 := frm_CW_trans (frm_CW_trans H6.out.2.2.2.1 (H7.out.2.2.2.2.2.2.2.2.2.2.2.2.1.mono fun _ _ e => .inl e)) hf8
  have hf58 : Frm (fun b _ => b = C0 ∨ b = W) w5 w8 := df_frm HR.out.2.2.2.1 HR.out.2.2.2.2.2.2.2.2.2.2.2.1 hfr8
  have hkk : k < k5 := by have := H1.out; have := H2.out.2.2.2.1; have := H7.out.2.2.2.2.2.2.2.2.2.2.1; omega
  have hkb : k5 ≤ 68719476736 ∨ True := .inr trivial; have hat8 := hC8.at_; have hz8 := hC8.fr 1; have H8 := zHi (zAi hw8 (zAi hblk (zAi hBl (zAi hC8 (zAi hf58 hkk))))); clear hblk hBl hk7 hf8 hfr8 hf58 hkk hkb
  cases b with
  | true =>
   obtain rfl : lt = 1 := H2.out.2.2.2.2.2.2.2.2.2.2; obtain ⟨⟨v8, hv8, ho8⟩, _, _⟩ := hw8; have HO := zHi ho8; clear ho8 hat8 hz8 hC8; go_wp2_with fail
   go_ret
   obtain ⟨hw8, hblk, hBl, hC8, hf58, hkk⟩ := H8.out; obtain ⟨hd2, hm2, hA, hnA, hC0, hW⟩ := HA.out; have hqA : q = nA := H2.out.1 trivial; have hLl : (pack (L ++ B)).length ≤ 549755813888 ∧ 0 < (pack (L ++ B)).length := by
    have hb := H2.out.2.2.2.2.2.2.2.2.2.1; have hpos : 0 < B.length := blk_pos hblk; rw [pack_len, List.length_append]; omega
   refine ⟨v8, L ++ B, rfl, HO.out.lower H5.out.2.2.2.2.2.size, ?_, hLl.1, hLl.2, H5.out.2.2.2.2.2.trans' hf58 (fun x o hx e => by omega)⟩
   refine ⟨L, A.take fr, B, rfl, by rw [← hd2]; exact HR.out.2.2.2.2.2.2.2.1, ?_⟩
   have : A.take q = lastOf dict ++ data := by rw [hqA, hnA, List.take_length, hA, hd2]
   rw [← this]; exact hblk
  | false =>
   obtain rfl : lt = 0 := H2.out.2.2.2.2.2.2.2.2.2.2; have hstep : ∀ (fresh' : Bool) (k'' : Nat), (fresh' = true ∧ k'' = 0 ∨ fresh' = false ∧ k'' = k5 ∧ k5 ≤ 20000) → dG (A.length - q) fresh' k'' + 1 ≤ gk ∧ (L ++ B).length ≤ 5200 * (G0 - dG (A.length - q) fresh' k'') + 60 * (q - d2.length) ∧ dG (A.length - q) fresh' k'' ≤ G0 := by
    intro fresh' k'' hnew; obtain ⟨h1, h2, hC, hCC, hk, hfresh, hWr, hBk, hLl, hg1, hg2, hf, hrest, hfn⟩ := HR.out; obtain ⟨hC1, hk1, hk2, hfr, hf1, hn1, hn2, hq, hqn⟩ := H1.out; obtain ⟨hw8, hblk, hBl, hC8, hf58, hkk⟩ := H8.out; have hnA := HA.out.2.2.2.1; have hd := dG_step (rest := A.length - fr) (n := n) (k := k) (k' := k5) (k'' := k'') (f := fresh) (f' := fresh') hk (by omega) hkk (fun hfr' => by
     obtain ⟨q1, q2⟩ := hfresh hfr'; obtain ⟨q3, q4⟩ := hfr q2 q1; refine ⟨q1, ?_⟩; have hne : ¬ q = nA := fun e => by have := H2.out.2.1 q2 q3 e; simp at this
     omega) hnew
    have e : A.length - fr - n = A.length - q := by omega
    rw [e] at hd; rw [List.length_append]; refine ⟨by omega, by omega, by omega⟩
   have HST := zHi hstep; clear hstep hw8 hC8
   by_cases hbig : 20000 < k5
   · have t1 : decide ((20000 : Int) < (k5 : Int)) = true := by simp; omega
     obtain ⟨w9, hw9⟩ : ∃ x, x = w8.alloc (.cells #[.slice none 0 0, .int .i64 0] 95) := ⟨_, rfl⟩; obtain ⟨C2, hC2⟩ : ∃ x, x = w8.heap.size := ⟨_, rfl⟩; have hch : Chs w9 w.heap.size C2 [] 0 := by rw [hw9, hC2]; exact chs_new w8 w.heap.size
     have hf9 : Frm (fun _ _ => False) w8 w9 := by rw [hw9]; exact (Frm.refl _ _).alloc _
     have H9 := zHi (zAi hch (zAi hf9 hC2)); clear hch hf9 hbig; go_upto_region 32 with (fail)
     go_wp2_with fail
     rw [← hw9, ← hC2]; clear hw9 hC2; go_roundg (dG (A.length - q) true 0)
     case measure => have := (HST.out true 0 (.inl ⟨rfl, rfl⟩)).1; omega
     case rel =>
      obtain ⟨hw8, hblk, hBl, hC8, hf58, hkk⟩ := H8.out; obtain ⟨hch, hf9, hC2⟩ := H9.out; obtain ⟨g1, g2, g3⟩ := HST.out true 0 (.inl ⟨rfl, rfl⟩); refine ⟨q, 0, C2, [], true, L ++ B, rfl, rfl, by have := HR.out.1; have := H1.out.2.2.2.2.2.2.2.1; omega, by have := H1.out.2.2.2.2.2.2.2.2; have := HA.out.2.2.2.1; omega, hch, .inr (by have := hf58.size; omega), by omega, fun _ => ⟨rfl, rfl⟩, hw8.keep hf9 (fun _ e => e) (fun _ _ _ e => e), .snoc HR.out.2.2.2.2.2.2.2.1 hblk, g2, g3, rfl, hf58.trans (hf9.mono fun _ _ e => e.elim)⟩
   · have t1 : decide ((20000 : Int) < (k5 : Int)) = false := by simp; omega
     have hk5b : k5 ≤ 20000 := by omega
     have HK := zHi hk5b; clear hbig hk5b; go_wp2_with fail
     go_roundg (dG (A.length - q) false k5)
     case measure => have := (HST.out false k5 (.inr ⟨rfl, rfl, HK.out⟩)).1; omega
     case rel =>
      obtain ⟨hw8, hblk, hBl, hC8, hf58, hkk⟩ := H8.out; obtain ⟨g1, g2, g3⟩ := HST.out false k5 (.inr ⟨rfl, rfl, HK.out⟩); exact ⟨q, k5, C, lx, false, L ++ B, rfl, rfl, by have := HR.out.1; have := H1.out.2.2.2.2.2.2.2.1; omega, by have := H1.out.2.2.2.2.2.2.2.2; have := HA.out.2.2.2.1; omega, hC8, HR.out.2.2.2.1, HK.out, fun h => by simp at h, hw8, .snoc HR.out.2.2.2.2.2.2.2.1 hblk, g2, g3, rfl, hf58⟩
end Go.Proofs.YthfncdfcklbigaaGreatDoor
