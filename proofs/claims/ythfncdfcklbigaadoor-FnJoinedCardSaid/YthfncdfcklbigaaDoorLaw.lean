/-
  THE WALKS OF THE LAWS' SMALL FUNCTIONS: 'same', 'inflates', 'works', 'spec.Stored'.
-/
import Derived.Test.YthfncdfcklbigaaDoorInflate
import Derived.Test.YthfncdfcklbigaaDoorWorks
import Derived.Laws.IdiomStrings
set_option linter.unusedVariables false
set_option linter.unusedSimpArgs false
namespace Go.Proofs.YthfncdfcklbigaaDoor
open Go.RowKit Flate
set_option maxRecDepth 100000

theorem conv_bytes {w : World} {b : Option Addr} {l : List UInt8} {c : Nat} (h : Bytes w b l) : (convert 22 9 (.slice b l.length c)).run Tryd.prog w = .ok (.string ⟨l.toArray⟩) w := by
  cases b with
  | none =>
    have hl : l = [] := h
    subst hl
    rw [show ([] : List UInt8).length = 0 from rfl, run_convert_bytes_string w 22 9 5 none 0 c Tryd.underlying22 Tryd.underlying5 Tryd.underlying9]
    rfl
  | some a =>
    obtain ⟨ab, ao, sp⟩ := a
    obtain ⟨hs, hc⟩ := h
    simp only at hs
    subst hs
    exact run_convert_bytes_back w 22 9 5 ⟨ab, ao, none⟩ c l Tryd.underlying22 Tryd.underlying5 Tryd.underlying9 (fun j hj => by rw [Addr.add_lit]; exact hc j hj)

/-- Are two rows of bytes the same? (A Bool that the walk does not look into.) -/
def sameB (l m : List UInt8) : Bool := l == m
theorem sameB_true {l m : List UInt8} : sameB l m = true ↔ l = m := by unfold sameB; exact beq_iff_eq
theorem sameB_refl (l : List UInt8) : sameB l l = true := sameB_true.2 rfl

theorem same_any (w : World) (b1 b2 : Option Addr) (l1 l2 : List UInt8) (c1 c2 : Nat) (h1 : Bytes w b1 l1) (h2 : Bytes w b2 l2) :
    Calls Tryd.prog 19 #[.slice b1 l1.length c1, .slice b2 l2.length c2] w fun e w' => e = .returned (.bool (sameB l1 l2)) ∧ w = w' := by
  have k1 := conv_bytes (c := c1) h1
  have k2 := conv_bytes (c := c2) h2
  have k3 : ((⟨l1.toArray⟩ : ByteArray).toList == (⟨l2.toArray⟩ : ByteArray).toList) = sameB l1 l2 := by rw [ByteArray.toList_mk, ByteArray.toList_mk]; rfl
  generalize (⟨l1.toArray⟩ : ByteArray) = s1 at k1 k3
  generalize (⟨l2.toArray⟩ : ByteArray) = s2 at k2 k3
  clear h1 h2
  have K3 := Lib.hid k3
  clear k3
  generalize l1.length = n1 at k1 ⊢
  generalize l2.length = n2 at k2 ⊢
  go_enter Tryd.func19, Tryd.ntmps19
  go_wp2_with fail
  go_ret
  exact ⟨congrArg (fun b => Ending.returned (.bool b)) K3.out, rfl⟩

theorem nilSizes (w : World) (N0 : Nat) (M : Nat → Prop) : Sizes w N0 M (.slice none 0 0) := .inl ⟨_, _, rfl⟩

/-- Blocks that are read as the data, to their last byte. -/
theorem inflates_long (w : World) (C : Nat) (p : Ps) (he : Env w C p) (base : Option Addr) (src : List UInt8) (cap : Nat) (hs : Bt w base src cap) (hsl : src.length ≤ 1099511627776) (dbase : Option Addr) (dict : List UInt8) (dcap : Nat) (hd : Bt w dbase dict dcap) (hdl : dict.length ≤ 4294967296) (has : Bool)
    (wb : Option Addr) (want : List UInt8) (wc : Nat) (hw : Bt w wb want wc) (hwl : want.length ≤ 52776558133248) (hinf : Infl src (if has then dict else []) .eof src.length want) (hne : 0 < src.length) :
    Calls Tryd.prog 20 #[.slice base src.length cap, .slice dbase dict.length dcap, .bool has, .slice wb want.length wc] w fun e w' => e = .returned (.bool true) ∧ Frm (fun _ _ => False) w w' := by
  have HI := Lib.hid (inflate_long w C p he base src cap hs hsl dbase dict dcap hd hdl has (fun e q X h => by obtain ⟨_, _, rfl⟩ := hinf.unique h; exact hwl) none 0 0 (nilSizes _ _ _))
  have HW := Lib.hid hw
  have HF := Lib.hid hinf
  clear he hs hsl hd hdl hw hinf hwl
  obtain ⟨n1, hn1⟩ : ∃ n1, n1 = src.length := ⟨_, rfl⟩
  obtain ⟨n2, hn2⟩ : ∃ n2, n2 = dict.length := ⟨_, rfl⟩
  obtain ⟨n3, hn3⟩ : ∃ n3, n3 = want.length := ⟨_, rfl⟩
  rw [← hn1] at hne
  rw [← hn1, ← hn2] at HI ⊢
  rw [← hn3]
  have HN := Lib.hid (And.intro hn1 (And.intro hn2 hn3))
  clear hn1 hn2 hn3
  go_enter Tryd.func20, Tryd.ntmps20
  go_wp2_with fail
  refine HI.out.mono ?_
  rintro e w1 ⟨v, er, P, X, hX, rfl, hown, hf⟩
  obtain ⟨rfl, rfl, rfl⟩ := HF.out.unique hX
  obtain ⟨b, cap', rfl, hbt⟩ := hown.bt
  have hsame := same_any w1 b wb X X cap' wc hbt.bytes (HW.out.keep hf).bytes
  rw [← HN.out.2.2, sameB_refl] at hsame
  rw [← HN.out.2.2]
  have e0 : src.length - src.length = 0 := Nat.sub_self _
  rw [e0]
  have HS := Lib.hid hsame
  have HF1 := Lib.hid hf
  clear hX hown hbt hsame hf e0
  go_wp2_with fail
  refine HS.out.mono ?_
  rintro e w2 ⟨rfl, rfl⟩
  go_wp2_with fail
  go_ret
  exact ⟨rfl, HF1.out⟩

/-- The same, where the blocks alone bound what is read. -/
theorem inflates_true (w : World) (C : Nat) (p : Ps) (he : Env w C p) (base : Option Addr) (src : List UInt8) (cap : Nat) (hs : Bt w base src cap) (hsl : src.length ≤ 17179869184) (dbase : Option Addr) (dict : List UInt8) (dcap : Nat) (hd : Bt w dbase dict dcap) (hdl : dict.length ≤ 4294967296) (has : Bool)
    (wb : Option Addr) (want : List UInt8) (wc : Nat) (hw : Bt w wb want wc) (hinf : Infl src (if has then dict else []) .eof src.length want) (hne : 0 < src.length) :
    Calls Tryd.prog 20 #[.slice base src.length cap, .slice dbase dict.length dcap, .bool has, .slice wb want.length wc] w fun e w' => e = .returned (.bool true) ∧ Frm (fun _ _ => False) w w' :=
  inflates_long w C p he base src cap hs (by omega) dbase dict dcap hd hdl has wb want wc hw (by have := hinf.le.2; omega) hinf hne

theorem bytes_new (w : World) (cs : Array Value) (t : TypeId) (l : List UInt8) (h : ∀ j (hj : j < l.length), cs[j]? = some (byteV l[j])) : Bytes (w.alloc (.cells cs t)) (some ⟨w.heap.size, 0, none⟩) l :=
  ⟨rfl, fun j hj => by
    rw [Nat.zero_add]
    exact (cells_at (heap_alloc_new w _)).trans (h j hj)⟩

theorem frz_heap (w : World) (B k : Nat) : (∀ b, b ≠ B → (w.freeze ⟨B, k, none⟩ 1).heap[b]? = w.heap[b]?) ∧ (w.freeze ⟨B, k, none⟩ 1).heap.size = w.heap.size ∧ ∀ q, (w.freeze ⟨B, k, none⟩ 1).cell? q = w.cell? q := by
  refine ⟨fun b hb => ?_, ?_, fun q => ?_⟩
  · simp [World.freeze, Array.getElem?_modify, Ne.symm hb]
  · simp [World.freeze]
  · unfold World.cell? World.freeze
    simp only [Array.getElem?_modify, Nat.one_ne_zero, if_false]
    by_cases h : B = q.block
    · rw [if_pos h]
      cases hb : w.heap[q.block]? with
      | none => rfl
      | some o => cases o <;> rfl
    · rw [if_neg h]

theorem Frm.freezeNew {S : Nat → Nat → Prop} {a w : World} {B k : Nat} (h : Frm S a w) (hB : a.heap.size ≤ B) : Frm S a (w.freeze ⟨B, k, none⟩ 1) := by
  obtain ⟨h1, h2, h3⟩ := frz_heap w B k
  have hb : ∀ b, b < a.heap.size → (w.freeze ⟨B, k, none⟩ 1).heap[b]? = w.heap[b]? := fun b hb => h1 b (by omega)
  refine ⟨h.os, h.tape, h.output, by rw [h2]; exact h.size, fun b o hlt hn => (h3 _).trans (h.cell b o hlt hn), fun b o hlt => ?_, fun b o hlt => by rw [h3]; exact h.live b o hlt, fun b hlt hn => (hb b hlt).trans (h.obj b hlt hn)⟩
  exact (World.frozen?_of_block (hb b hlt)).trans (h.froz b o hlt)

/-- '[]byte' of a literal. -/
theorem conv_mark (w : World) (B n c : Nat) (cs : Array Value) (t : TypeId) (f : Nat × Nat) (h : w.heap[B]? = some (.cells cs t f)) :
    (convert 22 22 (.slice (some ⟨B, 0, none⟩) n c)).run Tryd.prog w = .ok (.slice (some ⟨B, 0, none⟩) n c) (w.freeze ⟨B, cs.size, none⟩ 1) := by
  simp [convert, run_underlying Tryd.underlying22, run_underlying Tryd.underlying5, markStringish, World.shape?, h]

/-- The first bytes of a row. -/
theorem run_headK (k : IntKind) {w : World} {b : Option Addr} {l : List UInt8} {cap : Nat} (h : Bt w b l cap) (m : Nat) (hm : m ≤ l.length) :
    ∃ b', (∀ w' : World, (Instr.sliceAt 22 (.slice b l.length cap) none (some (.int k (m : Int))) none).run Tryd.prog w' = .ok (.slice b' m cap) w') ∧ Bytes w b' (l.take m) := by
  have hsz : ∀ w : World, (sizeOf (Tryd.prog.elem 22)).run Tryd.prog w = .ok 1 w := fun w => by kernel_rfl
  have hu : Tryd.prog.underlying 22 = some (.slice (Tryd.prog.elem 22)) := by kernel_rfl
  have hcap := h.hcap
  refine ⟨b, fun w' => ?_, ?_⟩
  · rw [run_sliceAt_slice w' _ _ _ _ _ hu, run_slice_h w' _ _ _ _ hu _ _ (by omega) (by omega), hsz]
    simp only [Result.andThen, sliced, Int.toNat_natCast, Nat.sub_zero]
    cases b with
    | none => simp
    | some a => by_cases h : cap = 0 <;> simp [h, Addr.add]
  · have hb := h.bytes
    cases b with
    | none => have : l = [] := hb; subst this; simp; rfl
    | some a =>
      refine ⟨hb.1, fun j hj => ?_⟩
      rw [List.length_take] at hj
      rw [hb.2 j (by omega), List.getElem_take]

theorem run_headO {w : World} {b : Option Addr} {l : List UInt8} {cap : Nat} (h : Bt w b l cap) (m : Nat) (hm : m ≤ l.length) :
    ∃ b', (∀ w' : World, (Instr.sliceAt 22 (.slice b l.length cap) none (some (.int .i64 (m : Int))) none).run Tryd.prog w' = .ok (.slice b' m cap) w') ∧ Bytes w b' (l.take m) := run_headK .i64 h m hm

theorem works_any (w : World) (C : Nat) (p : Ps) (he : Env w C p) :
    Calls Tryd.prog 18 #[] w fun e w' => e = .returned (.bool true) ∧ Frm (fun _ _ => False) w w' := by
  have HE := Lib.hid he
  clear he
  go_enter Tryd.func18, Tryd.ntmps18
  obtain ⟨w1, hw1⟩ : ∃ w1, w1 = w.alloc (.cells #[.int .u8 75, .int .u8 4, .int .u8 0] 5) := ⟨_, rfl⟩
  obtain ⟨w2, hw2⟩ : ∃ w2, w2 = w1.alloc (.cells #[.int .u8 97] 5) := ⟨_, rfl⟩
  have hcs := conv_mark w2 w1.heap.size 1 1 #[.int .u8 97] 5 (0, 0) (by rw [hw2]; exact heap_alloc_new w1 _)
  obtain ⟨w2', hw2'⟩ : ∃ w2', w2' = w2.freeze ⟨w1.heap.size, 1, none⟩ 1 := ⟨_, rfl⟩
  have hcs : (convert 22 22 (.slice (some ⟨w1.heap.size, 0, none⟩) 1 1)).run Tryd.prog w2 = .ok (.slice (some ⟨w1.heap.size, 0, none⟩) 1 1) w2' := by rw [hw2']; exact hcs
  have hb1 : Bytes w1 (some ⟨w.heap.size, 0, none⟩) [75, 4, 0] := by
    rw [hw1]; exact bytes_new w _ _ _ (fun j hj => by
      have h3 : j = 0 ∨ j = 1 ∨ j = 2 := by simp only [List.length_cons, List.length_nil] at hj; omega
      rcases h3 with rfl | rfl | rfl <;> rfl)
  have hb2 : Bytes w2 (some ⟨w1.heap.size, 0, none⟩) [97] := by
    rw [hw2]; exact bytes_new w1 _ _ _ (fun j hj => by
      have h3 : j = 0 := by simp only [List.length_cons, List.length_nil] at hj; omega
      rcases h3 with rfl; rfl)
  have s1 : w1.heap.size = w.heap.size + 1 := by rw [hw1]; simp
  have s2 : w2.heap.size = w.heap.size + 2 := by rw [hw2]; simp [s1]
  have hf1 : Frm (fun _ _ => False) w w1 := by rw [hw1]; exact (Frm.refl _ _).alloc _
  have hf2 : Frm (fun _ _ => False) w1 w2' := by rw [hw2', hw2]; exact ((Frm.refl _ _).alloc _).freezeNew (Nat.le_refl _)
  have hb2' : Bytes w2' (some ⟨w1.heap.size, 0, none⟩) [97] := ⟨hb2.1, fun j hj => by rw [hw2', (frz_heap _ _ _).2.2]; exact hb2.2 j hj⟩
  have s2' : w2'.heap.size = w.heap.size + 2 := by rw [hw2', (frz_heap _ _ _).2.1, s2]
  have ht1 : Bt w2' (some ⟨w.heap.size, 0, none⟩) [75, 4, 0] 3 := ⟨hb1.keep hf2 (fun a _ j _ e => e), Nat.le_refl _, fun a ha => by obtain rfl := Option.some.inj ha; simp only; omega, fun h => by simp at h⟩
  have ht2 : Bt w2' (some ⟨w1.heap.size, 0, none⟩) [97] 1 := ⟨hb2', Nat.le_refl _, fun a ha => by obtain rfl := Option.some.inj ha; simp only; omega, fun h => by simp at h⟩
  have hin := inflates_true w2' C p (HE.out.keep (hf1.trans hf2) (fun _ _ e => e.elim)) (some ⟨w.heap.size, 0, none⟩) [75, 4, 0] 3 ht1 (by simp) none [] 0 (bt_nil _) (by simp) false (some ⟨w1.heap.size, 0, none⟩) [97] 1 ht2 infl_works (by simp)
  rw [s1] at hin hcs
  rw [hw2, hw1] at hcs
  have HH := Lib.hid hin
  have HF := Lib.hid (hf1.trans hf2)
  clear hin hb1 hb2 hb2' s1 s2 s2' hf1 hf2 ht1 ht2 hw1 hw2 hw2'
  go_wp2_with fail
  refine HH.out.mono ?_
  rintro e w3 ⟨rfl, hf3⟩
  have HF3 := Lib.hid hf3
  clear hf3
  go_wp2_with fail
  go_ret
  exact ⟨rfl, HF.out.trans HF3.out⟩

end Go.Proofs.YthfncdfcklbigaaDoor
