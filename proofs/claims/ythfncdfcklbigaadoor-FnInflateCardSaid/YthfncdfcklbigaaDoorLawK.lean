/-
  What laws share: 'same'; strings of bytes; rows that are new.
-/
import Derived.Test.YthfncdfcklbigaaDoorInflK
set_option linter.unusedVariables false
set_option linter.unusedSimpArgs false
namespace Go.Proofs.YthfncdfcklbigaaDoor
open Go.RowKit Flate
set_option maxRecDepth 100000

theorem conv_bytes {w : World} {b : Option Addr} {l : List UInt8} {c : Nat} (h : Bytes w b l) : (convert 22 9 (.slice b l.length c)).run Tryd.prog w = .ok (.string ⟨l.toArray⟩) w := by
  cases b with
  | none =>
    have hl : l = [] := h
    subst hl
    rw [show ([] : List UInt8).length = 0 from rfl, run_convert_bytes_string w 22 9 5 none 0 c Tryd.underlying22 Tryd.underlying5 Tryd.underlying9]
    rfl
  | some a =>
    obtain ⟨ab, ao, sp⟩ := a
    obtain ⟨hs, hc⟩ := h
    simp only at hs
    subst hs
    exact run_convert_bytes_back w 22 9 5 ⟨ab, ao, none⟩ c l Tryd.underlying22 Tryd.underlying5 Tryd.underlying9 (fun j hj => by rw [Addr.add_lit]; exact hc j hj)

/-- Are two rows of bytes the same? (A Bool that the walk does not look into.) -/
def sameB (l m : List UInt8) : Bool := l == m
theorem sameB_true {l m : List UInt8} : sameB l m = true ↔ l = m := by unfold sameB; exact beq_iff_eq
theorem sameB_refl (l : List UInt8) : sameB l l = true := sameB_true.2 rfl

theorem same_any (w : World) (b1 b2 : Option Addr) (l1 l2 : List UInt8) (c1 c2 : Nat) (h1 : Bytes w b1 l1) (h2 : Bytes w b2 l2) :
    Calls Tryd.prog 19 #[.slice b1 l1.length c1, .slice b2 l2.length c2] w fun e w' => e = .returned (.bool (sameB l1 l2)) ∧ w = w' := by
  have k1 := conv_bytes (c := c1) h1
  have k2 := conv_bytes (c := c2) h2
  have k3 : ((⟨l1.toArray⟩ : ByteArray).toList == (⟨l2.toArray⟩ : ByteArray).toList) = sameB l1 l2 := by rw [ByteArray.toList_mk, ByteArray.toList_mk]; rfl
  generalize (⟨l1.toArray⟩ : ByteArray) = s1 at k1 k3
  generalize (⟨l2.toArray⟩ : ByteArray) = s2 at k2 k3
  clear h1 h2
  have K3 := Lib.hid k3
  clear k3
  generalize l1.length = n1 at k1 ⊢
  generalize l2.length = n2 at k2 ⊢
  go_enter Tryd.func19, Tryd.ntmps19
  go_wp2_with fail
  go_ret
  exact ⟨congrArg (fun b => Ending.returned (.bool b)) K3.out, rfl⟩

theorem nilSizes (w : World) (N0 : Nat) (M : Nat → Prop) : Sizes w N0 M (.slice none 0 0) := .inl ⟨_, _, rfl⟩

theorem bytes_new (w : World) (cs : Array Value) (t : TypeId) (l : List UInt8) (h : ∀ j (hj : j < l.length), cs[j]? = some (byteV l[j])) : Bytes (w.alloc (.cells cs t)) (some ⟨w.heap.size, 0, none⟩) l :=
  ⟨rfl, fun j hj => by
    rw [Nat.zero_add]
    exact (cells_at (heap_alloc_new w _)).trans (h j hj)⟩

theorem frz_heap (w : World) (B k : Nat) : (∀ b, b ≠ B → (w.freeze ⟨B, k, none⟩ 1).heap[b]? = w.heap[b]?) ∧ (w.freeze ⟨B, k, none⟩ 1).heap.size = w.heap.size ∧ ∀ q, (w.freeze ⟨B, k, none⟩ 1).cell? q = w.cell? q := by
  refine ⟨fun b hb => ?_, ?_, fun q => ?_⟩
  · simp [World.freeze, Array.getElem?_modify, Ne.symm hb]
  · simp [World.freeze]
  · unfold World.cell? World.freeze
    simp only [Array.getElem?_modify, Nat.one_ne_zero, if_false]
    by_cases h : B = q.block
    · rw [if_pos h]
      cases hb : w.heap[q.block]? with
      | none => rfl
      | some o => cases o <;> rfl
    · rw [if_neg h]

theorem Frm.freezeNew {S : Nat → Nat → Prop} {a w : World} {B k : Nat} (h : Frm S a w) (hB : a.heap.size ≤ B) : Frm S a (w.freeze ⟨B, k, none⟩ 1) := by
  obtain ⟨h1, h2, h3⟩ := frz_heap w B k
  have hb : ∀ b, b < a.heap.size → (w.freeze ⟨B, k, none⟩ 1).heap[b]? = w.heap[b]? := fun b hb => h1 b (by omega)
  refine ⟨h.os, h.tape, h.output, by rw [h2]; exact h.size, fun b o hlt hn => (h3 _).trans (h.cell b o hlt hn), fun b o hlt => ?_, fun b o hlt => by rw [h3]; exact h.live b o hlt, fun b hlt hn => (hb b hlt).trans (h.obj b hlt hn)⟩
  exact (World.frozen?_of_block (hb b hlt)).trans (h.froz b o hlt)

/-- '[]byte' of a literal. -/
theorem conv_mark (w : World) (B n c : Nat) (cs : Array Value) (t : TypeId) (f : Nat × Nat) (h : w.heap[B]? = some (.cells cs t f)) :
    (convert 22 22 (.slice (some ⟨B, 0, none⟩) n c)).run Tryd.prog w = .ok (.slice (some ⟨B, 0, none⟩) n c) (w.freeze ⟨B, cs.size, none⟩ 1) := by
  simp [convert, run_underlying Tryd.underlying22, run_underlying Tryd.underlying5, markStringish, World.shape?, h]

/-- The first bytes of a row. -/
theorem run_headK (k : IntKind) {w : World} {b : Option Addr} {l : List UInt8} {cap : Nat} (h : Bt w b l cap) (m : Nat) (hm : m ≤ l.length) :
    ∃ b', (∀ w' : World, (Instr.sliceAt 22 (.slice b l.length cap) none (some (.int k (m : Int))) none).run Tryd.prog w' = .ok (.slice b' m cap) w') ∧ Bytes w b' (l.take m) := by
  have hsz : ∀ w : World, (sizeOf (Tryd.prog.elem 22)).run Tryd.prog w = .ok 1 w := fun w => by kernel_rfl
  have hu : Tryd.prog.underlying 22 = some (.slice (Tryd.prog.elem 22)) := by kernel_rfl
  have hcap := h.hcap
  refine ⟨b, fun w' => ?_, ?_⟩
  · rw [run_sliceAt_slice w' _ _ _ _ _ hu, run_slice_h w' _ _ _ _ hu _ _ (by omega) (by omega), hsz]
    simp only [Result.andThen, sliced, Int.toNat_natCast, Nat.sub_zero]
    cases b with
    | none => simp
    | some a => by_cases h : cap = 0 <;> simp [h, Addr.add]
  · have hb := h.bytes
    cases b with
    | none => have : l = [] := hb; subst this; simp; rfl
    | some a =>
      refine ⟨hb.1, fun j hj => ?_⟩
      rw [List.length_take] at hj
      rw [hb.2 j (by omega), List.getElem_take]

theorem run_headO {w : World} {b : Option Addr} {l : List UInt8} {cap : Nat} (h : Bt w b l cap) (m : Nat) (hm : m ≤ l.length) :
    ∃ b', (∀ w' : World, (Instr.sliceAt 22 (.slice b l.length cap) none (some (.int .i64 (m : Int))) none).run Tryd.prog w' = .ok (.slice b' m cap) w') ∧ Bytes w b' (l.take m) := run_headK .i64 h m hm

end Go.Proofs.YthfncdfcklbigaaDoor
