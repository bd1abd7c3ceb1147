/-
  ROWS OF INTS: of the program's own, and such as came in.
-/
import Derived.Test.YthfncdfcklbigaaDoorOwn
set_option linter.unusedVariables false
set_option linter.unusedSimpArgs false
namespace Go.Proofs.YthfncdfcklbigaaDoor
open Go.RowKit Flate
set_option maxRecDepth 100000

abbrev intV (x : Int) : Value := .int .i64 x

/-- A row of ints of the program's own making. -/
abbrev OwnI (w : World) (base : Nat) (v : Value) (l : List Int) : Prop := Row (fun v => ∃ u : Int, v = .int .i64 u) w base 3 1 v l.length (l.map intV)

/-- A row of ints that came in. -/
structure It (w : World) (base : Option Addr) (l : List Int) (cap : Nat) : Prop where
  cells : ∀ j (h : j < l.length), ∃ a, base = some a ∧ w.cell? ⟨a.block, a.off + j, none⟩ = some (intV l[j])
  spot : ∀ a, base = some a → a.spot = none
  hcap : l.length ≤ cap
  lt : ∀ a, base = some a → a.block < w.heap.size
  nilc : base = none → cap = 0
  wf : ∀ x ∈ l, -9223372036854775808 ≤ x ∧ x ≤ 9223372036854775807

theorem It.keep {w w' : World} {base : Option Addr} {l : List Int} {cap : Nat} (h : It w base l cap) (hf : Frm (fun _ _ => False) w w') : It w' base l cap :=
  ⟨fun j hj => by obtain ⟨a, h1, h2⟩ := h.cells j hj; exact ⟨a, h1, hf.keep h2 (fun e => e)⟩, h.spot, h.hcap, fun a ha => Nat.lt_of_lt_of_le (h.lt a ha) hf.size, h.nilc, h.wf⟩

theorem infoInts : ((Tryd.prog.info? 3).map fun i => (i.zero, i.size, i.bytes)) = some (some (.int .i64 0), 1, 8) := by kernel_rfl

/-- One int more: out of a new block of its own. -/
theorem append_int (w : World) (base : Nat) (v : Value) (l : List Int) (hrow : OwnI w base v l) (x : Int) (hle : l.length + 1 ≤ 1099511627776) (hbase : base ≤ w.heap.size) :
    ∃ v' w', (∀ ty, (Builtin.append_ #[27, 27] ty #[v, .slice (some ⟨w.heap.size, 0, none⟩) 1 1]).run Tryd.prog (w.alloc (.cells #[.int .i64 x] 3)) = .ok v' w') ∧ OwnI w' base v' (l ++ [x]) ∧ Frm (fun b _ => v.ownBlock = some b) w w' := by
  obtain ⟨i, hi, hiq⟩ := Option.map_eq_some_iff.1 infoInts
  simp only [Prod.mk.injEq] at hiq
  obtain ⟨h1, h2, h3⟩ := hiq
  have hf1 : Frm (fun b _ => v.ownBlock = some b) w (w.alloc (.cells #[.int .i64 x] 3)) := (Frm.refl _ _).alloc _
  have hrow1 := hrow.keep (S := fun _ _ => False) ((Frm.refl _ w).alloc (.cells #[.int .i64 x] 3)) (fun _ _ _ e => e)
  obtain ⟨v', w', hrun, hr, hf, _⟩ := append_row (P := Tryd.prog) (fun v => ∃ u : Int, v = .int .i64 u) _ base 27 3 i _ 1 8 Tryd.underlying27 hi h1 h2 h3 (by rfl) (by intro u hu; simp [Value.cells] at hu; exact ⟨0, hu⟩) v l.length _ hrow1 ⟨w.heap.size, 0, none⟩ 1 1 [intV x] (by simp) (fun j u hu => by
      match j, hu with
      | 0, hu =>
        obtain rfl := Option.some.inj hu
        rw [Addr.add_lit]
        exact (cells_at (heap_alloc_new w _)).trans rfl
      | j + 1, hu => simp at hu) (fun u hu => by obtain rfl := List.mem_singleton.1 hu; rfl) (fun u hu => by obtain rfl := List.mem_singleton.1 hu; exact ⟨_, rfl⟩) (by simp only [maxLen]; omega) (by omega) (Nat.le_trans hbase hf1.size)
  refine ⟨v', w', hrun, ?_, hf1.trans' hf (fun _ _ _ e => e)⟩
  have e : (l ++ [x]).map intV = l.map intV ++ [intV x] := by simp
  unfold OwnI
  rw [e, List.length_append]
  exact hr

theorem OwnI.nil (w : World) (base : Nat) : OwnI w base (.slice none 0 0) [] := Row.nil _ _ _ _ _

theorem OwnI.it {w : World} {base : Nat} {v : Value} {l : List Int} (h : OwnI w base v l) (hw : ∀ x ∈ l, -9223372036854775808 ≤ x ∧ x ≤ 9223372036854775807) : ∃ b cap, v = .slice b l.length cap ∧ It w b l cap := by
  rcases h.cells with ⟨rfl, h0⟩ | ⟨g, cap, rfl, h1, h2, h3, h4⟩
  · have hl : l = [] := List.eq_nil_of_length_eq_zero h0
    subst hl
    exact ⟨none, 0, rfl, ⟨fun j hj => absurd hj (by simp), fun a ha => by simp at ha, Nat.le_refl _, fun a ha => by simp at ha, fun _ => rfl, hw⟩⟩
  · refine ⟨some ⟨g, 0, none⟩, cap, rfl, ⟨fun j hj => ⟨_, rfl, ?_⟩, fun a ha => by obtain rfl := Option.some.inj ha; rfl, h3, fun a ha => by obtain rfl := Option.some.inj ha; exact h2, fun hb => by simp at hb, hw⟩⟩
    have := h4 j (intV l[j]) (by rw [List.getElem?_map, List.getElem?_eq_getElem hj]; rfl)
    simpa using this

theorem OwnI.fresh {w w' : World} {base : Nat} {v : Value} {l : List Int} (h : OwnI w base v l) {w0 : World} (h0 : Frm (fun _ _ => False) w0 w) (hb : w0.heap.size ≤ base) (hf : Frm (fun b _ => v.ownBlock = some b) w w') : Frm (fun _ _ => False) w0 w' :=
  h0.trans' hf (fun x o hx q => by have := (h.lt x q).1; omega)

end Go.Proofs.YthfncdfcklbigaaDoor
