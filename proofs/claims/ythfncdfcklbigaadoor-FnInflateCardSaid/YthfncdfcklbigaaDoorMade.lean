/-
  NEW ROWS OF BYTES ('make').
-/
import Derived.Test.YthfncdfcklbigaaDoorLay
set_option linter.unusedVariables false
set_option linter.unusedSimpArgs false
namespace Go.Proofs.YthfncdfcklbigaaDoor
open Go.RowKit Flate
set_option maxRecDepth 100000

theorem infoB : ((Tryd.prog.info? 5).map fun i => (i.zero, i.size, i.bytes)) = some (some (.int .u8 0), 1, 1) := by kernel_rfl

theorem run_bytes (w : World) (n : Nat) (hn : n ≤ 16777216) :
    (Instr.makeSlice 22 (.int .i64 (n : Int)) (.int .i64 (n : Int))).run Tryd.prog w = .ok (.slice (some ⟨w.heap.size, 0, none⟩) n n) (w.alloc (.cells (madeCells #[.int .u8 0] n) 5)) := by
  obtain ⟨i, h1, h2, h3, h4⟩ := infoOf infoB
  have hr := run_make (P := Tryd.prog) w 22 _ i _ Tryd.underlying22 h1 h2 .i64 .i64 n n (by omega) (by omega) (by rw [h4]; simp only; omega) (by omega)
  rw [Int.toNat_natCast, h3, Nat.mul_one] at hr
  exact hr

/-- A new row of bytes. -/
theorem wpList_bytes {ops : Array Oper} {rest : List Oper} {o : Oper} {a : Act} {w : World} {Q : Exit → Act → World → Prop} (hgd : o.guard = none) (l c : Operand) (ho : o.op = .makeSlice 22 l c)
    (k k2 : IntKind) (n : Nat) (hl : a.eval l = .int k (n : Int)) (hc : a.eval c = .int k2 (n : Int)) (hn : n ≤ 16777216)
    (h : ∀ w', w' = w.alloc (.cells (madeCells #[.int .u8 0] n) 5) → wpList Tryd.prog ops Q rest (a.put o.dst (.slice (some ⟨w.heap.size, 0, none⟩) n n)) w') : wpList Tryd.prog ops Q (o :: rest) a w := by
  obtain ⟨i, h1, h2, h3, h4⟩ := infoOf infoB
  refine wpList_make hgd _ l c ho _ i _ Tryd.underlying22 h1 h2 k k2 n hl hc (by rw [h4]; simp only; omega) (by omega) ?_
  rw [h3, Nat.mul_one]; exact h _ rfl

end Go.Proofs.YthfncdfcklbigaaDoor
