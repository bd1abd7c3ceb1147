/-
  What 'Inflate' gives; where a decompressor's blocks lie.
-/
import Derived.Test.YthfncdfcklbigaaDoorBufs
import Derived.Test.YthfncdfcklbigaaDoorMk
import Derived.Test.YthfncdfcklbigaaDoorErr
set_option linter.unusedVariables false
set_option linter.unusedSimpArgs false
namespace Go.Proofs.YthfncdfcklbigaaDoor
open Go.RowKit Flate
set_option maxRecDepth 100000

/-- What 'Inflate' gives. -/
def InflPost (w : World) (src dict : List UInt8) (e : Ending) (w' : World) : Prop :=
  ∃ v er P X, Infl src dict er P X ∧ e = .returned (.tuple #[v, .int .i64 (faultNum er : Int), .int .i64 ((src.length - P : Nat) : Int)]) ∧ Own w' w.heap.size v X ∧ Frm (fun _ _ => False) w w'

theorem RS.low {F C : Nat} {p : Ps} {d0 : DS} {x0 : Cfg × List UInt8} {k : Nat} {w : World} {d : DS} {H : List UInt8} {n : Nat} {x : Cfg × List UInt8} (h : RS F C p d0 x0 k w d H n x) (hb : ∀ a, d.base = some a → a.block < w.heap.size) : LowD F d w.heap.size where
  F := cell_lt h.st.dec.r
  R := h.st.dec.so.lt
  H := cell_lt (h.st.dec.win 0 (by omega))
  B := by
    obtain ⟨v, hv⟩ := Option.isSome_iff_exists.1 (h.st.dec.bb 0 (by omega))
    exact cell_lt hv
  C := by
    obtain ⟨v, hv⟩ := Option.isSome_iff_exists.1 (h.st.dec.cb 0 (by omega))
    exact cell_lt hv
  S := hb

end Go.Proofs.YthfncdfcklbigaaDoor
