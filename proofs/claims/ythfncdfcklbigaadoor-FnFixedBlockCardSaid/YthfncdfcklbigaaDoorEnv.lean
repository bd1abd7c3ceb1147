/-
  WHAT THE LISTED PACKAGE-LEVEL VARIABLES GIVE A WALK: 'Env'.
-/
import Derived.Test.YthfncdfcklbigaaDoorSrc
import Derived.Test.YthfncdfcklbigaaDoorRows
import Derived.Stop.LaidErr
import Derived.LaidMore
import Derived.OpenShut
set_option linter.unusedVariables false
set_option linter.unusedSimpArgs false
namespace Go.Proofs.YthfncdfcklbigaaDoor
open Go.RowKit Flate
set_option maxRecDepth 100000

theorem starErr : "*" ++ "errors.errorString" = "*errors.errorString" := by decide
theorem rowErr (u : TypeId) (h : Tryd.prog.typeName? 3 u = some "*errors.errorString") : u = 197 :=
  typeName_ptr_named (nm := "errors.errorString") (by rw [starErr]; kernel_rfl) (by kernel_rfl) (by decide) u (by rw [starErr]; exact h)

theorem cellsErr : Tryd.prog.cellsOf 223 = 1 := by kernel_rfl
theorem cellsStr : Tryd.prog.cellsOf 9 = 1 := by kernel_rfl
theorem cellsInt : Tryd.prog.cellsOf 3 = 1 := by kernel_rfl
theorem cellsOrd : Tryd.prog.cellsOf 120 = 19 := by kernel_rfl

/-- The head of the list, a sentinel. -/
theorem laid_one {n : String} {text : List UInt8} {r : List (String × DataW Unit)} {W : World} {g : Nat} {ps : List MemPlace}
    (h : DataW.LaidVars Tryd.prog W ((n, .iface "*errors.errorString" (.ptr (.agg [.lit (.string text)]))) :: r) ps)
    (hrows : ∀ b off, MemPlace.cell b off ∈ ps → (∃ c t, W.heap[b]? = some (.cells c t (0, 0))) ∧ ∀ u v, W.cell? ⟨b, off, none⟩ = some (.iface u v) → Value.okWide Tryd.prog W .any 0 u v)
    (hg : Tryd.prog.globalNamed n = some g) (ht : (Tryd.prog.globals[g]?).map (·.type) = some 62) :
    ∃ (a : Addr) (q : List MemPlace), W.cell? ⟨g, 0, none⟩ = some (errAt a) ∧ (∃ c t, W.heap[a.block]? = some (.cells c t (0, 0))) ∧ a.spot = none ∧ DataW.LaidVars Tryd.prog W r q ∧ ps = .cell g 0 :: .cell a.block a.off :: q := by
  obtain ⟨ms, hi⟩ := underlyingError
  obtain ⟨g0, t0, cs0, f0, p0, q0, hg0, ht0, hv0, hd0, hr, e0⟩ := h
  obtain rfl := Option.some.inj (hg.symm.trans hg0)
  obtain rfl := Option.some.inj (ht.symm.trans ht0)
  subst e0
  obtain ⟨l0⟩ := cs0
  have ok0 : ∀ u v, l0 = [.iface u v] → Value.okWide Tryd.prog W .any 0 u v := fun u v e => by
    subst e
    exact (hrows g 0 (by simp [MemPlace.row])).2 u v (by simpa using World.var?_cell hg0 hv0 0)
  obtain ⟨a0, s0, rfl, hc0, hs0, hz0, rfl⟩ := errorString_of_trod hi rowErr Tryd.underlying197 Tryd.underlying223 rfl rfl Tryd.underlying9 cellsErr cellsStr hd0 ok0
  refine ⟨a0, q0, by simpa using World.var?_cell hg0 hv0 0, (hrows a0.block a0.off (by simp [MemPlace.row])).1, World.cell?_spot hc0, hr, by simp [MemPlace.row]⟩

def ordLits : List (DataW Unit) := [.lit (.int .i64 16), .lit (.int .i64 17), .lit (.int .i64 18), .lit (.int .i64 0), .lit (.int .i64 8), .lit (.int .i64 7), .lit (.int .i64 9), .lit (.int .i64 6), .lit (.int .i64 10), .lit (.int .i64 5), .lit (.int .i64 11), .lit (.int .i64 4), .lit (.int .i64 12), .lit (.int .i64 3), .lit (.int .i64 13), .lit (.int .i64 2), .lit (.int .i64 14), .lit (.int .i64 1), .lit (.int .i64 15)]
theorem ordLits_at (i : Nat) (hi : i < 19) : ordLits[i]? = some (.lit (.int .i64 (codeOrder.getD i 0 : Nat))) := by
  have h : i = 0 ∨ i = 1 ∨ i = 2 ∨ i = 3 ∨ i = 4 ∨ i = 5 ∨ i = 6 ∨ i = 7 ∨ i = 8 ∨ i = 9 ∨ i = 10 ∨ i = 11 ∨ i = 12 ∨ i = 13 ∨ i = 14 ∨ i = 15 ∨ i = 16 ∨ i = 17 ∨ i = 18 := by omega
  rcases h with rfl | rfl | rfl | rfl | rfl | rfl | rfl | rfl | rfl | rfl | rfl | rfl | rfl | rfl | rfl | rfl | rfl | rfl | rfl <;> rfl

theorem env_of_laid {W : World} (h : laidMetH Tryd.prog Rows.fnAheadRow.laid W) : ∃ p, Env W W.heap.size p := by
  have h0 : laidMetH Tryd.prog [("io.ErrShortBuffer", Rows.laid_io_ErrShortBuffer), ("io.EOF", Rows.laid_io_EOF), ("io.ErrUnexpectedEOF", Rows.laid_io_ErrUnexpectedEOF), ("crowbar/pub/inflate.codeOrder", Rows.laid_crowbar_pub_inflate_codeOrder), ("crowbar/pub/zlibread.ErrChecksum", Rows.laid_crowbar_pub_zlibread_ErrChecksum), ("crowbar/pub/zlibread.ErrDictionary", Rows.laid_crowbar_pub_zlibread_ErrDictionary), ("crowbar/pub/zlibread.ErrHeader", Rows.laid_crowbar_pub_zlibread_ErrHeader)] W := h
  rw [MakeChecks.laidMetH_plain _ _ _ (by kernel_rfl)] at h0
  obtain ⟨ps, hv0, hnd, hrows0⟩ := h0
  obtain ⟨a1, q1, c1, b1, s1, hv1, rfl⟩ := laid_one (g := 7) hv0 hrows0 (by kernel_rfl) (by kernel_rfl)
  have hrows1 := fun b off hm => hrows0 b off (List.mem_cons_of_mem _ (List.mem_cons_of_mem _ hm))
  obtain ⟨aE, q2, cE, bE, sE, hv2, rfl⟩ := laid_one (g := 0) hv1 hrows1 (by kernel_rfl) (by kernel_rfl)
  have hrows2 := fun b off hm => hrows1 b off (List.mem_cons_of_mem _ (List.mem_cons_of_mem _ hm))
  obtain ⟨aU, q3, cU, bU, sU, hv3, rfl⟩ := laid_one (g := 4) hv2 hrows2 (by kernel_rfl) (by kernel_rfl)
  have hrows3 := fun b off hm => hrows2 b off (List.mem_cons_of_mem _ (List.mem_cons_of_mem _ hm))
  obtain ⟨g0, t0, cs0, f0, p0, q0, hg0, ht0, hvO, hdO, hv4, rfl⟩ := hv3
  obtain rfl := Option.some.inj ((show Tryd.prog.globalNamed "crowbar/pub/inflate.codeOrder" = some 6 by kernel_rfl).symm.trans hg0)
  obtain rfl := Option.some.inj ((show (Tryd.prog.globals[6]?).map (·.type) = some 120 by kernel_rfl).symm.trans ht0)
  have hrows4 := fun b off hm => hrows3 b off (List.mem_append_right _ hm)
  obtain ⟨aC, q4, cC, bC, sC, hv5, rfl⟩ := laid_one (g := 3) hv4 hrows4 (by kernel_rfl) (by kernel_rfl)
  have hrows5 := fun b off hm => hrows4 b off (List.mem_cons_of_mem _ (List.mem_cons_of_mem _ hm))
  obtain ⟨aD, q5, cD, bD, sD, hv6, rfl⟩ := laid_one (g := 2) hv5 hrows5 (by kernel_rfl) (by kernel_rfl)
  have hrows6 := fun b off hm => hrows5 b off (List.mem_cons_of_mem _ (List.mem_cons_of_mem _ hm))
  obtain ⟨aH, q6, cH, bH, sH, hv7, rfl⟩ := laid_one (g := 1) hv6 hrows6 (by kernel_rfl) (by kernel_rfl)
  have hlt : ∀ {a : Addr}, (∃ c t, W.heap[a.block]? = some (.cells c t (0, 0))) → a.block < W.heap.size := fun ⟨c, t, h⟩ => (Array.getElem?_eq_some_iff.1 h).1
  have hne : ∀ {a b : Addr}, a.spot = none → b.spot = none → (MemPlace.cell a.block a.off ≠ MemPlace.cell b.block b.off) → a ≠ b := fun _ _ h e => h (by rw [e])
  have hord : ∀ i, i < 19 → W.cell? ⟨6, i, none⟩ = some (.int .i64 (codeOrder.getD i 0 : Nat)) := fun i hi => by
    obtain ⟨xs, m1, rfl, hx1, hlen, hn3, hel⟩ := DataW.trod_array Tryd.underlying120 hdO
    rw [cellsOrd] at hlen
    have h1 := hel i hi
    rw [cellsInt, Nat.mul_one] at h1
    have hxl : xs.map (·.1) = ordLits := by
      have := congrArg Prod.fst hx1
      simp only [Rows.laid_crowbar_pub_inflate_codeOrder, DataW.agg.injEq] at this
      exact this.symm
    have hy : xs[i]? = some (xs[i]'(by omega)) := List.getElem?_eq_getElem (by omega)
    have hy1 : (xs[i]'(by omega)).1 = .lit (.int .i64 (codeOrder.getD i 0 : Nat)) := by
      have h2 : (xs.map (·.1))[i]? = some (xs[i]'(by omega)).1 := by rw [List.getElem?_map, hy]; rfl
      rw [hxl, ordLits_at i hi] at h2
      exact (Option.some.inj h2).symm
    rw [hy] at h1
    obtain ⟨k, e1, e2, _⟩ := DataW.trod_int Tryd.underlying3 h1
    rw [e2] at hy1
    have hk : k = (codeOrder.getD i 0 : Nat) := by simpa using hy1
    have h3 := World.var?_cell hg0 hvO i
    have h4 : cs0[i]? = some (.int .i64 k) := by
      have h5 : cs0.toList[i]? = some (.int .i64 k) := by
        have h6 := congrArg (fun l => l[0]?) e1
        simpa [List.getElem?_drop] using h6
      simpa using h5
    rw [h3, h4, hk]
  refine ⟨⟨aE, aU, aH, aD, aC⟩, Nat.le_refl _, ?_, cE, cU, cH, cD, cC, hord, ?_, ?_, ?_⟩
  · have h1 := cell_lt c1
    have h2 := cell_lt cE
    have h3 := cell_lt cU
    have h4 := cell_lt (hord 0 (by omega))
    omega
  · intro x hx
    simp only [Ps.all, List.mem_cons, List.not_mem_nil, or_false] at hx
    rcases hx with rfl | rfl | rfl | rfl | rfl
    · exact hlt bE
    · exact hlt bU
    · exact hlt bH
    · exact hlt bD
    · exact hlt bC
  · intro x hx
    simp only [Ps.all, List.mem_cons, List.not_mem_nil, or_false] at hx
    rcases hx with rfl | rfl | rfl | rfl | rfl
    · exact bE
    · exact bU
    · exact bH
    · exact bD
    · exact bC
  · simp only [Ps.all, List.nodup_cons, List.mem_cons, List.not_mem_nil, or_false, not_or, List.nodup_nil, and_true, not_false_eq_true]
    refine ⟨⟨?_, ?_, ?_, ?_⟩, ⟨?_, ?_, ?_⟩, ⟨?_, ?_⟩, ?_⟩ <;> (intro e; subst e; exact absurd hnd (by simp [List.nodup_append]))

end Go.Proofs.YthfncdfcklbigaaDoor
