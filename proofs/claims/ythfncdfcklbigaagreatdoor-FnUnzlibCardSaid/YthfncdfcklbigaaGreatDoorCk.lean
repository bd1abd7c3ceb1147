/-
  Several texts in one: Env CardKit Six.
-/
import Derived.Test.YthfncdfcklbigaaGreatDoorPb
import Derived.Test.YthfncdfcklbigaaGreatDoorRows
import Derived.Stop.LaidErr
import Derived.LaidMore
import Derived.OpenShut
import Derived.Test.YthfncdfcklbigaaGreatDoorWb
import Derived.Test.YthfncdfcklbigaaGreatDoorTie
import Derived.Test.YthfncdfcklbigaaGreatDoorCards
import Derived.ChangeSame
import Derived.ChangeSlices
import Derived.Deep.Slices
import Derived.WideKeyArgs
import Derived.ProofKit
import Derived.Stop.Joined
import Derived.SevenTiedAt
set_option linter.unusedVariables false
set_option linter.unusedSimpArgs false
namespace Go.Proofs.YthfncdfcklbigaaGreatDoor
open Go.RowKit Flate
set_option maxRecDepth 100000
theorem starErr : "*" ++ "errors.errorString" = "*errors.errorString" := by decide
theorem rowErr (u : TypeId) (h : Tryz.prog.typeName? 3 u = some "*errors.errorString") : u = 194 :=
 typeName_ptr_named (nm := "errors.errorString") (by rw [starErr]; kernel_rfl) (by kernel_rfl) (by decide) u (by rw [starErr]; exact h)
theorem cellsErr : Tryz.prog.cellsOf 220 = 1 := by kernel_rfl
theorem cellsStr : Tryz.prog.cellsOf 9 = 1 := by kernel_rfl
theorem cellsInt : Tryz.prog.cellsOf 3 = 1 := by kernel_rfl
theorem cellsOrd : Tryz.prog.cellsOf 160 = 19 := by kernel_rfl
theorem laid_one {n : String} {text : List UInt8} {r : List (String × DataW Unit)} {W : World} {g : Nat} {ps : List MemPlace}
 (h : DataW.LaidVars Tryz.prog W ((n, .iface "*errors.errorString" (.ptr (.agg [.lit (.string text)]))) :: r) ps)
 (hrows : ∀ b off, MemPlace.cell b off ∈ ps → (∃ c t, W.heap[b]? = some (.cells c t (0, 0))) ∧ ∀ u v, W.cell? ⟨b, off, none⟩ = some (.iface u v) → Value.okWide Tryz.prog W .any 0 u v)
 (hg : Tryz.prog.globalNamed n = some g) (ht : (Tryz.prog.globals[g]?).map (·.type) = some 53) :
 ∃ (a : Addr) (q : List MemPlace), W.cell? ⟨g, 0, none⟩ = some (errAt a) ∧ (∃ c t, W.heap[a.block]? = some (.cells c t (0, 0))) ∧ a.spot = none ∧ DataW.LaidVars Tryz.prog W r q ∧ ps = .cell g 0 :: .cell a.block a.off :: q := by
 obtain ⟨ms, hi⟩ := underlyingError
 obtain ⟨g0, t0, cs0, f0, p0, q0, hg0, ht0, hv0, hd0, hr, e0⟩ := h
 obtain rfl := Option.some.inj (hg.symm.trans hg0)
 obtain rfl := Option.some.inj (ht.symm.trans ht0)
 subst e0
 obtain ⟨l0⟩ := cs0
 have ok0 : ∀ u v, l0 = [.iface u v] → Value.okWide Tryz.prog W .any 0 u v := fun u v e => by
  subst e; exact (hrows g 0 (by simp [MemPlace.row])).2 u v (by simpa using World.var?_cell hg0 hv0 0)
 obtain ⟨a0, s0, rfl, hc0, hs0, hz0, rfl⟩ := errorString_of_trod hi rowErr Tryz.underlying194 Tryz.underlying220 rfl rfl Tryz.underlying9 cellsErr cellsStr hd0 ok0
 refine ⟨a0, q0, by simpa using World.var?_cell hg0 hv0 0, (hrows a0.block a0.off (by simp [MemPlace.row])).1, World.cell?_spot hc0, hr, by simp [MemPlace.row]⟩
def ordLits : List (DataW Unit) := [.lit (.int .i64 16), .lit (.int .i64 17), .lit (.int .i64 18), .lit (.int .i64 0), .lit (.int .i64 8), .lit (.int .i64 7), .lit (.int .i64 9), .lit (.int .i64 6), .lit (.int .i64 10), .lit (.int .i64 5), .lit (.int .i64 11), .lit (.int .i64 4), .lit (.int .i64 12), .lit (.int .i64 3), .lit (.int .i64 13), .lit (.int .i64 2), .lit (.int .i64 14), .lit (.int .i64 1), .lit (.int .i64 15)]
theorem ordLits_at (i : Nat) (hi : i < 19) : ordLits[i]? = some (.lit (.int .i64 (codeOrder.getD i 0 : Nat))) := by
 have h : i = 0 ∨ i = 1 ∨ i = 2 ∨ i = 3 ∨ i = 4 ∨ i = 5 ∨ i = 6 ∨ i = 7 ∨ i = 8 ∨ i = 9 ∨ i = 10 ∨ i = 11 ∨ i = 12 ∨ i = 13 ∨ i = 14 ∨ i = 15 ∨ i = 16 ∨ i = 17 ∨ i = 18 := by omega
 rcases h with rfl | rfl | rfl | rfl | rfl | rfl | rfl | rfl | rfl | rfl | rfl | rfl | rfl | rfl | rfl | rfl | rfl | rfl | rfl <;> rfl
theorem env_of_laid {W : World} (h : laidMetH Tryz.prog [("io.ErrShortBuffer", Rows.laid_io_ErrShortBuffer), ("io.EOF", Rows.laid_io_EOF), ("io.ErrUnexpectedEOF", Rows.laid_io_ErrUnexpectedEOF), ("crowbar/pub/inflate.codeOrder", Rows.laid_crowbar_pub_inflate_codeOrder), ("crowbar/pub/zlibread.ErrChecksum", Rows.laid_crowbar_pub_zlibread_ErrChecksum), ("crowbar/pub/zlibread.ErrDictionary", Rows.laid_crowbar_pub_zlibread_ErrDictionary), ("crowbar/pub/zlibread.ErrHeader", Rows.laid_crowbar_pub_zlibread_ErrHeader)] W) : ∃ p, Env W W.heap.size p := by
 have h0 : laidMetH Tryz.prog [("io.ErrShortBuffer", Rows.laid_io_ErrShortBuffer), ("io.EOF", Rows.laid_io_EOF), ("io.ErrUnexpectedEOF", Rows.laid_io_ErrUnexpectedEOF), ("crowbar/pub/inflate.codeOrder", Rows.laid_crowbar_pub_inflate_codeOrder), ("crowbar/pub/zlibread.ErrChecksum", Rows.laid_crowbar_pub_zlibread_ErrChecksum), ("crowbar/pub/zlibread.ErrDictionary", Rows.laid_crowbar_pub_zlibread_ErrDictionary), ("crowbar/pub/zlibread.ErrHeader", Rows.laid_crowbar_pub_zlibread_ErrHeader)] W := h
 rw [MakeChecks.laidMetH_plain _ _ _ (by kernel_rfl)] at h0
 obtain ⟨ps, hv0, hnd, hrows0⟩ := h0
 obtain ⟨a1, q1, c1, b1, s1, hv1, rfl⟩ := laid_one (g := 6) hv0 hrows0 (by kernel_rfl) (by kernel_rfl)
 have hrows1 := fun b off hm => hrows0 b off (List.mem_cons_of_mem _ (List.mem_cons_of_mem _ hm))
 obtain ⟨aE, q2, cE, bE, sE, hv2, rfl⟩ := laid_one (g := 0) hv1 hrows1 (by kernel_rfl) (by kernel_rfl)
 have hrows2 := fun b off hm => hrows1 b off (List.mem_cons_of_mem _ (List.mem_cons_of_mem _ hm))
 obtain ⟨aU, q3, cU, bU, sU, hv3, rfl⟩ := laid_one (g := 4) hv2 hrows2 (by kernel_rfl) (by kernel_rfl)
 have hrows3 := fun b off hm => hrows2 b off (List.mem_cons_of_mem _ (List.mem_cons_of_mem _ hm))
 obtain ⟨g0, t0, cs0, f0, p0, q0, hg0, ht0, hvO, hdO, hv4, rfl⟩ := hv3
 obtain rfl := Option.some.inj ((show Tryz.prog.globalNamed "crowbar/pub/inflate.codeOrder" = some 7 by kernel_rfl).symm.trans hg0)
 obtain rfl := Option.some.inj ((show (Tryz.prog.globals[7]?).map (·.type) = some 160 by kernel_rfl).symm.trans ht0)
 have hrows4 := fun b off hm => hrows3 b off (List.mem_append_right _ hm)
 obtain ⟨aC, q4, cC, bC, sC, hv5, rfl⟩ := laid_one (g := 3) hv4 hrows4 (by kernel_rfl) (by kernel_rfl)
 have hrows5 := fun b off hm => hrows4 b off (List.mem_cons_of_mem _ (List.mem_cons_of_mem _ hm))
 obtain ⟨aD, q5, cD, bD, sD, hv6, rfl⟩ := laid_one (g := 2) hv5 hrows5 (by kernel_rfl) (by kernel_rfl)
 have hrows6 := fun b off hm => hrows5 b off (List.mem_cons_of_mem _ (List.mem_cons_of_mem _ hm))
 obtain ⟨aH, q6, cH, bH, sH, hv7, rfl⟩ := laid_one (g := 1) hv6 hrows6 (by kernel_rfl) (by kernel_rfl)
 have hlt : ∀ {a : Addr}, (∃ c t, W.heap[a.block]? = some (.cells c t (0, 0))) → a.block < W.heap.size := fun ⟨c, t, h⟩ => (Array.getElem?_eq_some_iff.1 h).1
 have hne : ∀ {a b : Addr}, a.spot = none → b.spot = none → (MemPlace.cell a.block a.off ≠ MemPlace.cell b.block b.off) → a ≠ b := fun _ _ h e => h (by rw [e])
 have hord : ∀ i, i < 19 → W.cell? ⟨7, i, none⟩ = some (.int .i64 (codeOrder.getD i 0 : Nat)) := fun i hi => by
  obtain ⟨xs, m1, rfl, hx1, hlen, hn3, hel⟩ := DataW.trod_array Tryz.underlying160 hdO; rw [cellsOrd] at hlen; have h1 := hel i hi; rw [cellsInt, Nat.mul_one] at h1; have hxl : xs.map (·.1) = ordLits := by
   have := congrArg Prod.fst hx1; simp only [Rows.laid_crowbar_pub_inflate_codeOrder, DataW.agg.injEq] at this; exact this.symm
  have hy : xs[i]? = some (xs[i]'(by omega)) := List.getElem?_eq_getElem (by omega)
  have hy1 : (xs[i]'(by omega)).1 = .lit (.int .i64 (codeOrder.getD i 0 : Nat)) := by
   have h2 : (xs.map (·.1))[i]? = some (xs[i]'(by omega)).1 := by rw [List.getElem?_map, hy]; rfl
   rw [hxl, ordLits_at i hi] at h2; exact (Option.some.inj h2).symm
  rw [hy] at h1; obtain ⟨k, e1, e2, _⟩ := DataW.trod_int Tryz.underlying3 h1; rw [e2] at hy1; have hk : k = (codeOrder.getD i 0 : Nat) := by simpa using hy1
  have h3 := World.var?_cell hg0 hvO i; have h4 : cs0[i]? = some (.int .i64 k) := by
   have h5 : cs0.toList[i]? = some (.int .i64 k) := by
    have h6 := congrArg (fun l => l[0]?) e1
    simpa [List.getElem?_drop] using h6
   simpa using h5
  rw [h3, h4, hk]
 refine ⟨⟨aE, aU, aH, aD, aC⟩, Nat.le_refl _, ?_, cE, cU, cH, cD, cC, hord, ?_, ?_, ?_⟩
 · have h1 := cell_lt c1; have h2 := cell_lt cE; have h3 := cell_lt cU; have h4 := cell_lt (hord 0 (by omega))
   omega
 · intro x hx; simp only [Ps.all, List.mem_cons, List.not_mem_nil, or_false] at hx; rcases hx with rfl | rfl | rfl | rfl | rfl
   · exact hlt bE
   · exact hlt bU
   · exact hlt bH
   · exact hlt bD
   · exact hlt bC
 · intro x hx; simp only [Ps.all, List.mem_cons, List.not_mem_nil, or_false] at hx; rcases hx with rfl | rfl | rfl | rfl | rfl
   · exact bE
   · exact bU
   · exact bH
   · exact bD
   · exact bC
 · simp only [Ps.all, List.nodup_cons, List.mem_cons, List.not_mem_nil, or_false, not_or, List.nodup_nil, and_true, not_false_eq_true]; refine ⟨⟨?_, ?_, ?_, ?_⟩, ⟨?_, ?_, ?_⟩, ⟨?_, ?_⟩, ?_⟩ <;> (intro e; subst e; exact absurd hnd (by simp [List.nodup_append]))
end Go.Proofs.YthfncdfcklbigaaGreatDoor
namespace Go.Proofs.YthfncdfcklbigaaGreatDoor
open Go.RowKit Go.ChangeShapes Go.WideShapes Go.ChangeAt Flate
set_option maxRecDepth 100000
theorem own : ownKnob Tryz.prog.godebug = none := by kernel_rfl
theorem laidOut : laidOutB Tryz.prog = true := by kernel_rfl
abbrev laidL : List (String × DataW Unit) := [("io.ErrShortBuffer", Rows.laid_io_ErrShortBuffer), ("io.EOF", Rows.laid_io_EOF), ("io.ErrUnexpectedEOF", Rows.laid_io_ErrUnexpectedEOF), ("crowbar/pub/inflate.codeOrder", Rows.laid_crowbar_pub_inflate_codeOrder), ("crowbar/pub/zlibread.ErrChecksum", Rows.laid_crowbar_pub_zlibread_ErrChecksum), ("crowbar/pub/zlibread.ErrDictionary", Rows.laid_crowbar_pub_zlibread_ErrDictionary), ("crowbar/pub/zlibread.ErrHeader", Rows.laid_crowbar_pub_zlibread_ErrHeader)]
theorem door_met (os : Os) (args : Array Value) : laidMetH Tryz.prog laidL ((World.doorLaid Tryz.prog 400 os).forCall (fun _ _ => 0) ⟨#[], args, []⟩).memory :=
 laidMetH_of_parts3 (fuel := 20) (laidMet_of_run' 20 (by kernel_rfl) (by kernel_rfl)) (by kernel_rfl) (by kernel_rfl)
theorem door_shaped (os : Os) (args : Array Value) : ((World.doorLaid Tryz.prog 400 os).forCall (fun _ _ => 0) ⟨#[], args, []⟩).Shaped Tryz.prog :=
 World.shaped_of_RefB (by kernel_rfl) (by kernel_rfl)
section
variable {H : Type} {enc : TypeId × Value → H}
theorem open_bt {W : World} {b0 : Nat} {v : Value} {d : DataW H} {p : List MemPlace} (hval : Value.okWide Tryz.prog W .any b0 22 v) (h : DataW.Trod enc Tryz.prog W 0 (fun _ => true) true 22 v d p) :
 ∃ (b : Option Addr) (l : List UInt8) (cap : Nat), v = .slice b l.length cap ∧ Bt W b l cap ∧ l.length ≤ maxLen := by
 obtain ⟨a1, len, cap, rfl⟩ := okWide_slice Tryz.underlying22 hval
 obtain ⟨fuel, hf⟩ := h
 rcases open_ints Tryz.underlying22 Tryz.underlying5 (by kernel_rfl) hf with ⟨hcs, _⟩ | ⟨a, len', cap', zs, hcs, _, hl, hm, hz, _, hcell, hw⟩
 · simp [Value.cells] at hcs; obtain ⟨rfl, rfl, rfl⟩ := hcs; exact ⟨none, [], 0, rfl, bt_nil W, Nat.zero_le _⟩
 · simp [Value.cells] at hcs; obtain ⟨rfl, rfl, rfl⟩ := hcs; simp only [if_true] at hz; have hlen : ((zs.take len).map fun n => UInt8.ofNat n.toNat).length = len := by simp; omega
   simp only [Value.okWide, Tryz.underlying22, Cell.okWide, Cell.ok] at hval; obtain ⟨_, _, _, hspot, row, cells, hsh, _⟩ := hval; have hlt : a.block < W.heap.size := by
    unfold World.shape? at hsh; rcases Nat.lt_or_ge a.block W.heap.size with q | q
    · exact q
    · rw [Array.getElem?_eq_none q] at hsh; simp at hsh
   refine ⟨some a, (zs.take len).map fun n => UInt8.ofNat n.toNat, cap, by rw [hlen], ⟨⟨hspot, fun j hj => ?_⟩, by rw [hlen]; exact hl, fun x hx => by obtain rfl := Option.some.inj hx; exact hlt, fun h => by simp at h⟩, by rw [hlen]; omega⟩
   rw [hlen] at hj; have hcj := hcell j (by omega)
   obtain ⟨ab, ao, sp⟩ := a; simp only at hspot; subst hspot; rw [Addr.add_lit] at hcj; simp only; rw [hcj]; have e : zs.getD j 0 = zs[j]'(by omega) := by simp [List.getD, List.getElem?_eq_getElem (show j < zs.length by omega)]
   have hb := range_u8 hw j; rw [← List.getD_eq_getElem?_getD, e] at hb; rw [e]; simp only [List.getElem_map, List.getElem_take]
   congr 2
   simp only [UInt8.toNat_ofNat']; omega
theorem open_ints64 {W : World} {b0 : Nat} {v : Value} {d : DataW H} {p : List MemPlace} (hval : Value.okWide Tryz.prog W .any b0 33 v) (h : DataW.Trod enc Tryz.prog W 0 (fun _ => true) true 33 v d p) :
 ∃ (b : Option Addr) (l : List Int) (cap : Nat), v = .slice b l.length cap ∧ It W b l cap ∧ l.length ≤ maxLen := by
 obtain ⟨a1, len, cap, rfl⟩ := okWide_slice Tryz.underlying33 hval
 obtain ⟨fuel, hf⟩ := h
 rcases open_ints Tryz.underlying33 Tryz.underlying3 (by kernel_rfl) hf with ⟨hcs, _⟩ | ⟨a, len', cap', zs, hcs, _, hl, hm, hz, _, hcell, hw⟩
 · simp [Value.cells] at hcs; obtain ⟨rfl, rfl, rfl⟩ := hcs; exact ⟨none, [], 0, rfl, ⟨fun j hj => absurd hj (by simp), fun a ha => by simp at ha, Nat.le_refl _, fun a ha => by simp at ha, fun _ => rfl, fun x hx => absurd hx (by simp)⟩, Nat.zero_le _⟩
 · simp [Value.cells] at hcs; obtain ⟨rfl, rfl, rfl⟩ := hcs; simp only [if_true] at hz; have hlen : (zs.take len).length = len := by rw [List.length_take]; omega
   simp only [Value.okWide, Tryz.underlying33, Cell.okWide, Cell.ok] at hval; obtain ⟨_, _, _, hspot, row, cells, hsh, _⟩ := hval; have hlt : a.block < W.heap.size := by
    unfold World.shape? at hsh; rcases Nat.lt_or_ge a.block W.heap.size with q | q
    · exact q
    · rw [Array.getElem?_eq_none q] at hsh; simp at hsh
   refine ⟨some a, zs.take len, cap, by rw [hlen], ⟨fun j hj => ⟨a, rfl, ?_⟩, fun x hx => by obtain rfl := Option.some.inj hx; exact hspot, by rw [hlen]; exact hl, fun x hx => by obtain rfl := Option.some.inj hx; exact hlt, fun h => by simp at h, fun x hx => bounds_i64 (hw x (List.mem_of_mem_take hx))⟩, by rw [hlen]; omega⟩
   rw [hlen] at hj; have hcj := hcell j (by omega)
   obtain ⟨ab, ao, sp⟩ := a; simp only at hspot; subst hspot; rw [Addr.add_lit] at hcj; simp only; rw [hcj]; simp only [List.getElem_take]
   congr 2
   simp [List.getD, List.getElem?_eq_getElem (show j < zs.length by omega)]
theorem trodAll_keep {P : Program} (hl : laidOutB P = true) {W W' : World} (hf : Frm (fun _ _ => False) W W') {sp : Nat → Bool} :
 ∀ {ts : List TypeId} {vs : List Value} {ds : List (DataW H)} {ps : List MemPlace}, (ts.all fun t => P.readableRec t && decide (t < P.types.size)) = true →
  DataW.TrodAll enc P W 0 (fun _ => true) true ts vs ds ps → (∀ x ∈ ps, x.block < W.heap.size) → (∀ x ∈ ps, sp x.block = true) → DataW.TrodAll enc P W' 0 sp true ts vs ds ps
 | [], _, _, _, _, h, _, _ => by
  obtain ⟨rfl, rfl, rfl⟩ := trodAll_nil h; exact rfl
 | t :: ts, _, _, _, ht, h, hlt, hs => by
  obtain ⟨v, vs, d, ds, p, q, rfl, rfl, rfl, h1, h2⟩ := trodAll_cons h; simp only [List.all_cons, Bool.and_eq_true, decide_eq_true_eq] at ht; refine trodAll_cons_mk (WideElems.Trod_stays hl ht.1.1 ht.1.2 h1 (fun x hx => ?_) (fun x hx => hs x (List.mem_append_left _ hx))) (trodAll_keep hl hf ht.2 h2 (fun x hx => hlt x (List.mem_append_right _ hx)) (fun x hx => hs x (List.mem_append_right _ hx)))
  have hb := hlt x (List.mem_append_left _ hx); have hobj := hf.obj x.block hb (fun o => id)
  cases x with
  | cell b o => exact World.cell?_of_block (a := ⟨b, o, none⟩) hobj
  | map b => exact hobj
theorem post_frm {P : Program} {f : Func} {s : ChangeSpec} {apart fresh handsOn again : Bool} {W W' : World} {args : Array Value} {v : Value} {ds gs : List (DataW H)} {before pa pv : List MemPlace}
 (hW : DataW.Whole enc P f.params.toList s.vars apart W args.toList ds gs before)
 (hres : ∀ (b : Nat) (sp : Nat → Bool) (hd : Bool), DataW.TrodAll enc P W' b sp hd f.resultTypes.toList (v.resultList f.resultTypes.size) (s.fn H (ds ++ gs)).results [])
 (hargs : ∀ sp : Nat → Bool, (∀ p ∈ before, sp p.block = true) → DataW.TrodAll enc P W' 0 sp true f.params.toList args.toList (s.fn H (ds ++ gs)).args pa)
 (hvars : ∀ sp : Nat → Bool, (∀ p ∈ before, sp p.block = true) → DataW.TrodVars enc P W' sp s.vars (s.fn H (ds ++ gs)).vars pv)
 (hps : before = pa ++ pv) (hf : Frm (fun _ _ => False) W W')
 (hok : ∀ (j : Nat) (t : TypeId) (r : Value), f.resultTypes[j]? = some t → (v.resultList f.resultTypes.size)[j]? = some r → Value.okWide P W' .any 0 t r) :
 s.post enc P f apart fresh handsOn again W args v W' := by
 have hb : Below W.heap.size W W' := hf.below (Nat.le_refl _) (fun _ _ e => e.elim)
 have hlt : ∀ p ∈ before, p.block < W.heap.size := fun p hp => hW.lt p hp
 have hold : ∀ p ∈ before, (fun b => decide (b < W.heap.size)) p.block = true := fun p hp => by simpa using hlt p hp
 refine ⟨ds, gs, before, [], pa, pv, hW, hres _ _ _, hargs _ hold, hvars _ hold, World.keptBut_mono (fun p hp => ⟨hp, ?_⟩) (hb.frame (· ∈ before)), fun _ => ?_⟩
 · rw [hps, List.mem_append] at hp; exact Or.inr hp
 · obtain ⟨_, _, _, _, _, hz, hn⟩ := hW; refine ⟨hok, _, _, ([] ++ pa) ++ pv, ⟨[] ++ pa, pv, trodAll_append (hargs _ (fun _ _ => rfl)) (hres _ _ _), hvars _ (fun _ _ => rfl), rfl, ?_, ?_⟩, ?_⟩
   · intro b off hp; have hin : MemPlace.cell b off ∈ before := by rw [hps]; simpa using hp
     rw [hb.frozen (hlt _ hin)]; exact hz b off hin
   · intro ha; have := hn ha; rw [hps] at this
     simpa using this
   · intro p hp _; rw [hps]
     simpa using hp
theorem law_post {P : Program} (hl : laidOutB P = true) {T : TypeId} (hT : P.underlying T = some .bool) {f : Func} {s : ChangeSpec} {W W' : World} {args : Array Value} {ds gs : List (DataW H)} {before : List MemPlace}
 (hW : DataW.Whole enc P f.params.toList s.vars false W args.toList ds gs before) (hv : s.vars = []) (hp : (f.params.toList.all fun t => P.readableRec t && decide (t < P.types.size)) = true)
 (hr : f.resultTypes = #[T]) (hfn : s.fn H ds = { results := [.lit (.bool true)], args := ds }) (hf : Frm (fun _ _ => False) W W') :
 s.post enc P f false true false false W args (.bool true) W' := by
 have hW' := hW
 obtain ⟨p, q, hA, hV, rfl, hz, hn⟩ := hW
 rw [hv] at hV
 obtain ⟨rfl, rfl⟩ := trodVars_none hV
 have hlt : ∀ x ∈ p, x.block < W.heap.size := fun x hx => hW'.lt x (by simpa using hx)
 have hfn' : s.fn H (ds ++ []) = { results := [.lit (.bool true)], args := ds } := by rw [List.append_nil]; exact hfn
 refine post_frm (pa := p) (pv := []) hW' (fun b sp hd => ?_) (fun sp hs => ?_) (fun sp hs => ?_) rfl hf ?_
 · rw [hr, hfn']; exact trodAll_mk1 (shut_bool hT true)
 · rw [hfn']; exact trodAll_keep hl hf hp hA hlt (fun x hx => hs x (by simpa using hx))
 · rw [hv, hfn']; exact rfl
 · exact ok_one hr rfl (okWide_bool_mk hT _)
end
end Go.Proofs.YthfncdfcklbigaaGreatDoor
namespace Go.Proofs.YthfncdfcklbigaaGreatDoor
open Go.RowKit Go.ChangeShapes
set_option maxRecDepth 100000
theorem trodAll_six {H : Type} {enc : TypeId × Value → H} {P : Program} {w : World} {base : Nat} {spare : Nat → Bool} {held : Bool} {t0 t1 t2 t3 t4 t5 : TypeId} {args : Array Value} {ds : List (DataW H)} {ps : List MemPlace} (h : DataW.TrodAll enc P w base spare held [t0, t1, t2, t3, t4, t5] args.toList ds ps) :
 ∃ v0 v1 v2 v3 v4 v5 d0 d1 d2 d3 d4 d5 p0 p1 p2 p3 p4 p5, args = #[v0, v1, v2, v3, v4, v5] ∧ ds = [d0, d1, d2, d3, d4, d5] ∧ ps = p0 ++ p1 ++ p2 ++ p3 ++ p4 ++ p5 ∧ DataW.Trod enc P w base spare held t0 v0 d0 p0 ∧ DataW.Trod enc P w base spare held t1 v1 d1 p1 ∧ DataW.Trod enc P w base spare held t2 v2 d2 p2 ∧
  DataW.Trod enc P w base spare held t3 v3 d3 p3 ∧ DataW.Trod enc P w base spare held t4 v4 d4 p4 ∧ DataW.Trod enc P w base spare held t5 v5 d5 p5 := by
 obtain ⟨v0, vs0, d0, ds0, p0, q0, hargs, rfl, rfl, hd0, h1⟩ := trodAll_cons h
 obtain ⟨v1, vs1, d1, ds1, p1, q1, rfl, rfl, rfl, hd1, h2⟩ := trodAll_cons h1
 obtain ⟨v2, vs2, d2, ds2, p2, q2, rfl, rfl, rfl, hd2, h3⟩ := trodAll_cons h2
 obtain ⟨v3, vs3, d3, ds3, p3, q3, rfl, rfl, rfl, hd3, h4⟩ := trodAll_cons h3
 obtain ⟨v4, vs4, d4, ds4, p4, q4, rfl, rfl, rfl, hd4, h5⟩ := trodAll_cons h4
 obtain ⟨v5, vs5, d5, ds5, p5, q5, rfl, rfl, rfl, hd5, h6⟩ := trodAll_cons h5
 obtain ⟨rfl, rfl, rfl⟩ := trodAll_nil h6
 exact ⟨v0, v1, v2, v3, v4, v5, d0, d1, d2, d3, d4, d5, p0, p1, p2, p3, p4, p5, by cases args; simp_all, rfl, by simp, hd0, hd1, hd2, hd3, hd4, hd5⟩
end Go.Proofs.YthfncdfcklbigaaGreatDoor
