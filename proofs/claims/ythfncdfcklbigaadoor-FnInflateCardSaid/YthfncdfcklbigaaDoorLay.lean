/-
  For the walk of 'huffmanDecoder.init': its loops' relations, and laws of steps.
-/
import Derived.Test.YthfncdfcklbigaaDoorCopy
import Derived.Test.YthfncdfcklbigaaDoorRev
import Derived.Deep.DeepCutAuto
set_option linter.unusedVariables false
set_option linter.unusedSimpArgs false
namespace Go.Proofs.YthfncdfcklbigaaDoor
open Go.RowKit Flate
set_option maxRecDepth 100000

/-- An operation whose run is known. -/
theorem wpList_run {P : Program} {ops : Array Oper} {rest : List Oper} {o : Oper} {a : Act} {w w' : World} {v : Value} {Q : Exit → Act → World → Prop} (hgd : o.guard = none)
    (hrun : (execOp a.eval o).run P w = .ok (.value v) w') (h : wpList P ops Q rest (a.put o.dst v) w') : wpList P ops Q (o :: rest) a w := by
  refine wpList_plain hgd fun K hK => ?_
  unfold Oper.wp
  rw [hrun]
  exact hK _ _ h
theorem wpList_skip_run {P : Program} {ops : Array Oper} {rest : List Oper} {o : Oper} {a : Act} {w w' : World} {Q : Exit → Act → World → Prop} (hgd : o.guard = none)
    (hrun : (execOp a.eval o).run P w = .ok .skip w') (h : wpList P ops Q rest (a.put o.dst undef) w') : wpList P ops Q (o :: rest) a w := by
  refine wpList_plain hgd fun K hK => ?_
  unfold Oper.wp
  rw [hrun]
  exact hK _ _ h

/-- A whole variable stored. -/
theorem run_store_agg {P : Program} {o : Oper} {ρ : Operand → Value} {w : World} (t : TypeId) (x y : Operand) (ho : o.op = .store t x y) (b k n : Nat) (cs : Array Value) (hx : ρ x = .pointer (some ⟨b, k, none⟩)) (hy : ρ y = .agg cs)
    (hs : (P.info? t).map (·.size) = some n) (hn : cs.size = n) (hc : ∀ j, j < n → (w.cell? ⟨b, k + j, none⟩).isSome = true) (hf : ∀ j, j < n → w.frozen? ⟨b, k + j, none⟩ = false) (h1 : ∀ v ∈ cs.toList, v.oneCell' = true) :
    (execOp ρ o).run P w = .ok .skip (w.setCells b k cs.toList) := by
  obtain ⟨i, hi, hsz⟩ := Option.map_eq_some_iff.1 hs
  have hst := run_storeCells_cells (P := P) b k cs.toList 0 w (by intro j hj; rw [Nat.add_zero]; exact hc j (by simp at hj; omega)) (by intro j hj; rw [Nat.add_zero]; exact hf j (by simp at hj; omega)) h1
  rw [Nat.add_zero] at hst
  simp [execOp, ho, hx, hy, Instr.storeAt, Instr.sureAddr, storeVar, sizeOf, typeInfo, hi, hsz, Value.cells, hn, hst]

/-- The zero of a table. -/
def zeroTab : Array Value := (([.int .i64 0] ++ List.replicate 512 (.int .u32 0) ++ [.slice none 0 0, .int .u32 0] : List Value)).toArray

theorem run_build_tab (ρ : Operand → Value) (w : World) (dst : Option Tmp) (ty : TypeId) (pos : String) (after : Array Edge) : (execOp ρ ⟨dst, .build 108 #[], ty, pos, after, none⟩).run Tryd.prog w = .ok (.value (.agg zeroTab)) w := by kernel_rfl

theorem zt_mid {α : Type} (n : Nat) (a x : α) (c : List α) (i : Nat) (h : i < n) : ([a] ++ List.replicate n x ++ c)[1 + i]? = some x := by
  rw [List.getElem?_append_left (by simp; omega), List.getElem?_append_right (by simp)]
  simp [h]
theorem zt_end {α : Type} (n : Nat) (a x : α) (c : List α) (i : Nat) : ([a] ++ List.replicate n x ++ c)[1 + n + i]? = c[i]? := by
  rw [List.getElem?_append_right (by simp; omega)]
  congr 1; simp; omega
theorem rep_getD (n i : Nat) : (List.replicate n 0).getD i 0 = 0 := by
  rw [List.getD_eq_getElem?_getD, List.getElem?_replicate]; split <;> rfl

theorem zeroTab_len : zeroTab.toList.length = 515 := by kernel_rfl
theorem zeroTab_one : ∀ v ∈ zeroTab.toList, v.oneCell' = true := by
  intro v hv
  simp only [zeroTab, List.mem_append, List.mem_replicate] at hv
  rcases hv with (hv | hv) | hv
  · simp at hv; subst hv; rfl
  · rw [hv.2]; rfl
  · simp at hv; rcases hv with rfl | rfl <;> rfl

theorem zeroTab_at (w : World) (B o : Nat) (N : Nat → Prop) (hc : ∀ j, j < 515 → (w.cell? ⟨B, o + j, none⟩).isSome = true) : TabAt (w.setCells B o zeroTab.toList) B o emptyTab N := by
  have key : ∀ j v, j < 515 → zeroTab.toList[j]? = some v → (w.setCells B o zeroTab.toList).cell? ⟨B, o + j, none⟩ = some v := by
    intro j v hj hv
    rw [World.cell?_setCells_in B zeroTab.toList o w (by rw [zeroTab_len]; exact hc) j (by rw [zeroTab_len]; exact hj)]
    rw [← hv, List.getElem?_eq_getElem]
  refine ⟨key 0 _ (by omega) rfl, fun i hi => ?_, ?_, fun _ => ?_, fun h => absurd rfl h⟩
  · have e : emptyTab.chunks.getD i 0 = 0 := rep_getD 512 i
    rw [e, Nat.add_assoc]
    exact key (1 + i) _ (by omega) (zt_mid 512 _ _ _ i hi)
  · exact key 514 _ (by omega) (zt_end 512 _ _ _ 1)
  · exact key 513 _ (by omega) (zt_end 512 _ _ _ 0)

/-- The lengths in memory. -/
def Lens (w : World) (X xo : Nat) (lens : List Nat) : Prop := ∀ j, j < lens.length → w.cell? ⟨X, xo + j, none⟩ = some (.int .i64 ((lens.getD j 0 : Nat) : Int))

/-- A row of whole numbers in a block of its own. -/
def Ints (w : World) (X : Nat) (l : List Nat) : Prop := (∀ j, j < l.length → w.cell? ⟨X, j, none⟩ = some (.int .i64 ((l.getD j 0 : Nat) : Int))) ∧ ∀ o, w.frozen? ⟨X, o, none⟩ = false

theorem Ints.set {w : World} {X j : Nat} {l : List Nat} (h : Ints w X l) (hj : j < l.length) (v : Nat) : Ints (w.setCell ⟨X, j, none⟩ (.int .i64 (v : Int))) X (l.set j v) := by
  refine ⟨fun i hi => ?_, fun o => by rw [World.frozen?_setCell]; exact h.2 o⟩
  rw [List.length_set] at hi
  rw [getD_set]
  by_cases e : j = i
  · subst e; rw [if_pos ⟨rfl, hj⟩]; exact set_get (h.1 j hj)
  · rw [if_neg (fun q => e q.1), cell_set_off (fun q => e q.symm)]; exact h.1 i hi

theorem Ints.drewN {w : World} {X : Nat} {l : List Nat} (h : Ints w X l) (n : Nat) : Ints (w.drewN n) X l := ⟨h.1, h.2⟩

theorem Ints.keep {S : Nat → Nat → Prop} {w w' : World} {X : Nat} {l : List Nat} (h : Ints w X l) (hf : Frm S w w') (hS : ∀ o, ¬ S X o) (h0 : 0 < l.length) : Ints w' X l :=
  ⟨fun j hj => hf.keep (h.1 j hj) (hS j), fun o => (hf.froz X o (cell_lt (h.1 0 h0))).trans (h.2 o)⟩

theorem TabAt.keep_empty {S : Nat → Nat → Prop} {w w' : World} {B o : Nat} {N N' : Nat → Prop} (h : TabAt w B o emptyTab N) (hf : Frm S w w') (hB : ∀ k, o ≤ k → k < o + 515 → ¬ S B k) : TabAt w' B o emptyTab N' :=
  ⟨hf.keep h.min (hB _ (by omega) (by omega)), fun i hi => hf.keep (h.ch i hi) (hB _ (by omega) (by omega)), hf.keep h.mask (hB _ (by omega) (by omega)), fun e => hf.keep (h.none_ e) (hB _ (by omega) (by omega)), fun e => absurd rfl e⟩

/-- A new row of noughts. -/
theorem Ints.new (w : World) (t : TypeId) : Ints (w.alloc (.cells #[.int .i64 0, .int .i64 0, .int .i64 0, .int .i64 0, .int .i64 0, .int .i64 0, .int .i64 0, .int .i64 0, .int .i64 0, .int .i64 0, .int .i64 0, .int .i64 0, .int .i64 0, .int .i64 0, .int .i64 0, .int .i64 0] t)) w.heap.size (List.replicate 16 0) := by
  refine ⟨fun j hj => ?_, fun o => by rw [World.frozen?_alloc_new]⟩
  rw [World.cell?_alloc_new]
  simp only [List.length_replicate] at hj
  match j, hj with
  | 0, _ | 1, _ | 2, _ | 3, _ | 4, _ | 5, _ | 6, _ | 7, _ | 8, _ | 9, _ | 10, _ | 11, _ | 12, _ | 13, _ | 14, _ | 15, _ => rfl
  | n + 16, h => exact absurd h (by omega)

/-- The cells that 'init' may turn. -/
def ST (B o : Nat) (b k : Nat) : Prop := b = B ∧ o ≤ k ∧ k < o + 515

/-- A table before 'init': it is empty, or it says so. -/
def TabPre (w : World) (B o : Nat) (N : Nat → Prop) : Prop := (∃ m : Int, m ≠ 0 ∧ w.cell? ⟨B, o, none⟩ = some (.int .i64 m)) ∨ TabAt w B o emptyTab N

/-- What 'init' gives. -/
def InitPost (w : World) (B o : Nat) (lens : List Nat) (e : Ending) (w' : World) : Prop :=
  match initTab lens with
  | none => False
  | some none => e = .returned (.bool false) ∧ TabAt w' B o emptyTab (fun b => w.heap.size ≤ b) ∧ Frm (ST B o) w w'
  | some (some T) => e = .returned (.bool true) ∧ TabAt w' B o T (fun b => w.heap.size ≤ b) ∧ Frm (ST B o) w w'

/-- The first loop: the lengths are counted. -/
def CntInv (w : World) (B o : Nat) (lens : List Nat) (cb : Nat) (mn mx i : Value) (wr : World) : Prop :=
  ∃ k : Nat, k ≤ lens.length ∧ i = .int .i64 (k : Int) ∧ mn = .int .i64 (((lens.take k).foldl cntStep cnt0).min : Nat) ∧ mx = .int .i64 (((lens.take k).foldl cntStep cnt0).max : Nat) ∧
    Ints wr cb ((lens.take k).foldl cntStep cnt0).count ∧ TabAt wr B o emptyTab (fun b => w.heap.size ≤ b) ∧ Frm (ST B o) w wr

/-- The second loop: the first codes. -/
def NxInv (w : World) (B o : Nat) (c : Cnt) (cb nb : Nat) (code i : Value) (wr : World) : Prop :=
  ∃ (x k : Nat) (nx : List Nat), code = .int .i64 (x : Int) ∧ i = .int .i64 (k : Int) ∧ nextFrom c.count (c.max + 1 - k) k x nx = nextAll c ∧ x + 320 ≤ 320 * 2 ^ k ∧ nx.length = 16 ∧ k ≤ 16 ∧ (∀ j, nx.getD j 0 ≤ 20971520) ∧
    Ints wr nb nx ∧ Ints wr cb c.count ∧ TabAt wr B o emptyTab (fun b => w.heap.size ≤ b) ∧ Frm (ST B o) w wr

/-- A table that is being built; row k of the links lies in block L + 1 + k. -/
structure BA (w : World) (B o base mn mk m L : Nat) (b : Bld) : Prop where
  min : w.cell? ⟨B, o, none⟩ = some (.int .i64 (mn : Int))
  ch : ∀ i, i < 512 → w.cell? ⟨B, o + 1 + i, none⟩ = some (.int .u32 (b.chunks.getD i 0 : Nat))
  clen : b.chunks.length = 512
  mask : w.cell? ⟨B, o + 514, none⟩ = some (.int .u32 (mk : Int))
  none_ : b.links = [] → w.cell? ⟨B, o + 513, none⟩ = some (.slice none 0 0)
  some_ : b.links ≠ [] → base ≤ L ∧ w.cell? ⟨B, o + 513, none⟩ = some (.slice (some ⟨L, 0, none⟩) b.links.length b.links.length)
  row : ∀ k, k < b.links.length → w.cell? ⟨L, k, none⟩ = some (.slice (some ⟨L + 1 + k, 0, none⟩) m m) ∧ (b.links.getD k []).length = m ∧
    ∀ j, j < m → w.cell? ⟨L + 1 + k, j, none⟩ = some (.int .u32 (((b.links.getD k []).getD j 0 : Nat) : Int))
  frz : ∀ k o, b.links ≠ [] → k ≤ b.links.length → w.frozen? ⟨L + k, o, none⟩ = false

/-- The third loop: the links are laid. -/
def LkInv (w : World) (B o nb : Nat) (nx : List Nat) (mn mk m L q : Nat) (j : Value) (wr : World) : Prop :=
  ∃ k : Nat, q + k ≤ 512 ∧ j = .int .u64 ((q + k : Nat) : Int) ∧ wr.heap.size = L + 1 + k ∧ wr.cell? ⟨B, o, none⟩ = some (.int .i64 (mn : Int)) ∧ wr.cell? ⟨B, o + 514, none⟩ = some (.int .u32 (mk : Int)) ∧
    wr.cell? ⟨B, o + 513, none⟩ = some (.slice (some ⟨L, 0, none⟩) (512 - q) (512 - q)) ∧
    (∀ i, i < 512 → wr.cell? ⟨B, o + 1 + i, none⟩ = some (.int .u32 ((linkTo q (List.replicate 512 0) k).getD i 0 : Nat))) ∧
    (∀ i, i < 512 - q → wr.cell? ⟨L, i, none⟩ = some (if i < k then .slice (some ⟨L + 1 + i, 0, none⟩) m m else .slice none 0 0)) ∧
    (∀ i j, i < k → j < m → wr.cell? ⟨L + 1 + i, j, none⟩ = some (.int .u32 0)) ∧ (∀ i o, i ≤ k → wr.frozen? ⟨L + i, o, none⟩ = false) ∧
    Ints wr nb nx ∧ Frm (ST B o) w wr

/-- The fourth loop: the symbols are laid. -/
def SyInv (w : World) (B o nb : Nat) (lens : List Nat) (mn mk m L : Nat) (tot : Option Bld) (i : Value) (wr : World) : Prop :=
  ∃ (k : Nat) (b : Bld), k ≤ lens.length ∧ i = .int .i64 (k : Int) ∧ symAll b k (lens.drop k) = tot ∧ BA wr B o w.heap.size mn mk m L b ∧ Ints wr nb b.next ∧ b.next.length = 16 ∧ (∀ n, b.next.getD n 0 ≤ 20971520 + k) ∧ Frm (ST B o) w wr

/-- 'make([]T, n)' with a block of n noughts. -/
theorem wpList_make {P : Program} {ops : Array Oper} {rest : List Oper} {o : Oper} {a : Act} {w : World} {Q : Exit → Act → World → Prop} (hgd : o.guard = none) (t : TypeId) (l c : Operand) (ho : o.op = .makeSlice t l c)
    (e : TypeId) (i : TypeInfo) (z : Value) (ht : P.underlying t = some (.slice e)) (hi : P.info? e = some i) (hz : i.zero = some z) (k k2 : IntKind) (n : Nat) (hl : a.eval l = .int k (n : Int)) (hc : a.eval c = .int k2 (n : Int))
    (hb : i.bytes * n ≤ 281474976710656) (hn : n ≤ 4294967296)
    (h : wpList P ops Q rest (a.put o.dst (.slice (some ⟨w.heap.size, 0, none⟩) n n)) (w.alloc (.cells (madeCells z.cells (n * i.size)) e))) : wpList P ops Q (o :: rest) a w := by
  have hr := run_make (P := P) w t e i z ht hi hz k k2 n n (by omega) (by omega) (by rw [← Int.natCast_mul]; omega) (by omega)
  rw [Int.toNat_natCast] at hr
  refine wpList_plain hgd fun K hK => ?_
  unfold Oper.wp
  simp [execOp, ho, hl, hc, hr, Result.andThen]
  exact hK _ _ h

theorem step_make {P : Program} {ops : Array Oper} {o : Oper} {a : Act} {w : World} {K : Act → World → Prop} {Q : Exit → Act → World → Prop} {E : Prop} (hgd : o.guard = none) (t : TypeId) (l c : Operand) (ho : o.op = .makeSlice t l c)
    (e : TypeId) (i : TypeInfo) (z : Value) (ht : P.underlying t = some (.slice e)) (hi : P.info? e = some i) (hz : i.zero = some z) (k k2 : IntKind) (n : Nat) (hl : a.eval l = .int k (n : Int)) (hc : a.eval c = .int k2 (n : Int))
    (hb : i.bytes * n ≤ 281474976710656) (hn : n ≤ 4294967296)
    (h : K (a.put o.dst (.slice (some ⟨w.heap.size, 0, none⟩) n n)) (w.alloc (.cells (madeCells z.cells (n * i.size)) e))) :
    if Region.wanted o (yielded ops a.tmps) = true then Oper.wp P o a w K Q else E := by
  have hw : Region.wanted o (yielded ops a.tmps) = true := by simp [Region.wanted, hgd]
  rw [if_pos hw]
  have hr := run_make (P := P) w t e i z ht hi hz k k2 n n (by omega) (by omega) (by rw [← Int.natCast_mul]; omega) (by omega)
  rw [Int.toNat_natCast] at hr
  unfold Oper.wp
  simp [execOp, ho, hl, hc, hr, Result.andThen]
  exact h

theorem made_get (z : Value) (n j : Nat) (hj : j < n) : (madeCells #[z] n)[j]? = some z := by
  simp [madeCells, hj, Nat.mod_one]

theorem new_row (w : World) (z : Value) (e : TypeId) (n j : Nat) (hj : j < n) : (w.alloc (.cells (madeCells #[z] n) e)).cell? ⟨w.heap.size, j, none⟩ = some z := by
  rw [World.cell?_alloc_new]
  exact made_get z n j hj

theorem linkTo_len (q : Nat) (l : List Nat) (k : Nat) : (linkTo q l k).length = l.length := by
  induction k with
  | zero => rfl
  | succ k ih => rw [linkTo, List.length_set, ih]

/-- One link more. -/
theorem lk_next {w wr : World} {B o nb : Nat} {nx : List Nat} {mn mk m L q k : Nat} (ty : TypeId) (n2 : Nat) (h : LkInv w B o nb nx mn mk m L q (.int .u64 ((q + k : Nat) : Int)) wr) (hlt : q + k < 512) (HB : B < w.heap.size) (hL : w.heap.size ≤ L) (hnb : nb < L) (hnB : nb ≠ B) (hnx : 0 < nx.length) :
    LkInv w B o nb nx mn mk m L q (.int .u64 ((q + (k + 1) : Nat) : Int))
      (((((wr.drewN n2).setCell ⟨B, o + 1 + revB 9 (q + k), none⟩ (.int .u32 ((k : Int) * 16 + 10))).alloc (.cells (madeCells #[.int .u32 0] m) ty)).setCell ⟨L, k, none⟩ (.slice (some ⟨L + 1 + k, 0, none⟩) m m)).drew) := by
  obtain ⟨k', hk, e, hsz, d0, dM, d3, dch, dl, dr, df, dI, dF⟩ := h
  obtain rfl : k' = k := by
    have := congrArg intOf e
    simp [intOf] at this; omega
  have r9 : revB 9 (q + k') < 512 := revB_lt 9 _
  obtain ⟨r, hr⟩ : ∃ r, r = revB 9 (q + k') := ⟨_, rfl⟩
  rw [← hr] at r9 ⊢
  have LB : L ≠ B := by omega
  obtain ⟨w3, hw3⟩ : ∃ w3, w3 = (wr.drewN n2).setCell ⟨B, o + 1 + r, none⟩ (.int .u32 ((k' : Int) * 16 + 10)) := ⟨_, rfl⟩
  have s3 : w3.heap.size = L + 1 + k' := by rw [hw3]; simp [World.setCell, hsz]
  have f3 : Frm (fun b x => b = B ∧ x = o + 1 + r) wr w3 := by rw [hw3]; (repeat (first | exact Frm.refl _ _ | refine Frm.drewN ?_ _ | refine Frm.drew ?_ | refine Frm.alloc ?_ _ | refine Frm.setCell ?_ (by simp) _))
  obtain ⟨w4, hw4⟩ : ∃ w4, w4 = w3.alloc (.cells (madeCells #[.int .u32 0] m) ty) := ⟨_, rfl⟩
  have s4 : w4.heap.size = L + 1 + (k' + 1) := by rw [hw4]; simp [s3]; omega
  have f4 : Frm (fun _ _ => False) w3 w4 := by rw [hw4]; (repeat (first | exact Frm.refl _ _ | refine Frm.drewN ?_ _ | refine Frm.drew ?_ | refine Frm.alloc ?_ _ | refine Frm.setCell ?_ (by simp) _))
  have n4 : ∀ j, j < m → w4.cell? ⟨L + 1 + k', j, none⟩ = some (.int .u32 0) := by
    intro j hj; rw [hw4, ← s3]; exact new_row w3 _ ty m j hj
  have z4 : ∀ o, w4.frozen? ⟨L + 1 + k', o, none⟩ = false := by intro o; rw [hw4, ← s3]; exact World.frozen?_alloc_new ..
  have f34 : Frm (fun b x => b = B ∧ x = o + 1 + r) wr w4 := f3.trans (f4.mono fun _ _ e => e.elim)
  rw [← hw3, ← hw4]
  obtain ⟨w5, hw5⟩ : ∃ w5, w5 = (w4.setCell ⟨L, k', none⟩ (.slice (some ⟨L + 1 + k', 0, none⟩) m m)).drew := ⟨_, rfl⟩
  rw [← hw5]
  have s5 : w5.heap.size = L + 1 + (k' + 1) := by rw [hw5]; show (w4.setCell _ _).heap.size = _; simp [World.setCell, s4]
  have f5 : Frm (fun b x => b = L ∧ x = k') w4 w5 := by rw [hw5]; (repeat (first | exact Frm.refl _ _ | refine Frm.drewN ?_ _ | refine Frm.drew ?_ | refine Frm.alloc ?_ _ | refine Frm.setCell ?_ (by simp) _))
  have g2 := dl k' (by omega)
  rw [if_neg (by omega)] at g2
  have c5 : w5.cell? ⟨L, k', none⟩ = some (.slice (some ⟨L + 1 + k', 0, none⟩) m m) := by
    rw [hw5]
    exact set_get (f34.keep g2 (fun e => LB e.1))
  have both : ∀ {b x v}, wr.cell? ⟨b, x, none⟩ = some v → ¬ (b = B ∧ x = o + 1 + r) → ¬ (b = L ∧ x = k') → w5.cell? ⟨b, x, none⟩ = some v := fun hc h1 h2 => f5.keep (f34.keep hc h1) h2
  refine ⟨k' + 1, by omega, rfl, s5, both d0 (by omega) (by omega), both dM (by omega) (by omega), both d3 (by omega) (by omega), fun i hi => ?_, fun i hi => ?_, fun i j hi hj => ?_, fun i x hi => ?_, ?_, ?_⟩
  · rw [linkTo, getD_set, ← hr, linkTo_len, List.length_replicate]
    by_cases e : r = i
    · subst e
      rw [if_pos ⟨rfl, hi⟩]
      refine f5.keep (f4.keep ?_ (fun e => e)) (fun e => LB e.1.symm)
      rw [hw3]
      exact set_get (dch r hi)
    · rw [if_neg (fun q => e q.1)]
      exact both (dch i hi) (by omega) (by omega)
  · by_cases e : i = k'
    · subst e; rw [if_pos (by omega)]; exact c5
    · have := dl i hi
      by_cases e2 : i < k'
      · rw [if_pos e2] at this; rw [if_pos (by omega)]; exact both this (fun e => LB e.1) (fun q => e q.2)
      · rw [if_neg e2] at this; rw [if_neg (by omega)]; exact both this (fun e => LB e.1) (fun q => e q.2)
  · by_cases e : i = k'
    · subst e; exact f5.keep (n4 j hj) (by omega)
    · exact both (dr i j (by omega) hj) (by omega) (by omega)
  · by_cases e : i = k' + 1
    · subst e
      rw [show L + (k' + 1) = L + 1 + k' by omega]
      exact (f5.froz _ _ (by omega)).trans (z4 x)
    · have h1 := df i x (by omega)
      exact (f5.froz _ _ (by omega)).trans ((f34.froz _ _ (by omega)).trans h1)
  · exact (dI.keep f34 (fun _ e => hnB e.1) hnx).keep f5 (fun _ e => by omega) hnx
  · refine (dF.trans' f34 (S' := fun b x => b = B ∧ x = o + 1 + r) (fun b x _ e => ⟨e.1, by omega, by omega⟩)).trans' f5 (fun b x hb e => by omega)

theorem lk_start {w wc : World} {B o nb : Nat} {nx : List Nat} {mn mk m L q : Nat} {N : Nat → Prop} (ty : TypeId) (hT : TabAt wc B o emptyTab N) (hF : Frm (ST B o) w wc) (hI : Ints wc nb nx) (hL : wc.heap.size = L) (hq : q < 512) (hnB : nb ≠ B) (hnx : 0 < nx.length) :
    LkInv w B o nb nx mn mk m L q (.int .u64 (q : Int))
      ((((wc.setCell ⟨B, o, none⟩ (.int .i64 (mn : Int))).setCell ⟨B, o + 514, none⟩ (.int .u32 (mk : Int))).alloc (.cells (madeCells #[.slice none 0 0] (512 - q)) ty)).setCell ⟨B, o + 513, none⟩ (.slice (some ⟨L, 0, none⟩) (512 - q) (512 - q))) := by
  have HB := cell_lt hT.min
  obtain ⟨w2, hw2⟩ : ∃ w2, w2 = (wc.setCell ⟨B, o, none⟩ (.int .i64 (mn : Int))).setCell ⟨B, o + 514, none⟩ (.int .u32 (mk : Int)) := ⟨_, rfl⟩
  have f2 : Frm (fun b x => b = B ∧ (x = o ∨ x = o + 514)) wc w2 := by rw [hw2]; (repeat (first | exact Frm.refl _ _ | refine Frm.drewN ?_ _ | refine Frm.drew ?_ | refine Frm.alloc ?_ _ | refine Frm.setCell ?_ (by simp) _))
  have s2 : w2.heap.size = L := by rw [hw2]; simp [World.setCell, hL]
  have c0 : w2.cell? ⟨B, o, none⟩ = some (.int .i64 (mn : Int)) := by rw [hw2, cell_set_off (by omega)]; exact set_get hT.min
  have c1 : w2.cell? ⟨B, o + 514, none⟩ = some (.int .u32 (mk : Int)) := by
    rw [hw2]; exact set_get (u := .int .u32 ((emptyTab.mask : Nat) : Int)) (by rw [cell_set_off (by omega)]; exact hT.mask)
  rw [← hw2]
  obtain ⟨w3, hw3⟩ : ∃ w3, w3 = w2.alloc (.cells (madeCells #[.slice none 0 0] (512 - q)) ty) := ⟨_, rfl⟩
  have f3 : Frm (fun _ _ => False) w2 w3 := by rw [hw3]; (repeat (first | exact Frm.refl _ _ | refine Frm.drewN ?_ _ | refine Frm.drew ?_ | refine Frm.alloc ?_ _ | refine Frm.setCell ?_ (by simp) _))
  have n3 : ∀ j, j < 512 - q → w3.cell? ⟨L, j, none⟩ = some (.slice none 0 0) := by
    intro j hj; rw [hw3, ← s2]; exact new_row w2 _ ty _ j hj
  have z3 : ∀ x, w3.frozen? ⟨L, x, none⟩ = false := by intro x; rw [hw3, ← s2]; exact World.frozen?_alloc_new ..
  have s3 : w3.heap.size = L + 1 := by rw [hw3]; simp [s2]
  rw [← hw3]
  obtain ⟨w4, hw4⟩ : ∃ w4, w4 = w3.setCell ⟨B, o + 513, none⟩ (.slice (some ⟨L, 0, none⟩) (512 - q) (512 - q)) := ⟨_, rfl⟩
  have f4 : Frm (fun b x => b = B ∧ x = o + 513) w3 w4 := by rw [hw4]; (repeat (first | exact Frm.refl _ _ | refine Frm.drewN ?_ _ | refine Frm.drew ?_ | refine Frm.alloc ?_ _ | refine Frm.setCell ?_ (by simp) _))
  have s4 : w4.heap.size = L + 1 := by rw [hw4]; simp [World.setCell, s3]
  have h3 : w3.cell? ⟨B, o + 513, none⟩ = some (.slice none 0 0) := f3.keep (f2.keep (hT.none_ rfl) (by omega)) (fun e => e)
  have c4 : w4.cell? ⟨B, o + 513, none⟩ = some (.slice (some ⟨L, 0, none⟩) (512 - q) (512 - q)) := by rw [hw4]; exact set_get h3
  rw [← hw4]
  refine ⟨0, by omega, rfl, s4, f4.keep (f3.keep c0 (fun e => e)) (by omega), f4.keep (f3.keep c1 (fun e => e)) (by omega), c4, fun i hi => ?_, fun i hi => ?_, fun i j hi _ => by omega, fun i x hi => ?_, ?_, ?_⟩
  · exact f4.keep (f3.keep (f2.keep (hT.ch i hi) (by omega)) (fun e => e)) (by omega)
  · rw [if_neg (by omega)]; exact f4.keep (n3 i hi) (by omega)
  · obtain rfl : i = 0 := by omega
    exact (f4.froz _ _ (by omega)).trans (z3 x)
  · exact ((hI.keep f2 (fun _ e => hnB e.1) hnx).keep f3 (fun _ e => e) hnx).keep f4 (fun _ e => hnB e.1) hnx
  · refine ((hF.trans (f2.mono fun b x e => ?_)).trans (f3.mono fun _ _ e => e.elim)).trans (f4.mono fun b x e => ?_)
    · exact ⟨e.1, by omega, by omega⟩
    · exact ⟨e.1, by omega, by omega⟩

/-- The links are laid. -/
theorem lk_done {w wr : World} {B o nb : Nat} {nx : List Nat} {mn mk m L q k mx : Nat} (h : LkInv w B o nb nx mn mk m L q (.int .u64 ((q + k : Nat) : Int)) wr) (hk : q + k = 512) (h9 : 9 < mx) (hq : nx.getD 10 0 / 2 = q) (hq2 : q < 512)
    (hm : m = 2 ^ (mx - 9)) (hL : w.heap.size ≤ L) : BA wr B o w.heap.size mn mk m L (bld0 mx nx) ∧ Ints wr nb nx ∧ Frm (ST B o) w wr := by
  obtain ⟨k', hk', e, hsz, d0, dM, d3, dch, dl, dr, df, dI, dF⟩ := h
  obtain rfl : k' = k := by
    have := congrArg intOf e
    simp [intOf] at this; omega
  obtain rfl : k' = 512 - q := by omega
  have hb : bld0 mx nx = { next := nx, chunks := linkTo q (List.replicate 512 0) (512 - q), links := List.replicate (512 - q) (List.replicate m 0) } := by
    unfold bld0; rw [if_pos h9, hq, hm]
  rw [hb]
  have gd : ∀ i, i < 512 - q → (List.replicate (512 - q) (List.replicate m 0)).getD i [] = List.replicate m 0 := by
    intro i hi
    rw [List.getD_eq_getElem?_getD, List.getElem?_replicate, if_pos hi]; rfl
  refine ⟨⟨d0, dch, by simp [linkTo_len], dM, fun e => ?_, fun _ => ?_, fun i hi => ?_, fun i x _ hi => ?_⟩, dI, dF⟩
  · have := congrArg List.length e
    simp at this; omega
  · refine ⟨hL, ?_⟩
    simp only [List.length_replicate]; exact d3
  · simp only [List.length_replicate] at hi
    have := dl i hi
    rw [if_pos hi] at this
    refine ⟨this, ?_, fun j hj => ?_⟩
    · rw [gd i hi]; simp
    · rw [gd i hi, rep_getD]; exact dr i j hi hj
  · simp only [List.length_replicate] at hi
    exact df i x hi

theorem or16 (k n : Nat) (hn : n < 16) : (k * 16) ||| n = k * 16 + n := nat_join 4 (k * 16) n (by omega) (by omega)

theorem or_ten (k : Nat) (hk : k < 65536) : bits .or .u64 ((k : Int) * 16) 10 = ((k * 16 + 10 : Nat) : Int) := by
  rw [show (k : Int) * 16 = ((k * 16 : Nat) : Int) by omega, show (10 : Int) = ((10 : Nat) : Int) from rfl, u64_or_nat _ _ (by omega) (by omega), or16 k 10 (by omega)]

theorem bld0_next (mx : Nat) (nx : List Nat) : (bld0 mx nx).next = nx := by unfold bld0; split <;> rfl

/-- A table without links, as it lies when the short codes alone are laid. -/
theorem ba_short {w wc : World} {B o : Nat} {nx : List Nat} {mn m L mx : Nat} {N : Nat → Prop} (hT : TabAt wc B o emptyTab N) (h9 : ¬ 9 < mx) (base : Nat) (hF : Frm (ST B o) w wc) :
    BA (wc.setCell ⟨B, o, none⟩ (.int .i64 (mn : Int))) B o base mn 0 m L (bld0 mx nx) ∧ Frm (ST B o) w (wc.setCell ⟨B, o, none⟩ (.int .i64 (mn : Int))) := by
  have hb : bld0 mx nx = { next := nx, chunks := List.replicate 512 0, links := [] } := by unfold bld0; rw [if_neg h9]
  have f : Frm (fun b x => b = B ∧ x = o) wc (wc.setCell ⟨B, o, none⟩ (.int .i64 (mn : Int))) := by (repeat (first | exact Frm.refl _ _ | refine Frm.drewN ?_ _ | refine Frm.drew ?_ | refine Frm.alloc ?_ _ | refine Frm.setCell ?_ (by simp) _))
  rw [hb]
  refine ⟨⟨set_get hT.min, fun i hi => f.keep (hT.ch i hi) (by omega), by simp, f.keep hT.mask (by omega), fun _ => f.keep (hT.none_ rfl) (by omega), fun e => absurd rfl e, fun k hk => absurd hk (by simp), fun k o e => absurd rfl e⟩, ?_⟩
  exact hF.setCell (.inl ⟨rfl, by simp, by simp⟩) _

theorem infoOf {P : Program} {t : TypeId} {x : Option Value × Nat × Nat} (h : ((P.info? t).map fun i => (i.zero, i.size, i.bytes)) = some x) : ∃ i : TypeInfo, P.info? t = some i ∧ i.zero = x.1 ∧ i.size = x.2.1 ∧ i.bytes = x.2.2 := by
  obtain ⟨i, h1, h2⟩ := Option.map_eq_some_iff.1 h
  subst h2
  exact ⟨i, h1, rfl, rfl, rfl⟩
theorem infoRow : ((Tryd.prog.info? 196).map fun i => (i.zero, i.size, i.bytes)) = some (some (.slice none 0 0), 1, 24) := by kernel_rfl
theorem infoU : ((Tryd.prog.info? 33).map fun i => (i.zero, i.size, i.bytes)) = some (some (.int .u32 0), 1, 4) := by kernel_rfl

/-- The links' own row. -/
theorem wpList_rows {ops : Array Oper} {rest : List Oper} {o : Oper} {a : Act} {w : World} {Q : Exit → Act → World → Prop} (hgd : o.guard = none) (l c : Operand) (ho : o.op = .makeSlice 106 l c)
    (k k2 : IntKind) (n : Nat) (hl : a.eval l = .int k (n : Int)) (hc : a.eval c = .int k2 (n : Int)) (hn : n ≤ 65536)
    (h : ∀ w', w' = w.alloc (.cells (madeCells #[.slice none 0 0] n) 196) → wpList Tryd.prog ops Q rest (a.put o.dst (.slice (some ⟨w.heap.size, 0, none⟩) n n)) w') : wpList Tryd.prog ops Q (o :: rest) a w := by
  obtain ⟨i, h1, h2, h3, h4⟩ := infoOf infoRow
  refine wpList_make hgd _ l c ho _ i _ Tryd.underlying106 h1 h2 k k2 n hl hc (by rw [h4]; simp only; omega) (by omega) ?_
  rw [h3, Nat.mul_one]; exact h _ rfl
theorem run_row (w : World) (n : Nat) (hn : n ≤ 65536) :
    (Instr.makeSlice 196 (.int .i64 (n : Int)) (.int .i64 (n : Int))).run Tryd.prog w = .ok (.slice (some ⟨w.heap.size, 0, none⟩) n n) (w.alloc (.cells (madeCells #[.int .u32 0] n) 33)) := by
  obtain ⟨i, h1, h2, h3, h4⟩ := infoOf infoU
  have hr := run_make (P := Tryd.prog) w 196 _ i _ Tryd.underlying196 h1 h2 .i64 .i64 n n (by omega) (by omega) (by rw [h4]; simp only; omega) (by omega)
  rw [Int.toNat_natCast, h3, Nat.mul_one] at hr
  exact hr
/-- A row of links. -/
theorem step_row {ops : Array Oper} {o : Oper} {a : Act} {w : World} {K : Act → World → Prop} {Q : Exit → Act → World → Prop} {E : Prop} (hgd : o.guard = none) (l c : Operand) (ho : o.op = .makeSlice 196 l c)
    (k k2 : IntKind) (n : Nat) (hl : a.eval l = .int k (n : Int)) (hc : a.eval c = .int k2 (n : Int)) (hn : n ≤ 65536)
    (h : K (a.put o.dst (.slice (some ⟨w.heap.size, 0, none⟩) n n)) (w.alloc (.cells (madeCells #[.int .u32 0] n) 33))) :
    if Region.wanted o (yielded ops a.tmps) = true then Oper.wp Tryd.prog o a w K Q else E := by
  obtain ⟨i, h1, h2, h3, h4⟩ := infoOf infoU
  refine step_make hgd _ l c ho _ i _ Tryd.underlying196 h1 h2 k k2 n hl hc (by rw [h4]; simp only; omega) (by omega) ?_
  rw [h3, Nat.mul_one]; exact h

end Go.Proofs.YthfncdfcklbigaaDoor
