/-
  Several texts in one: Ints Cel Wt Lsy Sub Nx Bod Dyp Del FxK Dfp Tkr.
-/
import Derived.Test.YthfncdfcklbigaaGreatDoorPb
import Derived.Deep.OwnRows
import Derived.Test.YthfncdfcklbigaaGreatDoorWa
import Derived.Test.YthfncdfcklbigaaGreatDoorPd
import Derived.IntWalk
set_option linter.unusedVariables false
set_option linter.unusedSimpArgs false
namespace Go.Proofs.YthfncdfcklbigaaGreatDoor
open Go.RowKit Flate
set_option maxRecDepth 100000
abbrev intV (x : Int) : Value := .int .i64 x
abbrev OwnI (w : World) (base : Nat) (v : Value) (l : List Int) : Prop := Row (fun v => ∃ u : Int, v = .int .i64 u) w base 3 1 v l.length (l.map intV)
structure It (w : World) (base : Option Addr) (l : List Int) (cap : Nat) : Prop where
 cells : ∀ j (h : j < l.length), ∃ a, base = some a ∧ w.cell? ⟨a.block, a.off + j, none⟩ = some (intV l[j])
 spot : ∀ a, base = some a → a.spot = none
 hcap : l.length ≤ cap
 lt : ∀ a, base = some a → a.block < w.heap.size
 nilc : base = none → cap = 0
 wf : ∀ x ∈ l, -9223372036854775808 ≤ x ∧ x ≤ 9223372036854775807
theorem It.keep {w w' : World} {base : Option Addr} {l : List Int} {cap : Nat} (h : It w base l cap) (hf : Frm (fun _ _ => False) w w') : It w' base l cap :=
 ⟨fun j hj => by obtain ⟨a, h1, h2⟩ := h.cells j hj; exact ⟨a, h1, hf.keep h2 (fun e => e)⟩, h.spot, h.hcap, fun a ha => Nat.lt_of_lt_of_le (h.lt a ha) hf.size, h.nilc, h.wf⟩
theorem infoInts : ((Tryz.prog.info? 3).map fun i => (i.zero, i.size, i.bytes)) = some (some (.int .i64 0), 1, 8) := by kernel_rfl
theorem append_int (w : World) (base : Nat) (v : Value) (l : List Int) (hrow : OwnI w base v l) (x : Int) (hle : l.length + 1 ≤ 1099511627776) (hbase : base ≤ w.heap.size) :
 ∃ v' w', (∀ ty, (Builtin.append_ #[33, 33] ty #[v, .slice (some ⟨w.heap.size, 0, none⟩) 1 1]).run Tryz.prog (w.alloc (.cells #[.int .i64 x] 3)) = .ok v' w') ∧ OwnI w' base v' (l ++ [x]) ∧ Frm (fun b _ => v.ownBlock = some b) w w' := by
 obtain ⟨i, hi, hiq⟩ := Option.map_eq_some_iff.1 infoInts
 simp only [Prod.mk.injEq] at hiq
 obtain ⟨h1, h2, h3⟩ := hiq
 have hf1 : Frm (fun b _ => v.ownBlock = some b) w (w.alloc (.cells #[.int .i64 x] 3)) := (Frm.refl _ _).alloc _
 have hrow1 := hrow.keep (S := fun _ _ => False) ((Frm.refl _ w).alloc (.cells #[.int .i64 x] 3)) (fun _ _ _ e => e)
 obtain ⟨v', w', hrun, hr, hf, _⟩ := append_row (P := Tryz.prog) (fun v => ∃ u : Int, v = .int .i64 u) _ base 33 3 i _ 1 8 Tryz.underlying33 hi h1 h2 h3 (by rfl) (by intro u hu; simp [Value.cells] at hu; exact ⟨0, hu⟩) v l.length _ hrow1 ⟨w.heap.size, 0, none⟩ 1 1 [intV x] (by simp) (fun j u hu => by
  match j, hu with
  | 0, hu =>
   obtain rfl := Option.some.inj hu; rw [Addr.add_lit]; exact (cells_at (heap_alloc_new w _)).trans rfl
  | j + 1, hu => simp at hu) (fun u hu => by obtain rfl := List.mem_singleton.1 hu; rfl) (fun u hu => by obtain rfl := List.mem_singleton.1 hu; exact ⟨_, rfl⟩) (by simp only [maxLen]; omega) (by omega) (Nat.le_trans hbase hf1.size)
 refine ⟨v', w', hrun, ?_, hf1.trans' hf (fun _ _ _ e => e)⟩
 have e : (l ++ [x]).map intV = l.map intV ++ [intV x] := by simp
 unfold OwnI
 rw [e, List.length_append]
 exact hr
theorem OwnI.nil (w : World) (base : Nat) : OwnI w base (.slice none 0 0) [] := Row.nil _ _ _ _ _
theorem OwnI.it {w : World} {base : Nat} {v : Value} {l : List Int} (h : OwnI w base v l) (hw : ∀ x ∈ l, -9223372036854775808 ≤ x ∧ x ≤ 9223372036854775807) : ∃ b cap, v = .slice b l.length cap ∧ It w b l cap := by
 rcases h.cells with ⟨rfl, h0⟩ | ⟨g, cap, rfl, h1, h2, h3, h4⟩
 · have hl : l = [] := List.eq_nil_of_length_eq_zero h0; subst hl; exact ⟨none, 0, rfl, ⟨fun j hj => absurd hj (by simp), fun a ha => by simp at ha, Nat.le_refl _, fun a ha => by simp at ha, fun _ => rfl, hw⟩⟩
 · refine ⟨some ⟨g, 0, none⟩, cap, rfl, ⟨fun j hj => ⟨_, rfl, ?_⟩, fun a ha => by obtain rfl := Option.some.inj ha; rfl, h3, fun a ha => by obtain rfl := Option.some.inj ha; exact h2, fun hb => by simp at hb, hw⟩⟩
   have := h4 j (intV l[j]) (by rw [List.getElem?_map, List.getElem?_eq_getElem hj]; rfl)
   simpa using this
theorem OwnI.fresh {w w' : World} {base : Nat} {v : Value} {l : List Int} (h : OwnI w base v l) {w0 : World} (h0 : Frm (fun _ _ => False) w0 w) (hb : w0.heap.size ≤ base) (hf : Frm (fun b _ => v.ownBlock = some b) w w') : Frm (fun _ _ => False) w0 w' :=
 h0.trans' hf (fun x o hx q => by have := (h.lt x q).1; omega)
theorem heap_set_same {w : World} {g j : Nat} {cur : Array Value} {e : TypeId} {f : Nat × Nat} (h : w.heap[g]? = some (.cells cur e f)) (u : Value) : (w.setCell ⟨g, j, none⟩ u).heap[g]? = some (.cells (cur.setIfInBounds j u) e f) := by
 simp [World.setCell, Array.getElem?_modify, h]
theorem Row.set {K : Value → Prop} {w : World} {base : Nat} {e : TypeId} {v : Value} {n : Nat} {xs : List Value} (h : Row K w base e 1 v n xs) {g : Nat} (hg : v.ownBlock = some g) {j : Nat} (hj : j < n) {u : Value} (hu : K u) :
 Row K (w.setCell ⟨g, j, none⟩ u) base e 1 v n (xs.set j u) ∧ Frm (fun b o => b = g ∧ o = j) w (w.setCell ⟨g, j, none⟩ u) := by
 refine ⟨⟨⟨by rw [List.length_set]; exact h.own.1, ?_⟩, fun g' hg' o x hx => ?_, fun g' hg' o => ?_⟩, (Frm.refl _ _).setCell (.inl ⟨rfl, rfl⟩) _⟩
 · rcases h.own.2 with ⟨rfl, q⟩ | ⟨g', cap, cur, q1, q2, q3, q4, q5, q6, q7⟩
   · omega
   · have e : g' = g := by rw [q1] at hg; exact Option.some.inj hg
     subst e; refine .inr ⟨g', cap, cur.setIfInBounds j u, q1, q2, heap_set_same q3 u, q4, q5, by rw [Array.size_setIfInBounds]; exact q6, ?_⟩
     rw [Array.toList_setIfInBounds, List.take_set, q7]
 · rw [hg] at hg'; obtain rfl := Option.some.inj hg'
   by_cases e : o = j
   · subst e; have hl : (w.setCell ⟨g, o, none⟩ u).cell? ⟨g, o, none⟩ = some u := by
      have : (w.cell? ⟨g, o, none⟩).isSome := by rw [← live_setCell w ⟨g, o, none⟩ u, hx]; rfl
      obtain ⟨y, hy⟩ := Option.isSome_iff_exists.1 this; exact set_get hy
     rw [hl] at hx; obtain rfl := Option.some.inj hx; exact hu
   · rw [cell_set_off e] at hx; exact h.kind g hg o x hx
 · rw [World.frozen?_setCell]; exact h.froz g' hg' o
theorem Row.at {K : Value → Prop} {w : World} {base : Nat} {e : TypeId} {v : Value} {n : Nat} {xs : List Value} (h : Row K w base e 1 v n xs) {j : Nat} (hj : j < n) :
 ∃ g cap, v = .slice (some ⟨g, 0, none⟩) n cap ∧ base ≤ g ∧ g < w.heap.size ∧ n ≤ cap ∧ w.cell? ⟨g, j, none⟩ = some (xs[j]'(by rw [h.len]; omega)) ∧ w.frozen? ⟨g, j, none⟩ = false := by
 rcases h.cells with ⟨_, q⟩ | ⟨g, cap, q1, q2, q3, q4, q5⟩
 · omega
 · exact ⟨g, cap, q1, q2, q3, q4, q5 j _ (List.getElem?_eq_getElem (by rw [h.len]; omega)), h.froz g (by rw [q1]; rfl) j⟩
theorem row_made (K : Value → Prop) (w : World) (e : TypeId) (z : Value) (n : Nat) (hz : K z) (hn : n ≤ maxLen) : Row K (w.alloc (.cells (madeCells #[z] n) e)) w.heap.size e 1 (.slice (some ⟨w.heap.size, 0, none⟩) n n) n (List.replicate n z) := by
 have hh := heap_alloc_new w (.cells (madeCells #[z] n) e)
 have hc : (madeCells #[z] n).toList = List.replicate n z := by
  apply List.ext_getElem?
  intro i; rw [Array.getElem?_toList, List.getElem?_replicate]; split
  · rename_i h; simp [madeCells, h, Nat.mod_one]
  · rename_i h; simp [madeCells, h]
 refine ⟨⟨by simp, .inr ⟨w.heap.size, n, _, rfl, Nat.le_refl _, hh, Nat.le_refl _, hn, by rw [size_madeCells]; simp, ?_⟩⟩, fun g hg o u hu => ?_, fun g hg o => ?_⟩
 · rw [hc, List.take_of_length_le (by simp)]
 · obtain rfl := Option.some.inj hg; rw [cells_at hh] at hu; have : u ∈ (madeCells #[z] n).toList := Array.mem_toList_iff.2 (Array.mem_of_getElem? hu); rw [hc] at this; rw [(List.mem_replicate.1 this).2]; exact hz
 · obtain rfl := Option.some.inj hg; exact World.frozen?_alloc_new (w := w) ..
abbrev KI (v : Value) : Prop := ∃ u : Int, v = .int .i64 u
abbrev KB (v : Value) : Prop := ∃ u : Bool, v = .bool u
abbrev natV (n : Nat) : Value := .int .i64 (n : Int)
abbrev OwnN (w : World) (base : Nat) (v : Value) (l : List Nat) : Prop := Row KI w base 3 1 v l.length (l.map natV)
abbrev OwnB (w : World) (base : Nat) (v : Value) (l : List Bool) : Prop := Row KB w base 4 1 v l.length (l.map Value.bool)
theorem infoBools : ((Tryz.prog.info? 4).map fun i => (i.zero, i.size, i.bytes)) = some (some (.bool false), 1, 1) := by kernel_rfl
theorem OwnN.of_int {w : World} {base : Nat} {v : Value} {l : List Nat} (h : OwnI w base v (l.map Int.ofNat)) : OwnN w base v l := by
 unfold OwnI at h
 rw [List.length_map, List.map_map] at h
 exact h
theorem OwnN.to_int {w : World} {base : Nat} {v : Value} {l : List Nat} (h : OwnN w base v l) : OwnI w base v (l.map Int.ofNat) := by
 unfold OwnI
 rw [List.length_map, List.map_map]
 exact h
theorem append_nat (w : World) (base : Nat) (v : Value) (l : List Nat) (hrow : OwnN w base v l) (x : Nat) (hle : l.length + 1 ≤ 1099511627776) (hbase : base ≤ w.heap.size) :
 ∃ v' w', (∀ ty, (Builtin.append_ #[33, 33] ty #[v, .slice (some ⟨w.heap.size, 0, none⟩) 1 1]).run Tryz.prog (w.alloc (.cells #[.int .i64 (x : Int)] 3)) = .ok v' w') ∧ OwnN w' base v' (l ++ [x]) ∧ Frm (fun b _ => v.ownBlock = some b) w w' := by
 obtain ⟨v', w', h1, h2, h3⟩ := append_int w base v (l.map Int.ofNat) hrow.to_int x (by rw [List.length_map]; exact hle) hbase
 refine ⟨v', w', h1, OwnN.of_int ?_, h3⟩
 rw [List.map_append]; exact h2
theorem set_map {α : Type} (f : α → Value) (l : List α) (j : Nat) (x : α) : (l.map f).set j (f x) = (l.set j x).map f := by
 rw [List.map_set]
theorem OwnN.set {w : World} {base : Nat} {v : Value} {l : List Nat} (h : OwnN w base v l) {g : Nat} (hg : v.ownBlock = some g) {j : Nat} (hj : j < l.length) (x : Nat) :
 OwnN (w.setCell ⟨g, j, none⟩ (natV x)) base v (l.set j x) ∧ Frm (fun b o => b = g ∧ o = j) w (w.setCell ⟨g, j, none⟩ (natV x)) := by
 have := Row.set h hg hj (u := natV x) ⟨_, rfl⟩
 rw [set_map] at this
 unfold OwnN
 rw [List.length_set]
 exact this
theorem OwnB.set {w : World} {base : Nat} {v : Value} {l : List Bool} (h : OwnB w base v l) {g : Nat} (hg : v.ownBlock = some g) {j : Nat} (hj : j < l.length) (x : Bool) :
 OwnB (w.setCell ⟨g, j, none⟩ (.bool x)) base v (l.set j x) ∧ Frm (fun b o => b = g ∧ o = j) w (w.setCell ⟨g, j, none⟩ (.bool x)) := by
 have := Row.set h hg hj (u := .bool x) ⟨_, rfl⟩
 rw [set_map] at this
 unfold OwnB
 rw [List.length_set]
 exact this
theorem Own.set {w : World} {base : Nat} {v : Value} {l : List UInt8} (h : Own w base v l) {g : Nat} (hg : v.ownBlock = some g) {j : Nat} (hj : j < l.length) (x : UInt8) :
 Own (w.setCell ⟨g, j, none⟩ (byteV x)) base v (l.set j x) ∧ Frm (fun b o => b = g ∧ o = j) w (w.setCell ⟨g, j, none⟩ (byteV x)) := by
 have := Row.set h hg hj (u := byteV x) ⟨_, rfl⟩
 rw [set_map] at this
 unfold Own
 rw [List.length_set]
 exact this
theorem ownN_made (w : World) (n : Nat) (hn : n ≤ maxLen) : OwnN (w.alloc (.cells (madeCells #[.int .i64 0] n) 3)) w.heap.size (.slice (some ⟨w.heap.size, 0, none⟩) n n) (List.replicate n 0) := by
 have := row_made KI w 3 (.int .i64 0) n ⟨_, rfl⟩ hn
 unfold OwnN
 rw [List.length_replicate, List.map_replicate]
 exact this
theorem ownB_made (w : World) (n : Nat) (hn : n ≤ maxLen) : OwnB (w.alloc (.cells (madeCells #[.bool false] n) 4)) w.heap.size (.slice (some ⟨w.heap.size, 0, none⟩) n n) (List.replicate n false) := by
 have := row_made KB w 4 (.bool false) n ⟨_, rfl⟩ hn
 unfold OwnB
 rw [List.length_replicate, List.map_replicate]
 exact this
theorem Row.val {K : Value → Prop} {w : World} {base : Nat} {e : TypeId} {size : Nat} {v : Value} {n : Nat} {xs : List Value} (h : Row K w base e size v n xs) (hn : 0 < n) : ∃ g cap, v = .slice (some ⟨g, 0, none⟩) n cap ∧ base ≤ g ∧ g < w.heap.size ∧ n ≤ cap := by
 rcases h.cells with ⟨_, q⟩ | ⟨g, cap, q1, q2, q3, q4, q5⟩
 · omega
 · exact ⟨g, cap, q1, q2, q3, q4⟩
structure Nt (w : World) (base : Option Addr) (l : List Nat) : Prop where
 cells : ∀ j (h : j < l.length), ∃ g, base = some ⟨g, 0, none⟩ ∧ w.cell? ⟨g, j, none⟩ = some (natV l[j])
theorem OwnN.nt {w : World} {base : Nat} {v : Value} {l : List Nat} (h : OwnN w base v l) : ∃ b cap, v = .slice b l.length cap ∧ l.length ≤ cap ∧ Nt w b l := by
 rcases h.cells with ⟨q, q0⟩ | ⟨g, cap, q1, q2, q3, q4, q5⟩
 · have hl : l = [] := List.eq_nil_of_length_eq_zero q0; subst hl; exact ⟨none, 0, q, Nat.le_refl _, ⟨fun j hj => absurd hj (by simp)⟩⟩
 · exact ⟨_, cap, q1, q4, ⟨fun j hj => ⟨g, rfl, q5 j _ (by rw [List.getElem?_map, List.getElem?_eq_getElem hj]; rfl)⟩⟩⟩
theorem Nt.keep {S : Nat → Nat → Prop} {w w' : World} {base : Option Addr} {l : List Nat} (h : Nt w base l) (hf : Frm S w w') (hS : ∀ g o, S g o → ∀ v, w.cell? ⟨g, o, none⟩ = some v → ¬ KI v) : Nt w' base l :=
 ⟨fun j hj => by obtain ⟨g, h1, h2⟩ := h.cells j hj; exact ⟨g, h1, hf.keep h2 (fun q => hS _ _ q _ h2 ⟨_, rfl⟩)⟩⟩
end Go.Proofs.YthfncdfcklbigaaGreatDoor
namespace Go.Proofs.YthfncdfcklbigaaGreatDoor
open Go.RowKit Go.IntWalk Flate
set_option maxRecDepth 100000
structure Wt (w : World) (N0 W : Nat) (L : List Bool) : Prop where
 b : ∃ v, w.cell? ⟨W, 0, none⟩ = some v ∧ Own w N0 v (pack L)
 at_ : w.cell? ⟨W, 1, none⟩ = some (.int .i64 (L.length : Int))
 fr : ∀ o, w.frozen? ⟨W, o, none⟩ = false
def SWr (w : World) (N0 W b _ : Nat) : Prop := b = W ∨ (N0 ≤ b ∧ ByteBlock w b)
theorem frm_SWr_trans {a b c : World} {N0 W : Nat} (h : Frm (SWr a N0 W) a b) (k : Frm (SWr b N0 W) b c) : Frm (SWr a N0 W) a c := by
 refine h.trans' k fun x o hx q => ?_
 rcases q with q | ⟨q, hq⟩
 · exact .inl q
 · by_cases hb : SWr a N0 W x o
   · exact hb
   · refine .inr ⟨q, fun o' u hu => ?_⟩
     have hS : ¬ SWr a N0 W x o' := hb; rw [← h.cell x o' hx hS] at hu; exact hq o' u hu
theorem frm_SWr_own {w w' : World} {N0 W : Nat} {v : Value} {l : List UInt8} (h : Own w N0 v l) (hf : Frm (fun b _ => v.ownBlock = some b) w w') : Frm (SWr w N0 W) w w' :=
 hf.mono fun b _ q => .inr ⟨(h.lt b q).1, fun o u hu => h.kind b q o u hu⟩
theorem frm_SWr_none {w w' : World} {N0 W : Nat} (hf : Frm (fun _ _ => False) w w') : Frm (SWr w N0 W) w w' := hf.mono fun _ _ e => e.elim
theorem Frm.kept {w w' : World} {N0 W b o : Nat} {v : Value} (h : Frm (SWr w N0 W) w w') (hc : w.cell? ⟨b, o, none⟩ = some v) (hb : b ≠ W) (hv : b < N0 ∨ ∀ u : Int, v ≠ .int .u8 u) : w'.cell? ⟨b, o, none⟩ = some v :=
 h.keep hc fun q => by
  rcases q with q | ⟨q, hq⟩
  · exact hb q
  · obtain ⟨u, hu⟩ := hq _ _ hc; rcases hv with hv | hv
    · omega
    · exact hv u hu
theorem u8_or_nat' (c m : Nat) (hc : c < 256) (hm : m < 256) (h : c ||| m = c + m) (hs : c + m < 256) : bits .or .u8 (c : Int) (m : Int) = ((c + m : Nat) : Int) := by
 show IntKind.u8.wrap ((BitVec.ofInt 8 (c : Int) ||| BitVec.ofInt 8 (m : Int)).toNat : Int) = _
 have ea : (BitVec.ofInt 8 (c : Int)).toNat = c := by rw [BitVec.toNat_ofInt]; omega
 have eb : (BitVec.ofInt 8 (m : Int)).toNat = m := by rw [BitVec.toNat_ofInt]; omega
 rw [BitVec.toNat_or, ea, eb, h]
 simp only [IntKind.wrap, IntKind.bits, IntKind.signed]
 simp
 omega
theorem u8_or_add (c r : Nat) (hc : c < 2 ^ r) (hr : r < 8) (b : Nat) (hb : b ≤ 1) : bits .or .u8 (c : Int) ((b * 2 ^ r : Nat) : Int) = ((c + b * 2 ^ r : Nat) : Int) := by
 have h2 : 2 ^ r ≤ 2 ^ 7 := Nat.pow_le_pow_right (by omega) (by omega)
 have hm : b * 2 ^ r ≤ 1 * 2 ^ r := Nat.mul_le_mul_right _ hb
 have e : c ||| (b * 2 ^ r) = c + b * 2 ^ r := by
  rw [Nat.or_comm, Nat.mul_comm, ← Nat.two_pow_add_eq_or_of_lt hc]; omega
 exact u8_or_nat' c (b * 2 ^ r) (by omega) (by omega) e (by omega)
theorem i64_and_one (n : Nat) (hn : n < 2 ^ 62) : bits .and .i64 (n : Int) 1 = ((n % 2 : Nat) : Int) := by
 rw [show (1 : Int) = ((1 : Nat) : Int) from rfl, i64_and_nat n 1 hn (by omega), Nat.and_one_is_mod]
def Roomed (w : World) (N0 W : Nat) (L : List Bool) (w' : World) : Prop :=
 ∃ v, w'.cell? ⟨W, 0, none⟩ = some v ∧ Own w' N0 v (roomed L) ∧ w'.cell? ⟨W, 1, none⟩ = some (.int .i64 (L.length : Int)) ∧ (∀ o, w'.frozen? ⟨W, o, none⟩ = false) ∧ Frm (SWr w N0 W) w w'
theorem bit_done {w wc : World} {N0 W g cap : Nat} {L : List Bool} {a q c r : Nat} (ha : a = L.length) (hq : q = a / 8) (hr : r = a % 8) (hq1 : q < (roomed L).length) (hc : c = ((roomed L)[q]'hq1).toNat) (hW : W < N0) (hg : N0 ≤ g)
 (hv : wc.cell? ⟨W, 0, none⟩ = some (.slice (some ⟨g, 0, none⟩) (roomed L).length cap)) (hat : wc.cell? ⟨W, 1, none⟩ = some (.int .i64 (a : Int))) (hown : Own wc N0 (.slice (some ⟨g, 0, none⟩) (roomed L).length cap) (roomed L)) (hfr : ∀ o, wc.frozen? ⟨W, o, none⟩ = false) (hf : Frm (SWr w N0 W) w wc)
 (b : Bool) (x : Int) (hx : x = ((c + b.toNat * 2 ^ r : Nat) : Int)) :
 Wt ((wc.setCell ⟨g, q, none⟩ (.int .u8 x)).setCell ⟨W, 1, none⟩ (.int .i64 ((a : Int) + 1))).drew N0 W (L ++ [b]) ∧ Frm (SWr w N0 W) w ((wc.setCell ⟨g, q, none⟩ (.int .u8 x)).setCell ⟨W, 1, none⟩ (.int .i64 ((a : Int) + 1))).drew := by
 subst ha hq hr
 obtain ⟨y, hy⟩ : ∃ y, y = UInt8.ofNat (c + b.toNat * 2 ^ (L.length % 8)) := ⟨_, rfl⟩
 have hb := Bool.toNat_le b
 have h1 := roomed_byte L
 have hp : 2 ^ (L.length % 8) ≤ 2 ^ 7 := Nat.pow_le_pow_right (by omega) (by omega)
 have hm : b.toNat * 2 ^ (L.length % 8) ≤ 1 * 2 ^ (L.length % 8) := Nat.mul_le_mul_right _ hb
 have hyn : y.toNat = c + b.toNat * 2 ^ (L.length % 8) := by
  rw [hy, UInt8.toNat_ofNat']; refine Nat.mod_eq_of_lt ?_; rw [← hc] at h1; omega
 have hxv : Value.int .u8 x = byteV y := by rw [byteV, hyn, hx]
 have hpk : pack (L ++ [b]) = (roomed L).set (L.length / 8) y := by rw [pack_snoc, hy, hc]
 rw [hxv]
 obtain ⟨ho, hfo⟩ := hown.set (g := g) rfl hq1 y
 have hgW : g ≠ W := by omega
 have k : ∀ {o : Nat} {u : Value}, wc.cell? ⟨W, o, none⟩ = some u → (wc.setCell ⟨g, L.length / 8, none⟩ (byteV y)).cell? ⟨W, o, none⟩ = some u := fun h => hfo.keep h (fun e => hgW e.1.symm)
 refine ⟨⟨⟨_, (cell_set_off (by decide)).trans (k hv), ?_⟩, ?_, fun o => ?_⟩, ?_⟩
 · have : Own (wc.setCell ⟨g, L.length / 8, none⟩ (byteV y)) N0 (.slice (some ⟨g, 0, none⟩) (roomed L).length cap) (pack (L ++ [b])) := by rw [hpk]; exact ho
   exact this.keep (S := fun b _ => b = W) (((Frm.refl _ _).setCell (.inl rfl) _).drew) (fun g' o hg' e => by
    obtain rfl := Option.some.inj hg'; exact hgW e)
 · rw [List.length_append]; exact set_get (k hat)
 · show World.frozen? (World.setCell _ _ _) _ = false
   rw [World.frozen?_setCell, World.frozen?_setCell]; exact hfr o
 · have hf1 : Frm (SWr wc N0 W) wc (wc.setCell ⟨g, L.length / 8, none⟩ (byteV y)) := hfo.mono fun b' o e => .inr ⟨by omega, fun o' u hu => by rw [e.1] at hu; exact hown.kind g rfl o' u hu⟩
   exact ((frm_SWr_trans hf hf1).setCell (p := ⟨W, 1, none⟩) (.inl (.inl rfl)) _).drew
theorem bit_any (w : World) (N0 W : Nat) (L : List Bool) (h : Wt w N0 W L) (hW : W < N0) (hN : N0 ≤ w.heap.size) (hL : L.length ≤ 35184372088832) (n : Nat) (hn : n ≤ 1099511627776) :
 Calls Tryz.prog 43 #[.pointer (some ⟨W, 0, none⟩), .int .i64 (n : Int)] w fun e w' => e = .returned (.tuple #[]) ∧ Wt w' N0 W (L ++ [n % 2 == 1]) ∧ Frm (SWr w N0 W) w w' := by
 have HH := zHi h
 obtain ⟨⟨v, hv, hown⟩, hat, hfr⟩ := h
 have f0 := hfr 0
 have f1 := hfr 1
 obtain ⟨a, ha⟩ : ∃ a, a = L.length := ⟨_, rfl⟩
 rw [← ha] at hat hL
 obtain ⟨q, hq⟩ : ∃ q, q = a / 8 := ⟨_, rfl⟩
 obtain ⟨r, hr⟩ : ∃ r, r = a % 8 := ⟨_, rfl⟩
 have c1 : (a : Int) ≤ 35184372088832 := by omega
 have e1 : (a : Int) / 8 = (q : Int) := by omega
 have e2 : (a : Int) % 8 = (r : Int) := by omega
 have c2 : (r : Int) ≤ 7 := by omega
 have c5 : (q : Int) ≤ 35184372088832 := by omega
 have HR := zHi (zAi ha (zAi hq hr))
 have HO := zHi hown
 have HA := zHi (zAi hW (zAi hN (zAi hL hn)))
 have HF := zHi hfr
 clear ha hq hr hown hW hN hL hfr
 go_enter Tryz.func43, Tryz.ntmps43
 go_upto_if 9 with (fail)
 go_cut [9] (fun _ wq => Roomed w N0 W L wq)
 case first =>
  by_cases h0 : r = 0
  · have t1 : ((r : Int) == 0) = true := by simp; omega
    have hf1 : Frm (fun _ _ => False) w (w.alloc (.cells #[.int .u8 0] 5)) := (Frm.refl _ _).alloc _
    have hown1 := HO.out.keep hf1 (fun _ _ _ e => e)
    obtain ⟨v', w2, hrun, hown2, hfr2, _⟩ := append_bytes (w.alloc (.cells #[.int .u8 0] 5)) N0 v (pack L) hown1 ⟨w.heap.size, 0, none⟩ rfl 1 [0] (fun j hj => by
     have : j = 0 := by simp at hj; omega
     subst this; exact (cells_at (heap_alloc_new w _)).trans rfl) (by rw [pack_len]; have := HA.out.2.2.1; have := HR.out.1; simp only [List.length_cons, List.length_nil]; omega) (Nat.le_trans HA.out.2.1 hf1.size)
    obtain ⟨b', cap', rfl, _⟩ := hown2.bytes; obtain ⟨m2, hm2⟩ : ∃ m2, m2 = (pack L ++ [0]).length := ⟨_, rfl⟩; rw [← hm2] at hrun hown2; have hk : ∀ o u, w.cell? ⟨W, o, none⟩ = some u → w2.cell? ⟨W, o, none⟩ = some u := fun o u hc => hfr2.keep (hf1.keep hc (fun e => e)) (fun q => by have := (hown1.lt W q).1; have := HA.out.1; omega)
    have hlt : W < w.heap.size := cell_lt hv; have hz : ∀ o, w2.frozen? ⟨W, o, none⟩ = false := fun o => (hfr2.froz W o (Nat.lt_of_lt_of_le hlt hf1.size)).trans ((hf1.froz W o hlt).trans (HF.out o))
    have hv2 := hk 0 v hv; have hat2 := hk 1 _ hat; have fz := hz 0; have hr : ∀ ty, (Builtin.append_ #[22, 22] ty #[v, .slice (some ⟨w.heap.size, 0, none⟩) 1 1]).run Tryz.prog (w.alloc (.cells #[.int .u8 0] 5)) = .ok (.slice b' m2 cap') w2 := hrun; have hroom : roomed L = pack L ++ [0] := by unfold roomed; rw [if_pos (by have := HR.out; omega)]
    have hall : Frm (SWr w N0 W) w (w2.setCell ⟨W, 0, none⟩ (.slice b' m2 cap')) := ((frm_SWr_none hf1).trans' hfr2 (fun x o hx q => .inr ⟨(hown1.lt x q).1, fun o' u hu => HO.out.kind x q o' u hu⟩)).setCell (p := ⟨W, 0, none⟩) (.inl (.inl rfl)) _
    have hrel : Roomed w N0 W L (w2.setCell ⟨W, 0, none⟩ (.slice b' m2 cap')) := by
     refine ⟨_, set_get hv2, ?_, ?_, fun o => by rw [World.frozen?_setCell]; exact hz o, hall⟩
     · rw [hroom]; exact hown2.keep (S := fun b _ => b = W) ((Frm.refl _ _).setCell (.inl rfl) _) (fun g o hg e => by have := (hown2.lt g hg).1; have := HA.out.1; omega)
     · rw [← HR.out.1]; exact (cell_set_off (by decide)).trans hat2
    have HX := zHi hrel; clear hf1 hown1 hrun hown2 hfr2 hk hlt hz hroom hall hrel hat2 h0 hm2; go_wp2_with (at_builtin; refine wpList_append_by (by rfl) (.tmp 14) (.tmp 15) 22 (by rfl) _ _ (by rfl) (by rfl) (hr _) ?_)
    go_meet
    case rel => exact HX.out
  · have t1 : ((r : Int) == 0) = false := by simp; omega
    have hrel : Roomed w N0 W L w := by
     refine ⟨v, hv, ?_, by rw [← HR.out.1]; exact hat, HF.out, Frm.refl _ _⟩
     have : roomed L = pack L := by unfold roomed; rw [if_neg (by have := HR.out; omega)]
     rw [this]; exact HO.out
    have HX := zHi hrel; clear hrel h0; go_wp2_with fail
    go_meet
    case rel => exact HX.out
 case rest =>
  clear hv hat f0 f1; obtain ⟨v2, hv2, hown2, hat2, hfr2, hfrm⟩ := hcut; rw [← HR.out.1] at hat2; have f0 := hfr2 0; have f1 := hfr2 1; have hq1 : q < (roomed L).length := by rw [roomed_len]; have := HR.out; omega
  obtain ⟨g, cap, rfl, hg1, hg2, hg3, hcell, hfz⟩ := Row.at hown2 hq1; simp only [List.getElem_map] at hcell; obtain ⟨c, hc⟩ : ∃ c, c = ((roomed L)[q]'hq1).toNat := ⟨_, rfl⟩; obtain ⟨m, hm⟩ : ∃ m, m = (roomed L).length := ⟨_, rfl⟩; replace hcell : wc.cell? ⟨g, q, none⟩ = some (.int .u8 (c : Int)) := by rw [hc]; exact hcell
  have hgW : g ≠ W := by have := HA.out.1; omega
  obtain ⟨P, hP⟩ : ∃ P : Nat, P = 2 ^ r := ⟨_, rfl⟩; have e3 : (2 : Int) ^ r = (P : Int) := by rw [hP]; simp
  have hPle : (P : Int) ≤ 128 := by
   have : (2 : Nat) ^ r ≤ 2 ^ 7 := Nat.pow_le_pow_right (by omega) (by omega)
   omega
  have hclt : c < P := by
   rw [hc, hP]; obtain ⟨ha, hq, hr⟩ := HR.out; have := roomed_byte L; simp only [← ha, ← hq, ← hr] at this; exact this
  have c3 : (c : Int) < (P : Int) := by omega
  rw [← hm] at hv2 hg3 hq1; have c4 : (q : Int) < (m : Int) := by omega
  have e6 : IntKind.i64.wrap (q : Int) = (q : Int) := i64_in _ (by omega)
  have e7 : (a : Int).tmod 8 = (r : Int) := by rw [Int.tmod_eq_emod_of_nonneg (by omega)]; exact e2
  have e10 : IntKind.u8.wrap (P : Int) = (P : Int) := by simp only [IntKind.wrap, IntKind.bits, IntKind.signed]; simp; omega
  have e8 : IntKind.u8.wrap 1 = 1 := by decide
  have e9 : IntKind.u8.wrap 0 = 0 := by decide
  have HY := zHi (zAi hown2 (zAi hfr2 (zAi hfrm (zAi hg1 (zAi hg2 (zAi hg3 (zAi hc (zAi hm (zAi hP hclt))))))))); clear hown2 hfr2 hfrm hg1 hg2 hg3 hc hm hP hclt; rcases Nat.mod_two_eq_zero_or_one n with hb | hb
  · have e4 : bits .and .i64 (n : Int) 1 = 0 := by rw [i64_and_one n (by have := HA.out.2.2.2; omega), hb]; rfl
    have e5 : bits .or .u8 (c : Int) 0 = (c : Int) := by
     have := u8_or_add c r (by have := HY.out.2.2.2.2.2.2.2.2.2; rw [← HY.out.2.2.2.2.2.2.2.2.1]; exact this) (by omega) 0 (by omega)
     rw [Nat.zero_mul] at this; exact this
    have HB := zHi hb; clear hb; apply_assumption; go_upto_region 2 with (fail)
    (refine region_tail 22 (by kernel_rfl) (by kernel_rfl) ?_; simp only [List.take_succ_cons, List.take_zero, List.drop_succ_cons, List.drop_zero]; (repeat still_step); refine wpStill_nil ?_)
    go_wp2_with fail
    obtain ⟨hown2, hfr2, hfrm, hg1, hg2, hg3, hc, hm, hP, hclt⟩ := HY.out; obtain ⟨ha, hq, hr⟩ := HR.out; subst hm; obtain ⟨d1, d2⟩ := bit_done ha hq hr (by have := c4; omega) hc HA.out.1 hg1 hv2 hat2 hown2 hfr2 hfrm (n % 2 == 1) (c : Int) (by rw [HB.out]; simp)
    exact bodyPost_end (results_none rfl _ _ _) rfl ⟨rfl, d1, d2⟩
  · have e4 : bits .and .i64 (n : Int) 1 = 1 := by rw [i64_and_one n (by have := HA.out.2.2.2; omega), hb]; rfl
    have e5 : bits .or .u8 (c : Int) (P : Int) = ((c + P : Nat) : Int) := by
     have := u8_or_add c r (by have := HY.out.2.2.2.2.2.2.2.2.2; rw [← HY.out.2.2.2.2.2.2.2.2.1]; exact this) (by omega) 1 (by omega)
     rw [Nat.one_mul, ← HY.out.2.2.2.2.2.2.2.2.1] at this; exact this
    have HB := zHi hb; clear hb; apply_assumption; go_upto_region 2 with (fail)
    (refine region_tail 22 (by kernel_rfl) (by kernel_rfl) ?_; simp only [List.take_succ_cons, List.take_zero, List.drop_succ_cons, List.drop_zero]; (repeat still_step); refine wpStill_nil ?_)
    go_wp2_with fail
    obtain ⟨hown2, hfr2, hfrm, hg1, hg2, hg3, hc, hm, hP, hclt⟩ := HY.out; obtain ⟨ha, hq, hr⟩ := HR.out; subst hm; obtain ⟨d1, d2⟩ := bit_done ha hq hr (by have := c4; omega) hc HA.out.1 hg1 hv2 hat2 hown2 hfr2 hfrm (n % 2 == 1) ((c : Int) + (P : Int)) (by rw [HB.out, ← hP]; simp)
    exact bodyPost_end (results_none rfl _ _ _) rfl ⟨rfl, d1, d2⟩
theorem Wt.lt {w : World} {N0 W : Nat} {L : List Bool} (h : Wt w N0 W L) : W < w.heap.size := cell_lt h.at_
def BtInv (w : World) (N0 W : Nat) (L : List Bool) (f : Nat → List Bool) (many g : Nat) (i : Value) (wr : World) : Prop :=
 ∃ k : Nat, k ≤ many ∧ g = many - k ∧ i = .int .i64 (k : Int) ∧ Wt wr N0 W (L ++ f k) ∧ Frm (SWr w N0 W) w wr
theorem bits_any (w : World) (N0 W : Nat) (L : List Bool) (h : Wt w N0 W L) (hW : W < N0) (hN : N0 ≤ w.heap.size) (n many : Nat) (hm : many ≤ 64) (hL : L.length ≤ 17592186044416) (hn : n ≤ 1099511627776) :
 Calls Tryz.prog 44 #[.pointer (some ⟨W, 0, none⟩), .int .i64 (n : Int), .int .i64 (many : Int)] w fun e w' => e = .returned (.tuple #[]) ∧ Wt w' N0 W (L ++ enc n many) ∧ Frm (SWr w N0 W) w w' := by
 have HH := zHi h
 have HA := zHi (zAi hW (zAi hN (zAi hm (zAi hL hn))))
 have c1 : (many : Int) ≤ 64 := by omega
 clear h hW hN hm hL hn
 go_enter Tryz.func44, Tryz.ntmps44
 go_wp2_with fail
 go_loopg [8] (many - 0) (fun g i wr => BtInv w N0 W L (enc n) many g i wr)
 case atStart => exact ⟨0, Nat.zero_le _, rfl, rfl, by simp only [enc, List.append_nil]; exact HH.out, Frm.refl _ _⟩
 case round =>
  obtain ⟨k, hk, hg, rfl, hw, hf⟩ := hrel
  by_cases hlt : k < many
  · obtain ⟨hW, hN, hm, hL, hn⟩ := HA.out; obtain ⟨y, hy⟩ : ∃ y, y = n / 2 ^ k := ⟨_, rfl⟩; have hb := bit_any wr N0 W (L ++ enc n k) hw hW (Nat.le_trans hN hf.size) (by rw [List.length_append, enc_len]; omega) y (by rw [hy]; exact Nat.le_trans (Nat.div_le_self _ _) hn)
    have e1 : (n : Int) / 2 ^ k = (y : Int) := by rw [hy]; simp
    have HB := zHi hb; have HR := zHi (zAi hk (zAi hg (zAi hf hy))); clear hb hW hN hm hL hn hk hg hw hf hy; go_wp2_with fail
    refine HB.out.mono ?_; rintro e w2 ⟨rfl, hw2, hf2⟩; have HW := zHi (zAi hw2 hf2); clear hw2 hf2; go_wp2_with fail
    go_roundg (many - (k + 1))
    case measure => have := HR.out.2.1; omega
    case rel =>
     obtain ⟨hk, hg, hf, hy⟩ := HR.out; refine ⟨k + 1, by omega, rfl, by go_num, ?_, frm_SWr_trans hf HW.out.2⟩
     have := HW.out.1; rw [enc_succ, ← List.append_assoc, ← hy]; exact this
  · obtain rfl : k = many := by omega
    have hd : decide (k < k) = false := by simp
    have HR := zHi (zAi hw hf); clear hlt hw hf hg; go_wp2_with fail
    exact bodyPost_end (results_none rfl _ _ _) rfl ⟨rfl, HR.out.1, HR.out.2⟩
def CdInv (w : World) (N0 W : Nat) (L : List Bool) (n long g : Nat) (i : Value) (wr : World) : Prop :=
 ∃ (j : Nat) (M : List Bool), j ≤ long ∧ g = j ∧ i = .int .i64 ((j : Int) - 1) ∧ M ++ encC n j = encC n long ∧ Wt wr N0 W (L ++ M) ∧ Frm (SWr w N0 W) w wr
theorem code_any (w : World) (N0 W : Nat) (L : List Bool) (h : Wt w N0 W L) (hW : W < N0) (hN : N0 ≤ w.heap.size) (n long : Nat) (hm : long ≤ 64) (hL : L.length ≤ 17592186044416) (hn : n ≤ 1099511627776) :
 Calls Tryz.prog 65 #[.pointer (some ⟨W, 0, none⟩), .int .i64 (n : Int), .int .i64 (long : Int)] w fun e w' => e = .returned (.tuple #[]) ∧ Wt w' N0 W (L ++ encC n long) ∧ Frm (SWr w N0 W) w w' := by
 have HH := zHi h
 have HA := zHi (zAi hW (zAi hN (zAi hm (zAi hL hn))))
 have c1 : (long : Int) ≤ 64 := by omega
 clear h hW hN hm hL hn
 go_enter Tryz.func65, Tryz.ntmps65
 go_wp2_with fail
 go_loopg [6] long (fun g i wr => CdInv w N0 W L n long g i wr)
 case atStart => exact ⟨long, [], Nat.le_refl _, rfl, rfl, rfl, by rw [List.append_nil]; exact HH.out, Frm.refl _ _⟩
 case round =>
  obtain ⟨j, M, hj, hg, rfl, hM, hw, hf⟩ := hrel
  cases j with
  | zero =>
   have e0 : ((0 : Nat) : Int) - 1 = -1 := rfl; rw [e0]; have HR := zHi (zAi hw (zAi hf hM)); clear hw hf hg hM hj e0; go_wp2_with fail
   refine bodyPost_end (results_none rfl _ _ _) rfl ⟨rfl, ?_, HR.out.2.1⟩; have h1 := HR.out.1; have h2 := HR.out.2.2; rw [show encC n 0 = [] from rfl, List.append_nil] at h2
   rw [h2] at h1; exact h1
  | succ k =>
   have e0 : ((k + 1 : Nat) : Int) - 1 = (k : Int) := by omega
   rw [e0]; obtain ⟨hW, hN, hm, hL, hn⟩ := HA.out; obtain ⟨y, hy⟩ : ∃ y, y = n / 2 ^ k := ⟨_, rfl⟩; have hMl : M.length ≤ 64 := by have := congrArg List.length hM; rw [List.length_append, encC_len, encC_len] at this; omega
   have hb := bit_any wr N0 W (L ++ M) hw hW (Nat.le_trans hN hf.size) (by rw [List.length_append]; omega) y (by rw [hy]; exact Nat.le_trans (Nat.div_le_self _ _) hn)
   have e1 : (n : Int) / 2 ^ k = (y : Int) := by rw [hy]; simp
   have c2 : (k : Int) ≤ 64 := by omega
   have HB := zHi hb; have HR := zHi (zAi hj (zAi hg (zAi hf (zAi hy hM)))); clear hb hW hN hm hL hn hj hg hw hf hy hM hMl e0; go_wp2_with fail
   refine HB.out.mono ?_; rintro e w2 ⟨rfl, hw2, hf2⟩; have HW := zHi (zAi hw2 hf2); clear hw2 hf2; go_wp2_with fail
   go_roundg k
   case measure => have := HR.out.2.1; omega
   case rel =>
    obtain ⟨hj, hg, hf, hy, hM⟩ := HR.out; refine ⟨k, M ++ [y % 2 == 1], by omega, rfl, rfl, ?_, ?_, frm_SWr_trans hf HW.out.2⟩
    · rw [← hM, encC_succ, ← hy, List.append_assoc]; rfl
    · have := HW.out.1; rw [← List.append_assoc]; exact this
theorem align_any (w : World) (N0 W : Nat) (L : List Bool) (h : Wt w N0 W L) (hW : W < N0) (hL : L.length ≤ 35184372088832) :
 Calls Tryz.prog 46 #[.pointer (some ⟨W, 0, none⟩)] w fun e w' => e = .returned (.tuple #[]) ∧ Wt w' N0 W (padTo L) ∧ Frm (SWr w N0 W) w w' := by
 have HH := zHi h
 obtain ⟨⟨v, hv, hown⟩, hat, hfr⟩ := h
 have f1 := hfr 1
 obtain ⟨b, cap, rfl, _⟩ := hown.bytes
 obtain ⟨m, hm⟩ : ∃ m, m = (pack L).length := ⟨_, rfl⟩
 have hm2 : m = (L.length + 7) / 8 := by rw [hm, pack_len]
 have c1 : (m : Int) ≤ 4398046511104 := by omega
 rw [← hm] at hv
 have HM := zHi (zAi hm (zAi hm2 (zAi hown (zAi hfr hW))))
 clear hm hm2 hown hfr hL hW
 go_enter Tryz.func46, Tryz.ntmps46
 go_wp2_with fail
 obtain ⟨hm, hm2, hown, hfr, hW⟩ := HM.out
 refine bodyPost_end (results_none rfl _ _ _) rfl ⟨rfl, ⟨⟨_, (cell_set_off (by decide)).trans hv, ?_⟩, ?_, fun o => by rw [World.frozen?_setCell]; exact hfr o⟩, ?_⟩
 · rw [pack_pad, hm]; exact hown.keep (S := fun b _ => b = W) ((Frm.refl _ _).setCell (.inl rfl) _) (fun g o hg e => by have := (hown.lt g hg).1; omega)
 · rw [padTo_len, ← hm2]; have := set_get (v := .int .i64 (8 * (m : Int))) hat; rw [this]; simp
 · exact (Frm.refl _ _).setCell (.inl (.inl rfl)) _
theorem pow_le_Int {x P m : Nat} (hP : P = 2 ^ x) (hx : x ≤ m) : P ≤ 2 ^ m := by rw [hP]; exact Nat.pow_le_pow_right (by omega) hx
theorem lengthOf_any (w : World) (s : Nat) (h1 : 257 ≤ s) (h2 : s ≤ 285) :
 Calls Tryz.prog 51 #[.int .i64 (s : Int)] w fun e w' => e = .returned (.tuple #[natV (goLen s).1, natV (goLen s).2]) ∧ w = w' := by
 obtain ⟨k, hk⟩ : ∃ k, k = s - 257 := ⟨_, rfl⟩
 have e1 : (s : Int) - 257 = (k : Int) := by omega
 have c1 : (k : Int) ≤ 28 := by omega
 have HK := zHi hk
 have c0 : (s : Int) ≤ 285 := by omega
 clear h1 h2 hk
 by_cases h8 : k < 8
 · have t1 : decide ((k : Int) < 8) = true := by simp; omega
   have H8 := zHi h8; clear h8
   go_enter Tryz.func51, Tryz.ntmps51
   go_wp2_with fail
   go_ret2
   refine ⟨?_, rfl⟩; unfold goLen; rw [← HK.out, if_pos H8.out]
   go_num
 · have t1 : decide ((k : Int) < 8) = false := by simp; omega
   by_cases h28 : k = 28
   · have t2 : ((k : Int) == 28) = true := by simp; omega
     have H8 := zHi (zAi h8 h28); clear h8 h28
     go_enter Tryz.func51, Tryz.ntmps51
     go_wp2_with fail
     go_ret2
     refine ⟨?_, rfl⟩; unfold goLen; rw [← HK.out, if_neg H8.out.1, if_pos H8.out.2]; rfl
   · have t2 : ((k : Int) == 28) = false := by simp; omega
     obtain ⟨x, hx⟩ : ∃ x, x = k / 4 - 1 := ⟨_, rfl⟩; obtain ⟨u, hu⟩ : ∃ u, u = 4 + k % 4 := ⟨_, rfl⟩; obtain ⟨P, hP⟩ : ∃ P : Nat, P = 2 ^ x := ⟨_, rfl⟩; obtain ⟨v, hv⟩ : ∃ v : Nat, v = u * P := ⟨_, rfl⟩; have hPle := pow_le_Int hP (show x ≤ 6 by omega)
     have hvle : v ≤ 7 * 64 := by rw [hv]; exact Nat.mul_le_mul (by omega) hPle
     have e2 : (k : Int) / 4 - 1 = (x : Int) := by omega
     have e3 : 4 + (k : Int) % 4 = (u : Int) := by omega
     have e4 : (2 : Int) ^ x = (P : Int) := by rw [hP]; simp
     have e5 : (u : Int) * (P : Int) = (v : Int) := by rw [hv]; simp
     have c2 : (v : Int) ≤ 448 := by omega
     have c3 : (x : Int) ≤ 6 := by omega
     have H8 := zHi (zAi h8 (zAi h28 (zAi hx (zAi hu (zAi hP hv))))); clear h8 h28 hx hu hP hv hPle hvle
     go_enter Tryz.func51, Tryz.ntmps51
     go_wp2_with fail
     go_ret2
     refine ⟨?_, rfl⟩; obtain ⟨h8, h28, hx, hu, hP, hv⟩ := H8.out; unfold goLen; rw [← HK.out, if_neg h8, if_neg h28]; simp only; rw [← hx, ← hu, ← hP, ← hv]
     go_num
theorem distanceOf_any (w : World) (s : Nat) (h2 : s ≤ 29) :
 Calls Tryz.prog 52 #[.int .i64 (s : Int)] w fun e w' => e = .returned (.tuple #[natV (goDist s).1, natV (goDist s).2]) ∧ w = w' := by
 have c0 : (s : Int) ≤ 29 := by omega
 by_cases h8 : s < 4
 · have t1 : decide ((s : Int) < 4) = true := by simp; omega
   have H8 := zHi h8; clear h8 h2
   go_enter Tryz.func52, Tryz.ntmps52
   go_wp2_with fail
   go_ret2
   refine ⟨?_, rfl⟩; unfold goDist; rw [if_pos H8.out]
   go_num
 · have t1 : decide ((s : Int) < 4) = false := by simp; omega
   obtain ⟨x, hx⟩ : ∃ x, x = s / 2 - 1 := ⟨_, rfl⟩; obtain ⟨u, hu⟩ : ∃ u, u = 2 + s % 2 := ⟨_, rfl⟩; obtain ⟨P, hP⟩ : ∃ P : Nat, P = 2 ^ x := ⟨_, rfl⟩; obtain ⟨v, hv⟩ : ∃ v : Nat, v = u * P := ⟨_, rfl⟩; have hPle := pow_le_Int hP (show x ≤ 13 by omega)
   have hvle : v ≤ 3 * 8192 := by rw [hv]; exact Nat.mul_le_mul (by omega) hPle
   have e2 : (s : Int) / 2 - 1 = (x : Int) := by omega
   have e3 : 2 + (s : Int) % 2 = (u : Int) := by omega
   have e4 : (2 : Int) ^ x = (P : Int) := by rw [hP]; simp
   have e5 : (u : Int) * (P : Int) = (v : Int) := by rw [hv]; simp
   have c2 : (v : Int) ≤ 24576 := by omega
   have c3 : (x : Int) ≤ 13 := by omega
   have H8 := zHi (zAi h8 (zAi hx (zAi hu (zAi hP hv)))); clear h8 hx hu hP hv hPle hvle h2
   go_enter Tryz.func52, Tryz.ntmps52
   go_wp2_with fail
   go_ret2
   refine ⟨?_, rfl⟩; obtain ⟨h8, hx, hu, hP, hv⟩ := H8.out; unfold goDist; rw [if_neg h8]; simp only; rw [← hx, ← hu, ← hP, ← hv]
   go_num
theorem goLen_le (s : Nat) (h1 : 257 ≤ s) (h2 : s ≤ 285) : (goLen s).1 ≤ 258 ∧ (goLen s).2 ≤ 6 := by
 have : ∀ k : Fin 29, (goLen (k.1 + 257)).1 ≤ 258 ∧ (goLen (k.1 + 257)).2 ≤ 6 := by decide +kernel
 have h := this ⟨s - 257, by omega⟩
 simp only [show s - 257 + 257 = s by omega] at h
 exact h
def LsInv (long g : Nat) (sv : Value) : Prop := ∃ s : Nat, 257 ≤ s ∧ s ≤ 284 ∧ g = s ∧ sv = .int .i64 (s : Int) ∧ down (fun s => (goLen s).1) long s = down (fun s => (goLen s).1) long 284
theorem lengthSymbol_any (w : World) (n : Nat) (h1 : 3 ≤ n) (h2 : n ≤ 258) :
 Calls Tryz.prog 66 #[.int .i64 (n : Int)] w fun e w' => e = .returned (.tuple #[natV (lenSymbol n).1, natV (lenSymbol n).2.1, natV (lenSymbol n).2.2]) ∧ w = w' := by
 have c0 : (n : Int) ≤ 258 := by omega
 have H12 := zHi (zAi h1 h2)
 by_cases h258 : n = 258
 · subst h258; clear h1 h2
   go_enter Tryz.func66, Tryz.ntmps66
   go_wp2_with fail
   go_ret3
   exact ⟨rfl, rfl⟩
 · have t1 : ((n : Int) == 258) = false := by simp; omega
   have HN := zHi h258; clear h258 h1 h2
   go_enter Tryz.func66, Tryz.ntmps66
   go_wp2_with fail
   go_loopg [2] 284 (fun g sv wr => w = wr ∧ LsInv n g sv)
   case atStart => exact ⟨rfl, 284, by omega, by omega, rfl, rfl, rfl⟩
   case round =>
    obtain ⟨rfl, s, a1, a2, hg, rfl, hd⟩ := hrel; obtain ⟨g1, g2⟩ := goLen_le s (by omega) (by omega)
    have hl := lengthOf_any w s (by omega) (by omega)
    obtain ⟨q, hq⟩ : ∃ q, q = goLen s := ⟨_, rfl⟩; rw [← hq] at hl g1 g2; obtain ⟨qb, qx⟩ := q; simp only at g1 g2 hl; have c1 : (s : Int) ≤ 284 := by omega
    have c2 : (257 : Int) ≤ (s : Int) := by omega
    have c3 : (qb : Int) ≤ 258 := by omega
    have HL := zHi hl; have HD := zHi (zAi hd (zAi hq.symm (zAi a1 (zAi a2 hg)))); clear hl hd hq a1 a2 hg g1 g2; go_wp2_with fail
    refine HL.out.mono ?_; rintro e w1 ⟨rfl, rfl⟩
    by_cases hge : qb ≤ n
    · have t2 : decide ((qb : Int) ≤ (n : Int)) = true := by simp; omega
      have t3 : decide (qb ≤ n) = true := by simp; omega
      have HG := zHi hge; have c4 : (qb : Int) ≤ (n : Int) := by omega
      clear hge; go_wp2_with fail
      go_ret3
      refine ⟨?_, rfl⟩; obtain ⟨hd, hq, a1, a2, hg⟩ := HD.out; have hs : down (fun s => (goLen s).1) n 284 = s := by
       rw [← hd]; obtain ⟨k, rfl⟩ : ∃ k, s = k + 1 := ⟨s - 1, by omega⟩
       rw [down, if_pos (by simp only [hq]; exact HG.out)]
      unfold lenSymbol; rw [if_neg HN.out, hs]; simp only [hq]; have := HG.out
      go_num
    · have t3 : decide (qb ≤ n) = false := by simp; omega
      have HG := zHi hge; clear hge; go_wp2_with fail
      go_roundg (s - 1)
      case measure => have := HD.out.2.2.1; have := HD.out.2.2.2.2; omega
      case rel =>
       obtain ⟨hd, hq, a1, a2, hg⟩ := HD.out; have hlt := HG.out; have h257 : s ≠ 257 := fun e => by
        subst e; have : goLen 257 = (3, 0) := by decide
        rw [this] at hq; obtain ⟨rfl, rfl⟩ := Prod.mk.injEq .. ▸ hq; have := H12.out.1; omega
       refine ⟨rfl, s - 1, by omega, by omega, rfl, ?_, ?_⟩
       · congr 1; omega
       · obtain ⟨k, rfl⟩ : ∃ k, s = k + 1 := ⟨s - 1, by omega⟩
         rw [← hd, down, if_neg (by simp only [hq]; exact hlt), Nat.add_sub_cancel]
theorem goDist_le (s : Nat) (h2 : s ≤ 29) : (goDist s).1 ≤ 32768 ∧ (goDist s).2 ≤ 13 := by
 have : ∀ k : Fin 30, (goDist k.1).1 ≤ 32768 ∧ (goDist k.1).2 ≤ 13 := by decide +kernel
 exact this ⟨s, by omega⟩
def DsInv (far g : Nat) (sv : Value) : Prop := ∃ s : Nat, s ≤ 29 ∧ g = s ∧ sv = .int .i64 (s : Int) ∧ down (fun s => (goDist s).1) far s = down (fun s => (goDist s).1) far 29
theorem distanceSymbol_any (w : World) (n : Nat) (h1 : 1 ≤ n) (h2 : n ≤ 32768) :
 Calls Tryz.prog 67 #[.int .i64 (n : Int)] w fun e w' => e = .returned (.tuple #[natV (distSymbol n).1, natV (distSymbol n).2.1, natV (distSymbol n).2.2]) ∧ w = w' := by
 have c0 : (n : Int) ≤ 32768 := by omega
 have H12 := zHi (zAi h1 h2)
 clear h1 h2
 go_enter Tryz.func67, Tryz.ntmps67
 go_wp2_with fail
 go_loopg [2] 29 (fun g sv wr => w = wr ∧ DsInv n g sv)
 case atStart => exact ⟨rfl, 29, by omega, rfl, rfl, rfl⟩
 case round =>
  obtain ⟨rfl, s, a2, hg, rfl, hd⟩ := hrel; obtain ⟨g1, g2⟩ := goDist_le s (by omega)
  have hl := distanceOf_any w s (by omega)
  obtain ⟨q, hq⟩ : ∃ q, q = goDist s := ⟨_, rfl⟩; rw [← hq] at hl g1 g2; obtain ⟨qb, qx⟩ := q; simp only at g1 g2 hl; have c1 : (s : Int) ≤ 29 := by omega
  have c3 : (qb : Int) ≤ 32768 := by omega
  have HL := zHi hl; have HD := zHi (zAi hd (zAi hq.symm (zAi a2 hg))); clear hl hd hq a2 hg g1 g2; go_wp2_with fail
  refine HL.out.mono ?_; rintro e w1 ⟨rfl, rfl⟩
  by_cases hge : qb ≤ n
  · have t2 : decide ((qb : Int) ≤ (n : Int)) = true := by simp; omega
    have t3 : decide (qb ≤ n) = true := by simp; omega
    have HG := zHi hge; have c4 : (qb : Int) ≤ (n : Int) := by omega
    clear hge; go_wp2_with fail
    go_ret3
    refine ⟨?_, rfl⟩; obtain ⟨hd, hq, a2, hg⟩ := HD.out; have hs : down (fun s => (goDist s).1) n 29 = s := by
     rw [← hd]
     cases s with
     | zero => rfl
     | succ k => rw [down, if_pos (by simp only [hq]; exact HG.out)]
    unfold distSymbol; rw [hs]; simp only [hq]; have := HG.out
    go_num
  · have t3 : decide (qb ≤ n) = false := by simp; omega
    have HG := zHi hge; clear hge; go_wp2_with fail
    go_roundg (s - 1)
    case measure =>
     obtain ⟨hd, hq, a2, hg⟩ := HD.out; have hlt := HG.out; have h0 : s ≠ 0 := fun e => by
      subst e; have : goDist 0 = (1, 0) := by decide
      rw [this] at hq; obtain ⟨rfl, rfl⟩ := Prod.mk.injEq .. ▸ hq; have := H12.out.1; omega
     omega
    case rel =>
     obtain ⟨hd, hq, a2, hg⟩ := HD.out; have hlt := HG.out; have h0 : s ≠ 0 := fun e => by
      subst e; have : goDist 0 = (1, 0) := by decide
      rw [this] at hq; obtain ⟨rfl, rfl⟩ := Prod.mk.injEq .. ▸ hq; have := H12.out.1; omega
     refine ⟨rfl, s - 1, by omega, rfl, ?_, ?_⟩
     · congr 1; omega
     · obtain ⟨k, rfl⟩ : ∃ k, s = k + 1 := ⟨s - 1, by omega⟩
       rw [← hd, down, if_neg (by simp only [hq]; exact hlt), Nat.add_sub_cancel]
theorem ownN_new (w : World) (l : List Nat) (hm : l.length ≤ maxLen) : OwnN (w.alloc (.cells (l.map natV).toArray 3)) w.heap.size (.slice (some ⟨w.heap.size, 0, none⟩) l.length l.length) l := by
 have hh := heap_alloc_new w (.cells (l.map natV).toArray 3)
 refine ⟨⟨by simp, .inr ⟨w.heap.size, l.length, _, rfl, Nat.le_refl _, hh, Nat.le_refl _, hm, by simp, ?_⟩⟩, fun g hg o u hu => ?_, fun g hg o => ?_⟩
 · rw [List.take_of_length_le (by simp)]
 · obtain rfl := Option.some.inj hg; rw [cells_at hh] at hu; obtain ⟨x, _, rfl⟩ := List.mem_map.1 (List.mem_of_getElem? (by simpa using hu : (l.map natV)[o]? = some u))
   exact ⟨_, rfl⟩
 · obtain rfl := Option.some.inj hg; exact World.frozen?_alloc_new (w := w) ..
theorem order_any (w : World) :
 Calls Tryz.prog 53 #[] w fun e w' => e = .returned (.slice (some ⟨w.heap.size, 0, none⟩) 19 19) ∧ OwnN w' w.heap.size (.slice (some ⟨w.heap.size, 0, none⟩) 19 19) clOrder ∧ Frm (fun _ _ => False) w w' := by
 have h := ownN_new w clOrder (by decide)
 have e : (clOrder.map natV).toArray = #[.int .i64 16, .int .i64 17, .int .i64 18, .int .i64 0, .int .i64 8, .int .i64 7, .int .i64 9, .int .i64 6, .int .i64 10, .int .i64 5, .int .i64 11, .int .i64 4, .int .i64 12, .int .i64 3, .int .i64 13, .int .i64 2, .int .i64 14, .int .i64 1, .int .i64 15] := by rfl
 rw [e] at h
 have HX := zHi h
 clear h e
 go_enter Tryz.func53, Tryz.ntmps53
 go_wp2_with fail
 go_ret
 exact ⟨rfl, HX.out, (Frm.refl _ _).alloc _⟩
theorem OwnN.fresh {w w' : World} {base : Nat} {v : Value} {l : List Nat} (h : OwnN w base v l) {w0 : World} (h0 : Frm (fun _ _ => False) w0 w) (hb : w0.heap.size ≤ base) (hf : Frm (fun b _ => v.ownBlock = some b) w w') : Frm (fun _ _ => False) w0 w' :=
 h0.trans' hf (fun x o hx q => by have := (h.lt x q).1; omega)
theorem fixedLens_at (k : Nat) (h : k < 288) : fixedLens.take (k + 1) = fixedLens.take k ++ [if k < 144 then 8 else if k < 256 then 9 else if k < 280 then 7 else 8] := by
 have h1 : ∀ k : Fin 288, fixedLens[k.1]? = some (if k.1 < 144 then 8 else if k.1 < 256 then 9 else if k.1 < 280 then 7 else 8) := by decide +kernel
 have := h1 ⟨k, h⟩
 simp only at this
 rw [List.take_add_one, this]; rfl
def FlInv (w : World) (N0 g : Nat) (v i : Value) (wr : World) : Prop := ∃ k : Nat, k ≤ 288 ∧ g = 288 - k ∧ i = .int .i64 (k : Int) ∧ OwnN wr N0 v (fixedLens.take k) ∧ Frm (fun _ _ => False) w wr
def FdInv (w : World) (N0 g : Nat) (v i : Value) (wr : World) : Prop := ∃ k : Nat, k ≤ 32 ∧ g = 32 - k ∧ i = .int .i64 (k : Int) ∧ OwnN wr N0 v (fixedDist.take k) ∧ Frm (fun _ _ => False) w wr
set_option maxHeartbeats 1000000 in
theorem fixed_any (w : World) :
 Calls Tryz.prog 36 #[] w fun e w' => ∃ v1 v2, e = .returned (.tuple #[v1, v2]) ∧ OwnN w' w.heap.size v1 fixedLens ∧ OwnN w' w.heap.size v2 fixedDist ∧ Frm (fun _ _ => False) w w' := by
 go_enter Tryz.func36, Tryz.ntmps36
 go_wp2_with fail
 go_loopg [0, 3] 288 (fun g v i wr => FlInv w w.heap.size g v i wr)
 case atStart => exact ⟨0, by omega, rfl, rfl, Row.nil _ _ _ _ _, Frm.refl _ _⟩
 case round =>
  obtain ⟨k, hk, hg, rfl, hown, hf⟩ := hrel
  by_cases hlt : k < 288
  · have t0 : decide ((k : Int) < 288) = true := by simp; omega
    have hst := fixedLens_at k hlt; have c1 : (k : Int) ≤ 287 := by omega
    by_cases h1 : k < 144
    · have t1 : decide ((k : Int) < 144) = true := by simp; omega
      rw [if_pos h1] at hst; obtain ⟨v', w', hrun, hown', hfr⟩ := append_nat wr w.heap.size _ _ hown 8 (by rw [List.length_take]; omega) hf.size
      have hf' := hown.fresh hf (Nat.le_refl _) hfr; rw [← hst] at hown'; have hr : ∀ ty, (Builtin.append_ #[33, 33] ty #[u0, .slice (some ⟨wr.heap.size, 0, none⟩) 1 1]).run Tryz.prog (wr.alloc (.cells #[.int .i64 8] 3)) = .ok v' w' := hrun; have HX := zHi (zAi hown' (zAi hf' (zAi hg hlt))); clear hown hf hrun hown' hfr hf' hst hg hlt hk
      (try clear h1)
      (try clear h2)
      (try clear h3)
      go_wp2_with (at_builtin; refine wpList_append_by (by rfl) (.tmp 12) (.tmp 13) 33 (by rfl) _ _ (by rfl) (by rfl) (hr _) ?_)
      go_roundg (288 - (k + 1))
      case measure => have := HX.out.2.2.1; have := HX.out.2.2.2; omega
      case rel => exact ⟨k + 1, HX.out.2.2.2, rfl, by go_num, HX.out.1, HX.out.2.1⟩
    · have t1 : decide ((k : Int) < 144) = false := by simp; omega
      by_cases h2 : k < 256
      · have t2 : decide ((k : Int) < 256) = true := by simp; omega
        rw [if_neg h1, if_pos h2] at hst; obtain ⟨v', w', hrun, hown', hfr⟩ := append_nat wr w.heap.size _ _ hown 9 (by rw [List.length_take]; omega) hf.size
        have hf' := hown.fresh hf (Nat.le_refl _) hfr; rw [← hst] at hown'; have hr : ∀ ty, (Builtin.append_ #[33, 33] ty #[u0, .slice (some ⟨wr.heap.size, 0, none⟩) 1 1]).run Tryz.prog (wr.alloc (.cells #[.int .i64 9] 3)) = .ok v' w' := hrun; have HX := zHi (zAi hown' (zAi hf' (zAi hg hlt))); clear hown hf hrun hown' hfr hf' hst hg hlt hk
        (try clear h1)
        (try clear h2)
        (try clear h3)
        go_wp2_with (at_builtin; refine wpList_append_by (by rfl) (.tmp 18) (.tmp 19) 33 (by rfl) _ _ (by rfl) (by rfl) (hr _) ?_)
        go_roundg (288 - (k + 1))
        case measure => have := HX.out.2.2.1; have := HX.out.2.2.2; omega
        case rel => exact ⟨k + 1, HX.out.2.2.2, rfl, by go_num, HX.out.1, HX.out.2.1⟩
      · have t2 : decide ((k : Int) < 256) = false := by simp; omega
        by_cases h3 : k < 280
        · have t3 : decide ((k : Int) < 280) = true := by simp; omega
          rw [if_neg h1, if_neg h2, if_pos h3] at hst; obtain ⟨v', w', hrun, hown', hfr⟩ := append_nat wr w.heap.size _ _ hown 7 (by rw [List.length_take]; omega) hf.size
          have hf' := hown.fresh hf (Nat.le_refl _) hfr; rw [← hst] at hown'; have hr : ∀ ty, (Builtin.append_ #[33, 33] ty #[u0, .slice (some ⟨wr.heap.size, 0, none⟩) 1 1]).run Tryz.prog (wr.alloc (.cells #[.int .i64 7] 3)) = .ok v' w' := hrun; have HX := zHi (zAi hown' (zAi hf' (zAi hg hlt))); clear hown hf hrun hown' hfr hf' hst hg hlt hk
          (try clear h1)
          (try clear h2)
          (try clear h3)
          go_wp2_with (at_builtin; refine wpList_append_by (by rfl) (.tmp 24) (.tmp 25) 33 (by rfl) _ _ (by rfl) (by rfl) (hr _) ?_)
          go_roundg (288 - (k + 1))
          case measure => have := HX.out.2.2.1; have := HX.out.2.2.2; omega
          case rel => exact ⟨k + 1, HX.out.2.2.2, rfl, by go_num, HX.out.1, HX.out.2.1⟩
        · have t3 : decide ((k : Int) < 280) = false := by simp; omega
          rw [if_neg h1, if_neg h2, if_neg h3] at hst; obtain ⟨v', w', hrun, hown', hfr⟩ := append_nat wr w.heap.size _ _ hown 8 (by rw [List.length_take]; omega) hf.size
          have hf' := hown.fresh hf (Nat.le_refl _) hfr; rw [← hst] at hown'; have hr : ∀ ty, (Builtin.append_ #[33, 33] ty #[u0, .slice (some ⟨wr.heap.size, 0, none⟩) 1 1]).run Tryz.prog (wr.alloc (.cells #[.int .i64 8] 3)) = .ok v' w' := hrun; have HX := zHi (zAi hown' (zAi hf' (zAi hg hlt))); clear hown hf hrun hown' hfr hf' hst hg hlt hk
          (try clear h1)
          (try clear h2)
          (try clear h3)
          go_wp2_with (at_builtin; refine wpList_append_by (by rfl) (.tmp 6) (.tmp 7) 33 (by rfl) _ _ (by rfl) (by rfl) (hr _) ?_)
          go_roundg (288 - (k + 1))
          case measure => have := HX.out.2.2.1; have := HX.out.2.2.2; omega
          case rel => exact ⟨k + 1, HX.out.2.2.2, rfl, by go_num, HX.out.1, HX.out.2.1⟩
  · obtain rfl : k = 288 := by omega
    have HX := zHi (zAi hown hf); clear hlt hown hf hg hk; go_wp2_with fail
    obtain ⟨w2, rfl⟩ : ∃ w2, w2 = wr := ⟨_, rfl⟩; go_loopg [1, 28] 32 (fun g v i wr => FdInv w2 w2.heap.size g v i wr)
    case atStart => exact ⟨0, by omega, rfl, rfl, Row.nil _ _ _ _ _, Frm.refl _ _⟩
    case round =>
     obtain ⟨k, hk, hg, rfl, hown, hf⟩ := hrel
     by_cases hlt : k < 32
     · have t0 : decide ((k : Int) < 32) = true := by simp; omega
       have c1 : (k : Int) ≤ 31 := by omega
       have hst : fixedDist.take (k + 1) = fixedDist.take k ++ [5] := by
        unfold fixedDist; rw [List.take_replicate, List.take_replicate, show min (k + 1) 32 = min k 32 + 1 by omega, List.replicate_succ']
       obtain ⟨v', w', hrun, hown', hfr⟩ := append_nat wr w2.heap.size _ _ hown 5 (by rw [List.length_take]; omega) hf.size
       have hf' := hown.fresh hf (Nat.le_refl _) hfr; rw [← hst] at hown'; have hr : ∀ ty, (Builtin.append_ #[33, 33] ty #[u1, .slice (some ⟨wr.heap.size, 0, none⟩) 1 1]).run Tryz.prog (wr.alloc (.cells #[.int .i64 5] 3)) = .ok v' w' := hrun; have HX2 := zHi (zAi hown' (zAi hf' (zAi hg hlt))); clear hown hf hrun hown' hfr hf' hst hg hlt hk; go_wp2_with (at_builtin; refine wpList_append_by (by rfl) (.tmp 30) (.tmp 31) 33 (by rfl) _ _ (by rfl) (by rfl) (hr _) ?_)
       go_roundg (32 - (k + 1))
       case measure => have := HX2.out.2.2.1; have := HX2.out.2.2.2; omega
       case rel => exact ⟨k + 1, HX2.out.2.2.2, rfl, by go_num, HX2.out.1, HX2.out.2.1⟩
     · obtain rfl : k = 32 := by omega
       have HX2 := zHi (zAi hown hf); clear hlt hown hf hg hk; go_wp2_with fail
       go_ret2
       have e1 : fixedLens.take 288 = fixedLens := List.take_of_length_le (by rw [fixedLens_length]; omega)
       have e2 : fixedDist.take 32 = fixedDist := List.take_of_length_le (by unfold fixedDist; rw [List.length_replicate]; omega)
       have h1 := HX.out.1; have h2 := HX2.out.1; rw [e1] at h1; rw [e2] at h2; exact ⟨_, _, rfl, h1.keep HX2.out.2 (fun _ _ _ e => e), h2.lower HX.out.2.size, HX.out.2.trans HX2.out.2⟩
def cdL (lens : List Nat) (k j : Nat) : List Nat := (List.range lens.length).map fun s => if lens.getD s 0 ≠ 0 ∧ (lens.getD s 0 ≤ k ∨ lens.getD s 0 = k + 1 ∧ s < j) then codeOf lens s else 0
theorem cdL_len (lens : List Nat) (k j : Nat) : (cdL lens k j).length = lens.length := by simp [cdL]
theorem cdL_get (lens : List Nat) (k j s : Nat) (hs : s < lens.length) : (cdL lens k j)[s]? = some (if lens.getD s 0 ≠ 0 ∧ (lens.getD s 0 ≤ k ∨ lens.getD s 0 = k + 1 ∧ s < j) then codeOf lens s else 0) := by
 unfold cdL
 rw [List.getElem?_map, List.getElem?_range hs]; rfl
theorem cdL_zero (lens : List Nat) : cdL lens 0 0 = List.replicate lens.length 0 := by
 apply List.ext_getElem?
 intro s
 by_cases hs : s < lens.length
 · rw [cdL_get _ _ _ _ hs, List.getElem?_replicate, if_pos hs, if_neg (by omega)]
 · rw [List.getElem?_eq_none (by rw [cdL_len]; omega), List.getElem?_eq_none (by rw [List.length_replicate]; omega)]
theorem cdL_next (lens : List Nat) (k : Nat) : cdL lens k lens.length = cdL lens (k + 1) 0 := by
 apply List.ext_getElem?
 intro s
 by_cases hs : s < lens.length
 · rw [cdL_get _ _ _ _ hs, cdL_get _ _ _ _ hs]
   congr 1
   by_cases h : lens.getD s 0 ≠ 0 ∧ (lens.getD s 0 ≤ k ∨ lens.getD s 0 = k + 1 ∧ s < lens.length)
   · rw [if_pos h, if_pos (by omega)]
   · rw [if_neg h, if_neg (by omega)]
 · rw [List.getElem?_eq_none (by rw [cdL_len]; omega), List.getElem?_eq_none (by rw [cdL_len]; omega)]
theorem cdL_skip (lens : List Nat) (k j : Nat) (h : lens.getD j 0 ≠ k + 1) : cdL lens k (j + 1) = cdL lens k j := by
 apply List.ext_getElem?
 intro s
 by_cases hs : s < lens.length
 · rw [cdL_get _ _ _ _ hs, cdL_get _ _ _ _ hs]
   congr 1
   by_cases e : s = j
   · subst e
     by_cases h1 : lens.getD s 0 ≠ 0 ∧ lens.getD s 0 ≤ k
     · rw [if_pos (by omega), if_pos (by omega)]
     · rw [if_neg (by omega), if_neg (by omega)]
   · by_cases h1 : lens.getD s 0 ≠ 0 ∧ (lens.getD s 0 ≤ k ∨ lens.getD s 0 = k + 1 ∧ s < j)
     · rw [if_pos h1, if_pos (by omega)]
     · rw [if_neg h1, if_neg (by omega)]
 · rw [List.getElem?_eq_none (by rw [cdL_len]; omega), List.getElem?_eq_none (by rw [cdL_len]; omega)]
theorem cdL_set (lens : List Nat) (k j : Nat) (hj : j < lens.length) (h : lens.getD j 0 = k + 1) : cdL lens k (j + 1) = (cdL lens k j).set j (codeOf lens j) := by
 apply List.ext_getElem?
 intro s
 rw [List.getElem?_set]
 by_cases hs : s < lens.length
 · by_cases e : j = s
   · subst e; rw [if_pos rfl, if_pos (by rw [cdL_len]; exact hs), cdL_get _ _ _ _ hs, if_pos (by omega)]
   · rw [if_neg e, cdL_get _ _ _ _ hs, cdL_get _ _ _ _ hs]
     congr 1
     by_cases h1 : lens.getD s 0 ≠ 0 ∧ (lens.getD s 0 ≤ k ∨ lens.getD s 0 = k + 1 ∧ s < j)
     · rw [if_pos h1, if_pos (by omega)]
     · rw [if_neg h1, if_neg (by omega)]
 · rw [if_neg (by omega), List.getElem?_eq_none (by rw [cdL_len]; omega), List.getElem?_eq_none (by rw [cdL_len]; omega)]
theorem Ck_bound (lens : List Nat) : ∀ i, i ≤ 15 → Ck (cntAll lens).count i + lens.length ≤ lens.length * 2 ^ i := by
 intro i
 induction i with
 | zero => intro _; simp [Ck]
 | succ i ih =>
  intro h; have h1 := ih (by omega)
  have h2 := (cnt_facts lens).count (i + 1) (by omega) (by omega)
  have h3 : lens.count (i + 1) ≤ lens.length := List.count_le_length; rw [Ck, h2, Nat.pow_succ, ← Nat.mul_assoc]; omega
theorem count_take_succ (lens : List Nat) (j n : Nat) (hj : j < lens.length) : (lens.take (j + 1)).count n = (lens.take j).count n + if lens.getD j 0 = n then 1 else 0 := by
 have e : lens.getD j 0 = lens[j] := by rw [List.getD_eq_getElem?_getD, List.getElem?_eq_getElem hj]; rfl
 rw [List.take_succ_eq_append_getElem hj, List.count_append, e, List.count_singleton]
 simp only [beq_iff_eq]
def CoInv (w : World) (N0 : Nat) (v : Value) (lens : List Nat) (g : Nat) (nx lg : Value) (wr : World) : Prop :=
 ∃ k n l : Nat, k ≤ 15 ∧ g = 15 - k ∧ l = k + 1 ∧ lg = .int .i64 (l : Int) ∧ nx = .int .i64 (n : Int) ∧ n = Ck (cntAll lens).count k ∧ OwnN wr N0 v (cdL lens k 0) ∧ Frm (fun _ _ => False) w wr
def CiInv (w : World) (N0 : Nat) (v : Value) (lens : List Nat) (k : Nat) (g : Nat) (nx i : Value) (wr : World) : Prop :=
 ∃ j n : Nat, j ≤ lens.length ∧ g = lens.length - j ∧ i = .int .i64 (j : Int) ∧ nx = .int .i64 (n : Int) ∧ n = 2 * Ck (cntAll lens).count k + (lens.take j).count (k + 1) ∧ OwnN wr N0 v (cdL lens k j) ∧ Frm (fun _ _ => False) w wr
def CodesPost (w : World) (lens : List Nat) (e : Ending) (w' : World) : Prop :=
 ∃ v out, e = .returned v ∧ OwnN w' w.heap.size v out ∧ out.length = lens.length ∧ (∀ s, lens.getD s 0 ≠ 0 → out.getD s 0 = codeOf lens s) ∧ (∀ s, out.getD s 0 ≤ 1073741824) ∧ Frm (fun _ _ => False) w w'
set_option maxHeartbeats 1000000 in
theorem codes_any (w : World) (b : Option Addr) (lens : List Nat) (cap : Nat) (h : Nt w b lens) (h15 : ∀ n ∈ lens, n ≤ 15) (hl : lens.length ≤ 320) :
 Calls Tryz.prog 64 #[.slice b lens.length cap] w (CodesPost w lens) := by
 have HH := zHi h
 have H15 := zHi h15
 obtain ⟨m, hm⟩ : ∃ m, m = lens.length := ⟨_, rfl⟩
 rw [← hm] at hl ⊢
 have c1 : (m : Int) ≤ 320 := by omega
 have HM := zHi (zAi hm hl)
 have hmk := run_make_row' (P := Tryz.prog) 33 3 (.int .i64 0) 8 Tryz.underlying33 infoInts rfl .i64 .i64 m (by omega) (by omega)
 have hown := ownN_made w m (by simp only [maxLen]; omega)
 have HO := zHi hown
 clear h h15 hm hl hown
 go_enter Tryz.func64, Tryz.ntmps64
 go_wp2_with fail
 obtain ⟨W1, hW1⟩ : ∃ W1, W1 = w.alloc (.cells (madeCells #[.int .i64 0] m) 3) := ⟨_, rfl⟩
 rw [← hW1]
 have hown1 : OwnN W1 w.heap.size (.slice (some ⟨w.heap.size, 0, none⟩) m m) (cdL lens 0 0) := by rw [hW1, cdL_zero, ← HM.out.1]; exact HO.out
 have hf1 : Frm (fun _ _ => False) w W1 := by rw [hW1]; exact (Frm.refl _ _).alloc _
 obtain ⟨N0, hN0⟩ : ∃ N0, N0 = w.heap.size := ⟨_, rfl⟩
 rw [← hN0] at hown1 ⊢
 have HX := zHi (zAi hown1 (zAi hf1 hN0))
 clear hown1 hf1 hN0 hW1 hmk HO
 go_loopg [4, 5] 15 (fun g nx lg wr => CoInv w N0 (.slice (some ⟨N0, 0, none⟩) m m) lens g nx lg wr)
 case atStart => exact ⟨0, 0, 1, by omega, rfl, rfl, rfl, rfl, rfl, HX.out.1, HX.out.2.1⟩
 case round =>
  obtain ⟨k, n, l, hk, hg, hlk, rfl, rfl, hn, hown, hf⟩ := hrel; have hbd := Ck_bound lens k hk; have hpw := pow_le_Int (P := 2 ^ k) rfl hk
  by_cases hlt : k < 15
  · have t1 : decide ((l : Int) ≤ 15) = true := by simp; omega
    have hnle : n ≤ 320 * 32768 := by
     have := Nat.mul_le_mul (show lens.length ≤ 320 by have := HM.out; omega) hpw
     omega
    have c2 : (n : Int) ≤ 10485760 := by omega
    have HR := zHi (zAi hk (zAi hg (zAi hlk (zAi hn (zAi hown (zAi hf hlt)))))); have c3 : (l : Int) ≤ 15 := by omega
    clear hk hg hlk hn hown hf hbd hpw hlt hnle; go_wp2_with fail
    obtain ⟨wo, rfl⟩ : ∃ wo : World, wo = wr := ⟨_, rfl⟩; go_loopg [4, 19] m (fun g nx i wr => CiInv w N0 (.slice (some ⟨N0, 0, none⟩) m m) lens k g nx i wr)
    case atStart =>
     obtain ⟨hk, hg, hlk, hn, hown, hf, hlt⟩ := HR.out; refine ⟨0, 2 * n, Nat.zero_le _, ?_, rfl, ?_, ?_, hown, hf⟩
     · exact HM.out.1
     · go_num
     · rw [hn]; simp
    case round =>
     obtain ⟨j, n2, hj, hg2, rfl, rfl, hn2, hown2, hf2⟩ := hrel; have hcl : (lens.take j).count (k + 1) ≤ 320 := Nat.le_trans List.count_le_length (by rw [List.length_take]; have := HM.out; omega)
     have c4 : (n2 : Int) ≤ 20971840 := by have := HR.out.2.2.2.1; omega
     by_cases hlt : j < m
     · have hjl : j < lens.length := by rw [← HM.out.1]; exact hlt
       obtain ⟨g', hb, hc⟩ := HH.out.cells j hjl; subst hb; have hx : lens.getD j 0 = lens[j] := by rw [List.getD_eq_getElem?_getD, List.getElem?_eq_getElem hjl]; rfl
       rw [← hx] at hc; have hx15 : lens.getD j 0 ≤ 15 := by rw [hx]; exact H15.out _ (List.getElem_mem _)
       have hc1 : wr.cell? ⟨g', j, none⟩ = some (natV (lens.getD j 0)) := hf2.keep hc (fun e => e)
       obtain ⟨x, hxx⟩ : ∃ x, x = lens.getD j 0 := ⟨_, rfl⟩; rw [← hxx] at hc1 hx15; have hc2 : wr.cell? ⟨g', j, none⟩ = some (.int .i64 (x : Int)) := hc1; have c5 : (x : Int) ≤ 15 := by omega
       clear hc1 hc hx hx15
       by_cases e : x = l
       · subst e; obtain ⟨gg, cp, hv, _, _, _, hcell, hfz⟩ := Row.at hown2 (show j < (cdL lens k j).length by rw [cdL_len]; exact hjl)
         have hgg : N0 = gg := Option.some.inj (congrArg Value.ownBlock hv); subst hgg; replace hcell : ∃ ov, wr.cell? ⟨N0, j, none⟩ = some ov := ⟨_, hcell⟩; obtain ⟨ov, hcell⟩ := hcell; have HI := zHi (zAi hj (zAi hg2 (zAi hn2 (zAi hown2 (zAi hf2 (zAi hlt (zAi hjl hxx))))))); clear hj hg2 hn2 hown2 hf2 hjl hxx hv hcl; go_wp2_with fail
         go_roundg (m - (j + 1))
         case measure => have := HI.out.2.1; have := HI.out.2.2.2.2.2.1; have := HM.out.1; omega
         case rel =>
          obtain ⟨hj, hg2, hn2, hown2, hf2, hlt, hjl, hxx⟩ := HI.out; obtain ⟨hk, hg, hlk, hn, hown, hf, hlt'⟩ := HR.out; have hcode : n2 = codeOf lens j := by
           unfold codeOf; rw [← hxx, hn2, hlk]; rfl
          obtain ⟨ho, hfo⟩ := hown2.set (g := N0) rfl (show j < (cdL lens k j).length by rw [cdL_len]; exact hjl) n2
          refine ⟨j + 1, n2 + 1, hjl, by rw [← HM.out.1], by go_num, by go_num, ?_, ?_, hf2.trans' hfo (fun x o hx q => by have := HX.out.2.2; omega)⟩
          · rw [count_take_succ _ _ _ hjl, if_pos (by rw [← hxx, hlk]), hn2]; omega
          · rw [cdL_set _ _ _ hjl (by rw [← hxx, hlk]), ← hcode]
            exact ho
       · have hne : ((x : Int) == (l : Int)) = false := by simp; omega
         have hne2 : (x == l) = false := by simp; exact e
         have HI := zHi (zAi hj (zAi hg2 (zAi hn2 (zAi hown2 (zAi hf2 (zAi hlt (zAi hjl (zAi hxx e)))))))); clear hj hg2 hn2 hown2 hf2 hjl hxx hcl e; go_wp2_with fail
         go_roundg (m - (j + 1))
         case measure => have := HI.out.2.1; have := HI.out.2.2.2.2.2.1; have := HM.out.1; omega
         case rel =>
          obtain ⟨hj, hg2, hn2, hown2, hf2, hlt, hjl, hxx, e⟩ := HI.out; obtain ⟨hk, hg, hlk, hn, hown, hf, hlt'⟩ := HR.out; refine ⟨j + 1, n2, hjl, by rw [← HM.out.1], by go_num, rfl, ?_, ?_, hf2⟩
          · rw [count_take_succ _ _ _ hjl, if_neg (by rw [← hxx, ← hlk]; exact e), hn2]; rfl
          · rw [cdL_skip _ _ _ (by rw [← hxx, ← hlk]; exact e)]; exact hown2
     · obtain rfl : j = m := by have := HM.out.1; omega
       have HI := zHi (zAi hg2 (zAi hn2 (zAi hown2 hf2))); have hd : decide (j < j) = false := by simp
       clear hlt hg2 hn2 hown2 hf2 hj hcl; go_wp2_with fail
       go_roundg (15 - (k + 1))
       case measure => have := HR.out.2.1; have := HR.out.2.2.2.2.2.2; omega
       case rel =>
        obtain ⟨hg2, hn2, hown2, hf2⟩ := HI.out; obtain ⟨hk, hg, hlk, hn, hown, hf, hlt'⟩ := HR.out; have hjm := HM.out.1; refine ⟨k + 1, n2, l + 1, by omega, rfl, by omega, by go_num, rfl, ?_, ?_, hf2⟩
        · rw [hn2, hjm, List.take_length, Ck, (cnt_facts lens).count (k + 1) (by omega) (by omega)]
        · rw [← cdL_next, ← hjm]; exact hown2
  · obtain rfl : k = 15 := by omega
    have t1 : decide ((l : Int) ≤ 15) = false := by simp; omega
    have HI := zHi (zAi hown hf); clear hk hg hlk hn hown hf hlt hbd hpw; go_wp2_with fail
    go_ret
    obtain ⟨hown, hf⟩ := HI.out; have hN := HX.out.2.2; subst hN; have hget : ∀ s, (cdL lens 15 0).getD s 0 = if s < lens.length ∧ lens.getD s 0 ≠ 0 then codeOf lens s else 0 := fun s => by
     by_cases hs : s < lens.length
     · rw [List.getD_eq_getElem?_getD, cdL_get _ _ _ _ hs]; have e : lens.getD s 0 = lens[s] := by rw [List.getD_eq_getElem?_getD, List.getElem?_eq_getElem hs]; rfl
       have := H15.out _ (List.getElem_mem hs)
       by_cases h0 : lens.getD s 0 = 0
       · rw [if_neg (by omega), if_neg (by omega)]; rfl
       · rw [if_pos (by omega), if_pos (by omega)]; rfl
     · rw [List.getD_eq_getElem?_getD, List.getElem?_eq_none (by rw [cdL_len]; omega), if_neg (by omega)]; rfl
    refine ⟨_, cdL lens 15 0, rfl, hown, cdL_len _ _ _, fun s hs => ?_, fun s => ?_, hf⟩
    · rw [hget, if_pos ⟨lt_of_getD hs, hs⟩]
    · rw [hget]; split
      · rename_i hs; obtain ⟨hs1, hs2⟩ := hs; have h1 := codeOf_lt H15.out hs1 hs2; have e : lens.getD s 0 = lens[s] := by rw [List.getD_eq_getElem?_getD, List.getElem?_eq_getElem hs1]; rfl
        have h2 := H15.out _ (List.getElem_mem hs1); have h3 := Ck_bound lens (lens.getD s 0) (by omega)
        have h4 := Nat.mul_le_mul (show lens.length ≤ 320 by have := HM.out; omega) (pow_le_Int (P := 2 ^ lens.getD s 0) (x := lens.getD s 0) (m := 15) rfl (by omega))
        omega
      · omega
end Go.Proofs.YthfncdfcklbigaaGreatDoor
namespace Go.Proofs.YthfncdfcklbigaaGreatDoor
open Go.RowKit Flate
set_option maxRecDepth 100000
theorem run_tail {w : World} {b : Option Addr} {l : List UInt8} {cap : Nat} (h : Bytes w b l) (hcap : l.length ≤ cap) (m : Nat) (hm : m ≤ l.length) :
 ∃ b', (∀ w' : World, (Instr.sliceAt 22 (.slice b l.length cap) (some (.int .i64 (m : Int))) none none).run Tryz.prog w' = .ok (.slice b' (l.length - m) (cap - m)) w') ∧ Bytes w b' (l.drop m) := by
 have hsz : ∀ w : World, (sizeOf (Tryz.prog.elem 22)).run Tryz.prog w = .ok 1 w := fun w => by kernel_rfl
 have hu : Tryz.prog.underlying 22 = some (.slice (Tryz.prog.elem 22)) := by kernel_rfl
 refine ⟨if cap = m then b else b.map (·.add m), fun w' => ?_, ?_⟩
 · rw [run_sliceAt_slice w' _ _ _ _ _ hu, run_slice_l w' _ _ _ _ hu _ _ (by omega) (by omega), hsz]
   simp only [Result.andThen, sliced, Int.toNat_natCast, Nat.mul_one]
 · by_cases hc : cap = m
   · rw [if_pos hc, List.drop_eq_nil_of_le (by omega)]
     cases b with
     | none => rfl
     | some a => exact ⟨h.1, fun j hj => absurd hj (by simp)⟩
   · rw [if_neg hc]
     cases b with
     | none => have : l = [] := h; subst this; simp; rfl
     | some a =>
      obtain ⟨ab, ao, sp⟩ := a; have h1 : sp = none := h.1; subst h1; rw [show (some (⟨ab, ao, none⟩ : Addr)).map (·.add m) = some ⟨ab, ao + m, none⟩ from by simp [Addr.add_lit]]
      refine ⟨rfl, fun j hj => ?_⟩
      rw [List.length_drop] at hj; have := h.2 (m + j) (by omega)
      rw [List.getElem_drop]
      show w.cell? ⟨ab, ao + m + j, none⟩ = _
      rw [Nat.add_assoc]; exact this
theorem run_take {w : World} {b : Option Addr} {l : List UInt8} {cap : Nat} (h : Bytes w b l) (hcap : l.length ≤ cap) (m : Nat) (hm : m ≤ l.length) :
 ∃ b', (∀ w' : World, (Instr.sliceAt 22 (.slice b l.length cap) none (some (.int .i64 (m : Int))) none).run Tryz.prog w' = .ok (.slice b' m cap) w') ∧ Bytes w b' (l.take m) := by
 have hsz : ∀ w : World, (sizeOf (Tryz.prog.elem 22)).run Tryz.prog w = .ok 1 w := fun w => by kernel_rfl
 have hu : Tryz.prog.underlying 22 = some (.slice (Tryz.prog.elem 22)) := by kernel_rfl
 refine ⟨b, fun w' => ?_, ?_⟩
 · rw [run_sliceAt_slice w' _ _ _ _ _ hu, run_slice_h w' _ _ _ _ hu _ _ (by omega) (by omega), hsz]
   simp only [Result.andThen, sliced, Int.toNat_natCast, Nat.sub_zero]
   cases b with
   | none => simp
   | some a => by_cases h : cap = 0 <;> simp [h, Addr.add]
 · cases b with
   | none => have : l = [] := h; subst this; simp; rfl
   | some a =>
    refine ⟨h.1, fun j hj => ?_⟩
    rw [List.length_take] at hj; rw [h.2 j (by omega), List.getElem_take]
theorem run_tailB {w : World} {b : Option Addr} {l : List UInt8} {cap : Nat} (h : Bt w b l cap) (m : Nat) (hm : m ≤ l.length) :
 ∃ b', (∀ w' : World, (Instr.sliceAt 22 (.slice b l.length cap) (some (.int .i64 (m : Int))) none none).run Tryz.prog w' = .ok (.slice b' (l.length - m) (cap - m)) w') ∧ Bt w b' (l.drop m) (cap - m) := by
 have hsz : ∀ w : World, (sizeOf (Tryz.prog.elem 22)).run Tryz.prog w = .ok 1 w := fun w => by kernel_rfl
 have hu : Tryz.prog.underlying 22 = some (.slice (Tryz.prog.elem 22)) := by kernel_rfl
 have hcap := h.hcap
 obtain ⟨b', h1, h2⟩ := run_tail h.bytes hcap m hm
 have hb' : b' = if cap = m then b else b.map (·.add m) := by
  have := h1 w; rw [run_sliceAt_slice w _ _ _ _ _ hu, run_slice_l w _ _ _ _ hu _ _ (by omega) (by omega), hsz] at this
  simp only [Result.andThen, sliced, Int.toNat_natCast, Nat.mul_one] at this; have := congrArg (fun r : Result Value => match r with | .ok (.slice b _ _) _ => b | _ => none) this
  exact this.symm
 refine ⟨b', h1, h2, by rw [List.length_drop]; omega, fun a ha => ?_, fun hn => ?_⟩
 · rw [hb'] at ha
   by_cases hc : cap = m
   · rw [if_pos hc] at ha; exact h.lt a ha
   · rw [if_neg hc] at ha; obtain ⟨a0, h0, rfl⟩ := Option.map_eq_some_iff.1 ha; have hsp : a0.spot = none := by have := h.bytes; rw [h0] at this; exact this.1
     have hl := h.lt a0 h0; obtain ⟨ab, ao, sp⟩ := a0; simp only at hsp; subst hsp; rw [Addr.add_lit]; exact hl
 · rw [hb'] at hn
   by_cases hc : cap = m
   · omega
   · rw [if_neg hc] at hn; have := h.nilc (by cases b with | none => rfl | some a => simp at hn)
     omega
end Go.Proofs.YthfncdfcklbigaaGreatDoor
namespace Go.Proofs.YthfncdfcklbigaaGreatDoor
open Go.RowKit Go.IntWalk Flate
set_option maxRecDepth 100000
structure Chs (w : World) (M C : Nat) (l : List Int) (k : Nat) : Prop where
 row : ∃ b cap, w.cell? ⟨C, 0, none⟩ = some (.slice b l.length cap) ∧ It w b l cap ∧ (∀ a, b = some a → a.block ≠ C ∧ a.block < M)
 at_ : w.cell? ⟨C, 1, none⟩ = some (.int .i64 (k : Int))
 fr : ∀ o, w.frozen? ⟨C, o, none⟩ = false
 few : l.length ≤ 2147483647
theorem Chs.lt {w : World} {M C : Nat} {l : List Int} {k : Nat} (h : Chs w M C l k) : C < w.heap.size := cell_lt h.at_
theorem It.keepS {S : Nat → Nat → Prop} {w w' : World} {base : Option Addr} {l : List Int} {cap : Nat} (h : It w base l cap) (hf : Frm S w w') (hS : ∀ a, base = some a → ∀ j, j < l.length → ¬ S a.block (a.off + j)) : It w' base l cap :=
 ⟨fun j hj => by obtain ⟨a, h1, h2⟩ := h.cells j hj; exact ⟨a, h1, hf.keep h2 (hS a h1 j hj)⟩, h.spot, h.hcap, fun a ha => Nat.lt_of_lt_of_le (h.lt a ha) hf.size, h.nilc, h.wf⟩
theorem Chs.keep {S : Nat → Nat → Prop} {w w' : World} {M C : Nat} {l : List Int} {k : Nat} (h : Chs w M C l k) (hf : Frm S w w') (hS : ∀ b o, S b o → b ≠ C ∧ (M ≤ b ∨ ∀ v, w.cell? ⟨b, o, none⟩ = some v → ¬ KI v)) : Chs w' M C l k := by
 obtain ⟨⟨b, cap, h1, h2, h3⟩, h4, h5, h6⟩ := h
 refine ⟨⟨b, cap, hf.keep h1 (fun q => (hS _ _ q).1 rfl), h2.keepS hf (fun a ha j hj q => ?_), h3⟩, hf.keep h4 (fun q => (hS _ _ q).1 rfl), fun o => (hf.froz C o (cell_lt h4)).trans (h5 o), h6⟩
 obtain ⟨a', ha', hc⟩ := h2.cells j hj
 rw [ha] at ha'
 obtain rfl := Option.some.inj ha'
 have := h3 a ha
 rcases (hS _ _ q).2 with q | q
 · omega
 · exact q _ hc ⟨_, rfl⟩
theorem Chs.keep0 {w w' : World} {M C : Nat} {l : List Int} {k : Nat} (h : Chs w M C l k) (hf : Frm (fun _ _ => False) w w') : Chs w' M C l k := h.keep hf (fun _ _ e => e.elim)
theorem tmod_range (x : Int) (m : Nat) (hm : 1 ≤ m) : -(m : Int) < x.tmod (m : Int) ∧ x.tmod (m : Int) < (m : Int) := by
 have h1 := Int.tmod_lt_of_pos x (show (0 : Int) < (m : Int) by omega)
 have h2 := Int.lt_tmod_of_pos x (show (0 : Int) < (m : Int) by omega)
 exact ⟨h2, h1⟩
theorem next_any (w : World) (M C : Nat) (l : List Int) (k : Nat) (h : Chs w M C l k) (most : Nat) (h1 : 1 ≤ most) (h2 : most ≤ 1099511627776) (hk : k ≤ 1099511627776) :
 Calls Tryz.prog 42 #[.pointer (some ⟨C, 0, none⟩), .int .i64 (most : Int)] w fun e w' => ∃ v : Nat, e = .returned (natV v) ∧ v < most ∧ (l = [] → v = k % most) ∧ Chs w' M C l (k + 1) ∧ Frm (fun b _ => b = C) w w' := by
 have HH := zHi h
 obtain ⟨⟨b, cap, hl, hit, hbC⟩, hat, hfr, hfew⟩ := h
 have f1 := hfr 1
 have c1 : (most : Int) ≤ 1099511627776 := by omega
 have c2 : (1 : Int) ≤ (most : Int) := by omega
 have c3 : (k : Int) ≤ 1099511627776 := by omega
 obtain ⟨m, hm⟩ : ∃ m, m = l.length := ⟨_, rfl⟩
 rw [← hm] at hl hfew
 have c4 : (m : Int) ≤ 2147483647 := by omega
 have HA := zHi (zAi hm (zAi h1 (zAi hit (zAi hbC hfr))))
 have post : ∀ (v : Nat) (W : World) (n : Nat), W = (w.drewN n).setCell ⟨C, 1, none⟩ (.int .i64 ((k : Int) + 1)) → v < most → (l = [] → v = k % most) → ∀ z : Int, z = (v : Int) → ∃ v' : Nat, Ending.returned (.int .i64 z) = .returned (natV v') ∧ v' < most ∧ (l = [] → v' = k % most) ∧ Chs W M C l (k + 1) ∧ Frm (fun b _ => b = C) w W := by
  intro v W n hW hv hv2 z hz; subst hz; have hf : Frm (fun b o => b = C ∧ o = 1) w W := by rw [hW]; exact ((Frm.refl _ _).drewN n).setCell (.inl ⟨rfl, rfl⟩) _
  refine ⟨v, rfl, hv, hv2, ⟨⟨b, cap, by rw [← hm]; exact hf.keep hl (by omega), HA.out.2.2.1.keepS hf (fun a ha j hj q => (hbC a ha).1 q.1), hbC⟩, ?_, fun o => (hf.froz C o (cell_lt hat)).trans (hfr o), by omega⟩, hf.mono fun _ _ q => q.1⟩
  rw [hW]; have hat' : (w.drewN n).cell? ⟨C, 1, none⟩ = some (.int .i64 (k : Int)) := hat; have := set_get (v := .int .i64 ((k : Int) + 1)) hat'; rw [this]; congr 2
 have HP := zHi post
 by_cases h0 : m = 0
 · subst h0; have hln : l = [] := List.eq_nil_of_length_eq_zero hm.symm; obtain ⟨v, hv⟩ : ∃ v, v = k % most := ⟨_, rfl⟩; have hvlt : v < most := by rw [hv]; exact Nat.mod_lt _ (by omega)
   have e1 : (k : Int) % (most : Int) = (v : Int) := by rw [hv]; simp
   have e2 : ((v : Int) + (most : Int)) % (most : Int) = (v : Int) := by
    rw [Int.add_emod_right]; exact Int.emod_eq_of_lt (by omega) (by omega)
   have c5 : (v : Int) < (most : Int) := by omega
   have HV := zHi (zAi hv hvlt); have HE2 := zHi e2; clear e2; clear post hv hvlt hm hfew hfr hbC hit h1 h2 hk
   go_enter Tryz.func42, Tryz.ntmps42
   go_wp2_with fail
   go_ret
   exact HP.out v _ 0 rfl HV.out.2 (fun _ => HV.out.1) _ HE2.out
 · have hmp : 0 < m := by omega
   obtain ⟨r, hr⟩ : ∃ r, r = k % m := ⟨_, rfl⟩; obtain ⟨q, hq⟩ : ∃ q, q = k / m := ⟨_, rfl⟩; have hrl : r < m := by rw [hr]; exact Nat.mod_lt _ hmp
   have hql : q ≤ k := by rw [hq]; exact Nat.div_le_self _ _
   obtain ⟨a, ha, hcell⟩ := hit.cells r (by rw [← hm]; exact hrl)
   have hsp := hit.spot a ha; obtain ⟨ab, ao, sp⟩ := a; simp only at hsp; subst hsp; subst ha; obtain ⟨u, hu⟩ : ∃ u, u = l[r]'(by rw [← hm]; exact hrl) := ⟨_, rfl⟩
   replace hcell : w.cell? ⟨ab, ao + r, none⟩ = some (.int .i64 u) := by rw [hu]; exact hcell
   obtain ⟨x, hx⟩ : ∃ x, x = IntKind.i64.wrap (u + (q : Int)) := ⟨_, rfl⟩; obtain ⟨y, hy⟩ : ∃ y, y = x.tmod (most : Int) := ⟨_, rfl⟩; obtain ⟨g1, g2⟩ := tmod_range x most h1; rw [← hy] at g1 g2; obtain ⟨v, hv⟩ : ∃ v : Nat, (v : Int) = (y + (most : Int)) % (most : Int) := by
    have := Int.emod_nonneg (y + (most : Int)) (show (most : Int) ≠ 0 by omega)
    exact ⟨((y + (most : Int)) % (most : Int)).toNat, Int.toNat_of_nonneg this⟩
   have hvlt : v < most := by
    have := Int.emod_lt_of_pos (y + (most : Int)) (show (0 : Int) < (most : Int) by omega)
    omega
   have e0 : (k : Int).tmod (m : Int) = (r : Int) := by rw [Int.tmod_eq_emod_of_nonneg (by omega), hr]; simp
   have e1 : (k : Int).tdiv (m : Int) = (q : Int) := by rw [Int.tdiv_eq_ediv_of_nonneg (by omega), hq]; simp
   have e01 : (k : Int) % (m : Int) = (r : Int) := by rw [hr]; simp
   have e11 : (k : Int) / (m : Int) = (q : Int) := by rw [hq]; simp
   have c6 : (m : Int) ≠ 0 := by omega
   have c7 : (r : Int) < (m : Int) := by omega
   have c8 : (q : Int) ≤ 1099511627776 := by omega
   have c9 : (1 : Int) ≤ (m : Int) := by omega
   have HV := zHi hvlt; have hlne : l ≠ [] := fun e => by rw [e] at hm; simp at hm; omega
   have HNE := zHi hlne; have ew : IntKind.i64.wrap (q : Int) = (q : Int) := i64_in _ (by omega)
   have hx' := hx.symm; have hy' := hy.symm; have hv' := hv.symm; clear post hm hfew hfr hbC hit h1 h2 hk hr hq hql hu hx hy hv hvlt hlne h0
   go_enter Tryz.func42, Tryz.ntmps42
   go_wp2_with fail
   (go_quiet (fail))
   have HE := zHi hv'; clear hv'; go_wp2_with fail
   go_ret
   exact HP.out v _ nq rfl HV.out (fun h => absurd h HNE.out) _ HE.out
def tokC0 : Tk → Nat
 | .lit c => c.toNat
 | .cpy _ _ => 0
def tokC1 : Tk → Nat
 | .lit _ => 0
 | .cpy f _ => f
def tokC2 : Tk → Nat
 | .lit _ => 0
 | .cpy _ m => m
structure Tks (w : World) (base : Option Addr) (l : List Tk) : Prop where
 cells : ∀ j (h : j < l.length), ∃ g, base = some ⟨g, 0, none⟩ ∧ w.cell? ⟨g, j * 3, none⟩ = some (natV (tokC0 l[j])) ∧ w.cell? ⟨g, j * 3 + 1, none⟩ = some (natV (tokC1 l[j])) ∧ w.cell? ⟨g, j * 3 + 2, none⟩ = some (natV (tokC2 l[j]))
theorem Nt.keepW {w w' : World} {N0 W : Nat} {b : Option Addr} {l : List Nat} (h : Nt w b l) (hf : Frm (SWr w N0 W) w w') (hb : ∀ a, b = some a → a.block ≠ W) : Nt w' b l :=
 ⟨fun j hj => by obtain ⟨g, h1, h2⟩ := h.cells j hj; exact ⟨g, h1, hf.kept h2 (hb _ h1) (.inr (by simp))⟩⟩
theorem Tks.keepW {w w' : World} {N0 W : Nat} {b : Option Addr} {l : List Tk} (h : Tks w b l) (hf : Frm (SWr w N0 W) w w') (hb : ∀ a, b = some a → a.block ≠ W) : Tks w' b l :=
 ⟨fun j hj => by
  obtain ⟨g, h1, h2, h3, h4⟩ := h.cells j hj; exact ⟨g, h1, hf.kept h2 (hb _ h1) (.inr (by simp)), hf.kept h3 (hb _ h1) (.inr (by simp)), hf.kept h4 (hb _ h1) (.inr (by simp))⟩⟩
theorem Wt.keep {S : Nat → Nat → Prop} {w w' : World} {N0 W : Nat} {L : List Bool} (h : Wt w N0 W L) (hf : Frm S w w') (hW : ∀ o, ¬ S W o) (hN : ∀ b o, N0 ≤ b → ¬ S b o) : Wt w' N0 W L := by
 obtain ⟨⟨v, h1, h2⟩, h3, h4⟩ := h
 exact ⟨⟨v, hf.keep h1 (hW 0), h2.keep hf (fun g o hg => hN g o (h2.lt g hg).1)⟩, hf.keep h3 (hW 1), fun o => (hf.froz W o (cell_lt h3)).trans (h4 o)⟩
def TokIn (ll dl : List Nat) : Tk → Prop
 | .lit c => ll.getD c.toNat 0 ≠ 0
 | .cpy f m => 1 ≤ f ∧ f ≤ 32768 ∧ 3 ≤ m ∧ m ≤ 258 ∧ ll.getD (lenSymbol m).1 0 ≠ 0 ∧ dl.getD (distSymbol f).1 0 ≠ 0
theorem TokIn.has {ll dl : List Nat} {t : Tk} (h : TokIn ll dl t) : t.has ll dl := by
 cases t with
 | lit c => exact h
 | cpy f m => exact h.2.2.2.2
theorem bits_len {ll dl : List Nat} (h1 : ∀ n ∈ ll, n ≤ 15) (h2 : ∀ n ∈ dl, n ≤ 15) {t : Tk} (h : TokIn ll dl t) : (t.bits ll dl).length ≤ 48 := by
 cases t with
 | lit c =>
  have := getD_le (i := c.toNat) h1; simp only [Tk.bits, code_len]; omega
 | cpy f m =>
  obtain ⟨a, b, c, d, _⟩ := h; have q1 := lenSymbol_ok c d; have q2 := distSymbol_ok a b; have := getD_le (i := (lenSymbol m).1) h1; have := getD_le (i := (distSymbol f).1) h2; simp only [Tk.bits, List.length_append, code_len, enc_len]; omega
theorem flat_len {ll dl : List Nat} (h1 : ∀ n ∈ ll, n ≤ 15) (h2 : ∀ n ∈ dl, n ≤ 15) : ∀ {l : List Tk}, (∀ t ∈ l, TokIn ll dl t) → (l.flatMap (Tk.bits ll dl)).length ≤ 48 * l.length
 | [], _ => by simp
 | t :: l, h => by
  have a := bits_len h1 h2 (h t (by simp))
  have b := flat_len h1 h2 (l := l) (fun t' ht' => h t' (by simp [ht']))
  rw [List.flatMap_cons, List.length_append, List.length_cons]; omega
theorem Nt.get {w : World} {b : Option Addr} {l : List Nat} (h : Nt w b l) {j : Nat} (hj : j < l.length) : ∃ g, b = some ⟨g, 0, none⟩ ∧ w.cell? ⟨g, j, none⟩ = some (.int .i64 ((l.getD j 0 : Nat) : Int)) := by
 obtain ⟨g, h1, h2⟩ := h.cells j hj
 refine ⟨g, h1, ?_⟩
 rw [List.getD_eq_getElem?_getD, List.getElem?_eq_getElem hj]
 exact h2
def BoInv (w : World) (N0 W : Nat) (L : List Bool) (ll dl : List Nat) (toks : List Tk) (g : Nat) (i : Value) (wr : World) : Prop :=
 ∃ k : Nat, k ≤ toks.length ∧ g = toks.length - k ∧ i = .int .i64 (k : Int) ∧ Wt wr N0 W (L ++ (toks.take k).flatMap (Tk.bits ll dl)) ∧ Frm (SWr w N0 W) w wr
theorem take_flat {α : Type} (f : Tk → List α) {l : List Tk} {k : Nat} {t : Tk} (h : l[k]? = some t) : (l.take (k + 1)).flatMap f = (l.take k).flatMap f ++ f t := by
 rw [List.take_add_one, h, List.flatMap_append]
 simp
theorem Nt.getS {w : World} {b : Option Addr} {l : List Nat} (h : Nt w b l) {j : Nat} (hj : j < l.length) (x : Nat) (hx : x = l.getD j 0) : ∃ g, b = some ⟨g, 0, none⟩ ∧ w.cell? ⟨g, j, none⟩ = some (.int .i64 (x : Int)) := by
 rw [hx]; exact h.get hj
set_option maxHeartbeats 2000000 in
theorem body_any (w : World) (N0 W : Nat) (L : List Bool) (h : Wt w N0 W L) (hW : W < N0) (hN : N0 ≤ w.heap.size) (hL : L.length ≤ 8796093022208)
 (tb : Option Addr) (toks : List Tk) (tc : Nat) (ht : Tks w tb toks) (htW : ∀ a, tb = some a → a.block ≠ W) (htl : toks.length ≤ 4294967296)
 (lb : Option Addr) (ll : List Nat) (lc : Nat) (hll : Nt w lb ll) (hlW : ∀ a, lb = some a → a.block ≠ W) (hl15 : ∀ n ∈ ll, n ≤ 15) (hlen : 286 ≤ ll.length) (hlen' : ll.length ≤ 320)
 (db : Option Addr) (dl : List Nat) (dc : Nat) (hdl : Nt w db dl) (hdW : ∀ a, db = some a → a.block ≠ W) (hd15 : ∀ n ∈ dl, n ≤ 15) (hden : 30 ≤ dl.length) (hden' : dl.length ≤ 320)
 (hin : ∀ t ∈ toks, TokIn ll dl t) (h256 : ll.getD 256 0 ≠ 0) :
 Calls Tryz.prog 47 #[.pointer (some ⟨W, 0, none⟩), .slice tb toks.length tc, .slice lb ll.length lc, .slice db dl.length dc] w fun e w' => e = .returned (.tuple #[]) ∧ Wt w' N0 W (L ++ bodyBits ll dl toks) ∧ Frm (SWr w N0 W) w w' := by
 have HW := zHi h
 have HA := zHi (zAi hW (zAi hN (zAi hL htl)))
 have HT := zHi (zAi ht (zAi htW hin))
 have HLL := zHi (zAi hll (zAi hlW (zAi hl15 (zAi hlen (zAi hlen' h256)))))
 have HDL := zHi (zAi hdl (zAi hdW (zAi hd15 (zAi hden hden'))))
 have hc1 := codes_any w lb ll lc hll hl15 hlen'
 obtain ⟨n, hn⟩ : ∃ n, n = toks.length := ⟨_, rfl⟩
 obtain ⟨nl, hnl⟩ : ∃ n, n = ll.length := ⟨_, rfl⟩
 obtain ⟨nd, hnd⟩ : ∃ n, n = dl.length := ⟨_, rfl⟩
 have c1 : (n : Int) ≤ 4294967296 := by omega
 have c2 : (nl : Int) ≤ 320 := by omega
 have c3 : (nd : Int) ≤ 320 := by omega
 have c4 : (286 : Int) ≤ (nl : Int) := by omega
 have c5 : (30 : Int) ≤ (nd : Int) := by omega
 rw [← hnl] at hc1
 rw [← hn, ← hnl, ← hnd]
 have HC1 := zHi hc1
 have HN := zHi (zAi hn (zAi hnl hnd))
 clear h hW hN hL ht htW htl hll hlW hl15 hlen hlen' hdl hdW hd15 hden hden' hin h256 hc1 hn hnl hnd
 go_enter Tryz.func47, Tryz.ntmps47
 go_wp2_with fail
 refine HC1.out.mono ?_
 rintro e w1 ⟨v1, lo, rfl, hlo, hlol, hloc, hlob, hf1⟩
 have hc2 := codes_any w1 db dl dc (HDL.out.1.keep hf1 (fun _ _ e => e.elim)) HDL.out.2.2.1 HDL.out.2.2.2.2
 rw [← HN.out.2.2] at hc2
 have HC2 := zHi hc2
 have HF1 := zHi (zAi hf1 (zAi hlo (zAi hlol (zAi hloc hlob))))
 clear hc2 hf1 hlo hlol hloc hlob HC1
 go_wp2_with fail
 refine HC2.out.mono ?_
 rintro e w2 ⟨v2, dco, rfl, hdo, hdol, hdoc, hdob, hf2⟩
 obtain ⟨hf1, hlo, hlol, hloc, hlob⟩ := HF1.out
 have hf12 : Frm (fun _ _ => False) w w2 := hf1.trans hf2
 have hlo2 := hlo.keep hf2 (fun _ _ _ e => e)
 obtain ⟨b1, cp1, hv1, _, hnt1⟩ := OwnN.nt hlo2
 obtain ⟨b2, cp2, hv2, _, hnt2⟩ := OwnN.nt hdo
 have hq1 : lo.length = nl := by rw [hlol]; exact HN.out.2.1.symm
 have hq2 : dco.length = nd := by rw [hdol]; exact HN.out.2.2.symm
 rw [hq1] at hv1
 rw [hq2] at hv2
 subst hv1 hv2
 have hb1W : ∀ a, b1 = some a → a.block ≠ W := fun a ha e => by
  subst ha; have := (hlo2.lt a.block rfl).1; have := HA.out.1; have := HA.out.2.1; omega
 have hb2W : ∀ a, b2 = some a → a.block ≠ W := fun a ha e => by
  subst ha; have := (hdo.lt a.block rfl).1; have := hf1.size; have := HA.out.1; have := HA.out.2.1; omega
 have hw2 : Wt w2 N0 W L := HW.out.keep hf12 (fun _ e => e) (fun _ _ _ e => e)
 have HX := zHi (zAi hf12 (zAi hnt1 (zAi hnt2 (zAi hb1W (zAi hb2W (zAi hw2 (zAi hloc (zAi hlob (zAi hdoc (zAi hdob (zAi hq1 hq2)))))))))))
 clear hf1 hlo hlol hloc hlob hdo hdol hdoc hdob hf2 hf12 hlo2 hnt1 hnt2 hb1W hb2W hw2 hq1 hq2 HC2 HF1
 go_wp2_with fail
 go_loopg [21] (n - 0) (fun g i wr => BoInv w2 N0 W L ll dl toks g i wr)
 case atStart => exact ⟨0, Nat.zero_le _, by rw [HN.out.1], rfl, by rw [List.take_zero, List.flatMap_nil, List.append_nil]; exact HX.out.2.2.2.2.2.1, Frm.refl _ _⟩
 case round =>
  obtain ⟨k, hk, hg, rfl, hwr, hf⟩ := hrel
  by_cases hlt : k < n
  · have hkl : k < toks.length := by rw [← HN.out.1]; exact hlt
    obtain ⟨hf12, hnt1, hnt2, hb1W, hb2W, hw2, hloc, hlob, hdoc, hdob, hq1, hq2⟩ := HX.out; have htk := (HT.out.1.keepW (frm_SWr_none (N0 := N0) (W := W) hf12) HT.out.2.1).keepW hf HT.out.2.1; have hlr := (HLL.out.1.keepW (frm_SWr_none (N0 := N0) (W := W) hf12) HLL.out.2.1).keepW hf HLL.out.2.1; have hdr := (HDL.out.1.keepW (frm_SWr_none (N0 := N0) (W := W) hf12) HDL.out.2.1).keepW hf HDL.out.2.1; have hlor := hnt1.keepW hf hb1W; have hdor := hnt2.keepW hf hb2W; obtain ⟨g', htb, t0, t1, t2⟩ := htk.cells k hkl; subst htb; obtain ⟨t, htt⟩ : ∃ t, t = toks[k] := ⟨_, rfl⟩; rw [← htt] at t0 t1 t2; have hti : TokIn ll dl t := by rw [htt]; exact HT.out.2.2 _ (List.getElem_mem _)
    have hts : toks[k]? = some t := by rw [htt]; exact List.getElem?_eq_getElem hkl
    have hsz : N0 ≤ wr.heap.size := Nat.le_trans (Nat.le_trans HA.out.2.1 hf12.size) hf.size; have hLk : (L ++ (toks.take k).flatMap (Tk.bits ll dl)).length ≤ 17592186044416 - 256 := by
     have := flat_len HLL.out.2.2.1 HDL.out.2.2.1 (l := toks.take k) (fun t ht => HT.out.2.2 t (List.mem_of_mem_take ht))
     rw [List.length_take] at this; rw [List.length_append]; have := HA.out.2.2; omega
    have HR := zHi (zAi hk (zAi hg (zAi hwr (zAi hf (zAi hts (zAi hti (zAi hsz hLk))))))); have HRW := zHi (zAi hlr (zAi hdr (zAi hlor hdor))); clear hts hk hg hwr hf hkl htt hti htk hf12 hnt1 hnt2 hb1W hb2W hw2 hloc hlob hdoc hdob hq1 hq2 hsz hLk hlr hdr hlor hdor
    cases t with
    | lit c =>
     obtain ⟨cn, hcn⟩ : ∃ cn, cn = c.toNat := ⟨_, rfl⟩; have u0 : wr.cell? ⟨g', k * 3, none⟩ = some (.int .i64 (cn : Int)) := by rw [hcn]; exact t0
     have u1 : wr.cell? ⟨g', k * 3 + 1, none⟩ = some (.int .i64 0) := t1; have u2 : wr.cell? ⟨g', k * 3 + 2, none⟩ = some (.int .i64 0) := t2; have hcl := c.toNat_lt; have d1 : cn < nl := by omega
     have d2 : (cn : Int) < (nl : Int) := by omega
     obtain ⟨x, hx⟩ : ∃ x, x = ll.getD cn 0 := ⟨_, rfl⟩; obtain ⟨y, hy⟩ : ∃ y, y = lo.getD cn 0 := ⟨_, rfl⟩; obtain ⟨W3, hW3⟩ : ∃ W3, W3 = wr.alloc (.cells #[.int .i64 (cn : Int), .int .i64 0, .int .i64 0] 131) := ⟨_, rfl⟩; have hf3 : Frm (fun _ _ => False) wr W3 := by rw [hW3]; exact (Frm.refl _ _).alloc _
     obtain ⟨g1, hb1, r1⟩ := (HRW.out.1.keep hf3 (fun _ _ e => e.elim)).getS (show cn < ll.length by rw [← HN.out.2.1]; exact d1) x hx
     obtain ⟨g2, hb2, r2⟩ := (HRW.out.2.2.1.keep hf3 (fun _ _ e => e.elim)).getS (show cn < lo.length by have := HX.out.2.2.2.2.2.2.2.2.2.2.1; omega) y hy
     subst hb1 hb2; have r0 : W3.cell? ⟨wr.heap.size, 0, none⟩ = some (.int .i64 (cn : Int)) := by rw [hW3]; exact (cells_at (heap_alloc_new wr _)).trans rfl
     have hcd := code_any W3.drew N0 W (L ++ (toks.take k).flatMap (Tk.bits ll dl)) (HR.out.2.2.1.keep (hf3.drew) (fun _ e => e) (fun _ _ _ e => e)) HA.out.1 (Nat.le_trans HR.out.2.2.2.2.2.2.1 hf3.size) y x (by rw [hx]; have := getD_le (i := cn) HLL.out.2.2.1; omega) (by have := HR.out.2.2.2.2.2.2.2; omega) (by rw [hy]; have := HX.out.2.2.2.2.2.2.2.1 cn; omega)
     have HCD := zHi hcd; have HC := zHi (zAi hcn (zAi hx (zAi hy (zAi hf3 hW3)))); clear t0 t1 t2 hcd hcn hx hy hcl hf3; go_upto_region 5 with (fail)
     rw [← hW3]; clear hW3
     (refine region_tail 11 (by kernel_rfl) (by kernel_rfl) ?_; simp only [List.take_succ_cons, List.take_zero, List.drop_succ_cons, List.drop_zero]; (repeat still_step); refine wpStill_nil ?_)
     go_wp2_with fail
     refine HCD.out.mono ?_; rintro e w4 ⟨rfl, hw4, hf4⟩; have H4 := zHi (zAi hw4 hf4); clear hw4 hf4; go_wp2_with fail
     go_roundg (n - (k + 1))
     case measure => have := HR.out.2.1; have := HN.out.1; omega
     case rel =>
      obtain ⟨hk, hg, hwr, hf, hts, hti, hsz, hLk⟩ := HR.out; obtain ⟨hcn, hx, hy, hf3, hW3⟩ := HC.out; have hkl : k < toks.length := by rw [← HN.out.1]; exact hlt
      refine ⟨k + 1, hkl, by rw [HN.out.1], by go_num, ?_, frm_SWr_trans hf (frm_SWr_trans (frm_SWr_none hf3.drew) H4.out.2)⟩
      have h4 := H4.out.1; have hyc : y = codeOf ll cn := by rw [hy]; exact HX.out.2.2.2.2.2.2.1 cn (by rw [hcn]; exact hti)
      rw [take_flat _ hts, ← List.append_assoc]; rw [hyc, hx, hcn] at h4; exact h4
    | cpy f m =>
     have u0 : wr.cell? ⟨g', k * 3, none⟩ = some (.int .i64 0) := t0; have u1 : wr.cell? ⟨g', k * 3 + 1, none⟩ = some (.int .i64 (f : Int)) := t1; have u2 : wr.cell? ⟨g', k * 3 + 2, none⟩ = some (.int .i64 (m : Int)) := t2; obtain ⟨f1, f2, m1, m2, hz1, hz2⟩ := HR.out.2.2.2.2.2.1; have d0 : ((f : Int) == 0) = false := by simp; omega
     have hl1 := fun W => lengthSymbol_any W m m1 m2
     have hl2 := fun W => distanceSymbol_any W f f1 f2
     obtain ⟨k1, k2, k3, k4, _, _, _⟩ := lenSymbol_ok m1 m2; obtain ⟨k5, k6, k7, _, _, _⟩ := distSymbol_ok f1 f2; have hpw1 := pow_le_Int (P := 2 ^ (lenSymbol m).2.2) rfl k4; have hpw2 := pow_le_Int (P := 2 ^ (distSymbol f).2.2) rfl k7; obtain ⟨s1, hs1⟩ : ∃ s, s = (lenSymbol m).1 := ⟨_, rfl⟩; obtain ⟨o1, ho1⟩ : ∃ s, s = (lenSymbol m).2.1 := ⟨_, rfl⟩; obtain ⟨e1, he1⟩ : ∃ s, s = (lenSymbol m).2.2 := ⟨_, rfl⟩; obtain ⟨s2, hs2⟩ : ∃ s, s = (distSymbol f).1 := ⟨_, rfl⟩; obtain ⟨o2, ho2⟩ : ∃ s, s = (distSymbol f).2.1 := ⟨_, rfl⟩; obtain ⟨e2, he2⟩ : ∃ s, s = (distSymbol f).2.2 := ⟨_, rfl⟩; rw [← hs1, ← ho1, ← he1] at hl1; rw [← hs2, ← ho2, ← he2] at hl2; rw [← hs1] at hz1 k1 k2; rw [← hs2] at hz2 k5; rw [← ho1] at k3; rw [← ho2] at k6; rw [← he1] at k3 k4 hpw1; rw [← he2] at k6 k7 hpw2; have d1 : s1 < nl := by omega
     have d2 : s2 < nd := by omega
     obtain ⟨x1, hx1⟩ : ∃ x, x = ll.getD s1 0 := ⟨_, rfl⟩; obtain ⟨y1, hy1⟩ : ∃ y, y = lo.getD s1 0 := ⟨_, rfl⟩; obtain ⟨x2, hx2⟩ : ∃ x, x = dl.getD s2 0 := ⟨_, rfl⟩; obtain ⟨y2, hy2⟩ : ∃ y, y = dco.getD s2 0 := ⟨_, rfl⟩; obtain ⟨W3, hW3⟩ : ∃ W3, W3 = wr.alloc (.cells #[.int .i64 0, .int .i64 (f : Int), .int .i64 (m : Int)] 131) := ⟨_, rfl⟩; have hf3 : Frm (fun _ _ => False) wr W3 := by rw [hW3]; exact (Frm.refl _ _).alloc _
     obtain ⟨g1, hb1, r1⟩ := (HRW.out.1.keep hf3 (fun _ _ e => e.elim)).getS (show s1 < ll.length by rw [← HN.out.2.1]; exact d1) x1 hx1
     obtain ⟨g2, hb2, r2⟩ := (HRW.out.2.2.1.keep hf3 (fun _ _ e => e.elim)).getS (show s1 < lo.length by have := HX.out.2.2.2.2.2.2.2.2.2.2.1; omega) y1 hy1
     obtain ⟨g3, hb3, r3⟩ := (HRW.out.2.1.keep hf3 (fun _ _ e => e.elim)).getS (show s2 < dl.length by rw [← HN.out.2.2]; exact d2) x2 hx2
     obtain ⟨g4, hb4, r4⟩ := (HRW.out.2.2.2.keep hf3 (fun _ _ e => e.elim)).getS (show s2 < dco.length by have := HX.out.2.2.2.2.2.2.2.2.2.2.2; omega) y2 hy2
     subst hb1 hb2 hb3 hb4; obtain ⟨B, hB⟩ : ∃ B, B = wr.heap.size := ⟨_, rfl⟩; have v0 : W3.cell? ⟨B, 1, none⟩ = some (.int .i64 (f : Int)) := by rw [hW3, hB]; exact (cells_at (heap_alloc_new wr _)).trans rfl
     have v1 : W3.cell? ⟨B, 2, none⟩ = some (.int .i64 (m : Int)) := by rw [hW3, hB]; exact (cells_at (heap_alloc_new wr _)).trans rfl
     have hBW : B ≠ W := by have := HR.out.2.2.2.2.2.2.1; have := HA.out.1; omega
     have hcd := code_any W3.drew N0 W (L ++ (toks.take k).flatMap (Tk.bits ll dl)) (HR.out.2.2.1.keep (hf3.drew) (fun _ e => e) (fun _ _ _ e => e)) HA.out.1 (Nat.le_trans HR.out.2.2.2.2.2.2.1 hf3.size) y1 x1 (by rw [hx1]; have := getD_le (i := s1) HLL.out.2.2.1; omega) (by have := HR.out.2.2.2.2.2.2.2; omega) (by rw [hy1]; have := HX.out.2.2.2.2.2.2.2.1 s1; omega)
     have HCD := zHi hcd; have HL1 := zHi (hl1 W3); have HL2 := zHi hl2; have hx15 : x1 ≤ 15 := by rw [hx1]; exact getD_le HLL.out.2.2.1
     have HC := zHi (zAi hx1 (zAi hy1 (zAi hx2 (zAi hy2 (zAi hf3 (zAi hW3 (zAi hB (zAi hx15 (zAi k4 (zAi k7 (zAi hpw1 (zAi hpw2 (zAi k3 (zAi k6 (zAi hs1 (zAi ho1 (zAi he1 (zAi hs2 (zAi ho2 (zAi he2 (zAi hz1 (zAi hz2 (zAi hf3.size hBW))))))))))))))))))))))); clear t0 t1 t2 hcd hf3 f1 f2 m1 m2 hl1 hl2 hx1 hy1 hx2 hy2 hx15 k1 k2 k3 k4 k5 k6 k7 hpw1 hpw2 hs1 ho1 he1 hs2 ho2 he2 hz1 hz2 hBW; go_upto_region 6 with (fail)
     rw [← hW3, ← hB]; clear hW3 hB; go_wp2_with fail
     refine HL1.out.mono ?_; rintro e w4 ⟨rfl, rfl⟩; go_upto_region 7 with (fail)
     (refine region_tail 9 (by kernel_rfl) (by kernel_rfl) ?_; simp only [List.take_succ_cons, List.take_zero, List.drop_succ_cons, List.drop_zero]; (repeat still_step); refine wpStill_nil ?_)
     go_wp2_with fail
     refine HCD.out.mono ?_; rintro e w4 ⟨rfl, hw4, hf4⟩; obtain ⟨hk, hg, hwr, hf, hts, hti, hsz, hLk⟩ := HR.out; obtain ⟨hx1, hy1, hx2, hy2, hf3, hW3, hB, hx15, k4, k7, hpw1, hpw2, k3, k6, hs1, ho1, he1, hs2, ho2, he2, hz1, hz2, hsz3, hBW⟩ := HC.out; have hs4 : N0 ≤ w4.heap.size := Nat.le_trans (Nat.le_trans hsz hsz3) hf4.size; have hb1 := bits_any w4 N0 W _ hw4 HA.out.1 hs4 o1 e1 (by omega) (by rw [List.length_append, encC_len]; omega) (by omega)
     have v04 : w4.cell? ⟨B, 1, none⟩ = some (.int .i64 (f : Int)) := hf4.kept (w := W3.drew) v0 hBW (.inr (by simp))
     have r34 : w4.cell? ⟨g3, s2, none⟩ = some (.int .i64 (x2 : Int)) := hf4.kept (w := W3.drew) r3 (HDL.out.2.1 _ rfl) (.inr (by simp))
     have r44 : w4.cell? ⟨g4, s2, none⟩ = some (.int .i64 (y2 : Int)) := hf4.kept (w := W3.drew) r4 (HX.out.2.2.2.2.1 _ rfl) (.inr (by simp))
     have HB1 := zHi hb1; have H4 := zHi (zAi hw4 (zAi hf4 (zAi v04 (zAi r34 (zAi r44 hs4))))); clear hk hg hwr hf hts hti hsz hLk hx1 hy1 hx2 hy2 hf3 hW3 hB hx15 k4 k7 hpw1 hpw2 k3 k6 hs1 ho1 he1 hs2 ho2 he2 hz1 hz2 hsz3 hBW hs4 hb1 v04 r34 r44 hw4 hf4 r1 r2 r3 r4 v0 v1; go_wp2_with fail
     refine HB1.out.mono ?_; rintro e w5 ⟨rfl, hw5, hf5⟩; obtain ⟨hw4, hf4, v04, r34, r44, hs4⟩ := H4.out; have hBW := HC.out.2.2.2.2.2.2.2.2.2.2.2.2.2.2.2.2.2.2.2.2.2.2.2; have v0 : w5.cell? ⟨B, 1, none⟩ = some (.int .i64 (f : Int)) := hf5.kept v04 hBW (.inr (by simp))
     have r3 : w5.cell? ⟨g3, s2, none⟩ = some (.int .i64 (x2 : Int)) := hf5.kept r34 (HDL.out.2.1 _ rfl) (.inr (by simp))
     have r4 : w5.cell? ⟨g4, s2, none⟩ = some (.int .i64 (y2 : Int)) := hf5.kept r44 (HX.out.2.2.2.2.1 _ rfl) (.inr (by simp))
     have hs5 : N0 ≤ w5.heap.size := Nat.le_trans hs4 hf5.size; have hw5d : Wt w5.drew N0 W _ := hw5.keep (S := fun _ _ => False) ((Frm.refl _ _).drew) (fun _ e => e) (fun _ _ _ e => e)
     have hcd := code_any w5.drew N0 W _ hw5d HA.out.1 hs5 y2 x2 (by rw [HC.out.2.2.1]; have := getD_le (i := s2) HDL.out.2.2.1; omega) (by rw [List.length_append, List.length_append, encC_len, enc_len]; have := HR.out.2.2.2.2.2.2.2; have := HC.out.2.2.2.2.2.2.2.1; have := HC.out.2.2.2.2.2.2.2.2.1; omega) (by rw [HC.out.2.2.2.1]; have := HX.out.2.2.2.2.2.2.2.2.2.1 s2; omega)
     have HCD2 := zHi hcd; have H5 := zHi (zAi hw5 (zAi hf5 hs5)); clear hw4 hf4 v04 r34 r44 hs4 hBW hs5 hw5d hcd hw5 hf5; go_wp2_with fail
     refine (HL2.out w5).mono ?_; rintro e w6 ⟨rfl, rfl⟩; go_upto_region 10 with (fail)
     (refine region_tail 9 (by kernel_rfl) (by kernel_rfl) ?_; simp only [List.take_succ_cons, List.take_zero, List.drop_succ_cons, List.drop_zero]; (repeat still_step); refine wpStill_nil ?_)
     go_wp2_with fail
     refine HCD2.out.mono ?_; rintro e w6 ⟨rfl, hw6, hf6⟩; obtain ⟨hw5, hf5, hs5⟩ := H5.out; have hs6 : N0 ≤ w6.heap.size := Nat.le_trans hs5 hf6.size; have hb2 := bits_any w6 N0 W _ hw6 HA.out.1 hs6 o2 e2 (by have := HC.out.2.2.2.2.2.2.2.2.2.1; omega) (by rw [List.length_append, List.length_append, List.length_append, encC_len, enc_len, encC_len]; have := HR.out.2.2.2.2.2.2.2; have := HC.out.2.2.2.2.2.2.2.1; have := HC.out.2.2.2.2.2.2.2.2.1; have := getD_le (i := s2) HDL.out.2.2.1; have := HC.out.2.2.1; omega) (by have := HC.out.2.2.2.2.2.2.2.2.2.2.2.2.2.1; have := HC.out.2.2.2.2.2.2.2.2.2.2.2.1; omega)
     have HB2 := zHi hb2; have H6 := zHi (zAi hw6 hf6); clear hw5 hf5 hs5 hs6 hb2 hw6 hf6 v0 r3 r4; go_wp2_with fail
     refine HB2.out.mono ?_; rintro e w7 ⟨rfl, hw7, hf7⟩; have H7 := zHi (zAi hw7 hf7); clear hw7 hf7; go_wp2_with fail
     go_roundg (n - (k + 1))
     case measure => have := HR.out.2.1; have := HN.out.1; omega
     case rel =>
      obtain ⟨hk, hg, hwr, hf, hts, hti, hsz, hLk⟩ := HR.out; obtain ⟨hx1, hy1, hx2, hy2, hf3, hW3, hB, hx15, k4, k7, hpw1, hpw2, k3, k6, hs1, ho1, he1, hs2, ho2, he2, hz1, hz2, hsz3, hBW⟩ := HC.out; obtain ⟨hw4, hf4, v04, r34, r44, hs4⟩ := H4.out; obtain ⟨hw5, hf5, hs5⟩ := H5.out; obtain ⟨hw6, hf6⟩ := H6.out; obtain ⟨hw7, hf7⟩ := H7.out; have hkl : k < toks.length := by rw [← HN.out.1]; exact hlt
      have hfa : Frm (SWr wr N0 W) wr w7 := frm_SWr_trans (frm_SWr_none hf3.drew) (frm_SWr_trans hf4 (frm_SWr_trans hf5 (frm_SWr_trans (frm_SWr_none ((Frm.refl _ _).drew)) (frm_SWr_trans hf6 hf7)))); refine ⟨k + 1, hkl, by rw [HN.out.1], by go_num, ?_, frm_SWr_trans hf hfa⟩
      have hyc : y1 = codeOf ll s1 := by rw [hy1]; exact HX.out.2.2.2.2.2.2.1 s1 hz1
      have hyc2 : y2 = codeOf dl s2 := by rw [hy2]; exact HX.out.2.2.2.2.2.2.2.2.1 s2 hz2
      have e : (L ++ (toks.take (k + 1)).flatMap (Tk.bits ll dl)) = L ++ (toks.take k).flatMap (Tk.bits ll dl) ++ encC y1 x1 ++ enc o1 e1 ++ encC y2 x2 ++ enc o2 e2 := by
       rw [take_flat _ hts]; simp only [Tk.bits, code, ← hs1, ← ho1, ← he1, ← hs2, ← ho2, ← he2, ← hx1, ← hx2, ← hyc, ← hyc2, List.append_assoc]
      rw [e]; exact hw7
  · obtain rfl : k = n := by have := HN.out.1; omega
    obtain ⟨hf12, hnt1, hnt2, hb1W, hb2W, hw2, hloc, hlob, hdoc, hdob, hq1, hq2⟩ := HX.out; have hlr := (HLL.out.1.keepW (frm_SWr_none (N0 := N0) (W := W) hf12) HLL.out.2.1).keepW hf HLL.out.2.1; have hlor := hnt1.keepW hf hb1W; have hkn := HN.out.1; have hnl := HN.out.2.1; obtain ⟨x, hx⟩ : ∃ x, x = ll.getD 256 0 := ⟨_, rfl⟩; obtain ⟨y, hy⟩ : ∃ y, y = lo.getD 256 0 := ⟨_, rfl⟩; obtain ⟨g1, hb1, r1⟩ := hlr.getS (show 256 < ll.length by omega) x hx
    obtain ⟨g2, hb2, r2⟩ := hlor.getS (show 256 < lo.length by omega) y hy
    subst hb1 hb2; have hLk : (L ++ (toks.take k).flatMap (Tk.bits ll dl)).length ≤ 17592186044416 - 256 := by
     have := flat_len HLL.out.2.2.1 HDL.out.2.2.1 (l := toks.take k) (fun t ht => HT.out.2.2 t (List.mem_of_mem_take ht))
     rw [List.length_take] at this; rw [List.length_append]; have := HA.out.2.2; omega
    have d2 : (256 : Int) < (nl : Int) := by omega
    have hcd := code_any wr.drew N0 W _ (hwr.keep (S := fun _ _ => False) ((Frm.refl _ _).drew) (fun _ e => e) (fun _ _ _ e => e)) HA.out.1 (Nat.le_trans (Nat.le_trans HA.out.2.1 hf12.size) hf.size) y x (by rw [hx]; have := getD_le (i := 256) HLL.out.2.2.1; omega) (by omega) (by rw [hy]; have := hlob 256; omega)
    have hyc : y = codeOf ll 256 := by rw [hy]; exact hloc 256 HLL.out.2.2.2.2.2
    have hall : L ++ (toks.take k).flatMap (Tk.bits ll dl) ++ encC y x = L ++ bodyBits ll dl toks := by
     unfold bodyBits code; rw [hkn, List.take_length, hyc, hx, List.append_assoc]
    rw [hall] at hcd; have HCD := zHi hcd; have HR := zHi (zAi hf hf12); clear hf12 hnt1 hnt2 hb1W hb2W hw2 hloc hlob hdoc hdob hq1 hq2 hlr hlor hkn hnl hx hy hLk hcd hyc hall hg hk hwr hf hlt; have hd : decide (k < k) = false := by simp
    go_upto_region 13 with (fail)
    (refine region_tail 7 (by kernel_rfl) (by kernel_rfl) ?_; simp only [List.take_succ_cons, List.take_zero, List.drop_succ_cons, List.drop_zero]; (repeat still_step); refine wpStill_nil ?_)
    go_wp2_with fail
    refine HCD.out.mono ?_; rintro e w4 ⟨rfl, hw4, hf4⟩; have H4 := zHi (zAi hw4 hf4); clear hw4 hf4; go_wp2_with fail
    exact bodyPost_end (results_none rfl _ _ _) rfl ⟨rfl, H4.out.1, frm_SWr_trans (frm_SWr_none HR.out.2) (frm_SWr_trans HR.out.1 (frm_SWr_trans (frm_SWr_none ((Frm.refl _ _).drew)) H4.out.2))⟩
end Go.Proofs.YthfncdfcklbigaaGreatDoor
namespace Flate
theorem foldl_zeros : ∀ {l : List Nat} (c : Cnt), (∀ n ∈ l, n = 0) → l.foldl cntStep c = c
 | [], _, _ => rfl
 | n :: l, c, h => by
  have h0 : n = 0 := h n (by simp)
  subst h0; exact foldl_zeros (l := l) c (fun m hm => h m (by simp [hm]))
theorem drop_zeros {L : List Nat} {k : Nat} (hz : ∀ s, k ≤ s → L.getD s 0 = 0) : ∀ n ∈ L.drop k, n = 0 := by
 intro n hn
 obtain ⟨i, hi, rfl⟩ := List.getElem_of_mem hn
 rw [List.getElem_drop]
 have h1 : k + i < L.length := by rw [List.length_drop] at hi; omega
 have := hz (k + i) (by omega)
 rw [List.getD_eq_getElem?_getD, List.getElem?_eq_getElem h1] at this
 exact this
theorem cnt_trim {L : List Nat} {k : Nat} (hz : ∀ s, k ≤ s → L.getD s 0 = 0) : cntAll (L.take k) = cntAll L := by
 have e : cntAll L = (L.drop k).foldl cntStep ((L.take k).foldl cntStep cnt0) := by
  rw [← List.foldl_append, List.take_append_drop]; rfl
 rw [e, foldl_zeros _ (drop_zeros hz)]
 rfl
theorem getD_trim {L : List Nat} {k : Nat} (hz : ∀ s, k ≤ s → L.getD s 0 = 0) (s : Nat) : (L.take k).getD s 0 = L.getD s 0 := by
 by_cases h : s < k
 · rw [List.getD_eq_getElem?_getD, List.getElem?_take_of_lt h, ← List.getD_eq_getElem?_getD]
 · rw [hz s (by omega), List.getD_eq_getElem?_getD, List.getElem?_eq_none (by rw [List.length_take]; omega)]
   rfl
theorem full_trim {L : List Nat} {k : Nat} (hz : ∀ s, k ≤ s → L.getD s 0 = 0) (h : Full L) : Full (L.take k) := by
 unfold Full at h ⊢
 rw [cnt_trim hz]; exact h
theorem encC_zero (n : Nat) : encC n 0 = [] := by
 have := encC_len n 0
 exact List.eq_nil_of_length_eq_zero this
theorem code_trim {L : List Nat} {k : Nat} (hz : ∀ s, k ≤ s → L.getD s 0 = 0) (s : Nat) : code (L.take k) s = code L s := by
 unfold code
 rw [getD_trim hz]
 by_cases h0 : L.getD s 0 = 0
 · rw [h0, encC_zero, encC_zero]
 · have hs : s < k := by
    rcases Nat.lt_or_ge s k with q | q
    · exact q
    · exact absurd (hz s q) h0
   unfold codeOf; rw [getD_trim hz, cnt_trim hz, List.take_take, Nat.min_eq_left (by omega)]
theorem bits_trim {L D : List Nat} {k m : Nat} (hz : ∀ s, k ≤ s → L.getD s 0 = 0) (hd : ∀ s, m ≤ s → D.getD s 0 = 0) (t : Tk) : t.bits (L.take k) (D.take m) = t.bits L D := by
 cases t with
 | lit c => exact code_trim hz _
 | cpy f n => simp only [Tk.bits, code_trim hz, code_trim hd]
theorem body_trim {L D : List Nat} {k m : Nat} (hz : ∀ s, k ≤ s → L.getD s 0 = 0) (hd : ∀ s, m ≤ s → D.getD s 0 = 0) (l : List Tk) : bodyBits (L.take k) (D.take m) l = bodyBits L D l := by
 unfold bodyBits
 rw [code_trim hz]
 congr 1
 rw [show (Tk.bits (L.take k) (D.take m)) = Tk.bits L D from funext fun t => bits_trim hz hd t]
def TkMark (A D : List Bool) : Tk → Prop
 | .lit c => A.getD c.toNat false = true
 | .cpy f m => 1 ≤ f ∧ f ≤ 32768 ∧ 3 ≤ m ∧ m ≤ 258 ∧ A.getD (lenSymbol m).1 false = true ∧ D.getD (distSymbol f).1 false = true
def Marks (A B : List Bool) : Prop := A.length = B.length ∧ ∀ s, A.getD s false = true → B.getD s false = true
theorem Marks.refl (A : List Bool) : Marks A A := ⟨rfl, fun _ h => h⟩
theorem Marks.trans {A B C : List Bool} (h : Marks A B) (k : Marks B C) : Marks A C := ⟨h.1.trans k.1, fun s q => k.2 s (h.2 s q)⟩
theorem setB_getD (A : List Bool) (i s : Nat) (v : Bool) : (A.set i v).getD s false = if i = s ∧ i < A.length then v else A.getD s false := by
 simp only [List.getD_eq_getElem?_getD, List.getElem?_set]
 by_cases h : i = s
 · subst h
   by_cases h2 : i < A.length
   · simp [h2]
   · simp [h2]
 · simp [h]
theorem marks_set (A : List Bool) (i : Nat) : Marks A (A.set i true) := by
 refine ⟨by simp, fun s h => ?_⟩
 rw [setB_getD]
 split
 · rfl
 · exact h
theorem mark_set {A : List Bool} {i : Nat} (h : i < A.length) : (A.set i true).getD i false = true := by
 rw [setB_getD, if_pos ⟨rfl, h⟩]
theorem TkMark.more {A D A' D' : List Bool} {t : Tk} (h : TkMark A D t) (ha : Marks A A') (hd : Marks D D') : TkMark A' D' t := by
 cases t with
 | lit c => exact ha.2 _ h
 | cpy f m => exact ⟨h.1, h.2.1, h.2.2.1, h.2.2.2.1, ha.2 _ h.2.2.2.2.1, hd.2 _ h.2.2.2.2.2⟩
theorem tokIn_tree {A D : List Bool} {LL DL : List Nat} {m n : Nat} (h1 : TreeOK A m LL) (h2 : TreeOK D n DL) {t : Tk} (h : TkMark A D t) : Go.Proofs.YthfncdfcklbigaaGreatDoor.TokIn LL DL t := by
 cases t with
 | lit c => exact (h1.iff_ _).2 h
 | cpy f m => exact ⟨h.1, h.2.1, h.2.2.1, h.2.2.2.1, (h1.iff_ _).2 h.2.2.2.2.1, (h2.iff_ _).2 h.2.2.2.2.2⟩
def DynBits (B : List Bool) (l : List Tk) : Prop :=
 ∃ (h : Head) (ll dl : List Nat), B = h.bits ++ bodyBits ll dl l ∧ Head.OK h ll dl ∧ (∀ n ∈ ll, n ≤ 15) ∧ (∀ n ∈ dl, n ≤ 15) ∧ ll.getD 256 0 ≠ 0 ∧ ∀ t ∈ l, t.has ll dl
theorem DynBits.blk {B : List Bool} {l : List Tk} (h : DynBits B l) {a : Nat} {H : List UInt8} {last : Bool} (ho : toksOk H.length l) : Blk a H last ([last] ++ enc 2 2 ++ B) (toksRun H l) := by
 obtain ⟨hd, ll, dl, rfl, h1, h2, h3, h4, h5⟩ := h
 rw [← List.append_assoc]
 exact Blk.dyn ho h1 h2 h3 h4 h5
theorem tree_le15 {A : List Bool} {L : List Nat} (h : TreeOK A 15 L) : ∀ n ∈ L, n ≤ 15 := getD_le_all h.le
theorem dyn_head {lits dists used : List Bool} {LL DL CL : List Nat} {rows : List (Nat × Nat)} {nl nd nc : Nat} {toks : List Tk} (h1 : TreeOK lits 15 LL) (l1 : lits.length = 286) (h2 : TreeOK dists 15 DL) (l2 : dists.length = 30) (h3 : TreeOK used 7 CL) (l3 : used.length = 19)
 (nl1 : 257 ≤ nl) (nl2 : nl ≤ 286) (zl : ∀ s, nl ≤ s → LL.getD s 0 = 0) (nd1 : 1 ≤ nd) (nd2 : nd ≤ 30) (zd : ∀ s, nd ≤ s → DL.getD s 0 = 0) (nc1 : 4 ≤ nc) (nc2 : nc ≤ 19) (zc : ∀ i, nc ≤ i → i < 19 → CL.getD (clOrder.getD i 0) 0 = 0)
 (hr : rowsRun [] rows = LL.take nl ++ DL.take nd) (ho : rowsOk [] rows) (hu : ∀ p ∈ rows, used.getD p.1 false = true) (h256 : lits.getD 256 false = true) (hm : ∀ t ∈ toks, TkMark lits dists t) :
 DynBits ((Head.mk nl nd nc CL rows).bits ++ bodyBits LL DL toks) toks := by
 refine ⟨⟨nl, nd, nc, CL, rows⟩, LL.take nl, DL.take nd, by rw [body_trim zl zd], ?_, fun n hn => tree_le15 h1 n (List.mem_of_mem_take hn), fun n hn => tree_le15 h2 n (List.mem_of_mem_take hn), by rw [getD_trim zl]; exact (h1.iff_ _).2 h256, fun t ht => ?_⟩
 · refine ⟨⟨nl1, nl2⟩, ⟨nd1, nd2⟩, ⟨nc1, nc2⟩, by rw [h3.len, l3], h3.le, fun s hs => ?_, h3.full, ho, fun p hp => (h3.iff_ _).2 (hu p hp), hr, ?_, ?_, full_trim zl h1.full, full_trim zd h2.full⟩
   · obtain ⟨i, hi, rfl⟩ := List.getElem_of_mem hs; have hi' : nc + i < 19 := by
      have h0 : (clOrder.drop nc).length = 19 - nc := by rw [List.length_drop]; rfl
      have : i < (clOrder.drop nc).length := hi; omega
     have := zc (nc + i) (by omega) hi'
     rw [List.getElem_drop]; rw [List.getD_eq_getElem?_getD (l := clOrder), List.getElem?_eq_getElem (by show nc + i < 19; exact hi')] at this
     exact this
   · rw [List.length_take, h1.len, l1]; show min nl 286 = nl; omega
   · rw [List.length_take, h2.len, l2]; show min nd 30 = nd; omega
 · have hin := tokIn_tree h1 h2 (hm t ht)
   cases t with
   | lit c => show (LL.take nl).getD c.toNat 0 ≠ 0; rw [getD_trim zl]; exact hin
   | cpy f m => exact ⟨by rw [getD_trim zl]; exact hin.2.2.2.2.1, by rw [getD_trim zd]; exact hin.2.2.2.2.2⟩
end Flate
namespace Go.Proofs.YthfncdfcklbigaaGreatDoor
open Go.RowKit Go.IntWalk Flate
set_option maxRecDepth 100000
theorem size_int (w : World) : (sizeOf (Tryz.prog.elem 33)).run Tryz.prog w = .ok 1 w := by kernel_rfl
theorem under_ints : Tryz.prog.underlying 33 = some (.slice (Tryz.prog.elem 33)) := by kernel_rfl
theorem append_none (w : World) (t e : TypeId) (i : TypeInfo) (ht : Tryz.prog.underlying t = some (.slice e)) (hi : Tryz.prog.info? e = some i) (a : Addr) (k c : Nat) (hk : k ≤ c) (b : Option Addr) (c2 : Nat) (ty : TypeId) :
 (Builtin.append_ #[t, t] ty #[.slice (some a) k c, .slice b 0 c2]).run Tryz.prog w = .ok (.slice (some a) k c) w := by
 cases b <;> simp [Builtin.append_, run_underlying ht, sizeOf, typeInfo, hi, Builtin.lenOf, Builtin.firstCells, loadCells, loadCellsFrom, storeCells, hk]
theorem del_run (w : World) (g lc : Nat) (ls : List Nat) (k m : Nat) (h : Nt w (some ⟨g, 0, none⟩) ls) (hm : m = ls.length) (hlc : m ≤ lc) (hk : k < m) (hl : m ≤ 100000) :
 ∃ bx g' c' w', (∀ W, (Instr.sliceAt 33 (.slice (some ⟨g, 0, none⟩) m lc) none (some (.int .i64 (k : Int))) (some (.int .i64 (k : Int)))).run Tryz.prog W = .ok (.slice (some ⟨g, 0, none⟩) k k) W) ∧
  (∀ W, (Instr.sliceAt 33 (.slice (some ⟨g, 0, none⟩) m lc) (some (.int .i64 ((k : Int) + 1))) none none).run Tryz.prog W = .ok (.slice bx (m - (k + 1)) (lc - (k + 1))) W) ∧
  (∀ ty, (Builtin.append_ #[33, 33] ty #[.slice (some ⟨g, 0, none⟩) k k, .slice bx (m - (k + 1)) (lc - (k + 1))]).run Tryz.prog w = .ok (.slice (some ⟨g', 0, none⟩) (m - 1) c') w') ∧
  Nt w' (some ⟨g', 0, none⟩) (ls.eraseIdx k) ∧ m - 1 ≤ c' ∧ (g' = g ∨ w.heap.size ≤ g') ∧ Frm (fun _ _ => False) w w' := by
 obtain ⟨i, hi, hiq⟩ := Option.map_eq_some_iff.1 infoInts
 simp only [Prod.mk.injEq] at hiq
 obtain ⟨h1, h2, h3⟩ := hiq
 have hcell : ∀ j (hj : j < ls.length), w.cell? ⟨g, j, none⟩ = some (natV ls[j]) := fun j hj => by
  obtain ⟨g', e, hc⟩ := h.cells j hj; injection e with e; injection e with e; subst e; exact hc
 have s1 : ∀ W, (Instr.sliceAt 33 (.slice (some ⟨g, 0, none⟩) m lc) none (some (.int .i64 (k : Int))) (some (.int .i64 (k : Int)))).run Tryz.prog W = .ok (.slice (some ⟨g, 0, none⟩) k k) W := fun W => by
  rw [run_sliceAt_slice W _ _ _ _ _ under_ints, run_slice_hm W _ _ _ _ under_ints _ _ _ _ (by omega) (by omega) (by omega), size_int]
  simp only [Result.andThen, sliced, Int.toNat_natCast, Nat.sub_zero]
  by_cases h : k = 0 <;> simp [h, Addr.add]
 obtain ⟨bx, hbx⟩ : ∃ bx, bx = (if lc = k + 1 then some ⟨g, 0, none⟩ else some ⟨g, k + 1, none⟩ : Option Addr) := ⟨_, rfl⟩
 have s2 : ∀ W, (Instr.sliceAt 33 (.slice (some ⟨g, 0, none⟩) m lc) (some (.int .i64 ((k : Int) + 1))) none none).run Tryz.prog W = .ok (.slice bx (m - (k + 1)) (lc - (k + 1))) W := fun W => by
  rw [run_sliceAt_slice W _ _ _ _ _ under_ints, run_slice_l W _ _ _ _ under_ints _ _ (by omega) (by omega), size_int]
  have e : ((k : Int) + 1).toNat = k + 1 := by omega
  simp only [Result.andThen, sliced, e, Nat.mul_one]; rw [hbx]
  by_cases h : lc = k + 1
  · simp [h]
  · simp [h, Addr.add]
 have hdrop : ls.eraseIdx k = ls.take k ++ ls.drop (k + 1) := List.eraseIdx_eq_take_drop_succ ls k
 by_cases h0 : m = k + 1
 · have e0 : m - (k + 1) = 0 := by omega
   have em : m - 1 = k := by omega
   refine ⟨bx, g, k, w, s1, s2, fun ty => ?_, ⟨fun j hj => ⟨g, rfl, ?_⟩⟩, by omega, .inl rfl, Frm.refl _ _⟩
   · rw [e0, em]; exact append_none w _ _ i Tryz.underlying33 hi _ k k (Nat.le_refl _) bx _ ty
   · have hnil : ls.drop (k + 1) = [] := List.drop_eq_nil_of_le (by omega)
     rw [hdrop, hnil, List.append_nil] at hj; rw [List.length_take] at hj; have : (ls.eraseIdx k)[j]'(by rw [hdrop, hnil, List.append_nil, List.length_take]; exact hj) = ls[j]'(by omega) := by
      simp only [hdrop, hnil, List.append_nil, List.getElem_take]
     rw [this]; exact hcell j (by omega)
 · have hlk : lc ≠ k + 1 := by omega
   rw [if_neg hlk] at hbx; subst hbx; have hr := fun ty => run_append_grow (P := Tryz.prog) w 33 ty 3 i _ Tryz.underlying33 hi h1 ⟨g, 0, none⟩ k k ((ls.take k).map natV) (by rw [h2, List.length_map, List.length_take]; omega) (fun j u hu => by
    rw [List.getElem?_map] at hu; obtain ⟨x, hx, rfl⟩ := Option.map_eq_some_iff.1 hu; obtain ⟨hj, rfl⟩ := List.getElem?_eq_some_iff.1 hx; rw [List.length_take] at hj; rw [Addr.add_lit, Nat.zero_add, List.getElem_take]; exact hcell j (by omega)) ⟨g, k + 1, none⟩ (m - (k + 1)) (lc - (k + 1)) ((ls.drop (k + 1)).map natV) (by rw [h2, List.length_map, List.length_drop]; omega) (fun j u hu => by
    rw [List.getElem?_map] at hu; obtain ⟨x, hx, rfl⟩ := Option.map_eq_some_iff.1 hu; obtain ⟨hj, rfl⟩ := List.getElem?_eq_some_iff.1 hx; rw [List.length_drop] at hj; rw [Addr.add_lit, List.getElem_drop]; exact hcell _ (by omega)) (by omega) (by omega) (growslice_fits (by omega) (by rw [h3]; omega))
   have ek : k + (m - (k + 1)) = m - 1 := by omega
   rw [ek] at hr; refine ⟨_, w.heap.size, _, _, s1, s2, hr, ⟨fun j hj => ⟨_, rfl, ?_⟩⟩, grownCap_ge _ _ _ _, .inr (Nat.le_refl _), ((Frm.refl _ _).drew).alloc _⟩
   have hh := heap_alloc_new w.drew (.cells (((ls.take k).map natV).toArray ++ ((ls.drop (k + 1)).map natV).toArray ++ Builtin.zeroCells (Value.int .i64 0).cells (grownCap w (m - 1) k 3 - (m - 1))) 3); refine (cells_at hh).trans ?_; have hl2 : (ls.eraseIdx k).length = m - 1 := by rw [List.length_eraseIdx, if_pos (by omega), hm]
   have ha : (((ls.take k).map natV).toArray ++ ((ls.drop (k + 1)).map natV).toArray) = ((ls.eraseIdx k).map natV).toArray := by
    rw [hdrop, List.map_append]; simp
   rw [ha, Array.getElem?_append_left (by simp; exact hj)]
   simp; exact ⟨_, List.getElem?_eq_getElem hj, rfl⟩
theorem tokIn_fixed {l : List Tk} : ∀ {n : Nat}, toksOk n l → ∀ t ∈ l, TokIn fixedLens fixedDist t := by
 induction l with
 | nil => intro n _ t ht; simp at ht
 | cons a l ih =>
  intro n h t ht; rcases List.mem_cons.1 ht with rfl | q
  · cases t with
    | lit c => have := c.toNat_lt; exact fixedLens_ne0 _ (by omega)
    | cpy f m =>
     obtain ⟨a1, a2, a3, a4, a5⟩ := h.1; have q1 := lenSymbol_ok a4 a5; have q2 := distSymbol_ok a1 a3; refine ⟨a1, a3, a4, a5, fixedLens_ne0 _ (by omega), ?_⟩
     rw [fixedDist_getD, if_pos (by omega)]; omega
  · exact ih h.2 t q
theorem fixedDist15 : ∀ n ∈ fixedDist, n ≤ 15 := fun n hn => by unfold fixedDist at hn; have := (List.mem_replicate.1 hn).2; omega
end Go.Proofs.YthfncdfcklbigaaGreatDoor
namespace Flate
def dG (rest : Nat) (fresh : Bool) (k : Nat) : Nat := rest / 65535 * 20002 + (if fresh then 0 else 20001 - k)
theorem dG_le (rest : Nat) (f : Bool) (k : Nat) : dG rest f k ≤ rest / 65535 * 20002 + 20001 := by
 unfold dG; split <;> omega
theorem dG_more {rest rest' k k' : Nat} (hr : rest' ≤ rest) (hk : k < k') (hk' : k' ≤ 20000) : dG rest' false k' + 1 ≤ dG rest false k := by
 have : rest' / 65535 ≤ rest / 65535 := Nat.div_le_div_right hr
 unfold dG
 simp only [Bool.false_eq_true, if_false]
 omega
theorem dG_new {rest rest' k : Nat} (hr : rest' ≤ rest) (hk : k ≤ 20000) : dG rest' true 0 + 1 ≤ dG rest false k := by
 have : rest' / 65535 ≤ rest / 65535 := Nat.div_le_div_right hr
 unfold dG
 simp only [Bool.false_eq_true, if_false, if_true]
 omega
theorem dG_fresh {rest k' : Nat} {f' : Bool} (hr : 65535 ≤ rest) : dG (rest - 65535) f' k' + 1 ≤ dG rest true 0 := by
 have h1 := dG_le (rest - 65535) f' k'
 have h2 : (rest - 65535) / 65535 + 1 = rest / 65535 := by omega
 have h3 : dG rest true 0 = rest / 65535 * 20002 := by unfold dG; simp
 rw [h3]
 omega
theorem dG_step {rest n k k' k'' : Nat} {f f' : Bool} (hk : k ≤ 20000) (hn : n ≤ rest) (hk1 : k < k') (hf : f = true → k = 0 ∧ n = 65535) (hnew : f' = true ∧ k'' = 0 ∨ f' = false ∧ k'' = k' ∧ k' ≤ 20000) : dG (rest - n) f' k'' + 1 ≤ dG rest f k := by
 cases f with
 | true =>
  obtain ⟨rfl, rfl⟩ := hf rfl; exact dG_fresh hn
 | false =>
  rcases hnew with ⟨rfl, rfl⟩ | ⟨rfl, rfl, h⟩
  · exact dG_new (by omega) hk
  · exact dG_more (by omega) hk1 h
theorem storedBits_len (a n : Nat) (last : Bool) (d : List UInt8) (hd : d.length = n) : ([last] ++ enc 0 2 ++ List.replicate (8 * ((a + 3 + 7) / 8) - (a + 3)) false ++ enc n 16 ++ enc (65535 - n) 16 ++ bitsOf d).length ≤ 5200 + 60 * n := by
 simp only [List.length_append, List.length_cons, List.length_nil, enc_len, List.length_replicate, bitsOf_len, hd]
 omega
end Flate
namespace Flate
theorem toksOk_snoc {n : Nat} {l : List Tk} {t : Tk} : toksOk n (l ++ [t]) ↔ toksOk n l ∧ t.ok (n + toksSize l) := by
 induction l generalizing n with
 | nil => simp [toksOk, toksSize]
 | cons a l ih =>
  simp only [List.cons_append, toksOk, ih]; have : n + toksSize (a :: l) = n + a.size + toksSize l := by simp [toksSize]; omega
  rw [this, and_assoc]
theorem toksRun_snoc (H : List UInt8) (l : List Tk) (t : Tk) : toksRun H (l ++ [t]) = t.run (toksRun H l) := by simp [toksRun]
theorem lz_succ (H : List UInt8) (f m : Nat) (hf : 1 ≤ f) (hH : f ≤ H.length) : lz H f (m + 1) = lz H f m ++ [(lz H f m).getD (H.length + m - f) 0] := by
 rw [← lz_add H f m 1 hf hH]
 have : lz (lz H f m) f 1 = lz H f m ++ [(lz H f m).getD ((lz H f m).length - f + 0 % f) 0] := rfl
 rw [this, lz_length, Nat.zero_mod, Nat.add_zero]
end Flate
namespace Go.Proofs.YthfncdfcklbigaaGreatDoor
open Go.RowKit Go.IntWalk Flate
set_option maxRecDepth 100000
abbrev tokV (t : Tk) : List Value := [natV (tokC0 t), natV (tokC1 t), natV (tokC2 t)]
abbrev OwnT (e : TypeId) (w : World) (base : Nat) (v : Value) (l : List Tk) : Prop := Row KI w base e 3 v l.length (l.flatMap tokV)
theorem flat3 (l : List Tk) (j i : Nat) (hj : j < l.length) (hi : i < 3) : (l.flatMap tokV)[j * 3 + i]? = (tokV l[j])[i]? := by
 induction l generalizing j with
 | nil => simp at hj
 | cons t l ih =>
  rw [List.flatMap_cons]
  cases j with
  | zero => rw [List.getElem?_append_left (by simp; omega)]; simp
  | succ j =>
   rw [List.getElem?_append_right (by simp; omega)]
   have := ih j (by simpa using hj)
   simp only [List.length_cons, List.length_nil, List.getElem_cons_succ]; rw [show (j + 1) * 3 + i - (0 + 1 + 1 + 1) = j * 3 + i by omega]
   exact this
theorem OwnT.tks {e : TypeId} {w : World} {base : Nat} {v : Value} {l : List Tk} (h : OwnT e w base v l) : ∃ b cap, v = .slice b l.length cap ∧ l.length ≤ cap ∧ Tks w b l ∧ (∀ a, b = some a → base ≤ a.block ∧ a.block < w.heap.size) := by
 rcases h.cells with ⟨q, q0⟩ | ⟨g, cap, q1, q2, q3, q4, q5⟩
 · have hl : l = [] := List.eq_nil_of_length_eq_zero q0; subst hl; exact ⟨none, 0, q, Nat.le_refl _, ⟨fun j hj => absurd hj (by simp)⟩, fun a ha => by simp at ha⟩
 · refine ⟨_, cap, q1, q4, ⟨fun j hj => ⟨g, rfl, ?_, ?_, ?_⟩⟩, fun a ha => by obtain rfl := Option.some.inj ha; exact ⟨q2, q3⟩⟩
   · have := q5 (j * 3 + 0) _ ((flat3 l j 0 hj (by omega)).trans rfl)
     exact this
   · exact q5 (j * 3 + 1) _ ((flat3 l j 1 hj (by omega)).trans rfl)
   · exact q5 (j * 3 + 2) _ ((flat3 l j 2 hj (by omega)).trans rfl)
theorem infoToken : ((Tryz.prog.info? 131).map fun i => (i.zero, i.size, i.bytes)) = some (some (.agg #[.int .i64 0, .int .i64 0, .int .i64 0]), 3, 24) := by kernel_rfl
theorem append_tokG (t e : TypeId) (ht : Tryz.prog.underlying t = some (.slice e)) (hinfo : ((Tryz.prog.info? e).map fun i => (i.zero, i.size, i.bytes)) = some (some (.agg #[.int .i64 0, .int .i64 0, .int .i64 0]), 3, 24))
 (w : World) (base : Nat) (v : Value) (l : List Tk) (hrow : OwnT e w base v l) (x : Tk) (hle : l.length + 1 ≤ 1099511627776) (hbase : base ≤ w.heap.size) :
 ∃ v' w', (∀ ty, (Builtin.append_ #[t, t] ty #[v, .slice (some ⟨w.heap.size, 0, none⟩) 1 1]).run Tryz.prog (w.alloc (.cells #[natV (tokC0 x), natV (tokC1 x), natV (tokC2 x)] e)) = .ok v' w') ∧ OwnT e w' base v' (l ++ [x]) ∧ Frm (fun b _ => v.ownBlock = some b) w w' := by
 obtain ⟨i, hi, hiq⟩ := Option.map_eq_some_iff.1 hinfo
 simp only [Prod.mk.injEq] at hiq
 obtain ⟨h1, h2, h3⟩ := hiq
 have hf1 : Frm (fun b _ => v.ownBlock = some b) w (w.alloc (.cells #[natV (tokC0 x), natV (tokC1 x), natV (tokC2 x)] e)) := (Frm.refl _ _).alloc _
 have hrow1 := hrow.keep (S := fun _ _ => False) ((Frm.refl _ w).alloc (.cells #[natV (tokC0 x), natV (tokC1 x), natV (tokC2 x)] e)) (fun _ _ _ e => e)
 obtain ⟨v', w', hrun, hr, hf, _⟩ := append_row (P := Tryz.prog) KI _ base t e i _ 3 24 ht hi h1 h2 h3 (by rfl) (by
  intro u hu; have hu' : u ∈ [Value.int .i64 0, Value.int .i64 0, Value.int .i64 0] := hu; simp only [List.mem_cons, List.not_mem_nil, or_false, or_self] at hu'; exact ⟨0, hu'⟩) v l.length _ hrow1 ⟨w.heap.size, 0, none⟩ 1 1 (tokV x) (by simp) (fun j u hu => by
  rw [Addr.add_lit]; refine (cells_at (heap_alloc_new w _)).trans ?_; rw [Nat.zero_add]
  match j, hu with
  | 0, hu => exact hu
  | 1, hu => exact hu
  | 2, hu => exact hu
  | j + 3, hu => simp at hu) (fun u hu => by
   simp only [tokV, List.mem_cons, List.not_mem_nil, or_false] at hu; rcases hu with rfl | rfl | rfl <;> rfl) (fun u hu => by
   simp only [tokV, List.mem_cons, List.not_mem_nil, or_false] at hu; rcases hu with rfl | rfl | rfl <;> exact ⟨_, rfl⟩) (by simp only [maxLen]; omega) (by omega) (Nat.le_trans hbase hf1.size)
 refine ⟨v', w', hrun, ?_, hf1.trans' hf (fun _ _ _ e => e)⟩
 unfold OwnT
 rw [List.flatMap_append, List.length_append]
 simp only [List.flatMap_cons, List.flatMap_nil, List.append_nil]
 exact hr
theorem append_token (w : World) (base : Nat) (v : Value) (l : List Tk) (hrow : OwnT 131 w base v l) (x : Tk) (hle : l.length + 1 ≤ 1099511627776) (hbase : base ≤ w.heap.size) :
 ∃ v' w', (∀ ty, (Builtin.append_ #[101, 101] ty #[v, .slice (some ⟨w.heap.size, 0, none⟩) 1 1]).run Tryz.prog (w.alloc (.cells #[natV (tokC0 x), natV (tokC1 x), natV (tokC2 x)] 131)) = .ok v' w') ∧ OwnT 131 w' base v' (l ++ [x]) ∧ Frm (fun b _ => v.ownBlock = some b) w w' :=
 append_tokG _ _ Tryz.underlying101 infoToken w base v l hrow x hle hbase
theorem OwnT.fresh {e : TypeId} {w w' : World} {base : Nat} {v : Value} {l : List Tk} (h : OwnT e w base v l) {w0 : World} (h0 : Frm (fun _ _ => False) w0 w) (hb : w0.heap.size ≤ base) (hf : Frm (fun b _ => v.ownBlock = some b) w w') : Frm (fun _ _ => False) w0 w' :=
 h0.trans' hf (fun x o hx q => by have := (h.lt x q).1; omega)
theorem Tks.keep {S : Nat → Nat → Prop} {w w' : World} {b : Option Addr} {l : List Tk} (h : Tks w b l) (hf : Frm S w w') (hS : ∀ g o, ¬ S g o) : Tks w' b l :=
 ⟨fun j hj => by
  obtain ⟨g, h1, h2, h3, h4⟩ := h.cells j hj; exact ⟨g, h1, hf.keep h2 (hS _ _), hf.keep h3 (hS _ _), hf.keep h4 (hS _ _)⟩⟩
end Go.Proofs.YthfncdfcklbigaaGreatDoor
