/-
  Several texts in one: what the writer and the reader of bits do.
-/
import Derived.Test.YthfncdfcklbigaaDoorCk
import Derived.Deep.OwnRows
import Derived.Test.YthfncdfcklbigaaDoorLook
import Derived.Test.YthfncdfcklbigaaDoorStr
import Derived.IntWalk
import Derived.Test.YthfncdfcklbigaaDoorSpec
import Derived.Test.YthfncdfcklbigaaDoorDrain
import Derived.Test.YthfncdfcklbigaaDoorOwn
import Derived.Test.YthfncdfcklbigaaDoorWorks
set_option linter.unusedVariables false
set_option linter.unusedSimpArgs false

/-
  ROWS OF THE PROGRAM'S OWN: stores into them; rows that 'make' has laid; rows of numbers, of truth values.
-/
namespace Go.Proofs.YthfncdfcklbigaaDoor
open Go.RowKit Flate
set_option maxRecDepth 100000

theorem heap_set_same {w : World} {g j : Nat} {cur : Array Value} {e : TypeId} {f : Nat × Nat} (h : w.heap[g]? = some (.cells cur e f)) (u : Value) : (w.setCell ⟨g, j, none⟩ u).heap[g]? = some (.cells (cur.setIfInBounds j u) e f) := by
  simp [World.setCell, Array.getElem?_modify, h]

theorem set_size (w : World) (p : Addr) (u : Value) : (w.setCell p u).heap.size = w.heap.size := by simp [World.setCell]

/-- A store into a row. -/
theorem Row.set {K : Value → Prop} {w : World} {base : Nat} {e : TypeId} {v : Value} {n : Nat} {xs : List Value} (h : Row K w base e 1 v n xs) {g : Nat} (hg : v.ownBlock = some g) {j : Nat} (hj : j < n) {u : Value} (hu : K u) :
    Row K (w.setCell ⟨g, j, none⟩ u) base e 1 v n (xs.set j u) ∧ Frm (fun b o => b = g ∧ o = j) w (w.setCell ⟨g, j, none⟩ u) := by
  refine ⟨⟨⟨by rw [List.length_set]; exact h.own.1, ?_⟩, fun g' hg' o x hx => ?_, fun g' hg' o => ?_⟩, (Frm.refl _ _).setCell (.inl ⟨rfl, rfl⟩) _⟩
  · rcases h.own.2 with ⟨rfl, q⟩ | ⟨g', cap, cur, q1, q2, q3, q4, q5, q6, q7⟩
    · omega
    · have e : g' = g := by rw [q1] at hg; exact Option.some.inj hg
      subst e
      refine .inr ⟨g', cap, cur.setIfInBounds j u, q1, q2, heap_set_same q3 u, q4, q5, by rw [Array.size_setIfInBounds]; exact q6, ?_⟩
      rw [Array.toList_setIfInBounds, List.take_set, q7]
  · rw [hg] at hg'
    obtain rfl := Option.some.inj hg'
    by_cases e : o = j
    · subst e
      have hl : (w.setCell ⟨g, o, none⟩ u).cell? ⟨g, o, none⟩ = some u := by
        have : (w.cell? ⟨g, o, none⟩).isSome := by rw [← live_setCell w ⟨g, o, none⟩ u, hx]; rfl
        obtain ⟨y, hy⟩ := Option.isSome_iff_exists.1 this
        exact set_get hy
      rw [hl] at hx
      obtain rfl := Option.some.inj hx
      exact hu
    · rw [cell_set_off e] at hx
      exact h.kind g hg o x hx
  · rw [World.frozen?_setCell]; exact h.froz g' hg' o

/-- A cell of a row. -/
theorem Row.at {K : Value → Prop} {w : World} {base : Nat} {e : TypeId} {v : Value} {n : Nat} {xs : List Value} (h : Row K w base e 1 v n xs) {j : Nat} (hj : j < n) :
    ∃ g cap, v = .slice (some ⟨g, 0, none⟩) n cap ∧ base ≤ g ∧ g < w.heap.size ∧ n ≤ cap ∧ w.cell? ⟨g, j, none⟩ = some (xs[j]'(by rw [h.len]; omega)) ∧ w.frozen? ⟨g, j, none⟩ = false := by
  rcases h.cells with ⟨_, q⟩ | ⟨g, cap, q1, q2, q3, q4, q5⟩
  · omega
  · exact ⟨g, cap, q1, q2, q3, q4, q5 j _ (List.getElem?_eq_getElem (by rw [h.len]; omega)), h.froz g (by rw [q1]; rfl) j⟩

/-- What 'make' lays. -/
theorem row_made (K : Value → Prop) (w : World) (e : TypeId) (z : Value) (n : Nat) (hz : K z) (hn : n ≤ maxLen) : Row K (w.alloc (.cells (madeCells #[z] n) e)) w.heap.size e 1 (.slice (some ⟨w.heap.size, 0, none⟩) n n) n (List.replicate n z) := by
  have hh := heap_alloc_new w (.cells (madeCells #[z] n) e)
  have hc : (madeCells #[z] n).toList = List.replicate n z := by
    apply List.ext_getElem?
    intro i
    rw [Array.getElem?_toList, List.getElem?_replicate]
    split
    · rename_i h; simp [madeCells, h, Nat.mod_one]
    · rename_i h; simp [madeCells, h]
  refine ⟨⟨by simp, .inr ⟨w.heap.size, n, _, rfl, Nat.le_refl _, hh, Nat.le_refl _, hn, by rw [size_madeCells]; simp, ?_⟩⟩, fun g hg o u hu => ?_, fun g hg o => ?_⟩
  · rw [hc, List.take_of_length_le (by simp)]
  · obtain rfl := Option.some.inj hg
    rw [cells_at hh] at hu
    have : u ∈ (madeCells #[z] n).toList := Array.mem_toList_iff.2 (Array.mem_of_getElem? hu)
    rw [hc] at this
    rw [(List.mem_replicate.1 this).2]; exact hz
  · obtain rfl := Option.some.inj hg
    exact World.frozen?_alloc_new (w := w) ..

abbrev KI (v : Value) : Prop := ∃ u : Int, v = .int .i64 u
abbrev KB (v : Value) : Prop := ∃ u : Bool, v = .bool u
abbrev natV (n : Nat) : Value := .int .i64 (n : Int)

/-- A row of numbers of the program's own. -/
abbrev OwnN (w : World) (base : Nat) (v : Value) (l : List Nat) : Prop := Row KI w base 3 1 v l.length (l.map natV)
/-- A row of truth values. -/
abbrev OwnB (w : World) (base : Nat) (v : Value) (l : List Bool) : Prop := Row KB w base 4 1 v l.length (l.map Value.bool)

theorem infoBools : ((Tryd.prog.info? 4).map fun i => (i.zero, i.size, i.bytes)) = some (some (.bool false), 1, 1) := by kernel_rfl

theorem own_block_lt {K : Value → Prop} {w : World} {base : Nat} {e : TypeId} {size : Nat} {v : Value} {n : Nat} {xs : List Value} (h : Row K w base e size v n xs) {g : Nat} (hg : v.ownBlock = some g) : base ≤ g ∧ g < w.heap.size := h.lt g hg

theorem OwnN.of_int {w : World} {base : Nat} {v : Value} {l : List Nat} (h : OwnI w base v (l.map Int.ofNat)) : OwnN w base v l := by
  unfold OwnI at h
  rw [List.length_map, List.map_map] at h
  exact h
theorem OwnN.to_int {w : World} {base : Nat} {v : Value} {l : List Nat} (h : OwnN w base v l) : OwnI w base v (l.map Int.ofNat) := by
  unfold OwnI
  rw [List.length_map, List.map_map]
  exact h

/-- One number more. -/
theorem append_nat (w : World) (base : Nat) (v : Value) (l : List Nat) (hrow : OwnN w base v l) (x : Nat) (hle : l.length + 1 ≤ 1099511627776) (hbase : base ≤ w.heap.size) :
    ∃ v' w', (∀ ty, (Builtin.append_ #[27, 27] ty #[v, .slice (some ⟨w.heap.size, 0, none⟩) 1 1]).run Tryd.prog (w.alloc (.cells #[.int .i64 (x : Int)] 3)) = .ok v' w') ∧ OwnN w' base v' (l ++ [x]) ∧ Frm (fun b _ => v.ownBlock = some b) w w' := by
  obtain ⟨v', w', h1, h2, h3⟩ := append_int w base v (l.map Int.ofNat) hrow.to_int x (by rw [List.length_map]; exact hle) hbase
  refine ⟨v', w', h1, OwnN.of_int ?_, h3⟩
  rw [List.map_append]; exact h2

theorem set_map {α : Type} (f : α → Value) (l : List α) (j : Nat) (x : α) : (l.map f).set j (f x) = (l.set j x).map f := by
  rw [List.map_set]

theorem OwnN.set {w : World} {base : Nat} {v : Value} {l : List Nat} (h : OwnN w base v l) {g : Nat} (hg : v.ownBlock = some g) {j : Nat} (hj : j < l.length) (x : Nat) :
    OwnN (w.setCell ⟨g, j, none⟩ (natV x)) base v (l.set j x) ∧ Frm (fun b o => b = g ∧ o = j) w (w.setCell ⟨g, j, none⟩ (natV x)) := by
  have := Row.set h hg hj (u := natV x) ⟨_, rfl⟩
  rw [set_map] at this
  unfold OwnN
  rw [List.length_set]
  exact this

theorem OwnB.set {w : World} {base : Nat} {v : Value} {l : List Bool} (h : OwnB w base v l) {g : Nat} (hg : v.ownBlock = some g) {j : Nat} (hj : j < l.length) (x : Bool) :
    OwnB (w.setCell ⟨g, j, none⟩ (.bool x)) base v (l.set j x) ∧ Frm (fun b o => b = g ∧ o = j) w (w.setCell ⟨g, j, none⟩ (.bool x)) := by
  have := Row.set h hg hj (u := .bool x) ⟨_, rfl⟩
  rw [set_map] at this
  unfold OwnB
  rw [List.length_set]
  exact this

theorem Own.set {w : World} {base : Nat} {v : Value} {l : List UInt8} (h : Own w base v l) {g : Nat} (hg : v.ownBlock = some g) {j : Nat} (hj : j < l.length) (x : UInt8) :
    Own (w.setCell ⟨g, j, none⟩ (byteV x)) base v (l.set j x) ∧ Frm (fun b o => b = g ∧ o = j) w (w.setCell ⟨g, j, none⟩ (byteV x)) := by
  have := Row.set h hg hj (u := byteV x) ⟨_, rfl⟩
  rw [set_map] at this
  unfold Own
  rw [List.length_set]
  exact this

theorem ownN_made (w : World) (n : Nat) (hn : n ≤ maxLen) : OwnN (w.alloc (.cells (madeCells #[.int .i64 0] n) 3)) w.heap.size (.slice (some ⟨w.heap.size, 0, none⟩) n n) (List.replicate n 0) := by
  have := row_made KI w 3 (.int .i64 0) n ⟨_, rfl⟩ hn
  unfold OwnN
  rw [List.length_replicate, List.map_replicate]
  exact this

theorem ownB_made (w : World) (n : Nat) (hn : n ≤ maxLen) : OwnB (w.alloc (.cells (madeCells #[.bool false] n) 4)) w.heap.size (.slice (some ⟨w.heap.size, 0, none⟩) n n) (List.replicate n false) := by
  have := row_made KB w 4 (.bool false) n ⟨_, rfl⟩ hn
  unfold OwnB
  rw [List.length_replicate, List.map_replicate]
  exact this

/-- The slice of a row of so many. -/
theorem Row.val {K : Value → Prop} {w : World} {base : Nat} {e : TypeId} {size : Nat} {v : Value} {n : Nat} {xs : List Value} (h : Row K w base e size v n xs) (hn : 0 < n) : ∃ g cap, v = .slice (some ⟨g, 0, none⟩) n cap ∧ base ≤ g ∧ g < w.heap.size ∧ n ≤ cap := by
  rcases h.cells with ⟨_, q⟩ | ⟨g, cap, q1, q2, q3, q4, q5⟩
  · omega
  · exact ⟨g, cap, q1, q2, q3, q4⟩

/-- Read as a row that came in. -/
structure Nt (w : World) (base : Option Addr) (l : List Nat) : Prop where
  cells : ∀ j (h : j < l.length), ∃ g, base = some ⟨g, 0, none⟩ ∧ w.cell? ⟨g, j, none⟩ = some (natV l[j])

theorem OwnN.nt {w : World} {base : Nat} {v : Value} {l : List Nat} (h : OwnN w base v l) : ∃ b cap, v = .slice b l.length cap ∧ l.length ≤ cap ∧ Nt w b l := by
  rcases h.cells with ⟨q, q0⟩ | ⟨g, cap, q1, q2, q3, q4, q5⟩
  · have hl : l = [] := List.eq_nil_of_length_eq_zero q0
    subst hl
    exact ⟨none, 0, q, Nat.le_refl _, ⟨fun j hj => absurd hj (by simp)⟩⟩
  · exact ⟨_, cap, q1, q4, ⟨fun j hj => ⟨g, rfl, q5 j _ (by rw [List.getElem?_map, List.getElem?_eq_getElem hj]; rfl)⟩⟩⟩

theorem Nt.keep {S : Nat → Nat → Prop} {w w' : World} {base : Option Addr} {l : List Nat} (h : Nt w base l) (hf : Frm S w w') (hS : ∀ g o, S g o → ∀ v, w.cell? ⟨g, o, none⟩ = some v → ¬ KI v) : Nt w' base l :=
  ⟨fun j hj => by obtain ⟨g, h1, h2⟩ := h.cells j hj; exact ⟨g, h1, hf.keep h2 (fun q => hS _ _ q _ h2 ⟨_, rfl⟩)⟩⟩

end Go.Proofs.YthfncdfcklbigaaDoor

/-
  PLAIN LEAN: rows of bits, the bytes that they are packed into, and what is read of these.
-/
namespace Flate

/-- Bits as a number, the first one the lowest. -/
def bitsN : List Bool → Nat
  | [] => 0
  | b :: l => b.toNat + 2 * bitsN l

/-- n bits of a number, the lowest first. -/
def enc : Nat → Nat → List Bool
  | _, 0 => []
  | v, n + 1 => (v % 2 == 1) :: enc (v / 2) n

/-- n bits of a number, the highest first. -/
def encC (v n : Nat) : List Bool := (enc v n).reverse

theorem bitsN_lt (L : List Bool) : bitsN L < 2 ^ L.length := by
  induction L with
  | nil => simp [bitsN]
  | cons b l ih =>
    have := Bool.toNat_le b
    simp only [bitsN, List.length_cons, Nat.pow_succ]; omega

theorem bitsN_append (L M : List Bool) : bitsN (L ++ M) = bitsN L + 2 ^ L.length * bitsN M := by
  induction L with
  | nil => simp [bitsN]
  | cons b l ih =>
    simp only [List.cons_append, bitsN, ih, List.length_cons, Nat.pow_succ]
    rw [Nat.mul_add, ← Nat.add_assoc, ← Nat.mul_assoc, Nat.mul_comm (2 ^ l.length) 2]

theorem enc_len (v n : Nat) : (enc v n).length = n := by
  induction n generalizing v with
  | zero => rfl
  | succ n ih => simp [enc, ih]

theorem encC_len (v n : Nat) : (encC v n).length = n := by simp [encC, enc_len]

theorem bool_toNat (x : Nat) : (x % 2 == 1).toNat = x % 2 := by
  rcases Nat.mod_two_eq_zero_or_one x with h | h <;> rw [h] <;> rfl

theorem bitsN_enc (v n : Nat) : bitsN (enc v n) = v % 2 ^ n := by
  induction n generalizing v with
  | zero => simp [enc, bitsN, Nat.mod_one]
  | succ n ih =>
    rw [enc, bitsN, ih, bool_toNat, Nat.pow_succ, Nat.mul_comm (2 ^ n) 2, Nat.mod_mul]

theorem bitsN_encC (v n : Nat) : bitsN (encC v n) = revB n v := by
  induction n generalizing v with
  | zero => rfl
  | succ n ih =>
    have e : encC v (n + 1) = encC (v / 2) n ++ [v % 2 == 1] := by simp [encC, enc]
    rw [e, bitsN_append, ih, encC_len, revB]
    simp only [bitsN, bool_toNat]
    rw [Nat.mul_zero, Nat.add_zero, Nat.mul_comm, Nat.add_comm]

theorem enc_succ (v n : Nat) : enc v (n + 1) = enc v n ++ [v / 2 ^ n % 2 == 1] := by
  induction n generalizing v with
  | zero => simp [enc]
  | succ n ih =>
    rw [enc, ih (v / 2)]
    have : v / 2 / 2 ^ n = v / 2 ^ (n + 1) := by rw [Nat.div_div_eq_div_mul, Nat.pow_succ, Nat.mul_comm]
    rw [this]; rfl

theorem encC_succ (v n : Nat) : encC v (n + 1) = (v / 2 ^ n % 2 == 1) :: encC v n := by
  unfold encC; rw [enc_succ, List.reverse_append]; rfl

/-! ### Bytes -/

/-- So many bytes of a number, the lowest first. -/
def bytesOf : Nat → Nat → List UInt8
  | _, 0 => []
  | x, k + 1 => UInt8.ofNat x :: bytesOf (x / 256) k

theorem bytesOf_len (x k : Nat) : (bytesOf x k).length = k := by
  induction k generalizing x with
  | zero => rfl
  | succ k ih => simp [bytesOf, ih]

theorem num_bytesOf (x k : Nat) : num (bytesOf x k) = x % 256 ^ k := by
  induction k generalizing x with
  | zero => simp [bytesOf, num, Nat.mod_one]
  | succ k ih =>
    rw [bytesOf, num, ih, Nat.pow_succ, Nat.mul_comm (256 ^ k) 256, Nat.mod_mul]
    simp

theorem num_inj : ∀ {l m : List UInt8}, l.length = m.length → num l = num m → l = m
  | [], [], _, _ => rfl
  | [], _ :: _, h, _ => by simp at h
  | _ :: _, [], h, _ => by simp at h
  | a :: l, b :: m, h, e => by
    have ha := a.toNat_lt
    have hb := b.toNat_lt
    simp only [num] at e
    have h1 : a.toNat = b.toNat := by omega
    have h2 : num l = num m := by omega
    rw [UInt8.toNat_inj.1 h1, num_inj (by simpa using h) h2]

/-- The bits packed into bytes. -/
def pack (L : List Bool) : List UInt8 := bytesOf (bitsN L) ((L.length + 7) / 8)

theorem pack_len (L : List Bool) : (pack L).length = (L.length + 7) / 8 := bytesOf_len _ _

theorem num_pack (L : List Bool) : num (pack L) = bitsN L := by
  unfold pack
  rw [num_bytesOf]
  refine Nat.mod_eq_of_lt (Nat.lt_of_lt_of_le (bitsN_lt L) ?_)
  rw [show (256 : Nat) = 2 ^ 8 from rfl, ← Nat.pow_mul]
  exact Nat.pow_le_pow_right (by omega) (by omega)

theorem num_set (l : List UInt8) (i : Nat) (c : UInt8) (h : i < l.length) : num (l.set i c) + 256 ^ i * l[i].toNat = num l + 256 ^ i * c.toNat := by
  induction l generalizing i with
  | nil => simp at h
  | cons a l ih =>
    cases i with
    | zero => simp only [List.set_cons_zero, num, List.getElem_cons_zero]; omega
    | succ i =>
      have := ih i (by simpa using h)
      simp only [List.set_cons_succ, num, List.getElem_cons_succ, Nat.pow_succ]
      rw [Nat.mul_comm (256 ^ i) 256, Nat.mul_assoc, Nat.mul_assoc]
      omega

/-- A byte of the number. -/
theorem num_byte (l : List UInt8) (i : Nat) (h : i < l.length) : l[i].toNat = num l / 256 ^ i % 256 := by
  have := bv_byte l i h
  rw [← this, bv, Nat.pow_mul]

/-- The row that a bit is written into. -/
def roomed (L : List Bool) : List UInt8 := if L.length % 8 = 0 then pack L ++ [0] else pack L

theorem num_snoc0 (l : List UInt8) : num (l ++ [0]) = num l := by
  induction l with
  | nil => rfl
  | cons a l ih => simp only [List.cons_append, num, ih]

theorem roomed_len (L : List Bool) : (roomed L).length = L.length / 8 + 1 := by
  unfold roomed
  split
  · rw [List.length_append, pack_len]; simp only [List.length_cons, List.length_nil]; omega
  · rw [pack_len]; omega

theorem num_roomed (L : List Bool) : num (roomed L) = bitsN L := by
  unfold roomed
  split
  · rw [num_snoc0, num_pack]
  · exact num_pack L

theorem roomed_lt (L : List Bool) : L.length / 8 < (roomed L).length := by rw [roomed_len]; omega

/-- The byte that a bit is written into: so many bits of it are in use. -/
theorem roomed_byte (L : List Bool) : ((roomed L)[L.length / 8]'(roomed_lt L)).toNat < 2 ^ (L.length % 8) := by
  rw [num_byte _ _ (roomed_lt L), num_roomed]
  have h := bitsN_lt L
  refine Nat.lt_of_le_of_lt (Nat.mod_le _ _) ?_
  refine (Nat.div_lt_iff_lt_mul (by exact Nat.pow_pos (by omega))).2 ?_
  rw [show (256 : Nat) = 2 ^ 8 from rfl, ← Nat.pow_mul, ← Nat.pow_add]
  rwa [show L.length % 8 + 8 * (L.length / 8) = L.length by omega]

theorem pack_snoc (L : List Bool) (b : Bool) : pack (L ++ [b]) = (roomed L).set (L.length / 8) (UInt8.ofNat (((roomed L)[L.length / 8]'(roomed_lt L)).toNat + b.toNat * 2 ^ (L.length % 8))) := by
  have hb := Bool.toNat_le b
  have h1 := roomed_byte L
  have hp : 2 ^ (L.length % 8) ≤ 2 ^ 7 := Nat.pow_le_pow_right (by omega) (by omega)
  have hm : b.toNat * 2 ^ (L.length % 8) ≤ 1 * 2 ^ (L.length % 8) := Nat.mul_le_mul_right _ hb
  refine num_inj (by rw [pack_len, List.length_set, roomed_len, List.length_append]; simp only [List.length_cons, List.length_nil]; omega) ?_
  have h2 := num_set (roomed L) (L.length / 8) (UInt8.ofNat (((roomed L)[L.length / 8]'(roomed_lt L)).toNat + b.toNat * 2 ^ (L.length % 8))) (roomed_lt L)
  rw [num_pack, bitsN_append]
  rw [num_roomed] at h2
  have e1 : (UInt8.ofNat (((roomed L)[L.length / 8]'(roomed_lt L)).toNat + b.toNat * 2 ^ (L.length % 8))).toNat = ((roomed L)[L.length / 8]'(roomed_lt L)).toNat + b.toNat * 2 ^ (L.length % 8) := by
    rw [UInt8.toNat_ofNat']; exact Nat.mod_eq_of_lt (by omega)
  rw [e1, Nat.mul_add] at h2
  have e2 : 256 ^ (L.length / 8) * (b.toNat * 2 ^ (L.length % 8)) = 2 ^ L.length * bitsN [b] := by
    simp only [bitsN, Nat.mul_zero, Nat.add_zero]
    rw [Nat.mul_comm b.toNat, ← Nat.mul_assoc, show (256 : Nat) = 2 ^ 8 from rfl, ← Nat.pow_mul, ← Nat.pow_add, show 8 * (L.length / 8) + L.length % 8 = L.length by omega]
  rw [e2] at h2
  omega

/-- On to the next byte. -/
def padTo (L : List Bool) : List Bool := L ++ List.replicate ((L.length + 7) / 8 * 8 - L.length) false

theorem bitsN_zero (n : Nat) : bitsN (List.replicate n false) = 0 := by
  induction n with
  | zero => rfl
  | succ n ih => simp [List.replicate_succ, bitsN, ih]

theorem padTo_len (L : List Bool) : (padTo L).length = 8 * ((L.length + 7) / 8) := by
  unfold padTo; rw [List.length_append, List.length_replicate]; omega

theorem pack_pad (L : List Bool) : pack (padTo L) = pack L := by
  refine num_inj (by rw [pack_len, pack_len, padTo_len]; omega) ?_
  rw [num_pack, num_pack]
  unfold padTo
  rw [bitsN_append, bitsN_zero]; omega

/-- Bytes as bits. -/
def bitsOf : List UInt8 → List Bool
  | [] => []
  | c :: l => enc c.toNat 8 ++ bitsOf l

theorem bitsOf_len (l : List UInt8) : (bitsOf l).length = 8 * l.length := by
  induction l with
  | nil => rfl
  | cons c l ih => simp only [bitsOf, List.length_append, enc_len, ih, List.length_cons]; omega

theorem bitsN_bitsOf (l : List UInt8) : bitsN (bitsOf l) = num l := by
  induction l with
  | nil => rfl
  | cons c l ih =>
    have := c.toNat_lt
    rw [bitsOf, bitsN_append, bitsN_enc, enc_len, ih, num]
    omega

theorem num_app (l m : List UInt8) : num (l ++ m) = num l + 2 ^ (8 * l.length) * num m := by
  induction l with
  | nil => simp [num]
  | cons c l ih =>
    simp only [List.cons_append, num, ih, List.length_cons]
    rw [show 8 * (l.length + 1) = 8 * l.length + 8 from by omega, Nat.pow_add, Nat.mul_add, ← Nat.mul_assoc, Nat.mul_comm 256 (2 ^ (8 * l.length)), Nat.add_assoc]

/-- Bytes behind bits that end with a byte. -/
theorem pack_bytes (L : List Bool) (l : List UInt8) (h : L.length % 8 = 0) : pack (L ++ bitsOf l) = pack L ++ l := by
  refine num_inj (by rw [pack_len, List.length_append, List.length_append, pack_len, bitsOf_len]; omega) ?_
  rw [num_pack, num_app, num_pack, bitsN_append, bitsN_bitsOf, pack_len, show 8 * ((L.length + 7) / 8) = L.length by omega]

/-! ### What is read -/

/-- At bit a of the source stand these bits. -/
def BitsAt (src : List UInt8) (a : Nat) (L : List Bool) : Prop := a + L.length ≤ 8 * src.length ∧ bv src a L.length = bitsN L

theorem bitsAt_nil {src : List UInt8} {a : Nat} (h : a ≤ 8 * src.length) : BitsAt src a [] := ⟨h, bv_zero src a⟩

theorem bitsAt_append {src : List UInt8} {a : Nat} {L M : List Bool} : BitsAt src a (L ++ M) ↔ BitsAt src a L ∧ BitsAt src (a + L.length) M := by
  unfold BitsAt
  rw [List.length_append, bv_add, bitsN_append]
  have h1 := bv_lt src a L.length
  have h2 := bitsN_lt L
  constructor
  · rintro ⟨h, e⟩
    have e1 : bv src a L.length = bitsN L := by
      have := congrArg (· % 2 ^ L.length) e
      simp only [Nat.add_mul_mod_self_left] at this
      rwa [Nat.mod_eq_of_lt h1, Nat.mod_eq_of_lt h2] at this
    refine ⟨⟨by omega, e1⟩, by omega, ?_⟩
    rw [e1] at e
    exact Nat.eq_of_mul_eq_mul_left (Nat.two_pow_pos L.length) (Nat.add_left_cancel e)
  · rintro ⟨⟨h, e⟩, h', e'⟩
    exact ⟨by omega, by rw [e, e']⟩

theorem bitsAt_pack (L : List Bool) (m : List UInt8) : BitsAt (pack L ++ m) 0 L := by
  refine ⟨by rw [List.length_append, pack_len]; omega, ?_⟩
  rw [bv, num_app, num_pack, pack_len, Nat.pow_zero, Nat.div_one]
  have h : 2 ^ (8 * ((L.length + 7) / 8)) = 2 ^ L.length * 2 ^ (8 * ((L.length + 7) / 8) - L.length) := by rw [← Nat.pow_add]; congr 1; omega
  rw [h, Nat.mul_assoc, Nat.add_mul_mod_self_left, Nat.mod_eq_of_lt (bitsN_lt L)]

theorem bitsAt_enc {src : List UInt8} {a v n : Nat} (h : BitsAt src a (enc v n)) (hv : v < 2 ^ n) : bv src a n = v ∧ a + n ≤ 8 * src.length := by
  obtain ⟨h1, h2⟩ := h
  rw [enc_len] at h1 h2
  rw [bitsN_enc, Nat.mod_eq_of_lt hv] at h2
  exact ⟨h2, h1⟩

theorem bitsAt_code {src : List UInt8} {a s : Nat} {lens : List Nat} (h : BitsAt src a (encC (codeOf lens s) (lens.getD s 0))) (hs : s < lens.length) (h0 : lens.getD s 0 ≠ 0) (h15 : lens.getD s 0 ≤ 15) : SymAt lens src a s := by
  obtain ⟨h1, h2⟩ := h
  rw [encC_len] at h1 h2
  rw [bitsN_encC] at h2
  refine ⟨⟨h0, hs, ?_⟩, h1⟩
  have := bv_mod src a (lens.getD s 0) (15 - lens.getD s 0)
  rw [show lens.getD s 0 + (15 - lens.getD s 0) = 15 by omega] at this
  rw [this, h2]

end Flate

/-
  THE WALKS OF THE WRITER OF BITS: 'bit', 'bits', 'code', 'align'.
-/
namespace Go.Proofs.YthfncdfcklbigaaDoor
open Go.RowKit Go.IntWalk Flate
set_option maxRecDepth 100000

/-- The writer of bits: block W; its bytes, and how many bits there are. -/
structure Wt (w : World) (N0 W : Nat) (L : List Bool) : Prop where
  b : ∃ v, w.cell? ⟨W, 0, none⟩ = some v ∧ Own w N0 v (pack L)
  at_ : w.cell? ⟨W, 1, none⟩ = some (.int .i64 (L.length : Int))
  fr : ∀ o, w.frozen? ⟨W, o, none⟩ = false

/-- What a writer turns: itself, and rows of bytes from N0 on. -/
def SWr (w : World) (N0 W b _ : Nat) : Prop := b = W ∨ (N0 ≤ b ∧ ByteBlock w b)

theorem frm_SWr_trans {a b c : World} {N0 W : Nat} (h : Frm (SWr a N0 W) a b) (k : Frm (SWr b N0 W) b c) : Frm (SWr a N0 W) a c := by
  refine h.trans' k fun x o hx q => ?_
  rcases q with q | ⟨q, hq⟩
  · exact .inl q
  · by_cases hb : SWr a N0 W x o
    · exact hb
    · refine .inr ⟨q, fun o' u hu => ?_⟩
      have hS : ¬ SWr a N0 W x o' := hb
      rw [← h.cell x o' hx hS] at hu
      exact hq o' u hu

theorem frm_SWr_own {w w' : World} {N0 W : Nat} {v : Value} {l : List UInt8} (h : Own w N0 v l) (hf : Frm (fun b _ => v.ownBlock = some b) w w') : Frm (SWr w N0 W) w w' :=
  hf.mono fun b _ q => .inr ⟨(h.lt b q).1, fun o u hu => h.kind b q o u hu⟩

theorem frm_SWr_none {w w' : World} {N0 W : Nat} (hf : Frm (fun _ _ => False) w w') : Frm (SWr w N0 W) w w' := hf.mono fun _ _ e => e.elim

/-- What is no byte and no part of the writer stays. -/
theorem Frm.kept {w w' : World} {N0 W b o : Nat} {v : Value} (h : Frm (SWr w N0 W) w w') (hc : w.cell? ⟨b, o, none⟩ = some v) (hb : b ≠ W) (hv : b < N0 ∨ ∀ u : Int, v ≠ .int .u8 u) : w'.cell? ⟨b, o, none⟩ = some v :=
  h.keep hc fun q => by
    rcases q with q | ⟨q, hq⟩
    · exact hb q
    · obtain ⟨u, hu⟩ := hq _ _ hc
      rcases hv with hv | hv
      · omega
      · exact hv u hu

theorem u8_or_nat' (c m : Nat) (hc : c < 256) (hm : m < 256) (h : c ||| m = c + m) (hs : c + m < 256) : bits .or .u8 (c : Int) (m : Int) = ((c + m : Nat) : Int) := by
  show IntKind.u8.wrap ((BitVec.ofInt 8 (c : Int) ||| BitVec.ofInt 8 (m : Int)).toNat : Int) = _
  have ea : (BitVec.ofInt 8 (c : Int)).toNat = c := by rw [BitVec.toNat_ofInt]; omega
  have eb : (BitVec.ofInt 8 (m : Int)).toNat = m := by rw [BitVec.toNat_ofInt]; omega
  rw [BitVec.toNat_or, ea, eb, h]
  simp only [IntKind.wrap, IntKind.bits, IntKind.signed]
  simp
  omega

theorem u8_or_add (c r : Nat) (hc : c < 2 ^ r) (hr : r < 8) (b : Nat) (hb : b ≤ 1) : bits .or .u8 (c : Int) ((b * 2 ^ r : Nat) : Int) = ((c + b * 2 ^ r : Nat) : Int) := by
  have h2 : 2 ^ r ≤ 2 ^ 7 := Nat.pow_le_pow_right (by omega) (by omega)
  have hm : b * 2 ^ r ≤ 1 * 2 ^ r := Nat.mul_le_mul_right _ hb
  have e : c ||| (b * 2 ^ r) = c + b * 2 ^ r := by
    rw [Nat.or_comm, Nat.mul_comm, ← Nat.two_pow_add_eq_or_of_lt hc]; omega
  exact u8_or_nat' c (b * 2 ^ r) (by omega) (by omega) e (by omega)

theorem i64_and_one (n : Nat) (hn : n < 2 ^ 62) : bits .and .i64 (n : Int) 1 = ((n % 2 : Nat) : Int) := by
  rw [show (1 : Int) = ((1 : Nat) : Int) from rfl, i64_and_nat n 1 hn (by omega), Nat.and_one_is_mod]

/-- A row that has room for the next bit. -/
def Roomed (w : World) (N0 W : Nat) (L : List Bool) (w' : World) : Prop :=
  ∃ v, w'.cell? ⟨W, 0, none⟩ = some v ∧ Own w' N0 v (roomed L) ∧ w'.cell? ⟨W, 1, none⟩ = some (.int .i64 (L.length : Int)) ∧ (∀ o, w'.frozen? ⟨W, o, none⟩ = false) ∧ Frm (SWr w N0 W) w w'

theorem bit_done {w wc : World} {N0 W g cap : Nat} {L : List Bool} {a q c r : Nat} (ha : a = L.length) (hq : q = a / 8) (hr : r = a % 8) (hq1 : q < (roomed L).length) (hc : c = ((roomed L)[q]'hq1).toNat) (hW : W < N0) (hg : N0 ≤ g)
    (hv : wc.cell? ⟨W, 0, none⟩ = some (.slice (some ⟨g, 0, none⟩) (roomed L).length cap)) (hat : wc.cell? ⟨W, 1, none⟩ = some (.int .i64 (a : Int))) (hown : Own wc N0 (.slice (some ⟨g, 0, none⟩) (roomed L).length cap) (roomed L)) (hfr : ∀ o, wc.frozen? ⟨W, o, none⟩ = false) (hf : Frm (SWr w N0 W) w wc)
    (b : Bool) (x : Int) (hx : x = ((c + b.toNat * 2 ^ r : Nat) : Int)) :
    Wt ((wc.setCell ⟨g, q, none⟩ (.int .u8 x)).setCell ⟨W, 1, none⟩ (.int .i64 ((a : Int) + 1))).drew N0 W (L ++ [b]) ∧ Frm (SWr w N0 W) w ((wc.setCell ⟨g, q, none⟩ (.int .u8 x)).setCell ⟨W, 1, none⟩ (.int .i64 ((a : Int) + 1))).drew := by
  subst ha hq hr
  obtain ⟨y, hy⟩ : ∃ y, y = UInt8.ofNat (c + b.toNat * 2 ^ (L.length % 8)) := ⟨_, rfl⟩
  have hb := Bool.toNat_le b
  have h1 := roomed_byte L
  have hp : 2 ^ (L.length % 8) ≤ 2 ^ 7 := Nat.pow_le_pow_right (by omega) (by omega)
  have hm : b.toNat * 2 ^ (L.length % 8) ≤ 1 * 2 ^ (L.length % 8) := Nat.mul_le_mul_right _ hb
  have hyn : y.toNat = c + b.toNat * 2 ^ (L.length % 8) := by
    rw [hy, UInt8.toNat_ofNat']
    refine Nat.mod_eq_of_lt ?_
    rw [← hc] at h1
    omega
  have hxv : Value.int .u8 x = byteV y := by rw [byteV, hyn, hx]
  have hpk : pack (L ++ [b]) = (roomed L).set (L.length / 8) y := by rw [pack_snoc, hy, hc]
  rw [hxv]
  obtain ⟨ho, hfo⟩ := hown.set (g := g) rfl hq1 y
  have hgW : g ≠ W := by omega
  have k : ∀ {o : Nat} {u : Value}, wc.cell? ⟨W, o, none⟩ = some u → (wc.setCell ⟨g, L.length / 8, none⟩ (byteV y)).cell? ⟨W, o, none⟩ = some u := fun h => hfo.keep h (fun e => hgW e.1.symm)
  refine ⟨⟨⟨_, (cell_set_off (by decide)).trans (k hv), ?_⟩, ?_, fun o => ?_⟩, ?_⟩
  · have : Own (wc.setCell ⟨g, L.length / 8, none⟩ (byteV y)) N0 (.slice (some ⟨g, 0, none⟩) (roomed L).length cap) (pack (L ++ [b])) := by rw [hpk]; exact ho
    exact this.keep (S := fun b _ => b = W) (((Frm.refl _ _).setCell (.inl rfl) _).drew) (fun g' o hg' e => by
      obtain rfl := Option.some.inj hg'
      exact hgW e)
  · rw [List.length_append]
    exact set_get (k hat)
  · show World.frozen? (World.setCell _ _ _) _ = false
    rw [World.frozen?_setCell, World.frozen?_setCell]; exact hfr o
  · have hf1 : Frm (SWr wc N0 W) wc (wc.setCell ⟨g, L.length / 8, none⟩ (byteV y)) := hfo.mono fun b' o e => .inr ⟨by omega, fun o' u hu => by rw [e.1] at hu; exact hown.kind g rfl o' u hu⟩
    exact ((frm_SWr_trans hf hf1).setCell (p := ⟨W, 1, none⟩) (.inl (.inl rfl)) _).drew

theorem bit_any (w : World) (N0 W : Nat) (L : List Bool) (h : Wt w N0 W L) (hW : W < N0) (hN : N0 ≤ w.heap.size) (hL : L.length ≤ 35184372088832) (n : Nat) (hn : n ≤ 1099511627776) :
    Calls Tryd.prog 40 #[.pointer (some ⟨W, 0, none⟩), .int .i64 (n : Int)] w fun e w' => e = .returned (.tuple #[]) ∧ Wt w' N0 W (L ++ [n % 2 == 1]) ∧ Frm (SWr w N0 W) w w' := by
  have HH := Lib.hid h
  obtain ⟨⟨v, hv, hown⟩, hat, hfr⟩ := h
  have f0 := hfr 0
  have f1 := hfr 1
  obtain ⟨a, ha⟩ : ∃ a, a = L.length := ⟨_, rfl⟩
  rw [← ha] at hat hL
  obtain ⟨q, hq⟩ : ∃ q, q = a / 8 := ⟨_, rfl⟩
  obtain ⟨r, hr⟩ : ∃ r, r = a % 8 := ⟨_, rfl⟩
  have c1 : (a : Int) ≤ 35184372088832 := by omega
  have e1 : (a : Int) / 8 = (q : Int) := by omega
  have e2 : (a : Int) % 8 = (r : Int) := by omega
  have c2 : (r : Int) ≤ 7 := by omega
  have c5 : (q : Int) ≤ 35184372088832 := by omega
  have HR := Lib.hid (And.intro ha (And.intro hq hr))
  have HO := Lib.hid hown
  have HA := Lib.hid (And.intro hW (And.intro hN (And.intro hL hn)))
  have HF := Lib.hid hfr
  clear ha hq hr hown hW hN hL hfr
  go_enter Tryd.func40, Tryd.ntmps40
  go_upto_if 9 with (fail)
  go_cut [9] (fun _ wq => Roomed w N0 W L wq)
  case first =>
    by_cases h0 : r = 0
    · have t1 : ((r : Int) == 0) = true := by simp; omega
      have hf1 : Frm (fun _ _ => False) w (w.alloc (.cells #[.int .u8 0] 5)) := (Frm.refl _ _).alloc _
      have hown1 := HO.out.keep hf1 (fun _ _ _ e => e)
      obtain ⟨v', w2, hrun, hown2, hfr2, _⟩ := append_bytes (w.alloc (.cells #[.int .u8 0] 5)) N0 v (pack L) hown1 ⟨w.heap.size, 0, none⟩ rfl 1 [0] (fun j hj => by
        have : j = 0 := by simp at hj; omega
        subst this
        exact (cells_at (heap_alloc_new w _)).trans rfl) (by rw [pack_len]; have := HA.out.2.2.1; have := HR.out.1; simp only [List.length_cons, List.length_nil]; omega) (Nat.le_trans HA.out.2.1 hf1.size)
      obtain ⟨b', cap', rfl, _⟩ := hown2.bytes
      obtain ⟨m2, hm2⟩ : ∃ m2, m2 = (pack L ++ [0]).length := ⟨_, rfl⟩
      rw [← hm2] at hrun hown2
      have hk : ∀ o u, w.cell? ⟨W, o, none⟩ = some u → w2.cell? ⟨W, o, none⟩ = some u := fun o u hc => hfr2.keep (hf1.keep hc (fun e => e)) (fun q => by have := (hown1.lt W q).1; have := HA.out.1; omega)
      have hlt : W < w.heap.size := cell_lt hv
      have hz : ∀ o, w2.frozen? ⟨W, o, none⟩ = false := fun o => (hfr2.froz W o (Nat.lt_of_lt_of_le hlt hf1.size)).trans ((hf1.froz W o hlt).trans (HF.out o))
      have hv2 := hk 0 v hv
      have hat2 := hk 1 _ hat
      have fz := hz 0
      have hr : ∀ ty, (Builtin.append_ #[22, 22] ty #[v, .slice (some ⟨w.heap.size, 0, none⟩) 1 1]).run Tryd.prog (w.alloc (.cells #[.int .u8 0] 5)) = .ok (.slice b' m2 cap') w2 := hrun
      have hroom : roomed L = pack L ++ [0] := by unfold roomed; rw [if_pos (by have := HR.out; omega)]
      have hall : Frm (SWr w N0 W) w (w2.setCell ⟨W, 0, none⟩ (.slice b' m2 cap')) := ((frm_SWr_none hf1).trans' hfr2 (fun x o hx q => .inr ⟨(hown1.lt x q).1, fun o' u hu => HO.out.kind x q o' u hu⟩)).setCell (p := ⟨W, 0, none⟩) (.inl (.inl rfl)) _
      have hrel : Roomed w N0 W L (w2.setCell ⟨W, 0, none⟩ (.slice b' m2 cap')) := by
        refine ⟨_, set_get hv2, ?_, ?_, fun o => by rw [World.frozen?_setCell]; exact hz o, hall⟩
        · rw [hroom]
          exact hown2.keep (S := fun b _ => b = W) ((Frm.refl _ _).setCell (.inl rfl) _) (fun g o hg e => by have := (hown2.lt g hg).1; have := HA.out.1; omega)
        · rw [← HR.out.1]
          exact (cell_set_off (by decide)).trans hat2
      have HX := Lib.hid hrel
      clear hf1 hown1 hrun hown2 hfr2 hk hlt hz hroom hall hrel hat2 h0 hm2
      go_wp2_with (at_builtin; refine wpList_append_by (by rfl) (.tmp 14) (.tmp 15) 22 (by rfl) _ _ (by rfl) (by rfl) (hr _) ?_)
      go_meet
      case rel => exact HX.out
    · have t1 : ((r : Int) == 0) = false := by simp; omega
      have hrel : Roomed w N0 W L w := by
        refine ⟨v, hv, ?_, by rw [← HR.out.1]; exact hat, HF.out, Frm.refl _ _⟩
        have : roomed L = pack L := by unfold roomed; rw [if_neg (by have := HR.out; omega)]
        rw [this]; exact HO.out
      have HX := Lib.hid hrel
      clear hrel h0
      go_wp2_with fail
      go_meet
      case rel => exact HX.out
  case rest =>
    clear hv hat f0 f1
    obtain ⟨v2, hv2, hown2, hat2, hfr2, hfrm⟩ := hcut
    rw [← HR.out.1] at hat2
    have f0 := hfr2 0
    have f1 := hfr2 1
    have hq1 : q < (roomed L).length := by rw [roomed_len]; have := HR.out; omega
    obtain ⟨g, cap, rfl, hg1, hg2, hg3, hcell, hfz⟩ := Row.at hown2 hq1
    simp only [List.getElem_map] at hcell
    obtain ⟨c, hc⟩ : ∃ c, c = ((roomed L)[q]'hq1).toNat := ⟨_, rfl⟩
    obtain ⟨m, hm⟩ : ∃ m, m = (roomed L).length := ⟨_, rfl⟩
    replace hcell : wc.cell? ⟨g, q, none⟩ = some (.int .u8 (c : Int)) := by rw [hc]; exact hcell
    have hgW : g ≠ W := by have := HA.out.1; omega
    obtain ⟨P, hP⟩ : ∃ P : Nat, P = 2 ^ r := ⟨_, rfl⟩
    have e3 : (2 : Int) ^ r = (P : Int) := by rw [hP]; simp
    have hPle : (P : Int) ≤ 128 := by
      have : (2 : Nat) ^ r ≤ 2 ^ 7 := Nat.pow_le_pow_right (by omega) (by omega)
      omega
    have hclt : c < P := by
      rw [hc, hP]
      obtain ⟨ha, hq, hr⟩ := HR.out
      have := roomed_byte L
      simp only [← ha, ← hq, ← hr] at this
      exact this
    have c3 : (c : Int) < (P : Int) := by omega
    rw [← hm] at hv2 hg3 hq1
    have c4 : (q : Int) < (m : Int) := by omega
    have e6 : IntKind.i64.wrap (q : Int) = (q : Int) := i64_in _ (by omega)
    have e7 : (a : Int).tmod 8 = (r : Int) := by rw [Int.tmod_eq_emod_of_nonneg (by omega)]; exact e2
    have e10 : IntKind.u8.wrap (P : Int) = (P : Int) := by simp only [IntKind.wrap, IntKind.bits, IntKind.signed]; simp; omega
    have e8 : IntKind.u8.wrap 1 = 1 := by decide
    have e9 : IntKind.u8.wrap 0 = 0 := by decide
    have HY := Lib.hid (And.intro hown2 (And.intro hfr2 (And.intro hfrm (And.intro hg1 (And.intro hg2 (And.intro hg3 (And.intro hc (And.intro hm (And.intro hP hclt)))))))))
    clear hown2 hfr2 hfrm hg1 hg2 hg3 hc hm hP hclt
    rcases Nat.mod_two_eq_zero_or_one n with hb | hb
    · have e4 : bits .and .i64 (n : Int) 1 = 0 := by rw [i64_and_one n (by have := HA.out.2.2.2; omega), hb]; rfl
      have e5 : bits .or .u8 (c : Int) 0 = (c : Int) := by
        have := u8_or_add c r (by have := HY.out.2.2.2.2.2.2.2.2.2; rw [← HY.out.2.2.2.2.2.2.2.2.1]; exact this) (by omega) 0 (by omega)
        rw [Nat.zero_mul] at this
        exact this
      have HB := Lib.hid hb
      clear hb
      apply_assumption
      go_upto_region 2 with (fail)
      (refine region_tail 22 (by kernel_rfl) (by kernel_rfl) ?_; simp only [List.take_succ_cons, List.take_zero, List.drop_succ_cons, List.drop_zero]; (repeat still_step); refine wpStill_nil ?_)
      go_wp2_with fail
      obtain ⟨hown2, hfr2, hfrm, hg1, hg2, hg3, hc, hm, hP, hclt⟩ := HY.out
      obtain ⟨ha, hq, hr⟩ := HR.out
      subst hm
      obtain ⟨d1, d2⟩ := bit_done ha hq hr (by have := c4; omega) hc HA.out.1 hg1 hv2 hat2 hown2 hfr2 hfrm (n % 2 == 1) (c : Int) (by rw [HB.out]; simp)
      exact bodyPost_end (results_none rfl _ _ _) rfl ⟨rfl, d1, d2⟩
    · have e4 : bits .and .i64 (n : Int) 1 = 1 := by rw [i64_and_one n (by have := HA.out.2.2.2; omega), hb]; rfl
      have e5 : bits .or .u8 (c : Int) (P : Int) = ((c + P : Nat) : Int) := by
        have := u8_or_add c r (by have := HY.out.2.2.2.2.2.2.2.2.2; rw [← HY.out.2.2.2.2.2.2.2.2.1]; exact this) (by omega) 1 (by omega)
        rw [Nat.one_mul, ← HY.out.2.2.2.2.2.2.2.2.1] at this
        exact this
      have HB := Lib.hid hb
      clear hb
      apply_assumption
      go_upto_region 2 with (fail)
      (refine region_tail 22 (by kernel_rfl) (by kernel_rfl) ?_; simp only [List.take_succ_cons, List.take_zero, List.drop_succ_cons, List.drop_zero]; (repeat still_step); refine wpStill_nil ?_)
      go_wp2_with fail
      obtain ⟨hown2, hfr2, hfrm, hg1, hg2, hg3, hc, hm, hP, hclt⟩ := HY.out
      obtain ⟨ha, hq, hr⟩ := HR.out
      subst hm
      obtain ⟨d1, d2⟩ := bit_done ha hq hr (by have := c4; omega) hc HA.out.1 hg1 hv2 hat2 hown2 hfr2 hfrm (n % 2 == 1) ((c : Int) + (P : Int)) (by rw [HB.out, ← hP]; simp)
      exact bodyPost_end (results_none rfl _ _ _) rfl ⟨rfl, d1, d2⟩

theorem Wt.lt {w : World} {N0 W : Nat} {L : List Bool} (h : Wt w N0 W L) : W < w.heap.size := cell_lt h.at_

/-- So many bits have been written. -/
def BtInv (w : World) (N0 W : Nat) (L : List Bool) (f : Nat → List Bool) (many g : Nat) (i : Value) (wr : World) : Prop :=
  ∃ k : Nat, k ≤ many ∧ g = many - k ∧ i = .int .i64 (k : Int) ∧ Wt wr N0 W (L ++ f k) ∧ Frm (SWr w N0 W) w wr

theorem bits_any (w : World) (N0 W : Nat) (L : List Bool) (h : Wt w N0 W L) (hW : W < N0) (hN : N0 ≤ w.heap.size) (n many : Nat) (hm : many ≤ 64) (hL : L.length ≤ 17592186044416) (hn : n ≤ 1099511627776) :
    Calls Tryd.prog 41 #[.pointer (some ⟨W, 0, none⟩), .int .i64 (n : Int), .int .i64 (many : Int)] w fun e w' => e = .returned (.tuple #[]) ∧ Wt w' N0 W (L ++ enc n many) ∧ Frm (SWr w N0 W) w w' := by
  have HH := Lib.hid h
  have HA := Lib.hid (And.intro hW (And.intro hN (And.intro hm (And.intro hL hn))))
  have c1 : (many : Int) ≤ 64 := by omega
  clear h hW hN hm hL hn
  go_enter Tryd.func41, Tryd.ntmps41
  go_wp2_with fail
  go_loopg [8] (many - 0) (fun g i wr => BtInv w N0 W L (enc n) many g i wr)
  case atStart => exact ⟨0, Nat.zero_le _, rfl, rfl, by simp only [enc, List.append_nil]; exact HH.out, Frm.refl _ _⟩
  case round =>
    obtain ⟨k, hk, hg, rfl, hw, hf⟩ := hrel
    by_cases hlt : k < many
    · obtain ⟨hW, hN, hm, hL, hn⟩ := HA.out
      obtain ⟨y, hy⟩ : ∃ y, y = n / 2 ^ k := ⟨_, rfl⟩
      have hb := bit_any wr N0 W (L ++ enc n k) hw hW (Nat.le_trans hN hf.size) (by rw [List.length_append, enc_len]; omega) y (by rw [hy]; exact Nat.le_trans (Nat.div_le_self _ _) hn)
      have e1 : (n : Int) / 2 ^ k = (y : Int) := by rw [hy]; simp
      have HB := Lib.hid hb
      have HR := Lib.hid (And.intro hk (And.intro hg (And.intro hf hy)))
      clear hb hW hN hm hL hn hk hg hw hf hy
      go_wp2_with fail
      refine HB.out.mono ?_
      rintro e w2 ⟨rfl, hw2, hf2⟩
      have HW := Lib.hid (And.intro hw2 hf2)
      clear hw2 hf2
      go_wp2_with fail
      go_roundg (many - (k + 1))
      case measure => have := HR.out.2.1; omega
      case rel =>
        obtain ⟨hk, hg, hf, hy⟩ := HR.out
        refine ⟨k + 1, by omega, rfl, by go_num, ?_, frm_SWr_trans hf HW.out.2⟩
        have := HW.out.1
        rw [enc_succ, ← List.append_assoc, ← hy]; exact this
    · obtain rfl : k = many := by omega
      have hd : decide (k < k) = false := by simp
      have HR := Lib.hid (And.intro hw hf)
      clear hlt hw hf hg
      go_wp2_with fail
      exact bodyPost_end (results_none rfl _ _ _) rfl ⟨rfl, HR.out.1, HR.out.2⟩

def CdInv (w : World) (N0 W : Nat) (L : List Bool) (n long g : Nat) (i : Value) (wr : World) : Prop :=
  ∃ (j : Nat) (M : List Bool), j ≤ long ∧ g = j ∧ i = .int .i64 ((j : Int) - 1) ∧ M ++ encC n j = encC n long ∧ Wt wr N0 W (L ++ M) ∧ Frm (SWr w N0 W) w wr

theorem code_any (w : World) (N0 W : Nat) (L : List Bool) (h : Wt w N0 W L) (hW : W < N0) (hN : N0 ≤ w.heap.size) (n long : Nat) (hm : long ≤ 64) (hL : L.length ≤ 17592186044416) (hn : n ≤ 1099511627776) :
    Calls Tryd.prog 60 #[.pointer (some ⟨W, 0, none⟩), .int .i64 (n : Int), .int .i64 (long : Int)] w fun e w' => e = .returned (.tuple #[]) ∧ Wt w' N0 W (L ++ encC n long) ∧ Frm (SWr w N0 W) w w' := by
  have HH := Lib.hid h
  have HA := Lib.hid (And.intro hW (And.intro hN (And.intro hm (And.intro hL hn))))
  have c1 : (long : Int) ≤ 64 := by omega
  clear h hW hN hm hL hn
  go_enter Tryd.func60, Tryd.ntmps60
  go_wp2_with fail
  go_loopg [6] long (fun g i wr => CdInv w N0 W L n long g i wr)
  case atStart => exact ⟨long, [], Nat.le_refl _, rfl, rfl, rfl, by rw [List.append_nil]; exact HH.out, Frm.refl _ _⟩
  case round =>
    obtain ⟨j, M, hj, hg, rfl, hM, hw, hf⟩ := hrel
    cases j with
    | zero =>
      have e0 : ((0 : Nat) : Int) - 1 = -1 := rfl
      rw [e0]
      have HR := Lib.hid (And.intro hw (And.intro hf hM))
      clear hw hf hg hM hj e0
      go_wp2_with fail
      refine bodyPost_end (results_none rfl _ _ _) rfl ⟨rfl, ?_, HR.out.2.1⟩
      have h1 := HR.out.1
      have h2 := HR.out.2.2
      rw [show encC n 0 = [] from rfl, List.append_nil] at h2
      rw [h2] at h1; exact h1
    | succ k =>
      have e0 : ((k + 1 : Nat) : Int) - 1 = (k : Int) := by omega
      rw [e0]
      obtain ⟨hW, hN, hm, hL, hn⟩ := HA.out
      obtain ⟨y, hy⟩ : ∃ y, y = n / 2 ^ k := ⟨_, rfl⟩
      have hMl : M.length ≤ 64 := by have := congrArg List.length hM; rw [List.length_append, encC_len, encC_len] at this; omega
      have hb := bit_any wr N0 W (L ++ M) hw hW (Nat.le_trans hN hf.size) (by rw [List.length_append]; omega) y (by rw [hy]; exact Nat.le_trans (Nat.div_le_self _ _) hn)
      have e1 : (n : Int) / 2 ^ k = (y : Int) := by rw [hy]; simp
      have c2 : (k : Int) ≤ 64 := by omega
      have HB := Lib.hid hb
      have HR := Lib.hid (And.intro hj (And.intro hg (And.intro hf (And.intro hy hM))))
      clear hb hW hN hm hL hn hj hg hw hf hy hM hMl e0
      go_wp2_with fail
      refine HB.out.mono ?_
      rintro e w2 ⟨rfl, hw2, hf2⟩
      have HW := Lib.hid (And.intro hw2 hf2)
      clear hw2 hf2
      go_wp2_with fail
      go_roundg k
      case measure => have := HR.out.2.1; omega
      case rel =>
        obtain ⟨hj, hg, hf, hy, hM⟩ := HR.out
        refine ⟨k, M ++ [y % 2 == 1], by omega, rfl, rfl, ?_, ?_, frm_SWr_trans hf HW.out.2⟩
        · rw [← hM, encC_succ, ← hy, List.append_assoc]; rfl
        · have := HW.out.1
          rw [← List.append_assoc]; exact this

theorem align_any (w : World) (N0 W : Nat) (L : List Bool) (h : Wt w N0 W L) (hW : W < N0) (hL : L.length ≤ 35184372088832) :
    Calls Tryd.prog 43 #[.pointer (some ⟨W, 0, none⟩)] w fun e w' => e = .returned (.tuple #[]) ∧ Wt w' N0 W (padTo L) ∧ Frm (SWr w N0 W) w w' := by
  have HH := Lib.hid h
  obtain ⟨⟨v, hv, hown⟩, hat, hfr⟩ := h
  have f1 := hfr 1
  obtain ⟨b, cap, rfl, _⟩ := hown.bytes
  obtain ⟨m, hm⟩ : ∃ m, m = (pack L).length := ⟨_, rfl⟩
  have hm2 : m = (L.length + 7) / 8 := by rw [hm, pack_len]
  have c1 : (m : Int) ≤ 4398046511104 := by omega
  rw [← hm] at hv
  have HM := Lib.hid (And.intro hm (And.intro hm2 (And.intro hown (And.intro hfr hW))))
  clear hm hm2 hown hfr hL hW
  go_enter Tryd.func43, Tryd.ntmps43
  go_wp2_with fail
  obtain ⟨hm, hm2, hown, hfr, hW⟩ := HM.out
  refine bodyPost_end (results_none rfl _ _ _) rfl ⟨rfl, ⟨⟨_, (cell_set_off (by decide)).trans hv, ?_⟩, ?_, fun o => by rw [World.frozen?_setCell]; exact hfr o⟩, ?_⟩
  · rw [pack_pad, hm]
    exact hown.keep (S := fun b _ => b = W) ((Frm.refl _ _).setCell (.inl rfl) _) (fun g o hg e => by have := (hown.lt g hg).1; omega)
  · rw [padTo_len, ← hm2]
    have := set_get (v := .int .i64 (8 * (m : Int))) hat
    rw [this]; simp
  · exact (Frm.refl _ _).setCell (.inl (.inl rfl)) _

end Go.Proofs.YthfncdfcklbigaaDoor

/-
  PLAIN LEAN: the tokens of a block with codes, written as bits, are read as what they stand for.
-/
namespace Flate
set_option maxRecDepth 100000

/-- The least length of a symbol from 257 on, and how many bits more it has. -/
def goLen (s : Nat) : Nat × Nat :=
  if s - 257 < 8 then (3 + (s - 257), 0) else if s - 257 = 28 then (258, 0) else (3 + (4 + (s - 257) % 4) * 2 ^ ((s - 257) / 4 - 1), (s - 257) / 4 - 1)

/-- That of a distance. -/
def goDist (d : Nat) : Nat × Nat := if d < 4 then (1 + d, 0) else (1 + (2 + d % 2) * 2 ^ (d / 2 - 1), d / 2 - 1)

/-- From n down to what is no more than v. -/
def down (f : Nat → Nat) (v : Nat) : Nat → Nat
  | 0 => 0
  | s + 1 => if f (s + 1) ≤ v then s + 1 else down f v s

theorem down_spec {f : Nat → Nat} {v : Nat} (h0 : f 0 ≤ v) (n : Nat) : down f v n ≤ n ∧ f (down f v n) ≤ v ∧ (down f v n = n ∨ v < f (down f v n + 1)) := by
  induction n with
  | zero => exact ⟨Nat.le_refl _, h0, .inl rfl⟩
  | succ n ih =>
    rw [down]
    split
    · exact ⟨Nat.le_refl _, by assumption, .inl rfl⟩
    · obtain ⟨h1, h2, h3⟩ := ih
      refine ⟨by omega, h2, .inr ?_⟩
      rcases h3 with h3 | h3
      · rw [h3]; omega
      · exact h3

def lenSymbol (long : Nat) : Nat × Nat × Nat :=
  if long = 258 then (285, 0, 0) else (down (fun s => (goLen s).1) long 284, long - (goLen (down (fun s => (goLen s).1) long 284)).1, (goLen (down (fun s => (goLen s).1) long 284)).2)

def distSymbol (far : Nat) : Nat × Nat × Nat := (down (fun s => (goDist s).1) far 29, far - (goDist (down (fun s => (goDist s).1) far 29)).1, (goDist (down (fun s => (goDist s).1) far 29)).2)

theorem lenSymbol_ok {n : Nat} (h1 : 3 ≤ n) (h2 : n ≤ 258) : 257 ≤ (lenSymbol n).1 ∧ (lenSymbol n).1 ≤ 285 ∧ (lenSymbol n).2.1 < 2 ^ (lenSymbol n).2.2 ∧ (lenSymbol n).2.2 ≤ 5 ∧
    ∃ b, lenOf (lenSymbol n).1 = some (b, (lenSymbol n).2.2) ∧ b + (lenSymbol n).2.1 = n := by
  have : ∀ k : Fin 256, 257 ≤ (lenSymbol (k.1 + 3)).1 ∧ (lenSymbol (k.1 + 3)).1 ≤ 285 ∧ (lenSymbol (k.1 + 3)).2.1 < 2 ^ (lenSymbol (k.1 + 3)).2.2 ∧ (lenSymbol (k.1 + 3)).2.2 ≤ 5 ∧
      lenOf (lenSymbol (k.1 + 3)).1 = some ((goLen (lenSymbol (k.1 + 3)).1).1, (lenSymbol (k.1 + 3)).2.2) ∧ (goLen (lenSymbol (k.1 + 3)).1).1 + (lenSymbol (k.1 + 3)).2.1 = k.1 + 3 := by decide +kernel
  have h := this ⟨n - 3, by omega⟩
  simp only [show n - 3 + 3 = n by omega] at h
  obtain ⟨a, b, c, d, e, f⟩ := h
  exact ⟨a, b, c, d, _, e, f⟩

theorem goDist_next (d : Nat) (h : d < 30) : (goDist (d + 1)).1 = (goDist d).1 + 2 ^ (goDist d).2 ∧ distOf d = some (goDist d) ∧ (goDist d).2 ≤ 13 := by
  have : ∀ k : Fin 30, (goDist (k.1 + 1)).1 = (goDist k.1).1 + 2 ^ (goDist k.1).2 ∧ distOf k.1 = some (goDist k.1) ∧ (goDist k.1).2 ≤ 13 := by decide +kernel
  exact this ⟨d, h⟩

theorem distSymbol_ok {n : Nat} (h1 : 1 ≤ n) (h2 : n ≤ 32768) : (distSymbol n).1 < 30 ∧ (distSymbol n).2.1 < 2 ^ (distSymbol n).2.2 ∧ (distSymbol n).2.2 ≤ 13 ∧
    ∃ b, distOf (distSymbol n).1 = some (b, (distSymbol n).2.2) ∧ b + (distSymbol n).2.1 = n := by
  obtain ⟨a1, a2, a3⟩ := down_spec (f := fun s => (goDist s).1) (v := n) (by simpa [goDist] using h1) 29
  obtain ⟨s, hs⟩ : ∃ s, s = down (fun s => (goDist s).1) n 29 := ⟨_, rfl⟩
  rw [← hs] at a1 a2 a3
  have hd : distSymbol n = (s, n - (goDist s).1, (goDist s).2) := by unfold distSymbol; rw [← hs]
  obtain ⟨b1, b2, b3⟩ := goDist_next s (by omega)
  have hlt : n < (goDist (s + 1)).1 := by
    rcases a3 with q | q
    · rw [q]
      have : (goDist (29 + 1)).1 = 32769 := by decide
      omega
    · exact q
  rw [hd]
  simp only at a2 ⊢
  exact ⟨by omega, by omega, b3, (goDist s).1, b2, by omega⟩

/-- A step of a block: a byte, or what stood so far ahead, so long. -/
inductive Tk where
  | lit (c : UInt8)
  | cpy (far long : Nat)

def Tk.run (H : List UInt8) : Tk → List UInt8
  | .lit c => H ++ [c]
  | .cpy f n => lz H f n

/-- Is there something that stood so far ahead? -/
def Tk.ok (n : Nat) : Tk → Prop
  | .lit _ => True
  | .cpy f m => 1 ≤ f ∧ f ≤ n ∧ f ≤ 32768 ∧ 3 ≤ m ∧ m ≤ 258

def Tk.size : Tk → Nat
  | .lit _ => 1
  | .cpy _ m => m

theorem Tk.run_len (H : List UInt8) (t : Tk) : (t.run H).length = H.length + t.size := by
  cases t with
  | lit c => simp [Tk.run, Tk.size]
  | cpy f m => simp [Tk.run, Tk.size, lz_length]

/-- The codes have what a token needs. -/
def Tk.has (ll dl : List Nat) : Tk → Prop
  | .lit c => ll.getD c.toNat 0 ≠ 0
  | .cpy f m => ll.getD (lenSymbol m).1 0 ≠ 0 ∧ dl.getD (distSymbol f).1 0 ≠ 0

def code (lens : List Nat) (s : Nat) : List Bool := encC (codeOf lens s) (lens.getD s 0)

def Tk.bits (ll dl : List Nat) : Tk → List Bool
  | .lit c => code ll c.toNat
  | .cpy f m => code ll (lenSymbol m).1 ++ enc (lenSymbol m).2.1 (lenSymbol m).2.2 ++ code dl (distSymbol f).1 ++ enc (distSymbol f).2.1 (distSymbol f).2.2

/-- Tokens behind n bytes. -/
def toksOk (n : Nat) : List Tk → Prop
  | [] => True
  | t :: l => t.ok n ∧ toksOk (n + t.size) l

def toksRun (H : List UInt8) (l : List Tk) : List UInt8 := l.foldl Tk.run H
def toksSize (l : List Tk) : Nat := (l.map Tk.size).sum

def bodyBits (ll dl : List Nat) (l : List Tk) : List Bool := l.flatMap (Tk.bits ll dl) ++ code ll 256

theorem lt_of_getD {l : List Nat} {s : Nat} (h : l.getD s 0 ≠ 0) : s < l.length := by
  rcases Nat.lt_or_ge s l.length with q | q
  · exact q
  · rw [List.getD_eq_getElem?_getD, List.getElem?_eq_none q] at h
    exact absurd rfl h

theorem code_len (lens : List Nat) (s : Nat) : (code lens s).length = lens.getD s 0 := encC_len _ _

theorem symS_code {lens : List Nat} (hk : Kraft lens) {src : List UInt8} {a s : Nat} (h : BitsAt src a (code lens s)) (h0 : lens.getD s 0 ≠ 0) : symS lens src a = some s :=
  (symS_iff hk).2 (bitsAt_code h (lt_of_getD h0) h0 (hk.getD (lt_of_getD h0)).2)

theorem tok_step {ll dl : List Nat} (hk : Kraft ll) (hd : Kraft dl) {src : List UInt8} {a : Nat} {H : List UInt8} {t : Tk} (h : BitsAt src a (t.bits ll dl)) (ho : t.ok H.length) (hh : t.has ll dl) :
    spStep src ll dl a H = .go (a + (t.bits ll dl).length) (t.run H) := by
  unfold spStep
  cases t with
  | lit c =>
    rw [symS_code hk h hh]
    have hc := c.toNat_lt
    simp only
    rw [if_pos (by omega)]
    simp only [Tk.bits, code_len, Tk.run]
    congr 3
    exact UInt8.ofNat_toNat
  | cpy f m =>
    obtain ⟨f1, f2, f3, f4, f5⟩ := ho
    obtain ⟨l1, l2, l3, l4, lb, l5, l6⟩ := lenSymbol_ok f4 f5
    obtain ⟨d1, d2, d3, db, d4, d5⟩ := distSymbol_ok f1 f3
    have hl : (Tk.bits ll dl (.cpy f m)).length = ll.getD (lenSymbol m).1 0 + (lenSymbol m).2.2 + dl.getD (distSymbol f).1 0 + (distSymbol f).2.2 := by
      simp only [Tk.bits, List.length_append, code_len, enc_len]
    rw [hl]
    simp only [Tk.bits] at h
    obtain ⟨h, h4⟩ := bitsAt_append.1 h
    obtain ⟨h, h3⟩ := bitsAt_append.1 h
    obtain ⟨h1, h2⟩ := bitsAt_append.1 h
    simp only [List.length_append, code_len, enc_len] at h2 h3 h4
    obtain ⟨g2, g2'⟩ := bitsAt_enc h2 l3
    obtain ⟨g4, g4'⟩ := bitsAt_enc h4 d2
    rw [← Nat.add_assoc] at h3
    have e4 : a + (ll.getD (lenSymbol m).1 0 + (lenSymbol m).2.2 + dl.getD (distSymbol f).1 0) = a + ll.getD (lenSymbol m).1 0 + (lenSymbol m).2.2 + dl.getD (distSymbol f).1 0 := by omega
    rw [e4] at g4 g4'
    rw [symS_code hk h1 hh.1]
    simp only
    rw [if_neg (by omega), if_neg (by omega)]
    have hp : spPair src dl (lenSymbol m).1 (a + ll.getD (lenSymbol m).1 0) = some (m, f, a + ll.getD (lenSymbol m).1 0 + (lenSymbol m).2.2 + dl.getD (distSymbol f).1 0 + (distSymbol f).2.2) := by
      unfold spPair
      rw [l5]
      simp only
      rw [if_neg (by omega), symS_code hd h3 hh.2]
      simp only
      rw [d4]
      simp only
      rw [if_neg (by omega), g2, g4, l6, d5]
    rw [hp]
    simp only
    rw [if_neg (by omega)]
    simp only [Tk.run, SpR.go.injEq, and_true]
    omega

/-- The tokens of a block, and its end. -/
theorem toks_run {ll dl : List Nat} (hk : Kraft ll) (hd : Kraft dl) {src : List UInt8} (h256 : ll.getD 256 0 ≠ 0) : ∀ {l : List Tk} {a : Nat} {H : List UInt8}, BitsAt src a (bodyBits ll dl l) → toksOk H.length l → (∀ t ∈ l, t.has ll dl) →
    SpRun src ll dl a H (some (a + (bodyBits ll dl l).length, toksRun H l))
  | [], a, H, h, _, _ => by
    have e : bodyBits ll dl [] = code ll 256 := by simp [bodyBits]
    rw [e] at h ⊢
    refine .fin ?_
    unfold spStep
    rw [symS_code hk h h256]
    simp [code_len]
  | t :: l, a, H, h, ho, hh => by
    have e : bodyBits ll dl (t :: l) = t.bits ll dl ++ bodyBits ll dl l := by simp [bodyBits]
    rw [e] at h ⊢
    obtain ⟨h1, h2⟩ := bitsAt_append.1 h
    have hs := tok_step hk hd h1 ho.1 (hh t (by simp))
    have ih := toks_run hk hd h256 h2 (H := t.run H) (by rw [Tk.run_len]; exact ho.2) (fun t' ht' => hh t' (by simp [ht']))
    rw [List.length_append, ← Nat.add_assoc]
    exact .go hs ih

theorem toksRun_len (H : List UInt8) (l : List Tk) : (toksRun H l).length = H.length + toksSize l := by
  induction l generalizing H with
  | nil => simp [toksRun, toksSize]
  | cons t l ih =>
    have := ih (t.run H)
    unfold toksRun at this ⊢
    rw [List.foldl_cons, this, Tk.run_len]
    simp [toksSize]; omega

/-- Tokens that stand for data behind what there is. -/
theorem toksRun_pre (H : List UInt8) (l : List Tk) : ∃ X, toksRun H l = H ++ X := by
  induction l generalizing H with
  | nil => exact ⟨[], by simp [toksRun]⟩
  | cons t l ih =>
    obtain ⟨X, hX⟩ := ih (t.run H)
    have : ∃ Y, t.run H = H ++ Y := by
      cases t with
      | lit c => exact ⟨_, rfl⟩
      | cpy f n => exact ⟨_, rfl⟩
    obtain ⟨Y, hY⟩ := this
    refine ⟨Y ++ X, ?_⟩
    show toksRun (t.run H) l = _
    rw [hX, hY, List.append_assoc]

end Flate

/-
  THE WALKS OF 'lengthOf', 'distanceOf', 'lengthSymbol', 'distanceSymbol', 'order', 'fixed', 'codes', and of the choices' 'next'.
-/
namespace Go.Proofs.YthfncdfcklbigaaDoor
open Go.RowKit Go.IntWalk Flate
set_option maxRecDepth 100000

theorem pow_le_Int {x P m : Nat} (hP : P = 2 ^ x) (hx : x ≤ m) : P ≤ 2 ^ m := by rw [hP]; exact Nat.pow_le_pow_right (by omega) hx

theorem lengthOf_any (w : World) (s : Nat) (h1 : 257 ≤ s) (h2 : s ≤ 285) :
    Calls Tryd.prog 69 #[.int .i64 (s : Int)] w fun e w' => e = .returned (.tuple #[natV (goLen s).1, natV (goLen s).2]) ∧ w = w' := by
  obtain ⟨k, hk⟩ : ∃ k, k = s - 257 := ⟨_, rfl⟩
  have e1 : (s : Int) - 257 = (k : Int) := by omega
  have c1 : (k : Int) ≤ 28 := by omega
  have HK := Lib.hid hk
  have c0 : (s : Int) ≤ 285 := by omega
  clear h1 h2 hk
  by_cases h8 : k < 8
  · have t1 : decide ((k : Int) < 8) = true := by simp; omega
    have H8 := Lib.hid h8
    clear h8
    go_enter Tryd.func69, Tryd.ntmps69
    go_wp2_with fail
    go_ret2
    refine ⟨?_, rfl⟩
    unfold goLen
    rw [← HK.out, if_pos H8.out]
    go_num
  · have t1 : decide ((k : Int) < 8) = false := by simp; omega
    by_cases h28 : k = 28
    · have t2 : ((k : Int) == 28) = true := by simp; omega
      have H8 := Lib.hid (And.intro h8 h28)
      clear h8 h28
      go_enter Tryd.func69, Tryd.ntmps69
      go_wp2_with fail
      go_ret2
      refine ⟨?_, rfl⟩
      unfold goLen
      rw [← HK.out, if_neg H8.out.1, if_pos H8.out.2]
      rfl
    · have t2 : ((k : Int) == 28) = false := by simp; omega
      obtain ⟨x, hx⟩ : ∃ x, x = k / 4 - 1 := ⟨_, rfl⟩
      obtain ⟨u, hu⟩ : ∃ u, u = 4 + k % 4 := ⟨_, rfl⟩
      obtain ⟨P, hP⟩ : ∃ P : Nat, P = 2 ^ x := ⟨_, rfl⟩
      obtain ⟨v, hv⟩ : ∃ v : Nat, v = u * P := ⟨_, rfl⟩
      have hPle := pow_le_Int hP (show x ≤ 6 by omega)
      have hvle : v ≤ 7 * 64 := by rw [hv]; exact Nat.mul_le_mul (by omega) hPle
      have e2 : (k : Int) / 4 - 1 = (x : Int) := by omega
      have e3 : 4 + (k : Int) % 4 = (u : Int) := by omega
      have e4 : (2 : Int) ^ x = (P : Int) := by rw [hP]; simp
      have e5 : (u : Int) * (P : Int) = (v : Int) := by rw [hv]; simp
      have c2 : (v : Int) ≤ 448 := by omega
      have c3 : (x : Int) ≤ 6 := by omega
      have H8 := Lib.hid (And.intro h8 (And.intro h28 (And.intro hx (And.intro hu (And.intro hP hv)))))
      clear h8 h28 hx hu hP hv hPle hvle
      go_enter Tryd.func69, Tryd.ntmps69
      go_wp2_with fail
      go_ret2
      refine ⟨?_, rfl⟩
      obtain ⟨h8, h28, hx, hu, hP, hv⟩ := H8.out
      unfold goLen
      rw [← HK.out, if_neg h8, if_neg h28]
      simp only
      rw [← hx, ← hu, ← hP, ← hv]
      go_num

theorem distanceOf_any (w : World) (s : Nat) (h2 : s ≤ 29) :
    Calls Tryd.prog 70 #[.int .i64 (s : Int)] w fun e w' => e = .returned (.tuple #[natV (goDist s).1, natV (goDist s).2]) ∧ w = w' := by
  have c0 : (s : Int) ≤ 29 := by omega
  by_cases h8 : s < 4
  · have t1 : decide ((s : Int) < 4) = true := by simp; omega
    have H8 := Lib.hid h8
    clear h8 h2
    go_enter Tryd.func70, Tryd.ntmps70
    go_wp2_with fail
    go_ret2
    refine ⟨?_, rfl⟩
    unfold goDist
    rw [if_pos H8.out]
    go_num
  · have t1 : decide ((s : Int) < 4) = false := by simp; omega
    obtain ⟨x, hx⟩ : ∃ x, x = s / 2 - 1 := ⟨_, rfl⟩
    obtain ⟨u, hu⟩ : ∃ u, u = 2 + s % 2 := ⟨_, rfl⟩
    obtain ⟨P, hP⟩ : ∃ P : Nat, P = 2 ^ x := ⟨_, rfl⟩
    obtain ⟨v, hv⟩ : ∃ v : Nat, v = u * P := ⟨_, rfl⟩
    have hPle := pow_le_Int hP (show x ≤ 13 by omega)
    have hvle : v ≤ 3 * 8192 := by rw [hv]; exact Nat.mul_le_mul (by omega) hPle
    have e2 : (s : Int) / 2 - 1 = (x : Int) := by omega
    have e3 : 2 + (s : Int) % 2 = (u : Int) := by omega
    have e4 : (2 : Int) ^ x = (P : Int) := by rw [hP]; simp
    have e5 : (u : Int) * (P : Int) = (v : Int) := by rw [hv]; simp
    have c2 : (v : Int) ≤ 24576 := by omega
    have c3 : (x : Int) ≤ 13 := by omega
    have H8 := Lib.hid (And.intro h8 (And.intro hx (And.intro hu (And.intro hP hv))))
    clear h8 hx hu hP hv hPle hvle h2
    go_enter Tryd.func70, Tryd.ntmps70
    go_wp2_with fail
    go_ret2
    refine ⟨?_, rfl⟩
    obtain ⟨h8, hx, hu, hP, hv⟩ := H8.out
    unfold goDist
    rw [if_neg h8]
    simp only
    rw [← hx, ← hu, ← hP, ← hv]
    go_num

theorem goLen_le (s : Nat) (h1 : 257 ≤ s) (h2 : s ≤ 285) : (goLen s).1 ≤ 258 ∧ (goLen s).2 ≤ 6 := by
  have : ∀ k : Fin 29, (goLen (k.1 + 257)).1 ≤ 258 ∧ (goLen (k.1 + 257)).2 ≤ 6 := by decide +kernel
  have h := this ⟨s - 257, by omega⟩
  simp only [show s - 257 + 257 = s by omega] at h
  exact h

def LsInv (long g : Nat) (sv : Value) : Prop := ∃ s : Nat, 257 ≤ s ∧ s ≤ 284 ∧ g = s ∧ sv = .int .i64 (s : Int) ∧ down (fun s => (goLen s).1) long s = down (fun s => (goLen s).1) long 284

theorem lengthSymbol_any (w : World) (n : Nat) (h1 : 3 ≤ n) (h2 : n ≤ 258) :
    Calls Tryd.prog 61 #[.int .i64 (n : Int)] w fun e w' => e = .returned (.tuple #[natV (lenSymbol n).1, natV (lenSymbol n).2.1, natV (lenSymbol n).2.2]) ∧ w = w' := by
  have c0 : (n : Int) ≤ 258 := by omega
  have H12 := Lib.hid (And.intro h1 h2)
  by_cases h258 : n = 258
  · subst h258
    clear h1 h2
    go_enter Tryd.func61, Tryd.ntmps61
    go_wp2_with fail
    go_ret3
    exact ⟨rfl, rfl⟩
  · have t1 : ((n : Int) == 258) = false := by simp; omega
    have HN := Lib.hid h258
    clear h258 h1 h2
    go_enter Tryd.func61, Tryd.ntmps61
    go_wp2_with fail
    go_loopg [2] 284 (fun g sv wr => w = wr ∧ LsInv n g sv)
    case atStart => exact ⟨rfl, 284, by omega, by omega, rfl, rfl, rfl⟩
    case round =>
      obtain ⟨rfl, s, a1, a2, hg, rfl, hd⟩ := hrel
      obtain ⟨g1, g2⟩ := goLen_le s (by omega) (by omega)
      have hl := lengthOf_any w s (by omega) (by omega)
      obtain ⟨q, hq⟩ : ∃ q, q = goLen s := ⟨_, rfl⟩
      rw [← hq] at hl g1 g2
      obtain ⟨qb, qx⟩ := q
      simp only at g1 g2 hl
      have c1 : (s : Int) ≤ 284 := by omega
      have c2 : (257 : Int) ≤ (s : Int) := by omega
      have c3 : (qb : Int) ≤ 258 := by omega
      have HL := Lib.hid hl
      have HD := Lib.hid (And.intro hd (And.intro hq.symm (And.intro a1 (And.intro a2 hg))))
      clear hl hd hq a1 a2 hg g1 g2
      go_wp2_with fail
      refine HL.out.mono ?_
      rintro e w1 ⟨rfl, rfl⟩
      by_cases hge : qb ≤ n
      · have t2 : decide ((qb : Int) ≤ (n : Int)) = true := by simp; omega
        have t3 : decide (qb ≤ n) = true := by simp; omega
        have HG := Lib.hid hge
        have c4 : (qb : Int) ≤ (n : Int) := by omega
        clear hge
        go_wp2_with fail
        go_ret3
        refine ⟨?_, rfl⟩
        obtain ⟨hd, hq, a1, a2, hg⟩ := HD.out
        have hs : down (fun s => (goLen s).1) n 284 = s := by
          rw [← hd]
          obtain ⟨k, rfl⟩ : ∃ k, s = k + 1 := ⟨s - 1, by omega⟩
          rw [down, if_pos (by simp only [hq]; exact HG.out)]
        unfold lenSymbol
        rw [if_neg HN.out, hs]
        simp only [hq]
        have := HG.out
        go_num
      · have t3 : decide (qb ≤ n) = false := by simp; omega
        have HG := Lib.hid hge
        clear hge
        go_wp2_with fail
        go_roundg (s - 1)
        case measure => have := HD.out.2.2.1; have := HD.out.2.2.2.2; omega
        case rel =>
          obtain ⟨hd, hq, a1, a2, hg⟩ := HD.out
          have hlt := HG.out
          have h257 : s ≠ 257 := fun e => by
            subst e
            have : goLen 257 = (3, 0) := by decide
            rw [this] at hq
            obtain ⟨rfl, rfl⟩ := Prod.mk.injEq .. ▸ hq
            have := H12.out.1
            omega
          refine ⟨rfl, s - 1, by omega, by omega, rfl, ?_, ?_⟩
          · congr 1; omega
          · obtain ⟨k, rfl⟩ : ∃ k, s = k + 1 := ⟨s - 1, by omega⟩
            rw [← hd, down, if_neg (by simp only [hq]; exact hlt), Nat.add_sub_cancel]

theorem goDist_le (s : Nat) (h2 : s ≤ 29) : (goDist s).1 ≤ 32768 ∧ (goDist s).2 ≤ 13 := by
  have : ∀ k : Fin 30, (goDist k.1).1 ≤ 32768 ∧ (goDist k.1).2 ≤ 13 := by decide +kernel
  exact this ⟨s, by omega⟩

def DsInv (far g : Nat) (sv : Value) : Prop := ∃ s : Nat, s ≤ 29 ∧ g = s ∧ sv = .int .i64 (s : Int) ∧ down (fun s => (goDist s).1) far s = down (fun s => (goDist s).1) far 29

theorem distanceSymbol_any (w : World) (n : Nat) (h1 : 1 ≤ n) (h2 : n ≤ 32768) :
    Calls Tryd.prog 62 #[.int .i64 (n : Int)] w fun e w' => e = .returned (.tuple #[natV (distSymbol n).1, natV (distSymbol n).2.1, natV (distSymbol n).2.2]) ∧ w = w' := by
  have c0 : (n : Int) ≤ 32768 := by omega
  have H12 := Lib.hid (And.intro h1 h2)
  clear h1 h2
  go_enter Tryd.func62, Tryd.ntmps62
  go_wp2_with fail
  go_loopg [2] 29 (fun g sv wr => w = wr ∧ DsInv n g sv)
  case atStart => exact ⟨rfl, 29, by omega, rfl, rfl, rfl⟩
  case round =>
    obtain ⟨rfl, s, a2, hg, rfl, hd⟩ := hrel
    obtain ⟨g1, g2⟩ := goDist_le s (by omega)
    have hl := distanceOf_any w s (by omega)
    obtain ⟨q, hq⟩ : ∃ q, q = goDist s := ⟨_, rfl⟩
    rw [← hq] at hl g1 g2
    obtain ⟨qb, qx⟩ := q
    simp only at g1 g2 hl
    have c1 : (s : Int) ≤ 29 := by omega
    have c3 : (qb : Int) ≤ 32768 := by omega
    have HL := Lib.hid hl
    have HD := Lib.hid (And.intro hd (And.intro hq.symm (And.intro a2 hg)))
    clear hl hd hq a2 hg g1 g2
    go_wp2_with fail
    refine HL.out.mono ?_
    rintro e w1 ⟨rfl, rfl⟩
    by_cases hge : qb ≤ n
    · have t2 : decide ((qb : Int) ≤ (n : Int)) = true := by simp; omega
      have t3 : decide (qb ≤ n) = true := by simp; omega
      have HG := Lib.hid hge
      have c4 : (qb : Int) ≤ (n : Int) := by omega
      clear hge
      go_wp2_with fail
      go_ret3
      refine ⟨?_, rfl⟩
      obtain ⟨hd, hq, a2, hg⟩ := HD.out
      have hs : down (fun s => (goDist s).1) n 29 = s := by
        rw [← hd]
        cases s with
        | zero => rfl
        | succ k => rw [down, if_pos (by simp only [hq]; exact HG.out)]
      unfold distSymbol
      rw [hs]
      simp only [hq]
      have := HG.out
      go_num
    · have t3 : decide (qb ≤ n) = false := by simp; omega
      have HG := Lib.hid hge
      clear hge
      go_wp2_with fail
      go_roundg (s - 1)
      case measure =>
        obtain ⟨hd, hq, a2, hg⟩ := HD.out
        have hlt := HG.out
        have h0 : s ≠ 0 := fun e => by
          subst e
          have : goDist 0 = (1, 0) := by decide
          rw [this] at hq
          obtain ⟨rfl, rfl⟩ := Prod.mk.injEq .. ▸ hq
          have := H12.out.1
          omega
        omega
      case rel =>
        obtain ⟨hd, hq, a2, hg⟩ := HD.out
        have hlt := HG.out
        have h0 : s ≠ 0 := fun e => by
          subst e
          have : goDist 0 = (1, 0) := by decide
          rw [this] at hq
          obtain ⟨rfl, rfl⟩ := Prod.mk.injEq .. ▸ hq
          have := H12.out.1
          omega
        refine ⟨rfl, s - 1, by omega, rfl, ?_, ?_⟩
        · congr 1; omega
        · obtain ⟨k, rfl⟩ : ∃ k, s = k + 1 := ⟨s - 1, by omega⟩
          rw [← hd, down, if_neg (by simp only [hq]; exact hlt), Nat.add_sub_cancel]

theorem ownN_new (w : World) (l : List Nat) (hm : l.length ≤ maxLen) : OwnN (w.alloc (.cells (l.map natV).toArray 3)) w.heap.size (.slice (some ⟨w.heap.size, 0, none⟩) l.length l.length) l := by
  have hh := heap_alloc_new w (.cells (l.map natV).toArray 3)
  refine ⟨⟨by simp, .inr ⟨w.heap.size, l.length, _, rfl, Nat.le_refl _, hh, Nat.le_refl _, hm, by simp, ?_⟩⟩, fun g hg o u hu => ?_, fun g hg o => ?_⟩
  · rw [List.take_of_length_le (by simp)]
  · obtain rfl := Option.some.inj hg
    rw [cells_at hh] at hu
    obtain ⟨x, _, rfl⟩ := List.mem_map.1 (List.mem_of_getElem? (by simpa using hu : (l.map natV)[o]? = some u))
    exact ⟨_, rfl⟩
  · obtain rfl := Option.some.inj hg
    exact World.frozen?_alloc_new (w := w) ..

theorem order_any (w : World) :
    Calls Tryd.prog 65 #[] w fun e w' => e = .returned (.slice (some ⟨w.heap.size, 0, none⟩) 19 19) ∧ OwnN w' w.heap.size (.slice (some ⟨w.heap.size, 0, none⟩) 19 19) clOrder ∧ Frm (fun _ _ => False) w w' := by
  have h := ownN_new w clOrder (by decide)
  have e : (clOrder.map natV).toArray = #[.int .i64 16, .int .i64 17, .int .i64 18, .int .i64 0, .int .i64 8, .int .i64 7, .int .i64 9, .int .i64 6, .int .i64 10, .int .i64 5, .int .i64 11, .int .i64 4, .int .i64 12, .int .i64 3, .int .i64 13, .int .i64 2, .int .i64 14, .int .i64 1, .int .i64 15] := by rfl
  rw [e] at h
  have HX := Lib.hid h
  clear h e
  go_enter Tryd.func65, Tryd.ntmps65
  go_wp2_with fail
  go_ret
  exact ⟨rfl, HX.out, (Frm.refl _ _).alloc _⟩

theorem OwnN.fresh {w w' : World} {base : Nat} {v : Value} {l : List Nat} (h : OwnN w base v l) {w0 : World} (h0 : Frm (fun _ _ => False) w0 w) (hb : w0.heap.size ≤ base) (hf : Frm (fun b _ => v.ownBlock = some b) w w') : Frm (fun _ _ => False) w0 w' :=
  h0.trans' hf (fun x o hx q => by have := (h.lt x q).1; omega)

theorem fixedLens_at (k : Nat) (h : k < 288) : fixedLens.take (k + 1) = fixedLens.take k ++ [if k < 144 then 8 else if k < 256 then 9 else if k < 280 then 7 else 8] := by
  have h1 : ∀ k : Fin 288, fixedLens[k.1]? = some (if k.1 < 144 then 8 else if k.1 < 256 then 9 else if k.1 < 280 then 7 else 8) := by decide +kernel
  have := h1 ⟨k, h⟩
  simp only at this
  rw [List.take_add_one, this]; rfl

def FlInv (w : World) (N0 g : Nat) (v i : Value) (wr : World) : Prop := ∃ k : Nat, k ≤ 288 ∧ g = 288 - k ∧ i = .int .i64 (k : Int) ∧ OwnN wr N0 v (fixedLens.take k) ∧ Frm (fun _ _ => False) w wr
def FdInv (w : World) (N0 g : Nat) (v i : Value) (wr : World) : Prop := ∃ k : Nat, k ≤ 32 ∧ g = 32 - k ∧ i = .int .i64 (k : Int) ∧ OwnN wr N0 v (fixedDist.take k) ∧ Frm (fun _ _ => False) w wr

set_option maxHeartbeats 1000000 in
theorem fixed_any (w : World) :
    Calls Tryd.prog 44 #[] w fun e w' => ∃ v1 v2, e = .returned (.tuple #[v1, v2]) ∧ OwnN w' w.heap.size v1 fixedLens ∧ OwnN w' w.heap.size v2 fixedDist ∧ Frm (fun _ _ => False) w w' := by
  go_enter Tryd.func44, Tryd.ntmps44
  go_wp2_with fail
  go_loopg [0, 3] 288 (fun g v i wr => FlInv w w.heap.size g v i wr)
  case atStart => exact ⟨0, by omega, rfl, rfl, Row.nil _ _ _ _ _, Frm.refl _ _⟩
  case round =>
    obtain ⟨k, hk, hg, rfl, hown, hf⟩ := hrel
    by_cases hlt : k < 288
    · have t0 : decide ((k : Int) < 288) = true := by simp; omega
      have hst := fixedLens_at k hlt
      have c1 : (k : Int) ≤ 287 := by omega
      by_cases h1 : k < 144
      · have t1 : decide ((k : Int) < 144) = true := by simp; omega
        rw [if_pos h1] at hst
        obtain ⟨v', w', hrun, hown', hfr⟩ := append_nat wr w.heap.size _ _ hown 8 (by rw [List.length_take]; omega) hf.size
        have hf' := hown.fresh hf (Nat.le_refl _) hfr
        rw [← hst] at hown'
        have hr : ∀ ty, (Builtin.append_ #[27, 27] ty #[u0, .slice (some ⟨wr.heap.size, 0, none⟩) 1 1]).run Tryd.prog (wr.alloc (.cells #[.int .i64 8] 3)) = .ok v' w' := hrun
        have HX := Lib.hid (And.intro hown' (And.intro hf' (And.intro hg hlt)))
        clear hown hf hrun hown' hfr hf' hst hg hlt hk
        (try clear h1)
        (try clear h2)
        (try clear h3)
        go_wp2_with (at_builtin; refine wpList_append_by (by rfl) (.tmp 12) (.tmp 13) 27 (by rfl) _ _ (by rfl) (by rfl) (hr _) ?_)
        go_roundg (288 - (k + 1))
        case measure => have := HX.out.2.2.1; have := HX.out.2.2.2; omega
        case rel => exact ⟨k + 1, HX.out.2.2.2, rfl, by go_num, HX.out.1, HX.out.2.1⟩
      · have t1 : decide ((k : Int) < 144) = false := by simp; omega
        by_cases h2 : k < 256
        · have t2 : decide ((k : Int) < 256) = true := by simp; omega
          rw [if_neg h1, if_pos h2] at hst
          obtain ⟨v', w', hrun, hown', hfr⟩ := append_nat wr w.heap.size _ _ hown 9 (by rw [List.length_take]; omega) hf.size
          have hf' := hown.fresh hf (Nat.le_refl _) hfr
          rw [← hst] at hown'
          have hr : ∀ ty, (Builtin.append_ #[27, 27] ty #[u0, .slice (some ⟨wr.heap.size, 0, none⟩) 1 1]).run Tryd.prog (wr.alloc (.cells #[.int .i64 9] 3)) = .ok v' w' := hrun
          have HX := Lib.hid (And.intro hown' (And.intro hf' (And.intro hg hlt)))
          clear hown hf hrun hown' hfr hf' hst hg hlt hk
          (try clear h1)
          (try clear h2)
          (try clear h3)
          go_wp2_with (at_builtin; refine wpList_append_by (by rfl) (.tmp 18) (.tmp 19) 27 (by rfl) _ _ (by rfl) (by rfl) (hr _) ?_)
          go_roundg (288 - (k + 1))
          case measure => have := HX.out.2.2.1; have := HX.out.2.2.2; omega
          case rel => exact ⟨k + 1, HX.out.2.2.2, rfl, by go_num, HX.out.1, HX.out.2.1⟩
        · have t2 : decide ((k : Int) < 256) = false := by simp; omega
          by_cases h3 : k < 280
          · have t3 : decide ((k : Int) < 280) = true := by simp; omega
            rw [if_neg h1, if_neg h2, if_pos h3] at hst
            obtain ⟨v', w', hrun, hown', hfr⟩ := append_nat wr w.heap.size _ _ hown 7 (by rw [List.length_take]; omega) hf.size
            have hf' := hown.fresh hf (Nat.le_refl _) hfr
            rw [← hst] at hown'
            have hr : ∀ ty, (Builtin.append_ #[27, 27] ty #[u0, .slice (some ⟨wr.heap.size, 0, none⟩) 1 1]).run Tryd.prog (wr.alloc (.cells #[.int .i64 7] 3)) = .ok v' w' := hrun
            have HX := Lib.hid (And.intro hown' (And.intro hf' (And.intro hg hlt)))
            clear hown hf hrun hown' hfr hf' hst hg hlt hk
            (try clear h1)
            (try clear h2)
            (try clear h3)
            go_wp2_with (at_builtin; refine wpList_append_by (by rfl) (.tmp 24) (.tmp 25) 27 (by rfl) _ _ (by rfl) (by rfl) (hr _) ?_)
            go_roundg (288 - (k + 1))
            case measure => have := HX.out.2.2.1; have := HX.out.2.2.2; omega
            case rel => exact ⟨k + 1, HX.out.2.2.2, rfl, by go_num, HX.out.1, HX.out.2.1⟩
          · have t3 : decide ((k : Int) < 280) = false := by simp; omega
            rw [if_neg h1, if_neg h2, if_neg h3] at hst
            obtain ⟨v', w', hrun, hown', hfr⟩ := append_nat wr w.heap.size _ _ hown 8 (by rw [List.length_take]; omega) hf.size
            have hf' := hown.fresh hf (Nat.le_refl _) hfr
            rw [← hst] at hown'
            have hr : ∀ ty, (Builtin.append_ #[27, 27] ty #[u0, .slice (some ⟨wr.heap.size, 0, none⟩) 1 1]).run Tryd.prog (wr.alloc (.cells #[.int .i64 8] 3)) = .ok v' w' := hrun
            have HX := Lib.hid (And.intro hown' (And.intro hf' (And.intro hg hlt)))
            clear hown hf hrun hown' hfr hf' hst hg hlt hk
            (try clear h1)
            (try clear h2)
            (try clear h3)
            go_wp2_with (at_builtin; refine wpList_append_by (by rfl) (.tmp 6) (.tmp 7) 27 (by rfl) _ _ (by rfl) (by rfl) (hr _) ?_)
            go_roundg (288 - (k + 1))
            case measure => have := HX.out.2.2.1; have := HX.out.2.2.2; omega
            case rel => exact ⟨k + 1, HX.out.2.2.2, rfl, by go_num, HX.out.1, HX.out.2.1⟩
    · obtain rfl : k = 288 := by omega
      have HX := Lib.hid (And.intro hown hf)
      clear hlt hown hf hg hk
      go_wp2_with fail
      obtain ⟨w2, rfl⟩ : ∃ w2, w2 = wr := ⟨_, rfl⟩
      go_loopg [1, 28] 32 (fun g v i wr => FdInv w2 w2.heap.size g v i wr)
      case atStart => exact ⟨0, by omega, rfl, rfl, Row.nil _ _ _ _ _, Frm.refl _ _⟩
      case round =>
        obtain ⟨k, hk, hg, rfl, hown, hf⟩ := hrel
        by_cases hlt : k < 32
        · have t0 : decide ((k : Int) < 32) = true := by simp; omega
          have c1 : (k : Int) ≤ 31 := by omega
          have hst : fixedDist.take (k + 1) = fixedDist.take k ++ [5] := by
            unfold fixedDist
            rw [List.take_replicate, List.take_replicate, show min (k + 1) 32 = min k 32 + 1 by omega, List.replicate_succ']
          obtain ⟨v', w', hrun, hown', hfr⟩ := append_nat wr w2.heap.size _ _ hown 5 (by rw [List.length_take]; omega) hf.size
          have hf' := hown.fresh hf (Nat.le_refl _) hfr
          rw [← hst] at hown'
          have hr : ∀ ty, (Builtin.append_ #[27, 27] ty #[u1, .slice (some ⟨wr.heap.size, 0, none⟩) 1 1]).run Tryd.prog (wr.alloc (.cells #[.int .i64 5] 3)) = .ok v' w' := hrun
          have HX2 := Lib.hid (And.intro hown' (And.intro hf' (And.intro hg hlt)))
          clear hown hf hrun hown' hfr hf' hst hg hlt hk
          go_wp2_with (at_builtin; refine wpList_append_by (by rfl) (.tmp 30) (.tmp 31) 27 (by rfl) _ _ (by rfl) (by rfl) (hr _) ?_)
          go_roundg (32 - (k + 1))
          case measure => have := HX2.out.2.2.1; have := HX2.out.2.2.2; omega
          case rel => exact ⟨k + 1, HX2.out.2.2.2, rfl, by go_num, HX2.out.1, HX2.out.2.1⟩
        · obtain rfl : k = 32 := by omega
          have HX2 := Lib.hid (And.intro hown hf)
          clear hlt hown hf hg hk
          go_wp2_with fail
          go_ret2
          have e1 : fixedLens.take 288 = fixedLens := List.take_of_length_le (by rw [fixedLens_length]; omega)
          have e2 : fixedDist.take 32 = fixedDist := List.take_of_length_le (by unfold fixedDist; rw [List.length_replicate]; omega)
          have h1 := HX.out.1
          have h2 := HX2.out.1
          rw [e1] at h1
          rw [e2] at h2
          exact ⟨_, _, rfl, h1.keep HX2.out.2 (fun _ _ _ e => e), h2.lower HX.out.2.size, HX.out.2.trans HX2.out.2⟩

/-! ### The numbers of a code -/

/-- The codes as far as they are told: all of at most k bits; of k + 1 bits those of the first j symbols. -/
def cdL (lens : List Nat) (k j : Nat) : List Nat := (List.range lens.length).map fun s => if lens.getD s 0 ≠ 0 ∧ (lens.getD s 0 ≤ k ∨ lens.getD s 0 = k + 1 ∧ s < j) then codeOf lens s else 0

theorem cdL_len (lens : List Nat) (k j : Nat) : (cdL lens k j).length = lens.length := by simp [cdL]

theorem cdL_get (lens : List Nat) (k j s : Nat) (hs : s < lens.length) : (cdL lens k j)[s]? = some (if lens.getD s 0 ≠ 0 ∧ (lens.getD s 0 ≤ k ∨ lens.getD s 0 = k + 1 ∧ s < j) then codeOf lens s else 0) := by
  unfold cdL
  rw [List.getElem?_map, List.getElem?_range hs]; rfl

theorem cdL_zero (lens : List Nat) : cdL lens 0 0 = List.replicate lens.length 0 := by
  apply List.ext_getElem?
  intro s
  by_cases hs : s < lens.length
  · rw [cdL_get _ _ _ _ hs, List.getElem?_replicate, if_pos hs, if_neg (by omega)]
  · rw [List.getElem?_eq_none (by rw [cdL_len]; omega), List.getElem?_eq_none (by rw [List.length_replicate]; omega)]

theorem cdL_next (lens : List Nat) (k : Nat) : cdL lens k lens.length = cdL lens (k + 1) 0 := by
  apply List.ext_getElem?
  intro s
  by_cases hs : s < lens.length
  · rw [cdL_get _ _ _ _ hs, cdL_get _ _ _ _ hs]
    congr 1
    by_cases h : lens.getD s 0 ≠ 0 ∧ (lens.getD s 0 ≤ k ∨ lens.getD s 0 = k + 1 ∧ s < lens.length)
    · rw [if_pos h, if_pos (by omega)]
    · rw [if_neg h, if_neg (by omega)]
  · rw [List.getElem?_eq_none (by rw [cdL_len]; omega), List.getElem?_eq_none (by rw [cdL_len]; omega)]

theorem cdL_skip (lens : List Nat) (k j : Nat) (h : lens.getD j 0 ≠ k + 1) : cdL lens k (j + 1) = cdL lens k j := by
  apply List.ext_getElem?
  intro s
  by_cases hs : s < lens.length
  · rw [cdL_get _ _ _ _ hs, cdL_get _ _ _ _ hs]
    congr 1
    by_cases e : s = j
    · subst e
      by_cases h1 : lens.getD s 0 ≠ 0 ∧ lens.getD s 0 ≤ k
      · rw [if_pos (by omega), if_pos (by omega)]
      · rw [if_neg (by omega), if_neg (by omega)]
    · by_cases h1 : lens.getD s 0 ≠ 0 ∧ (lens.getD s 0 ≤ k ∨ lens.getD s 0 = k + 1 ∧ s < j)
      · rw [if_pos h1, if_pos (by omega)]
      · rw [if_neg h1, if_neg (by omega)]
  · rw [List.getElem?_eq_none (by rw [cdL_len]; omega), List.getElem?_eq_none (by rw [cdL_len]; omega)]

theorem cdL_set (lens : List Nat) (k j : Nat) (hj : j < lens.length) (h : lens.getD j 0 = k + 1) : cdL lens k (j + 1) = (cdL lens k j).set j (codeOf lens j) := by
  apply List.ext_getElem?
  intro s
  rw [List.getElem?_set]
  by_cases hs : s < lens.length
  · by_cases e : j = s
    · subst e
      rw [if_pos rfl, if_pos (by rw [cdL_len]; exact hs), cdL_get _ _ _ _ hs, if_pos (by omega)]
    · rw [if_neg e, cdL_get _ _ _ _ hs, cdL_get _ _ _ _ hs]
      congr 1
      by_cases h1 : lens.getD s 0 ≠ 0 ∧ (lens.getD s 0 ≤ k ∨ lens.getD s 0 = k + 1 ∧ s < j)
      · rw [if_pos h1, if_pos (by omega)]
      · rw [if_neg h1, if_neg (by omega)]
  · rw [if_neg (by omega), List.getElem?_eq_none (by rw [cdL_len]; omega), List.getElem?_eq_none (by rw [cdL_len]; omega)]

theorem Ck_bound (lens : List Nat) : ∀ i, i ≤ 15 → Ck (cntAll lens).count i + lens.length ≤ lens.length * 2 ^ i := by
  intro i
  induction i with
  | zero => intro _; simp [Ck]
  | succ i ih =>
    intro h
    have h1 := ih (by omega)
    have h2 := (cnt_facts lens).count (i + 1) (by omega) (by omega)
    have h3 : lens.count (i + 1) ≤ lens.length := List.count_le_length
    rw [Ck, h2, Nat.pow_succ, ← Nat.mul_assoc]
    omega

theorem count_take_succ (lens : List Nat) (j n : Nat) (hj : j < lens.length) : (lens.take (j + 1)).count n = (lens.take j).count n + if lens.getD j 0 = n then 1 else 0 := by
  have e : lens.getD j 0 = lens[j] := by rw [List.getD_eq_getElem?_getD, List.getElem?_eq_getElem hj]; rfl
  rw [List.take_succ_eq_append_getElem hj, List.count_append, e, List.count_singleton]
  simp only [beq_iff_eq]

/-- At the head of the outer loop. -/
def CoInv (w : World) (N0 : Nat) (v : Value) (lens : List Nat) (g : Nat) (nx lg : Value) (wr : World) : Prop :=
  ∃ k n l : Nat, k ≤ 15 ∧ g = 15 - k ∧ l = k + 1 ∧ lg = .int .i64 (l : Int) ∧ nx = .int .i64 (n : Int) ∧ n = Ck (cntAll lens).count k ∧ OwnN wr N0 v (cdL lens k 0) ∧ Frm (fun _ _ => False) w wr
/-- At the head of the inner one. -/
def CiInv (w : World) (N0 : Nat) (v : Value) (lens : List Nat) (k : Nat) (g : Nat) (nx i : Value) (wr : World) : Prop :=
  ∃ j n : Nat, j ≤ lens.length ∧ g = lens.length - j ∧ i = .int .i64 (j : Int) ∧ nx = .int .i64 (n : Int) ∧ n = 2 * Ck (cntAll lens).count k + (lens.take j).count (k + 1) ∧ OwnN wr N0 v (cdL lens k j) ∧ Frm (fun _ _ => False) w wr

/-- What 'codes' gives. -/
def CodesPost (w : World) (lens : List Nat) (e : Ending) (w' : World) : Prop :=
  ∃ v out, e = .returned v ∧ OwnN w' w.heap.size v out ∧ out.length = lens.length ∧ (∀ s, lens.getD s 0 ≠ 0 → out.getD s 0 = codeOf lens s) ∧ (∀ s, out.getD s 0 ≤ 1073741824) ∧ Frm (fun _ _ => False) w w'

set_option maxHeartbeats 1000000 in
theorem codes_any (w : World) (b : Option Addr) (lens : List Nat) (cap : Nat) (h : Nt w b lens) (h15 : ∀ n ∈ lens, n ≤ 15) (hl : lens.length ≤ 320) :
    Calls Tryd.prog 59 #[.slice b lens.length cap] w (CodesPost w lens) := by
  have HH := Lib.hid h
  have H15 := Lib.hid h15
  obtain ⟨m, hm⟩ : ∃ m, m = lens.length := ⟨_, rfl⟩
  rw [← hm] at hl ⊢
  have c1 : (m : Int) ≤ 320 := by omega
  have HM := Lib.hid (And.intro hm hl)
  have hmk := run_make_row' (P := Tryd.prog) 27 3 (.int .i64 0) 8 Tryd.underlying27 infoInts rfl .i64 .i64 m (by omega) (by omega)
  have hown := ownN_made w m (by simp only [maxLen]; omega)
  have HO := Lib.hid hown
  clear h h15 hm hl hown
  go_enter Tryd.func59, Tryd.ntmps59
  go_wp2_with fail
  obtain ⟨W1, hW1⟩ : ∃ W1, W1 = w.alloc (.cells (madeCells #[.int .i64 0] m) 3) := ⟨_, rfl⟩
  rw [← hW1]
  have hown1 : OwnN W1 w.heap.size (.slice (some ⟨w.heap.size, 0, none⟩) m m) (cdL lens 0 0) := by rw [hW1, cdL_zero, ← HM.out.1]; exact HO.out
  have hf1 : Frm (fun _ _ => False) w W1 := by rw [hW1]; exact (Frm.refl _ _).alloc _
  obtain ⟨N0, hN0⟩ : ∃ N0, N0 = w.heap.size := ⟨_, rfl⟩
  rw [← hN0] at hown1 ⊢
  have HX := Lib.hid (And.intro hown1 (And.intro hf1 hN0))
  clear hown1 hf1 hN0 hW1 hmk HO
  go_loopg [4, 5] 15 (fun g nx lg wr => CoInv w N0 (.slice (some ⟨N0, 0, none⟩) m m) lens g nx lg wr)
  case atStart => exact ⟨0, 0, 1, by omega, rfl, rfl, rfl, rfl, rfl, HX.out.1, HX.out.2.1⟩
  case round =>
    obtain ⟨k, n, l, hk, hg, hlk, rfl, rfl, hn, hown, hf⟩ := hrel
    have hbd := Ck_bound lens k hk
    have hpw := pow_le_Int (P := 2 ^ k) rfl hk
    by_cases hlt : k < 15
    · have t1 : decide ((l : Int) ≤ 15) = true := by simp; omega
      have hnle : n ≤ 320 * 32768 := by
        have := Nat.mul_le_mul (show lens.length ≤ 320 by have := HM.out; omega) hpw
        omega
      have c2 : (n : Int) ≤ 10485760 := by omega
      have HR := Lib.hid (And.intro hk (And.intro hg (And.intro hlk (And.intro hn (And.intro hown (And.intro hf hlt))))))
      have c3 : (l : Int) ≤ 15 := by omega
      clear hk hg hlk hn hown hf hbd hpw hlt hnle
      go_wp2_with fail
      obtain ⟨wo, rfl⟩ : ∃ wo : World, wo = wr := ⟨_, rfl⟩
      go_loopg [4, 19] m (fun g nx i wr => CiInv w N0 (.slice (some ⟨N0, 0, none⟩) m m) lens k g nx i wr)
      case atStart =>
        obtain ⟨hk, hg, hlk, hn, hown, hf, hlt⟩ := HR.out
        refine ⟨0, 2 * n, Nat.zero_le _, ?_, rfl, ?_, ?_, hown, hf⟩
        · exact HM.out.1
        · go_num
        · rw [hn]; simp
      case round =>
        obtain ⟨j, n2, hj, hg2, rfl, rfl, hn2, hown2, hf2⟩ := hrel
        have hcl : (lens.take j).count (k + 1) ≤ 320 := Nat.le_trans List.count_le_length (by rw [List.length_take]; have := HM.out; omega)
        have c4 : (n2 : Int) ≤ 20971840 := by have := HR.out.2.2.2.1; omega
        by_cases hlt : j < m
        · have hjl : j < lens.length := by rw [← HM.out.1]; exact hlt
          obtain ⟨g', hb, hc⟩ := HH.out.cells j hjl
          subst hb
          have hx : lens.getD j 0 = lens[j] := by rw [List.getD_eq_getElem?_getD, List.getElem?_eq_getElem hjl]; rfl
          rw [← hx] at hc
          have hx15 : lens.getD j 0 ≤ 15 := by rw [hx]; exact H15.out _ (List.getElem_mem _)
          have hc1 : wr.cell? ⟨g', j, none⟩ = some (natV (lens.getD j 0)) := hf2.keep hc (fun e => e)
          obtain ⟨x, hxx⟩ : ∃ x, x = lens.getD j 0 := ⟨_, rfl⟩
          rw [← hxx] at hc1 hx15
          have hc2 : wr.cell? ⟨g', j, none⟩ = some (.int .i64 (x : Int)) := hc1
          have c5 : (x : Int) ≤ 15 := by omega
          clear hc1 hc hx hx15
          by_cases e : x = l
          · subst e
            obtain ⟨gg, cp, hv, _, _, _, hcell, hfz⟩ := Row.at hown2 (show j < (cdL lens k j).length by rw [cdL_len]; exact hjl)
            have hgg : N0 = gg := Option.some.inj (congrArg Value.ownBlock hv)
            subst hgg
            replace hcell : ∃ ov, wr.cell? ⟨N0, j, none⟩ = some ov := ⟨_, hcell⟩
            obtain ⟨ov, hcell⟩ := hcell
            have HI := Lib.hid (And.intro hj (And.intro hg2 (And.intro hn2 (And.intro hown2 (And.intro hf2 (And.intro hlt (And.intro hjl hxx)))))))
            clear hj hg2 hn2 hown2 hf2 hjl hxx hv hcl
            go_wp2_with fail
            go_roundg (m - (j + 1))
            case measure => have := HI.out.2.1; have := HI.out.2.2.2.2.2.1; have := HM.out.1; omega
            case rel =>
              obtain ⟨hj, hg2, hn2, hown2, hf2, hlt, hjl, hxx⟩ := HI.out
              obtain ⟨hk, hg, hlk, hn, hown, hf, hlt'⟩ := HR.out
              have hcode : n2 = codeOf lens j := by
                unfold codeOf
                rw [← hxx, hn2, hlk]; rfl
              obtain ⟨ho, hfo⟩ := hown2.set (g := N0) rfl (show j < (cdL lens k j).length by rw [cdL_len]; exact hjl) n2
              refine ⟨j + 1, n2 + 1, hjl, by rw [← HM.out.1], by go_num, by go_num, ?_, ?_, hf2.trans' hfo (fun x o hx q => by have := HX.out.2.2; omega)⟩
              · rw [count_take_succ _ _ _ hjl, if_pos (by rw [← hxx, hlk]), hn2]; omega
              · rw [cdL_set _ _ _ hjl (by rw [← hxx, hlk]), ← hcode]
                exact ho
          · have hne : ((x : Int) == (l : Int)) = false := by simp; omega
            have hne2 : (x == l) = false := by simp; exact e
            have HI := Lib.hid (And.intro hj (And.intro hg2 (And.intro hn2 (And.intro hown2 (And.intro hf2 (And.intro hlt (And.intro hjl (And.intro hxx e))))))))
            clear hj hg2 hn2 hown2 hf2 hjl hxx hcl e
            go_wp2_with fail
            go_roundg (m - (j + 1))
            case measure => have := HI.out.2.1; have := HI.out.2.2.2.2.2.1; have := HM.out.1; omega
            case rel =>
              obtain ⟨hj, hg2, hn2, hown2, hf2, hlt, hjl, hxx, e⟩ := HI.out
              obtain ⟨hk, hg, hlk, hn, hown, hf, hlt'⟩ := HR.out
              refine ⟨j + 1, n2, hjl, by rw [← HM.out.1], by go_num, rfl, ?_, ?_, hf2⟩
              · rw [count_take_succ _ _ _ hjl, if_neg (by rw [← hxx, ← hlk]; exact e), hn2]; rfl
              · rw [cdL_skip _ _ _ (by rw [← hxx, ← hlk]; exact e)]; exact hown2
        · obtain rfl : j = m := by have := HM.out.1; omega
          have HI := Lib.hid (And.intro hg2 (And.intro hn2 (And.intro hown2 hf2)))
          have hd : decide (j < j) = false := by simp
          clear hlt hg2 hn2 hown2 hf2 hj hcl
          go_wp2_with fail
          go_roundg (15 - (k + 1))
          case measure => have := HR.out.2.1; have := HR.out.2.2.2.2.2.2; omega
          case rel =>
            obtain ⟨hg2, hn2, hown2, hf2⟩ := HI.out
            obtain ⟨hk, hg, hlk, hn, hown, hf, hlt'⟩ := HR.out
            have hjm := HM.out.1
            refine ⟨k + 1, n2, l + 1, by omega, rfl, by omega, by go_num, rfl, ?_, ?_, hf2⟩
            · rw [hn2, hjm, List.take_length, Ck, (cnt_facts lens).count (k + 1) (by omega) (by omega)]
            · rw [← cdL_next, ← hjm]; exact hown2
    · obtain rfl : k = 15 := by omega
      have t1 : decide ((l : Int) ≤ 15) = false := by simp; omega
      have HI := Lib.hid (And.intro hown hf)
      clear hk hg hlk hn hown hf hlt hbd hpw
      go_wp2_with fail
      go_ret
      obtain ⟨hown, hf⟩ := HI.out
      have hN := HX.out.2.2
      subst hN
      have hget : ∀ s, (cdL lens 15 0).getD s 0 = if s < lens.length ∧ lens.getD s 0 ≠ 0 then codeOf lens s else 0 := fun s => by
        by_cases hs : s < lens.length
        · rw [List.getD_eq_getElem?_getD, cdL_get _ _ _ _ hs]
          have e : lens.getD s 0 = lens[s] := by rw [List.getD_eq_getElem?_getD, List.getElem?_eq_getElem hs]; rfl
          have := H15.out _ (List.getElem_mem hs)
          by_cases h0 : lens.getD s 0 = 0
          · rw [if_neg (by omega), if_neg (by omega)]; rfl
          · rw [if_pos (by omega), if_pos (by omega)]; rfl
        · rw [List.getD_eq_getElem?_getD, List.getElem?_eq_none (by rw [cdL_len]; omega), if_neg (by omega)]; rfl
      refine ⟨_, cdL lens 15 0, rfl, hown, cdL_len _ _ _, fun s hs => ?_, fun s => ?_, hf⟩
      · rw [hget, if_pos ⟨lt_of_getD hs, hs⟩]
      · rw [hget]
        split
        · rename_i hs
          obtain ⟨hs1, hs2⟩ := hs
          have h1 := codeOf_lt H15.out hs1 hs2
          have e : lens.getD s 0 = lens[s] := by rw [List.getD_eq_getElem?_getD, List.getElem?_eq_getElem hs1]; rfl
          have h2 := H15.out _ (List.getElem_mem hs1)
          have h3 := Ck_bound lens (lens.getD s 0) (by omega)
          have h4 := Nat.mul_le_mul (show lens.length ≤ 320 by have := HM.out; omega) (pow_le_Int (P := 2 ^ lens.getD s 0) (x := lens.getD s 0) (m := 15) rfl (by omega))
          omega
        · omega

end Go.Proofs.YthfncdfcklbigaaDoor

/-
  THE WALK OF the choices' 'next'.
-/
namespace Go.Proofs.YthfncdfcklbigaaDoor
open Go.RowKit Go.IntWalk Flate
set_option maxRecDepth 100000

/-- Choices: block C; the numbers (in a block below M), and how often they were asked. -/
structure Chs (w : World) (M C : Nat) (l : List Int) (k : Nat) : Prop where
  row : ∃ b cap, w.cell? ⟨C, 0, none⟩ = some (.slice b l.length cap) ∧ It w b l cap ∧ (∀ a, b = some a → a.block ≠ C ∧ a.block < M)
  at_ : w.cell? ⟨C, 1, none⟩ = some (.int .i64 (k : Int))
  fr : ∀ o, w.frozen? ⟨C, o, none⟩ = false
  few : l.length ≤ 2147483647

theorem Chs.lt {w : World} {M C : Nat} {l : List Int} {k : Nat} (h : Chs w M C l k) : C < w.heap.size := cell_lt h.at_

theorem It.keepS {S : Nat → Nat → Prop} {w w' : World} {base : Option Addr} {l : List Int} {cap : Nat} (h : It w base l cap) (hf : Frm S w w') (hS : ∀ a, base = some a → ∀ j, j < l.length → ¬ S a.block (a.off + j)) : It w' base l cap :=
  ⟨fun j hj => by obtain ⟨a, h1, h2⟩ := h.cells j hj; exact ⟨a, h1, hf.keep h2 (hS a h1 j hj)⟩, h.spot, h.hcap, fun a ha => Nat.lt_of_lt_of_le (h.lt a ha) hf.size, h.nilc, h.wf⟩

/-- What does not touch the choices' blocks leaves them. -/
theorem Chs.keep {S : Nat → Nat → Prop} {w w' : World} {M C : Nat} {l : List Int} {k : Nat} (h : Chs w M C l k) (hf : Frm S w w') (hS : ∀ b o, S b o → b ≠ C ∧ (M ≤ b ∨ ∀ v, w.cell? ⟨b, o, none⟩ = some v → ¬ KI v)) : Chs w' M C l k := by
  obtain ⟨⟨b, cap, h1, h2, h3⟩, h4, h5, h6⟩ := h
  refine ⟨⟨b, cap, hf.keep h1 (fun q => (hS _ _ q).1 rfl), h2.keepS hf (fun a ha j hj q => ?_), h3⟩, hf.keep h4 (fun q => (hS _ _ q).1 rfl), fun o => (hf.froz C o (cell_lt h4)).trans (h5 o), h6⟩
  obtain ⟨a', ha', hc⟩ := h2.cells j hj
  rw [ha] at ha'
  obtain rfl := Option.some.inj ha'
  have := h3 a ha
  rcases (hS _ _ q).2 with q | q
  · omega
  · exact q _ hc ⟨_, rfl⟩

theorem Chs.keep0 {w w' : World} {M C : Nat} {l : List Int} {k : Nat} (h : Chs w M C l k) (hf : Frm (fun _ _ => False) w w') : Chs w' M C l k := h.keep hf (fun _ _ e => e.elim)

theorem tmod_range (x : Int) (m : Nat) (hm : 1 ≤ m) : -(m : Int) < x.tmod (m : Int) ∧ x.tmod (m : Int) < (m : Int) := by
  have h1 := Int.tmod_lt_of_pos x (show (0 : Int) < (m : Int) by omega)
  have h2 := Int.lt_tmod_of_pos x (show (0 : Int) < (m : Int) by omega)
  exact ⟨h2, h1⟩

theorem next_any (w : World) (M C : Nat) (l : List Int) (k : Nat) (h : Chs w M C l k) (most : Nat) (h1 : 1 ≤ most) (h2 : most ≤ 1099511627776) (hk : k ≤ 1099511627776) :
    Calls Tryd.prog 39 #[.pointer (some ⟨C, 0, none⟩), .int .i64 (most : Int)] w fun e w' => ∃ v : Nat, e = .returned (natV v) ∧ v < most ∧ (l = [] → v = k % most) ∧ Chs w' M C l (k + 1) ∧ Frm (fun b _ => b = C) w w' := by
  have HH := Lib.hid h
  obtain ⟨⟨b, cap, hl, hit, hbC⟩, hat, hfr, hfew⟩ := h
  have f1 := hfr 1
  have c1 : (most : Int) ≤ 1099511627776 := by omega
  have c2 : (1 : Int) ≤ (most : Int) := by omega
  have c3 : (k : Int) ≤ 1099511627776 := by omega
  obtain ⟨m, hm⟩ : ∃ m, m = l.length := ⟨_, rfl⟩
  rw [← hm] at hl hfew
  have c4 : (m : Int) ≤ 2147483647 := by omega
  have HA := Lib.hid (And.intro hm (And.intro h1 (And.intro hit (And.intro hbC hfr))))
  have post : ∀ (v : Nat) (W : World) (n : Nat), W = (w.drewN n).setCell ⟨C, 1, none⟩ (.int .i64 ((k : Int) + 1)) → v < most → (l = [] → v = k % most) → ∀ z : Int, z = (v : Int) → ∃ v' : Nat, Ending.returned (.int .i64 z) = .returned (natV v') ∧ v' < most ∧ (l = [] → v' = k % most) ∧ Chs W M C l (k + 1) ∧ Frm (fun b _ => b = C) w W := by
    intro v W n hW hv hv2 z hz
    subst hz
    have hf : Frm (fun b o => b = C ∧ o = 1) w W := by rw [hW]; exact ((Frm.refl _ _).drewN n).setCell (.inl ⟨rfl, rfl⟩) _
    refine ⟨v, rfl, hv, hv2, ⟨⟨b, cap, by rw [← hm]; exact hf.keep hl (by omega), HA.out.2.2.1.keepS hf (fun a ha j hj q => (hbC a ha).1 q.1), hbC⟩, ?_, fun o => (hf.froz C o (cell_lt hat)).trans (hfr o), by omega⟩, hf.mono fun _ _ q => q.1⟩
    rw [hW]
    have hat' : (w.drewN n).cell? ⟨C, 1, none⟩ = some (.int .i64 (k : Int)) := hat
    have := set_get (v := .int .i64 ((k : Int) + 1)) hat'
    rw [this]; congr 2
  have HP := Lib.hid post
  by_cases h0 : m = 0
  · subst h0
    have hln : l = [] := List.eq_nil_of_length_eq_zero hm.symm
    obtain ⟨v, hv⟩ : ∃ v, v = k % most := ⟨_, rfl⟩
    have hvlt : v < most := by rw [hv]; exact Nat.mod_lt _ (by omega)
    have e1 : (k : Int) % (most : Int) = (v : Int) := by rw [hv]; simp
    have e2 : ((v : Int) + (most : Int)) % (most : Int) = (v : Int) := by
      rw [Int.add_emod_right]; exact Int.emod_eq_of_lt (by omega) (by omega)
    have c5 : (v : Int) < (most : Int) := by omega
    have HV := Lib.hid (And.intro hv hvlt)
    have HE2 := Lib.hid e2
    clear e2
    clear post hv hvlt hm hfew hfr hbC hit h1 h2 hk
    go_enter Tryd.func39, Tryd.ntmps39
    go_wp2_with fail
    go_ret
    exact HP.out v _ 0 rfl HV.out.2 (fun _ => HV.out.1) _ HE2.out
  · have hmp : 0 < m := by omega
    obtain ⟨r, hr⟩ : ∃ r, r = k % m := ⟨_, rfl⟩
    obtain ⟨q, hq⟩ : ∃ q, q = k / m := ⟨_, rfl⟩
    have hrl : r < m := by rw [hr]; exact Nat.mod_lt _ hmp
    have hql : q ≤ k := by rw [hq]; exact Nat.div_le_self _ _
    obtain ⟨a, ha, hcell⟩ := hit.cells r (by rw [← hm]; exact hrl)
    have hsp := hit.spot a ha
    obtain ⟨ab, ao, sp⟩ := a
    simp only at hsp
    subst hsp
    subst ha
    obtain ⟨u, hu⟩ : ∃ u, u = l[r]'(by rw [← hm]; exact hrl) := ⟨_, rfl⟩
    replace hcell : w.cell? ⟨ab, ao + r, none⟩ = some (.int .i64 u) := by rw [hu]; exact hcell
    obtain ⟨x, hx⟩ : ∃ x, x = IntKind.i64.wrap (u + (q : Int)) := ⟨_, rfl⟩
    obtain ⟨y, hy⟩ : ∃ y, y = x.tmod (most : Int) := ⟨_, rfl⟩
    obtain ⟨g1, g2⟩ := tmod_range x most h1
    rw [← hy] at g1 g2
    obtain ⟨v, hv⟩ : ∃ v : Nat, (v : Int) = (y + (most : Int)) % (most : Int) := by
      have := Int.emod_nonneg (y + (most : Int)) (show (most : Int) ≠ 0 by omega)
      exact ⟨((y + (most : Int)) % (most : Int)).toNat, Int.toNat_of_nonneg this⟩
    have hvlt : v < most := by
      have := Int.emod_lt_of_pos (y + (most : Int)) (show (0 : Int) < (most : Int) by omega)
      omega
    have e0 : (k : Int).tmod (m : Int) = (r : Int) := by rw [Int.tmod_eq_emod_of_nonneg (by omega), hr]; simp
    have e1 : (k : Int).tdiv (m : Int) = (q : Int) := by rw [Int.tdiv_eq_ediv_of_nonneg (by omega), hq]; simp
    have e01 : (k : Int) % (m : Int) = (r : Int) := by rw [hr]; simp
    have e11 : (k : Int) / (m : Int) = (q : Int) := by rw [hq]; simp
    have c6 : (m : Int) ≠ 0 := by omega
    have c7 : (r : Int) < (m : Int) := by omega
    have c8 : (q : Int) ≤ 1099511627776 := by omega
    have c9 : (1 : Int) ≤ (m : Int) := by omega
    have HV := Lib.hid hvlt
    have hlne : l ≠ [] := fun e => by rw [e] at hm; simp at hm; omega
    have HNE := Lib.hid hlne
    have ew : IntKind.i64.wrap (q : Int) = (q : Int) := i64_in _ (by omega)
    have hx' := hx.symm
    have hy' := hy.symm
    have hv' := hv.symm
    clear post hm hfew hfr hbC hit h1 h2 hk hr hq hql hu hx hy hv hvlt hlne h0
    go_enter Tryd.func39, Tryd.ntmps39
    go_wp2_with fail
    (go_quiet (fail))
    have HE := Lib.hid hv'
    clear hv'
    go_wp2_with fail
    go_ret
    exact HP.out v _ nq rfl HV.out (fun h => absurd h HNE.out) _ HE.out

end Go.Proofs.YthfncdfcklbigaaDoor

/-
  A ROW'S FIRST AND LAST BYTES, as Go's slice expressions give them.
-/
namespace Go.Proofs.YthfncdfcklbigaaDoor
open Go.RowKit Flate
set_option maxRecDepth 100000

theorem run_tail {w : World} {b : Option Addr} {l : List UInt8} {cap : Nat} (h : Bytes w b l) (hcap : l.length ≤ cap) (m : Nat) (hm : m ≤ l.length) :
    ∃ b', (∀ w' : World, (Instr.sliceAt 22 (.slice b l.length cap) (some (.int .i64 (m : Int))) none none).run Tryd.prog w' = .ok (.slice b' (l.length - m) (cap - m)) w') ∧ Bytes w b' (l.drop m) := by
  have hsz : ∀ w : World, (sizeOf (Tryd.prog.elem 22)).run Tryd.prog w = .ok 1 w := fun w => by kernel_rfl
  have hu : Tryd.prog.underlying 22 = some (.slice (Tryd.prog.elem 22)) := by kernel_rfl
  refine ⟨if cap = m then b else b.map (·.add m), fun w' => ?_, ?_⟩
  · rw [run_sliceAt_slice w' _ _ _ _ _ hu, run_slice_l w' _ _ _ _ hu _ _ (by omega) (by omega), hsz]
    simp only [Result.andThen, sliced, Int.toNat_natCast, Nat.mul_one]
  · by_cases hc : cap = m
    · rw [if_pos hc, List.drop_eq_nil_of_le (by omega)]
      cases b with
      | none => rfl
      | some a => exact ⟨h.1, fun j hj => absurd hj (by simp)⟩
    · rw [if_neg hc]
      cases b with
      | none => have : l = [] := h; subst this; simp; rfl
      | some a =>
        obtain ⟨ab, ao, sp⟩ := a
        have h1 : sp = none := h.1
        subst h1
        rw [show (some (⟨ab, ao, none⟩ : Addr)).map (·.add m) = some ⟨ab, ao + m, none⟩ from by simp [Addr.add_lit]]
        refine ⟨rfl, fun j hj => ?_⟩
        rw [List.length_drop] at hj
        have := h.2 (m + j) (by omega)
        rw [List.getElem_drop]
        show w.cell? ⟨ab, ao + m + j, none⟩ = _
        rw [Nat.add_assoc]; exact this

theorem run_take {w : World} {b : Option Addr} {l : List UInt8} {cap : Nat} (h : Bytes w b l) (hcap : l.length ≤ cap) (m : Nat) (hm : m ≤ l.length) :
    ∃ b', (∀ w' : World, (Instr.sliceAt 22 (.slice b l.length cap) none (some (.int .i64 (m : Int))) none).run Tryd.prog w' = .ok (.slice b' m cap) w') ∧ Bytes w b' (l.take m) := by
  have hsz : ∀ w : World, (sizeOf (Tryd.prog.elem 22)).run Tryd.prog w = .ok 1 w := fun w => by kernel_rfl
  have hu : Tryd.prog.underlying 22 = some (.slice (Tryd.prog.elem 22)) := by kernel_rfl
  refine ⟨b, fun w' => ?_, ?_⟩
  · rw [run_sliceAt_slice w' _ _ _ _ _ hu, run_slice_h w' _ _ _ _ hu _ _ (by omega) (by omega), hsz]
    simp only [Result.andThen, sliced, Int.toNat_natCast, Nat.sub_zero]
    cases b with
    | none => simp
    | some a => by_cases h : cap = 0 <;> simp [h, Addr.add]
  · cases b with
    | none => have : l = [] := h; subst this; simp; rfl
    | some a =>
      refine ⟨h.1, fun j hj => ?_⟩
      rw [List.length_take] at hj
      rw [h.2 j (by omega), List.getElem_take]

theorem run_tailB {w : World} {b : Option Addr} {l : List UInt8} {cap : Nat} (h : Bt w b l cap) (m : Nat) (hm : m ≤ l.length) :
    ∃ b', (∀ w' : World, (Instr.sliceAt 22 (.slice b l.length cap) (some (.int .i64 (m : Int))) none none).run Tryd.prog w' = .ok (.slice b' (l.length - m) (cap - m)) w') ∧ Bt w b' (l.drop m) (cap - m) := by
  have hsz : ∀ w : World, (sizeOf (Tryd.prog.elem 22)).run Tryd.prog w = .ok 1 w := fun w => by kernel_rfl
  have hu : Tryd.prog.underlying 22 = some (.slice (Tryd.prog.elem 22)) := by kernel_rfl
  have hcap := h.hcap
  obtain ⟨b', h1, h2⟩ := run_tail h.bytes hcap m hm
  have hb' : b' = if cap = m then b else b.map (·.add m) := by
    have := h1 w
    rw [run_sliceAt_slice w _ _ _ _ _ hu, run_slice_l w _ _ _ _ hu _ _ (by omega) (by omega), hsz] at this
    simp only [Result.andThen, sliced, Int.toNat_natCast, Nat.mul_one] at this
    have := congrArg (fun r : Result Value => match r with | .ok (.slice b _ _) _ => b | _ => none) this
    exact this.symm
  refine ⟨b', h1, h2, by rw [List.length_drop]; omega, fun a ha => ?_, fun hn => ?_⟩
  · rw [hb'] at ha
    by_cases hc : cap = m
    · rw [if_pos hc] at ha; exact h.lt a ha
    · rw [if_neg hc] at ha
      obtain ⟨a0, h0, rfl⟩ := Option.map_eq_some_iff.1 ha
      have hsp : a0.spot = none := by have := h.bytes; rw [h0] at this; exact this.1
      have hl := h.lt a0 h0
      obtain ⟨ab, ao, sp⟩ := a0
      simp only at hsp
      subst hsp
      rw [Addr.add_lit]
      exact hl
  · rw [hb'] at hn
    by_cases hc : cap = m
    · omega
    · rw [if_neg hc] at hn
      have := h.nilc (by cases b with | none => rfl | some a => simp at hn)
      omega

end Go.Proofs.YthfncdfcklbigaaDoor

/-
  THE WALK OF the writer's 'body'.
-/
namespace Go.Proofs.YthfncdfcklbigaaDoor
open Go.RowKit Go.IntWalk Flate
set_option maxRecDepth 100000

def tokC0 : Tk → Nat
  | .lit c => c.toNat
  | .cpy _ _ => 0
def tokC1 : Tk → Nat
  | .lit _ => 0
  | .cpy f _ => f
def tokC2 : Tk → Nat
  | .lit _ => 0
  | .cpy _ m => m

/-- Tokens in memory. -/
structure Tks (w : World) (base : Option Addr) (l : List Tk) : Prop where
  cells : ∀ j (h : j < l.length), ∃ g, base = some ⟨g, 0, none⟩ ∧ w.cell? ⟨g, j * 3, none⟩ = some (natV (tokC0 l[j])) ∧ w.cell? ⟨g, j * 3 + 1, none⟩ = some (natV (tokC1 l[j])) ∧ w.cell? ⟨g, j * 3 + 2, none⟩ = some (natV (tokC2 l[j]))

/-- Rows of numbers stay beside a writer. -/
theorem Nt.keepW {w w' : World} {N0 W : Nat} {b : Option Addr} {l : List Nat} (h : Nt w b l) (hf : Frm (SWr w N0 W) w w') (hb : ∀ a, b = some a → a.block ≠ W) : Nt w' b l :=
  ⟨fun j hj => by obtain ⟨g, h1, h2⟩ := h.cells j hj; exact ⟨g, h1, hf.kept h2 (hb _ h1) (.inr (by simp))⟩⟩

theorem Tks.keepW {w w' : World} {N0 W : Nat} {b : Option Addr} {l : List Tk} (h : Tks w b l) (hf : Frm (SWr w N0 W) w w') (hb : ∀ a, b = some a → a.block ≠ W) : Tks w' b l :=
  ⟨fun j hj => by
    obtain ⟨g, h1, h2, h3, h4⟩ := h.cells j hj
    exact ⟨g, h1, hf.kept h2 (hb _ h1) (.inr (by simp)), hf.kept h3 (hb _ h1) (.inr (by simp)), hf.kept h4 (hb _ h1) (.inr (by simp))⟩⟩

theorem Wt.keep {S : Nat → Nat → Prop} {w w' : World} {N0 W : Nat} {L : List Bool} (h : Wt w N0 W L) (hf : Frm S w w') (hW : ∀ o, ¬ S W o) (hN : ∀ b o, N0 ≤ b → ¬ S b o) : Wt w' N0 W L := by
  obtain ⟨⟨v, h1, h2⟩, h3, h4⟩ := h
  exact ⟨⟨v, hf.keep h1 (hW 0), h2.keep hf (fun g o hg => hN g o (h2.lt g hg).1)⟩, hf.keep h3 (hW 1), fun o => (hf.froz W o (cell_lt h3)).trans (h4 o)⟩

/-- What a token asks of the codes. -/
def TokIn (ll dl : List Nat) : Tk → Prop
  | .lit c => ll.getD c.toNat 0 ≠ 0
  | .cpy f m => 1 ≤ f ∧ f ≤ 32768 ∧ 3 ≤ m ∧ m ≤ 258 ∧ ll.getD (lenSymbol m).1 0 ≠ 0 ∧ dl.getD (distSymbol f).1 0 ≠ 0

theorem TokIn.has {ll dl : List Nat} {t : Tk} (h : TokIn ll dl t) : t.has ll dl := by
  cases t with
  | lit c => exact h
  | cpy f m => exact h.2.2.2.2

theorem bits_len {ll dl : List Nat} (h1 : ∀ n ∈ ll, n ≤ 15) (h2 : ∀ n ∈ dl, n ≤ 15) {t : Tk} (h : TokIn ll dl t) : (t.bits ll dl).length ≤ 48 := by
  cases t with
  | lit c =>
    have := getD_le (i := c.toNat) h1
    simp only [Tk.bits, code_len]; omega
  | cpy f m =>
    obtain ⟨a, b, c, d, _⟩ := h
    have q1 := lenSymbol_ok c d
    have q2 := distSymbol_ok a b
    have := getD_le (i := (lenSymbol m).1) h1
    have := getD_le (i := (distSymbol f).1) h2
    simp only [Tk.bits, List.length_append, code_len, enc_len]; omega

theorem flat_len {ll dl : List Nat} (h1 : ∀ n ∈ ll, n ≤ 15) (h2 : ∀ n ∈ dl, n ≤ 15) : ∀ {l : List Tk}, (∀ t ∈ l, TokIn ll dl t) → (l.flatMap (Tk.bits ll dl)).length ≤ 48 * l.length
  | [], _ => by simp
  | t :: l, h => by
    have a := bits_len h1 h2 (h t (by simp))
    have b := flat_len h1 h2 (l := l) (fun t' ht' => h t' (by simp [ht']))
    rw [List.flatMap_cons, List.length_append, List.length_cons]; omega

/-- A row's number. -/
theorem Nt.get {w : World} {b : Option Addr} {l : List Nat} (h : Nt w b l) {j : Nat} (hj : j < l.length) : ∃ g, b = some ⟨g, 0, none⟩ ∧ w.cell? ⟨g, j, none⟩ = some (.int .i64 ((l.getD j 0 : Nat) : Int)) := by
  obtain ⟨g, h1, h2⟩ := h.cells j hj
  refine ⟨g, h1, ?_⟩
  rw [List.getD_eq_getElem?_getD, List.getElem?_eq_getElem hj]
  exact h2

def BoInv (w : World) (N0 W : Nat) (L : List Bool) (ll dl : List Nat) (toks : List Tk) (g : Nat) (i : Value) (wr : World) : Prop :=
  ∃ k : Nat, k ≤ toks.length ∧ g = toks.length - k ∧ i = .int .i64 (k : Int) ∧ Wt wr N0 W (L ++ (toks.take k).flatMap (Tk.bits ll dl)) ∧ Frm (SWr w N0 W) w wr

theorem take_flat {α : Type} (f : Tk → List α) {l : List Tk} {k : Nat} {t : Tk} (h : l[k]? = some t) : (l.take (k + 1)).flatMap f = (l.take k).flatMap f ++ f t := by
  rw [List.take_add_one, h, List.flatMap_append]
  simp

theorem Nt.getS {w : World} {b : Option Addr} {l : List Nat} (h : Nt w b l) {j : Nat} (hj : j < l.length) (x : Nat) (hx : x = l.getD j 0) : ∃ g, b = some ⟨g, 0, none⟩ ∧ w.cell? ⟨g, j, none⟩ = some (.int .i64 (x : Int)) := by
  rw [hx]; exact h.get hj

set_option maxHeartbeats 2000000 in
theorem body_any (w : World) (N0 W : Nat) (L : List Bool) (h : Wt w N0 W L) (hW : W < N0) (hN : N0 ≤ w.heap.size) (hL : L.length ≤ 8796093022208)
    (tb : Option Addr) (toks : List Tk) (tc : Nat) (ht : Tks w tb toks) (htW : ∀ a, tb = some a → a.block ≠ W) (htl : toks.length ≤ 4294967296)
    (lb : Option Addr) (ll : List Nat) (lc : Nat) (hll : Nt w lb ll) (hlW : ∀ a, lb = some a → a.block ≠ W) (hl15 : ∀ n ∈ ll, n ≤ 15) (hlen : 286 ≤ ll.length) (hlen' : ll.length ≤ 320)
    (db : Option Addr) (dl : List Nat) (dc : Nat) (hdl : Nt w db dl) (hdW : ∀ a, db = some a → a.block ≠ W) (hd15 : ∀ n ∈ dl, n ≤ 15) (hden : 30 ≤ dl.length) (hden' : dl.length ≤ 320)
    (hin : ∀ t ∈ toks, TokIn ll dl t) (h256 : ll.getD 256 0 ≠ 0) :
    Calls Tryd.prog 45 #[.pointer (some ⟨W, 0, none⟩), .slice tb toks.length tc, .slice lb ll.length lc, .slice db dl.length dc] w fun e w' => e = .returned (.tuple #[]) ∧ Wt w' N0 W (L ++ bodyBits ll dl toks) ∧ Frm (SWr w N0 W) w w' := by
  have HW := Lib.hid h
  have HA := Lib.hid (And.intro hW (And.intro hN (And.intro hL htl)))
  have HT := Lib.hid (And.intro ht (And.intro htW hin))
  have HLL := Lib.hid (And.intro hll (And.intro hlW (And.intro hl15 (And.intro hlen (And.intro hlen' h256)))))
  have HDL := Lib.hid (And.intro hdl (And.intro hdW (And.intro hd15 (And.intro hden hden'))))
  have hc1 := codes_any w lb ll lc hll hl15 hlen'
  obtain ⟨n, hn⟩ : ∃ n, n = toks.length := ⟨_, rfl⟩
  obtain ⟨nl, hnl⟩ : ∃ n, n = ll.length := ⟨_, rfl⟩
  obtain ⟨nd, hnd⟩ : ∃ n, n = dl.length := ⟨_, rfl⟩
  have c1 : (n : Int) ≤ 4294967296 := by omega
  have c2 : (nl : Int) ≤ 320 := by omega
  have c3 : (nd : Int) ≤ 320 := by omega
  have c4 : (286 : Int) ≤ (nl : Int) := by omega
  have c5 : (30 : Int) ≤ (nd : Int) := by omega
  rw [← hnl] at hc1
  rw [← hn, ← hnl, ← hnd]
  have HC1 := Lib.hid hc1
  have HN := Lib.hid (And.intro hn (And.intro hnl hnd))
  clear h hW hN hL ht htW htl hll hlW hl15 hlen hlen' hdl hdW hd15 hden hden' hin h256 hc1 hn hnl hnd
  go_enter Tryd.func45, Tryd.ntmps45
  go_wp2_with fail
  refine HC1.out.mono ?_
  rintro e w1 ⟨v1, lo, rfl, hlo, hlol, hloc, hlob, hf1⟩
  have hc2 := codes_any w1 db dl dc (HDL.out.1.keep hf1 (fun _ _ e => e.elim)) HDL.out.2.2.1 HDL.out.2.2.2.2
  rw [← HN.out.2.2] at hc2
  have HC2 := Lib.hid hc2
  have HF1 := Lib.hid (And.intro hf1 (And.intro hlo (And.intro hlol (And.intro hloc hlob))))
  clear hc2 hf1 hlo hlol hloc hlob HC1
  go_wp2_with fail
  refine HC2.out.mono ?_
  rintro e w2 ⟨v2, dco, rfl, hdo, hdol, hdoc, hdob, hf2⟩
  obtain ⟨hf1, hlo, hlol, hloc, hlob⟩ := HF1.out
  have hf12 : Frm (fun _ _ => False) w w2 := hf1.trans hf2
  have hlo2 := hlo.keep hf2 (fun _ _ _ e => e)
  obtain ⟨b1, cp1, hv1, _, hnt1⟩ := OwnN.nt hlo2
  obtain ⟨b2, cp2, hv2, _, hnt2⟩ := OwnN.nt hdo
  have hq1 : lo.length = nl := by rw [hlol]; exact HN.out.2.1.symm
  have hq2 : dco.length = nd := by rw [hdol]; exact HN.out.2.2.symm
  rw [hq1] at hv1
  rw [hq2] at hv2
  subst hv1 hv2
  have hb1W : ∀ a, b1 = some a → a.block ≠ W := fun a ha e => by
    subst ha
    have := (hlo2.lt a.block rfl).1
    have := HA.out.1; have := HA.out.2.1
    omega
  have hb2W : ∀ a, b2 = some a → a.block ≠ W := fun a ha e => by
    subst ha
    have := (hdo.lt a.block rfl).1
    have := hf1.size
    have := HA.out.1; have := HA.out.2.1
    omega
  have hw2 : Wt w2 N0 W L := HW.out.keep hf12 (fun _ e => e) (fun _ _ _ e => e)
  have HX := Lib.hid (And.intro hf12 (And.intro hnt1 (And.intro hnt2 (And.intro hb1W (And.intro hb2W (And.intro hw2 (And.intro hloc (And.intro hlob (And.intro hdoc (And.intro hdob (And.intro hq1 hq2)))))))))))
  clear hf1 hlo hlol hloc hlob hdo hdol hdoc hdob hf2 hf12 hlo2 hnt1 hnt2 hb1W hb2W hw2 hq1 hq2 HC2 HF1
  go_wp2_with fail
  go_loopg [21] (n - 0) (fun g i wr => BoInv w2 N0 W L ll dl toks g i wr)
  case atStart => exact ⟨0, Nat.zero_le _, by rw [HN.out.1], rfl, by rw [List.take_zero, List.flatMap_nil, List.append_nil]; exact HX.out.2.2.2.2.2.1, Frm.refl _ _⟩
  case round =>
    obtain ⟨k, hk, hg, rfl, hwr, hf⟩ := hrel
    by_cases hlt : k < n
    · have hkl : k < toks.length := by rw [← HN.out.1]; exact hlt
      obtain ⟨hf12, hnt1, hnt2, hb1W, hb2W, hw2, hloc, hlob, hdoc, hdob, hq1, hq2⟩ := HX.out
      have htk := (HT.out.1.keepW (frm_SWr_none (N0 := N0) (W := W) hf12) HT.out.2.1).keepW hf HT.out.2.1
      have hlr := (HLL.out.1.keepW (frm_SWr_none (N0 := N0) (W := W) hf12) HLL.out.2.1).keepW hf HLL.out.2.1
      have hdr := (HDL.out.1.keepW (frm_SWr_none (N0 := N0) (W := W) hf12) HDL.out.2.1).keepW hf HDL.out.2.1
      have hlor := hnt1.keepW hf hb1W
      have hdor := hnt2.keepW hf hb2W
      obtain ⟨g', htb, t0, t1, t2⟩ := htk.cells k hkl
      subst htb
      obtain ⟨t, htt⟩ : ∃ t, t = toks[k] := ⟨_, rfl⟩
      rw [← htt] at t0 t1 t2
      have hti : TokIn ll dl t := by rw [htt]; exact HT.out.2.2 _ (List.getElem_mem _)
      have hts : toks[k]? = some t := by rw [htt]; exact List.getElem?_eq_getElem hkl
      have hsz : N0 ≤ wr.heap.size := Nat.le_trans (Nat.le_trans HA.out.2.1 hf12.size) hf.size
      have hLk : (L ++ (toks.take k).flatMap (Tk.bits ll dl)).length ≤ 17592186044416 - 256 := by
        have := flat_len HLL.out.2.2.1 HDL.out.2.2.1 (l := toks.take k) (fun t ht => HT.out.2.2 t (List.mem_of_mem_take ht))
        rw [List.length_take] at this
        rw [List.length_append]
        have := HA.out.2.2
        omega
      have HR := Lib.hid (And.intro hk (And.intro hg (And.intro hwr (And.intro hf (And.intro hts (And.intro hti (And.intro hsz hLk)))))))
      have HRW := Lib.hid (And.intro hlr (And.intro hdr (And.intro hlor hdor)))
      clear hts hk hg hwr hf hkl htt hti htk hf12 hnt1 hnt2 hb1W hb2W hw2 hloc hlob hdoc hdob hq1 hq2 hsz hLk hlr hdr hlor hdor
      cases t with
      | lit c =>
        obtain ⟨cn, hcn⟩ : ∃ cn, cn = c.toNat := ⟨_, rfl⟩
        have u0 : wr.cell? ⟨g', k * 3, none⟩ = some (.int .i64 (cn : Int)) := by rw [hcn]; exact t0
        have u1 : wr.cell? ⟨g', k * 3 + 1, none⟩ = some (.int .i64 0) := t1
        have u2 : wr.cell? ⟨g', k * 3 + 2, none⟩ = some (.int .i64 0) := t2
        have hcl := c.toNat_lt
        have d1 : cn < nl := by omega
        have d2 : (cn : Int) < (nl : Int) := by omega
        obtain ⟨x, hx⟩ : ∃ x, x = ll.getD cn 0 := ⟨_, rfl⟩
        obtain ⟨y, hy⟩ : ∃ y, y = lo.getD cn 0 := ⟨_, rfl⟩
        obtain ⟨W3, hW3⟩ : ∃ W3, W3 = wr.alloc (.cells #[.int .i64 (cn : Int), .int .i64 0, .int .i64 0] 89) := ⟨_, rfl⟩
        have hf3 : Frm (fun _ _ => False) wr W3 := by rw [hW3]; exact (Frm.refl _ _).alloc _
        obtain ⟨g1, hb1, r1⟩ := (HRW.out.1.keep hf3 (fun _ _ e => e.elim)).getS (show cn < ll.length by rw [← HN.out.2.1]; exact d1) x hx
        obtain ⟨g2, hb2, r2⟩ := (HRW.out.2.2.1.keep hf3 (fun _ _ e => e.elim)).getS (show cn < lo.length by have := HX.out.2.2.2.2.2.2.2.2.2.2.1; omega) y hy
        subst hb1 hb2
        have r0 : W3.cell? ⟨wr.heap.size, 0, none⟩ = some (.int .i64 (cn : Int)) := by rw [hW3]; exact (cells_at (heap_alloc_new wr _)).trans rfl
        have hcd := code_any W3.drew N0 W (L ++ (toks.take k).flatMap (Tk.bits ll dl)) (HR.out.2.2.1.keep (hf3.drew) (fun _ e => e) (fun _ _ _ e => e)) HA.out.1 (Nat.le_trans HR.out.2.2.2.2.2.2.1 hf3.size) y x (by rw [hx]; have := getD_le (i := cn) HLL.out.2.2.1; omega) (by have := HR.out.2.2.2.2.2.2.2; omega) (by rw [hy]; have := HX.out.2.2.2.2.2.2.2.1 cn; omega)
        have HCD := Lib.hid hcd
        have HC := Lib.hid (And.intro hcn (And.intro hx (And.intro hy (And.intro hf3 hW3))))
        clear t0 t1 t2 hcd hcn hx hy hcl hf3
        go_upto_region 5 with (fail)
        rw [← hW3]
        clear hW3
        (refine region_tail 11 (by kernel_rfl) (by kernel_rfl) ?_; simp only [List.take_succ_cons, List.take_zero, List.drop_succ_cons, List.drop_zero]; (repeat still_step); refine wpStill_nil ?_)
        go_wp2_with fail
        refine HCD.out.mono ?_
        rintro e w4 ⟨rfl, hw4, hf4⟩
        have H4 := Lib.hid (And.intro hw4 hf4)
        clear hw4 hf4
        go_wp2_with fail
        go_roundg (n - (k + 1))
        case measure => have := HR.out.2.1; have := HN.out.1; omega
        case rel =>
          obtain ⟨hk, hg, hwr, hf, hts, hti, hsz, hLk⟩ := HR.out
          obtain ⟨hcn, hx, hy, hf3, hW3⟩ := HC.out
          have hkl : k < toks.length := by rw [← HN.out.1]; exact hlt
          refine ⟨k + 1, hkl, by rw [HN.out.1], by go_num, ?_, frm_SWr_trans hf (frm_SWr_trans (frm_SWr_none hf3.drew) H4.out.2)⟩
          have h4 := H4.out.1
          have hyc : y = codeOf ll cn := by rw [hy]; exact HX.out.2.2.2.2.2.2.1 cn (by rw [hcn]; exact hti)
          rw [take_flat _ hts, ← List.append_assoc]
          rw [hyc, hx, hcn] at h4
          exact h4
      | cpy f m =>
        have u0 : wr.cell? ⟨g', k * 3, none⟩ = some (.int .i64 0) := t0
        have u1 : wr.cell? ⟨g', k * 3 + 1, none⟩ = some (.int .i64 (f : Int)) := t1
        have u2 : wr.cell? ⟨g', k * 3 + 2, none⟩ = some (.int .i64 (m : Int)) := t2
        obtain ⟨f1, f2, m1, m2, hz1, hz2⟩ := HR.out.2.2.2.2.2.1
        have d0 : ((f : Int) == 0) = false := by simp; omega
        have hl1 := fun W => lengthSymbol_any W m m1 m2
        have hl2 := fun W => distanceSymbol_any W f f1 f2
        obtain ⟨k1, k2, k3, k4, _, _, _⟩ := lenSymbol_ok m1 m2
        obtain ⟨k5, k6, k7, _, _, _⟩ := distSymbol_ok f1 f2
        have hpw1 := pow_le_Int (P := 2 ^ (lenSymbol m).2.2) rfl k4
        have hpw2 := pow_le_Int (P := 2 ^ (distSymbol f).2.2) rfl k7
        obtain ⟨s1, hs1⟩ : ∃ s, s = (lenSymbol m).1 := ⟨_, rfl⟩
        obtain ⟨o1, ho1⟩ : ∃ s, s = (lenSymbol m).2.1 := ⟨_, rfl⟩
        obtain ⟨e1, he1⟩ : ∃ s, s = (lenSymbol m).2.2 := ⟨_, rfl⟩
        obtain ⟨s2, hs2⟩ : ∃ s, s = (distSymbol f).1 := ⟨_, rfl⟩
        obtain ⟨o2, ho2⟩ : ∃ s, s = (distSymbol f).2.1 := ⟨_, rfl⟩
        obtain ⟨e2, he2⟩ : ∃ s, s = (distSymbol f).2.2 := ⟨_, rfl⟩
        rw [← hs1, ← ho1, ← he1] at hl1
        rw [← hs2, ← ho2, ← he2] at hl2
        rw [← hs1] at hz1 k1 k2
        rw [← hs2] at hz2 k5
        rw [← ho1] at k3
        rw [← ho2] at k6
        rw [← he1] at k3 k4 hpw1
        rw [← he2] at k6 k7 hpw2
        have d1 : s1 < nl := by omega
        have d2 : s2 < nd := by omega
        obtain ⟨x1, hx1⟩ : ∃ x, x = ll.getD s1 0 := ⟨_, rfl⟩
        obtain ⟨y1, hy1⟩ : ∃ y, y = lo.getD s1 0 := ⟨_, rfl⟩
        obtain ⟨x2, hx2⟩ : ∃ x, x = dl.getD s2 0 := ⟨_, rfl⟩
        obtain ⟨y2, hy2⟩ : ∃ y, y = dco.getD s2 0 := ⟨_, rfl⟩
        obtain ⟨W3, hW3⟩ : ∃ W3, W3 = wr.alloc (.cells #[.int .i64 0, .int .i64 (f : Int), .int .i64 (m : Int)] 89) := ⟨_, rfl⟩
        have hf3 : Frm (fun _ _ => False) wr W3 := by rw [hW3]; exact (Frm.refl _ _).alloc _
        obtain ⟨g1, hb1, r1⟩ := (HRW.out.1.keep hf3 (fun _ _ e => e.elim)).getS (show s1 < ll.length by rw [← HN.out.2.1]; exact d1) x1 hx1
        obtain ⟨g2, hb2, r2⟩ := (HRW.out.2.2.1.keep hf3 (fun _ _ e => e.elim)).getS (show s1 < lo.length by have := HX.out.2.2.2.2.2.2.2.2.2.2.1; omega) y1 hy1
        obtain ⟨g3, hb3, r3⟩ := (HRW.out.2.1.keep hf3 (fun _ _ e => e.elim)).getS (show s2 < dl.length by rw [← HN.out.2.2]; exact d2) x2 hx2
        obtain ⟨g4, hb4, r4⟩ := (HRW.out.2.2.2.keep hf3 (fun _ _ e => e.elim)).getS (show s2 < dco.length by have := HX.out.2.2.2.2.2.2.2.2.2.2.2; omega) y2 hy2
        subst hb1 hb2 hb3 hb4
        obtain ⟨B, hB⟩ : ∃ B, B = wr.heap.size := ⟨_, rfl⟩
        have v0 : W3.cell? ⟨B, 1, none⟩ = some (.int .i64 (f : Int)) := by rw [hW3, hB]; exact (cells_at (heap_alloc_new wr _)).trans rfl
        have v1 : W3.cell? ⟨B, 2, none⟩ = some (.int .i64 (m : Int)) := by rw [hW3, hB]; exact (cells_at (heap_alloc_new wr _)).trans rfl
        have hBW : B ≠ W := by have := HR.out.2.2.2.2.2.2.1; have := HA.out.1; omega
        have hcd := code_any W3.drew N0 W (L ++ (toks.take k).flatMap (Tk.bits ll dl)) (HR.out.2.2.1.keep (hf3.drew) (fun _ e => e) (fun _ _ _ e => e)) HA.out.1 (Nat.le_trans HR.out.2.2.2.2.2.2.1 hf3.size) y1 x1 (by rw [hx1]; have := getD_le (i := s1) HLL.out.2.2.1; omega) (by have := HR.out.2.2.2.2.2.2.2; omega) (by rw [hy1]; have := HX.out.2.2.2.2.2.2.2.1 s1; omega)
        have HCD := Lib.hid hcd
        have HL1 := Lib.hid (hl1 W3)
        have HL2 := Lib.hid hl2
        have hx15 : x1 ≤ 15 := by rw [hx1]; exact getD_le HLL.out.2.2.1
        have HC := Lib.hid (And.intro hx1 (And.intro hy1 (And.intro hx2 (And.intro hy2 (And.intro hf3 (And.intro hW3 (And.intro hB (And.intro hx15 (And.intro k4 (And.intro k7 (And.intro hpw1 (And.intro hpw2 (And.intro k3 (And.intro k6 (And.intro hs1 (And.intro ho1 (And.intro he1 (And.intro hs2 (And.intro ho2 (And.intro he2 (And.intro hz1 (And.intro hz2 (And.intro hf3.size hBW)))))))))))))))))))))))
        clear t0 t1 t2 hcd hf3 f1 f2 m1 m2 hl1 hl2 hx1 hy1 hx2 hy2 hx15 k1 k2 k3 k4 k5 k6 k7 hpw1 hpw2 hs1 ho1 he1 hs2 ho2 he2 hz1 hz2 hBW
        go_upto_region 6 with (fail)
        rw [← hW3, ← hB]
        clear hW3 hB
        go_wp2_with fail
        refine HL1.out.mono ?_
        rintro e w4 ⟨rfl, rfl⟩
        go_upto_region 7 with (fail)
        (refine region_tail 9 (by kernel_rfl) (by kernel_rfl) ?_; simp only [List.take_succ_cons, List.take_zero, List.drop_succ_cons, List.drop_zero]; (repeat still_step); refine wpStill_nil ?_)
        go_wp2_with fail
        refine HCD.out.mono ?_
        rintro e w4 ⟨rfl, hw4, hf4⟩
        obtain ⟨hk, hg, hwr, hf, hts, hti, hsz, hLk⟩ := HR.out
        obtain ⟨hx1, hy1, hx2, hy2, hf3, hW3, hB, hx15, k4, k7, hpw1, hpw2, k3, k6, hs1, ho1, he1, hs2, ho2, he2, hz1, hz2, hsz3, hBW⟩ := HC.out
        have hs4 : N0 ≤ w4.heap.size := Nat.le_trans (Nat.le_trans hsz hsz3) hf4.size
        have hb1 := bits_any w4 N0 W _ hw4 HA.out.1 hs4 o1 e1 (by omega) (by rw [List.length_append, encC_len]; omega) (by omega)
        have v04 : w4.cell? ⟨B, 1, none⟩ = some (.int .i64 (f : Int)) := hf4.kept (w := W3.drew) v0 hBW (.inr (by simp))
        have r34 : w4.cell? ⟨g3, s2, none⟩ = some (.int .i64 (x2 : Int)) := hf4.kept (w := W3.drew) r3 (HDL.out.2.1 _ rfl) (.inr (by simp))
        have r44 : w4.cell? ⟨g4, s2, none⟩ = some (.int .i64 (y2 : Int)) := hf4.kept (w := W3.drew) r4 (HX.out.2.2.2.2.1 _ rfl) (.inr (by simp))
        have HB1 := Lib.hid hb1
        have H4 := Lib.hid (And.intro hw4 (And.intro hf4 (And.intro v04 (And.intro r34 (And.intro r44 hs4)))))
        clear hk hg hwr hf hts hti hsz hLk hx1 hy1 hx2 hy2 hf3 hW3 hB hx15 k4 k7 hpw1 hpw2 k3 k6 hs1 ho1 he1 hs2 ho2 he2 hz1 hz2 hsz3 hBW hs4 hb1 v04 r34 r44 hw4 hf4 r1 r2 r3 r4 v0 v1
        go_wp2_with fail
        refine HB1.out.mono ?_
        rintro e w5 ⟨rfl, hw5, hf5⟩
        obtain ⟨hw4, hf4, v04, r34, r44, hs4⟩ := H4.out
        have hBW := HC.out.2.2.2.2.2.2.2.2.2.2.2.2.2.2.2.2.2.2.2.2.2.2.2
        have v0 : w5.cell? ⟨B, 1, none⟩ = some (.int .i64 (f : Int)) := hf5.kept v04 hBW (.inr (by simp))
        have r3 : w5.cell? ⟨g3, s2, none⟩ = some (.int .i64 (x2 : Int)) := hf5.kept r34 (HDL.out.2.1 _ rfl) (.inr (by simp))
        have r4 : w5.cell? ⟨g4, s2, none⟩ = some (.int .i64 (y2 : Int)) := hf5.kept r44 (HX.out.2.2.2.2.1 _ rfl) (.inr (by simp))
        have hs5 : N0 ≤ w5.heap.size := Nat.le_trans hs4 hf5.size
        have hw5d : Wt w5.drew N0 W _ := hw5.keep (S := fun _ _ => False) ((Frm.refl _ _).drew) (fun _ e => e) (fun _ _ _ e => e)
        have hcd := code_any w5.drew N0 W _ hw5d HA.out.1 hs5 y2 x2 (by rw [HC.out.2.2.1]; have := getD_le (i := s2) HDL.out.2.2.1; omega) (by rw [List.length_append, List.length_append, encC_len, enc_len]; have := HR.out.2.2.2.2.2.2.2; have := HC.out.2.2.2.2.2.2.2.1; have := HC.out.2.2.2.2.2.2.2.2.1; omega) (by rw [HC.out.2.2.2.1]; have := HX.out.2.2.2.2.2.2.2.2.2.1 s2; omega)
        have HCD2 := Lib.hid hcd
        have H5 := Lib.hid (And.intro hw5 (And.intro hf5 hs5))
        clear hw4 hf4 v04 r34 r44 hs4 hBW hs5 hw5d hcd hw5 hf5
        go_wp2_with fail
        refine (HL2.out w5).mono ?_
        rintro e w6 ⟨rfl, rfl⟩
        go_upto_region 10 with (fail)
        (refine region_tail 9 (by kernel_rfl) (by kernel_rfl) ?_; simp only [List.take_succ_cons, List.take_zero, List.drop_succ_cons, List.drop_zero]; (repeat still_step); refine wpStill_nil ?_)
        go_wp2_with fail
        refine HCD2.out.mono ?_
        rintro e w6 ⟨rfl, hw6, hf6⟩
        obtain ⟨hw5, hf5, hs5⟩ := H5.out
        have hs6 : N0 ≤ w6.heap.size := Nat.le_trans hs5 hf6.size
        have hb2 := bits_any w6 N0 W _ hw6 HA.out.1 hs6 o2 e2 (by have := HC.out.2.2.2.2.2.2.2.2.2.1; omega) (by rw [List.length_append, List.length_append, List.length_append, encC_len, enc_len, encC_len]; have := HR.out.2.2.2.2.2.2.2; have := HC.out.2.2.2.2.2.2.2.1; have := HC.out.2.2.2.2.2.2.2.2.1; have := getD_le (i := s2) HDL.out.2.2.1; have := HC.out.2.2.1; omega) (by have := HC.out.2.2.2.2.2.2.2.2.2.2.2.2.2.1; have := HC.out.2.2.2.2.2.2.2.2.2.2.2.1; omega)
        have HB2 := Lib.hid hb2
        have H6 := Lib.hid (And.intro hw6 hf6)
        clear hw5 hf5 hs5 hs6 hb2 hw6 hf6 v0 r3 r4
        go_wp2_with fail
        refine HB2.out.mono ?_
        rintro e w7 ⟨rfl, hw7, hf7⟩
        have H7 := Lib.hid (And.intro hw7 hf7)
        clear hw7 hf7
        go_wp2_with fail
        go_roundg (n - (k + 1))
        case measure => have := HR.out.2.1; have := HN.out.1; omega
        case rel =>
          obtain ⟨hk, hg, hwr, hf, hts, hti, hsz, hLk⟩ := HR.out
          obtain ⟨hx1, hy1, hx2, hy2, hf3, hW3, hB, hx15, k4, k7, hpw1, hpw2, k3, k6, hs1, ho1, he1, hs2, ho2, he2, hz1, hz2, hsz3, hBW⟩ := HC.out
          obtain ⟨hw4, hf4, v04, r34, r44, hs4⟩ := H4.out
          obtain ⟨hw5, hf5, hs5⟩ := H5.out
          obtain ⟨hw6, hf6⟩ := H6.out
          obtain ⟨hw7, hf7⟩ := H7.out
          have hkl : k < toks.length := by rw [← HN.out.1]; exact hlt
          have hfa : Frm (SWr wr N0 W) wr w7 := frm_SWr_trans (frm_SWr_none hf3.drew) (frm_SWr_trans hf4 (frm_SWr_trans hf5 (frm_SWr_trans (frm_SWr_none ((Frm.refl _ _).drew)) (frm_SWr_trans hf6 hf7))))
          refine ⟨k + 1, hkl, by rw [HN.out.1], by go_num, ?_, frm_SWr_trans hf hfa⟩
          have hyc : y1 = codeOf ll s1 := by rw [hy1]; exact HX.out.2.2.2.2.2.2.1 s1 hz1
          have hyc2 : y2 = codeOf dl s2 := by rw [hy2]; exact HX.out.2.2.2.2.2.2.2.2.1 s2 hz2
          have e : (L ++ (toks.take (k + 1)).flatMap (Tk.bits ll dl)) = L ++ (toks.take k).flatMap (Tk.bits ll dl) ++ encC y1 x1 ++ enc o1 e1 ++ encC y2 x2 ++ enc o2 e2 := by
            rw [take_flat _ hts]
            simp only [Tk.bits, code, ← hs1, ← ho1, ← he1, ← hs2, ← ho2, ← he2, ← hx1, ← hx2, ← hyc, ← hyc2, List.append_assoc]
          rw [e]
          exact hw7
    · obtain rfl : k = n := by have := HN.out.1; omega
      obtain ⟨hf12, hnt1, hnt2, hb1W, hb2W, hw2, hloc, hlob, hdoc, hdob, hq1, hq2⟩ := HX.out
      have hlr := (HLL.out.1.keepW (frm_SWr_none (N0 := N0) (W := W) hf12) HLL.out.2.1).keepW hf HLL.out.2.1
      have hlor := hnt1.keepW hf hb1W
      have hkn := HN.out.1
      have hnl := HN.out.2.1
      obtain ⟨x, hx⟩ : ∃ x, x = ll.getD 256 0 := ⟨_, rfl⟩
      obtain ⟨y, hy⟩ : ∃ y, y = lo.getD 256 0 := ⟨_, rfl⟩
      obtain ⟨g1, hb1, r1⟩ := hlr.getS (show 256 < ll.length by omega) x hx
      obtain ⟨g2, hb2, r2⟩ := hlor.getS (show 256 < lo.length by omega) y hy
      subst hb1 hb2
      have hLk : (L ++ (toks.take k).flatMap (Tk.bits ll dl)).length ≤ 17592186044416 - 256 := by
        have := flat_len HLL.out.2.2.1 HDL.out.2.2.1 (l := toks.take k) (fun t ht => HT.out.2.2 t (List.mem_of_mem_take ht))
        rw [List.length_take] at this
        rw [List.length_append]
        have := HA.out.2.2
        omega
      have d2 : (256 : Int) < (nl : Int) := by omega
      have hcd := code_any wr.drew N0 W _ (hwr.keep (S := fun _ _ => False) ((Frm.refl _ _).drew) (fun _ e => e) (fun _ _ _ e => e)) HA.out.1 (Nat.le_trans (Nat.le_trans HA.out.2.1 hf12.size) hf.size) y x (by rw [hx]; have := getD_le (i := 256) HLL.out.2.2.1; omega) (by omega) (by rw [hy]; have := hlob 256; omega)
      have hyc : y = codeOf ll 256 := by rw [hy]; exact hloc 256 HLL.out.2.2.2.2.2
      have hall : L ++ (toks.take k).flatMap (Tk.bits ll dl) ++ encC y x = L ++ bodyBits ll dl toks := by
        unfold bodyBits code
        rw [hkn, List.take_length, hyc, hx, List.append_assoc]
      rw [hall] at hcd
      have HCD := Lib.hid hcd
      have HR := Lib.hid (And.intro hf hf12)
      clear hf12 hnt1 hnt2 hb1W hb2W hw2 hloc hlob hdoc hdob hq1 hq2 hlr hlor hkn hnl hx hy hLk hcd hyc hall hg hk hwr hf hlt
      have hd : decide (k < k) = false := by simp
      go_upto_region 13 with (fail)
      (refine region_tail 7 (by kernel_rfl) (by kernel_rfl) ?_; simp only [List.take_succ_cons, List.take_zero, List.drop_succ_cons, List.drop_zero]; (repeat still_step); refine wpStill_nil ?_)
      go_wp2_with fail
      refine HCD.out.mono ?_
      rintro e w4 ⟨rfl, hw4, hf4⟩
      have H4 := Lib.hid (And.intro hw4 hf4)
      clear hw4 hf4
      go_wp2_with fail
      exact bodyPost_end (results_none rfl _ _ _) rfl ⟨rfl, H4.out.1, frm_SWr_trans (frm_SWr_none HR.out.2) (frm_SWr_trans HR.out.1 (frm_SWr_trans (frm_SWr_none ((Frm.refl _ _).drew)) H4.out.2))⟩

end Go.Proofs.YthfncdfcklbigaaDoor

/-
  PLAIN LEAN: the head of a block with codes of its own, read as RFC 1951 says; the reader of blocks answers alike.
-/
namespace Flate

/-- What the table of lengths is, by their fullness. -/
theorem initTab_full {lens : List Nat} (h15 : ∀ n ∈ lens, n ≤ 15) (hlen : lens.length ≤ 320) (hF : Full lens) : ∃ T, initTab lens = some (some T) := by
  obtain ⟨c, hcc⟩ : ∃ c, c = cntAll lens := ⟨_, rfl⟩
  by_cases h0 : c.max = 0
  · exact ⟨_, initTab_empty hcc h0⟩
  obtain ⟨x, nx, hn⟩ : ∃ x nx, nextAll c = (x, nx) := ⟨_, _, rfl⟩
  have hx := nextAll_fst h15 (hcc ▸ h0) (hcc ▸ hn)
  have hok : ¬ (x ≠ 2 ^ c.max ∧ ¬ (x = 1 ∧ c.max = 1)) := by
    rintro ⟨q1, q2⟩
    rw [← hcc] at hx
    rcases hF with h | h | ⟨h, h'⟩
    · exact h0 (by rw [hcc]; exact h)
    · exact q1 (by rw [hx, hcc]; exact h)
    · rw [← hcc] at h h'
      exact q2 ⟨by rw [hx, h]; exact h', h⟩
  obtain ⟨_, b, _, hb2⟩ := initTab_go hcc h0 hn (by simp only [Bool.false_eq, decide_eq_false_iff_not]; exact hok) (initTab_law h15 hlen).1
  exact ⟨_, hb2⟩

theorem initTab_notFull {lens : List Nat} (h15 : ∀ n ∈ lens, n ≤ 15) (hlen : lens.length ≤ 320) (hF : ¬ Full lens) : initTab lens = some none := by
  have h1 := (initTab_law h15 hlen).1
  cases h : initTab lens with
  | none => exact absurd h h1
  | some o =>
    cases o with
    | none => rfl
    | some T => exact absurd (initTab_code h15 h).2 hF

theorem initTab_minL {lens : List Nat} (h15 : ∀ n ∈ lens, n ≤ 15) {T : Tab} (h : initTab lens = some (some T)) : ((cntAll lens).max = 1 → 1 ≤ T.min) ∧ ∀ s, s < lens.length → lens.getD s 0 ≠ 0 → T.min ≤ lens.getD s 0 := by
  have hm := initTab_minEq h
  have hc := cnt_facts lens
  by_cases h0 : (cntAll lens).max = 0
  · rw [if_pos h0] at hm
    exact ⟨fun e => by omega, fun s _ hs => absurd (zero_lens h0 s) hs⟩
  · rw [if_neg h0] at hm
    have hmem : (cntAll lens).max ∈ lens := hc.mem.resolve_left h0
    have := hc.min _ hmem h0
    refine ⟨fun _ => by omega, fun s hs hn => ?_⟩
    have hin : lens.getD s 0 ∈ lens := by
      rw [List.getD_eq_getElem?_getD, List.getElem?_eq_getElem hs]; exact List.getElem_mem hs
    have := (hc.min _ hin hn).2
    omega

/-- A symbol more of the lengths. -/
noncomputable def spLen (src : List UInt8) (cl : List Nat) (n : Nat) (acc : List Nat) (a : Nat) : Option (List Nat × Nat) :=
  match symS cl src a with
  | none => none
  | some x =>
    if x < 16 then some (acc ++ [x], a + cl.getD x 0)
    else if x = 16 ∧ acc.length = 0 then none
    else if 8 * src.length < a + cl.getD x 0 + (repOf x acc).2.1 then none
    else if n < acc.length + ((repOf x acc).1 + bv src (a + cl.getD x 0) (repOf x acc).2.1) then none
    else some (acc ++ List.replicate ((repOf x acc).1 + bv src (a + cl.getD x 0) (repOf x acc).2.1) (repOf x acc).2.2, a + cl.getD x 0 + (repOf x acc).2.1)

/-- The lengths, n of them. -/
noncomputable def spLens (src : List UInt8) (cl : List Nat) (n : Nat) : Nat → List Nat → Nat → Option (List Nat × Nat)
  | 0, acc, a => some (acc, a)
  | f + 1, acc, a =>
    if n ≤ acc.length then some (acc, a)
    else match spLen src cl n acc a with
      | none => none
      | some (acc', a') => spLens src cl n f acc' a'

open Classical in
/-- The codes of a block that has its own. -/
noncomputable def spDyn (src : List UInt8) (a : Nat) : Option ((List Nat × List Nat) × Nat) :=
  if 8 * src.length < a + 14 then none
  else if 29 < bv src a 5 then none
  else if 29 < bv src (a + 5) 5 then none
  else if 8 * src.length < a + 14 + 3 * (bv src (a + 10) 4 + 4) then none
  else if ¬ Full (clens ((List.range (bv src (a + 10) 4 + 4)).map fun i => bv src (a + 14 + 3 * i) 3)) then none
  else match spLens src (clens ((List.range (bv src (a + 10) 4 + 4)).map fun i => bv src (a + 14 + 3 * i) 3)) (bv src a 5 + 257 + (bv src (a + 5) 5 + 1)) 400 [] (a + 14 + 3 * (bv src (a + 10) 4 + 4)) with
    | none => none
    | some (ls, a') => if Full (ls.take (bv src a 5 + 257)) ∧ Full (ls.drop (bv src a 5 + 257)) then some ((ls.take (bv src a 5 + 257), ls.drop (bv src a 5 + 257)), a') else none

/-- A reader's answer and what RFC 1951 says. -/
def Alike {α β : Type} (src : List UInt8) (R : α → β → Prop) : Rd α → Option (β × Nat) → Prop
  | .ok x r, some (y, a) => R x y ∧ r.at_ = a ∧ r.ok src ∧ r.nb ≤ 7
  | .bad e _, none => e ≠ .eof
  | _, _ => False

theorem lenStep_alike {src : List UInt8} {TC : Tab} {cl acc : List Nat} {n : Nat} (hL : TabLaw cl TC) (hF : Full cl) (hok : TC.OK) (hm : ((cntAll cl).max = 1 → 1 ≤ TC.min) ∧ ∀ s, s < cl.length → cl.getD s 0 ≠ 0 → TC.min ≤ cl.getD s 0) {r : Br} (hr : r.ok src) (hnb : r.nb ≤ 7) :
    Alike src Eq (lenStep src TC n acc r) (spLen src cl n acc r.at_) := by
  unfold lenStep spLen
  cases hs : symS cl src r.at_ with
  | none =>
    have hn := symS_none.1 hs
    cases hy : symbol src TC r with
    | bad e r' => exact sym_bad' 20 hy
    | ok x r1 => exact absurd (symbol_at hL hr hy).1 (hn x)
  | some x =>
    have hx := (symS_iff hL.kraft).1 hs
    obtain ⟨r1, g1, g2, g3, g4⟩ := symbol_of hL hF hx hr (by have := hm.2 x hx.1.2.1 hx.1.1; have := hx.2; omega) hm.1
    have hx15 := (hL.kraft.getD hx.1.2.1).2
    have hmin := hok.min
    have hnb1 : r1.nb ≤ 7 := by have := hm.2 x hx.1.2.1 hx.1.1; omega
    rw [g1]
    simp only
    rw [← g2]
    by_cases h16 : x < 16
    · rw [if_pos h16, if_pos h16]
      exact ⟨rfl, rfl, g3, hnb1⟩
    · rw [if_neg h16, if_neg h16]
      by_cases h0 : x = 16 ∧ acc.length = 0
      · rw [if_pos h0, if_pos h0]; simp [Alike]
      · rw [if_neg h0, if_neg h0]
        by_cases hl : 8 * src.length < r1.at_ + (repOf x acc).2.1
        · rw [if_pos hl]
          cases hg : getBits src (repOf x acc).2.1 r1 with
          | ok y r2 => exact absurd (getBits_ok g3 hg).1 (by omega)
          | bad e r2 => simp only [Alike]; rw [getBits_bad hg]; simp
        · rw [if_neg hl]
          obtain ⟨r2, k1, k2, k3, k4⟩ := getBits_at (n := (repOf x acc).2.1) g3 (by omega)
          rw [k1]
          simp only
          split
          · simp [Alike]
          · exact ⟨rfl, k2, k3, by omega⟩

theorem lenRead_alike {src : List UInt8} {TC : Tab} {cl : List Nat} {n : Nat} (hL : TabLaw cl TC) (hF : Full cl) (hok : TC.OK) (hm : ((cntAll cl).max = 1 → 1 ≤ TC.min) ∧ ∀ s, s < cl.length → cl.getD s 0 ≠ 0 → TC.min ≤ cl.getD s 0) (f : Nat) :
    ∀ {acc : List Nat} {r : Br}, r.ok src → r.nb ≤ 7 → Alike src Eq (lenRead src TC n f acc r) (spLens src cl n f acc r.at_) := by
  induction f with
  | zero => intro acc r hr hnb; exact ⟨rfl, rfl, hr, hnb⟩
  | succ f ih =>
    intro acc r hr hnb
    rw [lenRead, spLens]
    split
    · exact ⟨rfl, rfl, hr, hnb⟩
    · have h := lenStep_alike (n := n) (acc := acc) hL hF hok hm hr hnb
      cases h1 : lenStep src TC n acc r with
      | bad e r' =>
        rw [h1] at h
        cases h2 : spLen src cl n acc r.at_ with
        | none => rw [h2] at h; exact h
        | some p => rw [h2] at h; exact h.elim
      | ok acc' r' =>
        rw [h1] at h
        cases h2 : spLen src cl n acc r.at_ with
        | none => rw [h2] at h; exact h.elim
        | some p =>
          obtain ⟨acc2, a2⟩ := p
          rw [h2] at h
          obtain ⟨rfl, rfl, k3, k4⟩ := h
          exact ih k3 k4

theorem clRead_alike {src : List UInt8} (k : Nat) : ∀ {acc : List Nat} {r : Br}, r.ok src → r.nb ≤ 7 →
    Alike src Eq (clRead src k acc r) (if 8 * src.length < r.at_ + 3 * k then none else some (acc ++ (List.range k).map fun i => bv src (r.at_ + 3 * i) 3, r.at_ + 3 * k)) := by
  induction k with
  | zero =>
    intro acc r hr hnb
    rw [if_neg (by have := hr.1; have := hr.2; unfold Br.nb at hnb; omega)]
    exact ⟨by simp, rfl, hr, hnb⟩
  | succ k ih =>
    intro acc r hr hnb
    rw [clRead]
    by_cases hl : 8 * src.length < r.at_ + 3
    · rw [if_pos (by omega)]
      cases hg : getBits src 3 r with
      | ok y r2 => exact absurd (getBits_ok hr hg).1 (by omega)
      | bad e r2 => simp only [Alike]; rw [getBits_bad hg]; simp
    · obtain ⟨r2, k1, k2, k3, k4⟩ := getBits_at (n := 3) hr (by omega)
      rw [k1]
      simp only
      have := ih (acc := acc ++ [bv src r.at_ 3]) k3 (by omega)
      rw [k2] at this
      have e1 : r.at_ + 3 + 3 * k = r.at_ + 3 * (k + 1) := by omega
      rw [e1] at this
      have e2 : (acc ++ [bv src r.at_ 3]) ++ (List.range k).map (fun i => bv src (r.at_ + 3 + 3 * i) 3) = acc ++ (List.range (k + 1)).map fun i => bv src (r.at_ + 3 * i) 3 := by
        rw [List.range_succ_eq_map, List.map_cons, List.map_map, List.append_assoc]
        congr 1
        simp only [List.singleton_append, Nat.mul_zero, Nat.add_zero]
        congr 1
        apply List.map_congr_left
        intro i _
        simp only [Function.comp]
        congr 1
        omega
      rw [e2] at this
      exact this

theorem codesLaw_tabs {src : List UInt8} {ls : List Nat} {k : Nat} {T1 T2 : Tab} (h15 : ∀ v ∈ ls, v ≤ 15) (hl : ls.length ≤ 320) (hk : 257 ≤ k) (h1 : initTab (ls.take k) = some (some T1)) (h2 : initTab (ls.drop k) = some (some T2)) :
    CodesLaw src { T1 with min := if T1.min < ls.getD 256 0 then ls.getD 256 0 else T1.min } (some T2) (ls.take k) (ls.drop k) := by
  have a15 : ∀ v ∈ ls.take k, v ≤ 15 := fun v hv => h15 v (List.mem_of_mem_take hv)
  have b15 : ∀ v ∈ ls.drop k, v ≤ 15 := fun v hv => h15 v (List.mem_of_mem_drop hv)
  obtain ⟨a1, a2⟩ := initTab_code a15 h1
  obtain ⟨b1, b2⟩ := initTab_code b15 h2
  have a3 := (initTab_law (lens := ls.take k) a15 (by rw [List.length_take]; omega)).2 T1 h1
  have b3 := (initTab_law (lens := ls.drop k) b15 (by rw [List.length_drop]; omega)).2 T2 h2
  obtain ⟨a4, a5⟩ := initTab_minL a15 h1
  obtain ⟨b4, b5⟩ := initTab_minL b15 h2
  have e : (ls.take k).getD 256 0 = ls.getD 256 0 := by
    rw [List.getD_eq_getElem?_getD, List.getD_eq_getElem?_getD, List.getElem?_take_of_lt (by omega)]
  have h256 := getD_le (i := 256) h15
  refine ⟨⟨a1.kraft, a1.hit, a1.only⟩, a2, ⟨a3.1.size, ?_, a3.1.chunk, a3.1.link, a3.1.row, a3.1.entry, a3.1.mask, a3.1.few, a3.1.two⟩, fun h => ?_, fun h => ?_, distLaw_tab b1 b2 b4 b5⟩
  · have := a3.1.min
    simp only
    split <;> omega
  · have := a4 h
    simp only
    split <;> omega
  · have h3 := a5 256 (by
      rcases Nat.lt_or_ge 256 (ls.take k).length with q | q
      · exact q
      · rw [List.getD_eq_getElem?_getD, List.getElem?_eq_none q] at h; exact absurd rfl h) h
    rw [e] at h3 ⊢
    simp only
    split <;> omega

/-- The head of a block with codes of its own. -/
theorem readHuff_alike {src : List UInt8} {r : Br} (hr : r.ok src) (hnb : r.nb ≤ 7) : Alike src (fun p q => CodesLaw src p.1 (some p.2) q.1 q.2) (readHuff src r) (spDyn src r.at_) := by
  unfold readHuff spDyn
  cases hf : fill src.length 14 r with
  | mk t r1 =>
    obtain ⟨a1, a2, a3, a4, a5⟩ := fill_ok hr hf
    cases t with
    | false =>
      have hlt : 8 * src.length < r.at_ + 14 := by
        unfold fill at hf
        split at hf
        · simp at hf
        · split at hf
          · simp at hf
          · omega
      rw [if_pos hlt]; simp [Alike]
    | true =>
      have h14 := a4 rfl
      obtain ⟨b1, b2⟩ := skip_ok a1 h14
      have hle : ¬ 8 * src.length < r.at_ + 14 := by
        have h1 := a1.1
        have h2 := a1.2
        unfold Br.nb at h14
        omega
      rw [if_neg hle]
      simp only
      rw [a2] at b1 b2 ⊢
      by_cases h1 : 29 < bv src r.at_ 5
      · rw [if_pos h1, if_pos h1]; simp [Alike]
      rw [if_neg h1, if_neg h1]
      by_cases h2 : 29 < bv src (r.at_ + 5) 5
      · rw [if_pos h2, if_pos h2]; simp [Alike]
      rw [if_neg h2, if_neg h2]
      have hnb2 : ({ r1 with at_ := r.at_ + 14 } : Br).nb ≤ 7 := by rw [b2]; omega
      have g := clRead_alike (bv src (r.at_ + 10) 4 + 4) (acc := []) b1 hnb2
      have gg := clRead_good (bv src (r.at_ + 10) 4 + 4) (acc := []) b1 (by omega) (fun v hv => absurd hv List.not_mem_nil)
      simp only [List.nil_append] at g
      cases hc : clRead src (bv src (r.at_ + 10) 4 + 4) [] { r1 with at_ := r.at_ + 14 } with
      | bad e q =>
        rw [hc] at g
        by_cases h3 : 8 * src.length < r.at_ + 14 + 3 * (bv src (r.at_ + 10) 4 + 4)
        · rw [if_pos h3] at g ⊢; exact g
        · rw [if_neg h3] at g; exact g.elim
      | ok vs r2 =>
        rw [hc] at g gg
        by_cases h3 : 8 * src.length < r.at_ + 14 + 3 * (bv src (r.at_ + 10) 4 + 4)
        · rw [if_pos h3] at g; exact g.elim
        rw [if_neg h3] at g ⊢
        obtain ⟨g1, g2, g3, g4⟩ := g
        obtain ⟨hv1, hv2⟩ := gg.1
        rw [← g1]
        have c15 : ∀ n ∈ clens vs, n ≤ 15 := fun n hn => by have := clens_le hv2 n hn; omega
        have cl320 : (clens vs).length ≤ 320 := by rw [clens_length]; omega
        by_cases hF : Full (clens vs)
        · rw [if_neg (not_not_intro hF)]
          obtain ⟨TC, hT⟩ := initTab_full c15 cl320 hF
          simp only
          rw [hT]
          simp only
          obtain ⟨hL, _⟩ := initTab_code c15 hT
          have hok := ((initTab_law c15 cl320).2 TC hT).1
          have k := lenRead_alike (n := bv src r.at_ 5 + 257 + (bv src (r.at_ + 5) 5 + 1)) hL hF hok (initTab_minL c15 hT) 400 (acc := []) g3 g4
          have kk := lenRead_good hok (n := bv src r.at_ 5 + 257 + (bv src (r.at_ + 5) 5 + 1)) 400 (acc := []) g3 (by omega) (fun v hv => absurd hv List.not_mem_nil) (Nat.zero_le _) (by simp only [List.length_nil]; omega)
          rw [g2] at k
          cases hl : lenRead src TC (bv src r.at_ 5 + 257 + (bv src (r.at_ + 5) 5 + 1)) 400 [] r2 with
          | bad e q =>
            rw [hl] at k
            cases hs : spLens src (clens vs) (bv src r.at_ 5 + 257 + (bv src (r.at_ + 5) 5 + 1)) 400 [] (r.at_ + 14 + 3 * (bv src (r.at_ + 10) 4 + 4)) with
            | none => rw [hs] at k; exact k
            | some p => rw [hs] at k; exact k.elim
          | ok ls r3 =>
            rw [hl] at k kk
            cases hs : spLens src (clens vs) (bv src r.at_ 5 + 257 + (bv src (r.at_ + 5) 5 + 1)) 400 [] (r.at_ + 14 + 3 * (bv src (r.at_ + 10) 4 + 4)) with
            | none => rw [hs] at k; exact k.elim
            | some p =>
              obtain ⟨ls', a'⟩ := p
              rw [hs] at k
              obtain ⟨rfl, k2, k3, k4⟩ := k
              obtain ⟨hn, hl15⟩ := kk.1
              simp only
              unfold twoTabs
              have t15 : ∀ v ∈ ls.take (bv src r.at_ 5 + 257), v ≤ 15 := fun v hv => hl15 v (List.mem_of_mem_take hv)
              have d15 : ∀ v ∈ ls.drop (bv src r.at_ 5 + 257), v ≤ 15 := fun v hv => hl15 v (List.mem_of_mem_drop hv)
              have tl : (ls.take (bv src r.at_ 5 + 257)).length ≤ 320 := by rw [List.length_take]; omega
              have dl : (ls.drop (bv src r.at_ 5 + 257)).length ≤ 320 := by rw [List.length_drop]; omega
              by_cases F1 : Full (ls.take (bv src r.at_ 5 + 257))
              · obtain ⟨T1, hT1⟩ := initTab_full t15 tl F1
                rw [hT1]
                simp only
                by_cases F2 : Full (ls.drop (bv src r.at_ 5 + 257))
                · obtain ⟨T2, hT2⟩ := initTab_full d15 dl F2
                  have hFF := And.intro F1 F2
                  rw [hT2, if_pos hFF]
                  exact ⟨codesLaw_tabs hl15 (by omega) (by omega) hT1 hT2, k2, k3, k4⟩
                · have hFF : ¬ (Full (ls.take (bv src r.at_ 5 + 257)) ∧ Full (ls.drop (bv src r.at_ 5 + 257))) := fun q => F2 q.2
                  rw [initTab_notFull d15 dl F2, if_neg hFF]
                  simp [Alike]
              · have hFF : ¬ (Full (ls.take (bv src r.at_ 5 + 257)) ∧ Full (ls.drop (bv src r.at_ 5 + 257))) := fun q => F1 q.1
                rw [initTab_notFull t15 tl F1, if_neg hFF]
                simp [Alike]
        · rw [if_pos hF]
          simp only
          rw [initTab_notFull c15 cl320 hF]
          simp [Alike]

end Flate

/-
  PLAIN LEAN: blocks as they are written, and that they are read as what they stand for.
-/
namespace Flate
set_option maxRecDepth 100000

/-! ### The head of a block with its own codes -/

/-- How many bits stand behind a symbol of the code for lengths. -/
def rowX (s : Nat) : Nat := if s = 16 then 2 else if s = 17 then 3 else if s = 18 then 7 else 0

/-- One more row of lengths: a symbol, and what stands behind it. -/
def rowRun (acc : List Nat) (p : Nat × Nat) : List Nat := if p.1 < 16 then acc ++ [p.1] else acc ++ List.replicate ((repOf p.1 acc).1 + p.2) (repOf p.1 acc).2.2

def rowOk (acc : List Nat) (p : Nat × Nat) : Prop := p.1 ≤ 18 ∧ (p.1 = 16 → acc ≠ []) ∧ p.2 < 2 ^ rowX p.1

def rowsOk : List Nat → List (Nat × Nat) → Prop
  | _, [] => True
  | acc, p :: l => rowOk acc p ∧ rowsOk (rowRun acc p) l

def rowsRun (acc : List Nat) (l : List (Nat × Nat)) : List Nat := l.foldl rowRun acc

def rowBits (cl : List Nat) (p : Nat × Nat) : List Bool := code cl p.1 ++ enc p.2 (rowX p.1)

theorem rowRun_len (acc : List Nat) (p : Nat × Nat) : acc.length < (rowRun acc p).length := by
  unfold rowRun repOf
  split
  · simp
  · rw [List.length_append, List.length_replicate]
    split
    · simp only; omega
    · split <;> (simp only; omega)

theorem rowsRun_le (acc : List Nat) (l : List (Nat × Nat)) : acc.length + l.length ≤ (rowsRun acc l).length := by
  induction l generalizing acc with
  | nil => simp [rowsRun]
  | cons p l ih =>
    have h1 := ih (rowRun acc p)
    have h2 := rowRun_len acc p
    have e : rowsRun acc (p :: l) = rowsRun (rowRun acc p) l := rfl
    rw [e, List.length_cons]; omega

theorem rows_read {src : List UInt8} {cl : List Nat} {n : Nat} (hk : Kraft cl) : ∀ {l : List (Nat × Nat)} {f : Nat} {acc : List Nat} {a : Nat}, BitsAt src a (l.flatMap (rowBits cl)) → rowsOk acc l → (∀ p ∈ l, cl.getD p.1 0 ≠ 0) →
    (rowsRun acc l).length = n → l.length ≤ f → spLens src cl n f acc a = some (rowsRun acc l, a + (l.flatMap (rowBits cl)).length)
  | [], f, acc, a, h, _, _, hn, _ => by
    have e : rowsRun acc [] = acc := rfl
    rw [e] at hn ⊢
    simp only [List.flatMap_nil, List.length_nil, Nat.add_zero]
    cases f with
    | zero => rfl
    | succ f => rw [spLens, if_pos (by omega)]
  | p :: l, f, acc, a, h, ho, hh, hn, hf => by
    cases f with
    | zero => simp at hf
    | succ f =>
      have e : rowsRun acc (p :: l) = rowsRun (rowRun acc p) l := rfl
      have hle := rowsRun_le (rowRun acc p) l
      have hlt := rowRun_len acc p
      rw [e] at hn ⊢
      have hle' : (rowRun acc p).length ≤ n := by omega
      rw [List.flatMap_cons] at h ⊢
      obtain ⟨h1, h2⟩ := bitsAt_append.1 h
      have ih := rows_read hk h2 ho.2 (fun q hq => hh q (by simp [hq])) hn (by simpa using hf)
      obtain ⟨o1, o2, o3⟩ := ho.1
      rw [spLens, if_neg (by omega)]
      have hs : spLen src cl n acc a = some (rowRun acc p, a + (rowBits cl p).length) := by
        unfold rowBits at h1 ⊢
        obtain ⟨g1, g2⟩ := bitsAt_append.1 h1
        obtain ⟨k1, k2⟩ := bitsAt_enc g2 o3
        rw [code_len] at k1 k2
        unfold spLen
        rw [symS_code hk g1 (hh p (by simp)), List.length_append, code_len, enc_len]
        simp only
        unfold rowRun at hle' ⊢
        by_cases h16 : p.1 < 16
        · rw [if_pos h16, if_pos h16]
          have : rowX p.1 = 0 := by unfold rowX; rw [if_neg (by omega), if_neg (by omega), if_neg (by omega)]
          rw [this, Nat.add_zero]
        · rw [if_neg h16] at hle' ⊢
          rw [if_neg h16]
          have hx : (repOf p.1 acc).2.1 = rowX p.1 := by
            have hp : p.1 = 16 ∨ p.1 = 17 ∨ p.1 = 18 := by omega
            unfold repOf rowX
            rcases hp with q | q | q <;> rw [q] <;> rfl
          rw [if_neg (fun q => o2 q.1 (List.eq_nil_of_length_eq_zero q.2)), hx, if_neg (by omega), k1]
          rw [List.length_append, List.length_replicate] at hle'
          rw [if_neg (by omega)]
          congr 2
          omega
      rw [hs]
      simp only
      rw [ih, List.length_append, Nat.add_assoc]

/-- The head of a block that has its own codes: so many literals and distances, the lengths of the code for lengths, the rows. -/
structure Head where
  nl : Nat
  nd : Nat
  nc : Nat
  cl : List Nat
  rows : List (Nat × Nat)

def Head.bits (h : Head) : List Bool :=
  enc (h.nl - 257) 5 ++ enc (h.nd - 1) 5 ++ enc (h.nc - 4) 4 ++ (clOrder.take h.nc).flatMap (fun s => enc (h.cl.getD s 0) 3) ++ h.rows.flatMap (rowBits h.cl)

structure Head.OK (h : Head) (ll dl : List Nat) : Prop where
  nl : 257 ≤ h.nl ∧ h.nl ≤ 286
  nd : 1 ≤ h.nd ∧ h.nd ≤ 30
  nc : 4 ≤ h.nc ∧ h.nc ≤ 19
  cl : h.cl.length = 19
  le7 : ∀ s, h.cl.getD s 0 ≤ 7
  zero : ∀ s ∈ clOrder.drop h.nc, h.cl.getD s 0 = 0
  full : Full h.cl
  ok : rowsOk [] h.rows
  has : ∀ p ∈ h.rows, h.cl.getD p.1 0 ≠ 0
  run : rowsRun [] h.rows = ll ++ dl
  lll : ll.length = h.nl
  dll : dl.length = h.nd
  fl : Full ll
  fd : Full dl

theorem three_bits {src : List UInt8} {cl : List Nat} (h7 : ∀ s, cl.getD s 0 ≤ 7) : ∀ {l : List Nat} {a : Nat}, BitsAt src a (l.flatMap fun s => enc (cl.getD s 0) 3) →
    (List.range l.length).map (fun i => bv src (a + 3 * i) 3) = l.map (fun s => cl.getD s 0) ∧ a + 3 * l.length ≤ 8 * src.length
  | [], a, h => ⟨rfl, h.1⟩
  | s :: l, a, h => by
    rw [List.flatMap_cons] at h
    obtain ⟨h1, h2⟩ := bitsAt_append.1 h
    rw [enc_len] at h2
    obtain ⟨e, hl⟩ := three_bits h7 h2
    obtain ⟨k1, _⟩ := bitsAt_enc h1 (by have := h7 s; omega)
    refine ⟨?_, by rw [List.length_cons]; omega⟩
    rw [List.length_cons, List.range_succ_eq_map, List.map_cons, List.map_map, List.map_cons, ← e]
    congr 1
    apply List.map_congr_left
    intro i _
    simp only [Function.comp]
    congr 1
    omega

theorem order_idx : ∀ s : Fin 19, clOrder.idxOf s.1 < 19 ∧ clOrder[clOrder.idxOf s.1]? = some s.1 := by decide +kernel
theorem order_nodup : clOrder.Nodup := by decide +kernel

theorem clens_order {cl : List Nat} {nc : Nat} (hl : cl.length = 19) (hz : ∀ s ∈ clOrder.drop nc, cl.getD s 0 = 0) : clens ((clOrder.take nc).map fun s => cl.getD s 0) = cl := by
  apply List.ext_getElem?
  intro s
  unfold clens
  rw [List.getElem?_map]
  by_cases hs : s < 19
  · rw [List.getElem?_range hs, List.getElem?_eq_getElem (by omega)]
    simp only [Option.map_some, Option.some.injEq]
    obtain ⟨i1, i2⟩ := order_idx ⟨s, hs⟩
    simp only at i1 i2
    have e : cl.getD s 0 = cl[s] := by rw [List.getD_eq_getElem?_getD, List.getElem?_eq_getElem (by omega)]; rfl
    rw [← e, List.getD_eq_getElem?_getD, List.getElem?_map]
    by_cases hi : clOrder.idxOf s < nc
    · rw [List.getElem?_take_of_lt hi, i2]; rfl
    · rw [List.getElem?_eq_none (by rw [List.length_take]; omega)]
      have hm : s ∈ clOrder.drop nc := by
        rw [List.mem_iff_getElem?]
        refine ⟨clOrder.idxOf s - nc, ?_⟩
        rw [List.getElem?_drop, show nc + (clOrder.idxOf s - nc) = clOrder.idxOf s by omega, i2]
      rw [hz s hm]; rfl
  · rw [List.getElem?_eq_none (by rw [List.length_range]; omega), List.getElem?_eq_none (by omega)]; rfl

theorem kraft_of_full {lens : List Nat} (h15 : ∀ n ∈ lens, n ≤ 15) (hl : lens.length ≤ 320) (h : Full lens) : Kraft lens := by
  obtain ⟨T, hT⟩ := initTab_full h15 hl h
  exact (initTab_code h15 hT).1.kraft

theorem getD_le_all {l : List Nat} {m : Nat} (h : ∀ s, l.getD s 0 ≤ m) : ∀ n ∈ l, n ≤ m := by
  intro n hn
  obtain ⟨i, hi, rfl⟩ := List.getElem_of_mem hn
  have := h i
  rw [List.getD_eq_getElem?_getD, List.getElem?_eq_getElem hi] at this
  exact this

theorem head_read {src : List UInt8} {a : Nat} {h : Head} {ll dl : List Nat} (hb : BitsAt src a h.bits) (ho : h.OK ll dl) : spDyn src a = some ((ll, dl), a + h.bits.length) := by
  obtain ⟨nl1, nl2⟩ := ho.nl
  obtain ⟨nd1, nd2⟩ := ho.nd
  obtain ⟨nc1, nc2⟩ := ho.nc
  have hk : Kraft h.cl := kraft_of_full (fun n hn => by have := getD_le_all ho.le7 n hn; omega) (by rw [ho.cl]; omega) ho.full
  have hol : clOrder.length = 19 := by decide
  have h3l : ∀ l : List Nat, (l.flatMap fun s => enc (h.cl.getD s 0) 3).length = 3 * l.length := fun l => by
    induction l with
    | nil => rfl
    | cons s l ih => rw [List.flatMap_cons, List.length_append, ih, enc_len, List.length_cons]; omega
  have hlen : h.bits.length = 14 + 3 * h.nc + (h.rows.flatMap (rowBits h.cl)).length := by
    unfold Head.bits
    simp only [List.length_append, enc_len, h3l, List.length_take, hol]
    omega
  rw [hlen]
  unfold Head.bits at hb
  obtain ⟨hb, b5⟩ := bitsAt_append.1 hb
  obtain ⟨hb, b4⟩ := bitsAt_append.1 hb
  obtain ⟨hb, b3⟩ := bitsAt_append.1 hb
  obtain ⟨b1, b2⟩ := bitsAt_append.1 hb
  simp only [List.length_append, enc_len, h3l, List.length_take, hol] at b2 b3 b4 b5
  obtain ⟨c1, _⟩ := bitsAt_enc b1 (by omega)
  obtain ⟨c2, _⟩ := bitsAt_enc b2 (by omega)
  obtain ⟨c3, c3'⟩ := bitsAt_enc b3 (by omega)
  obtain ⟨c4, c4'⟩ := three_bits ho.le7 b4
  rw [List.length_take, hol, show min h.nc 19 = h.nc by omega] at c4 c4'
  rw [show min h.nc 19 = h.nc by omega] at b5
  simp only [show a + (5 + 5) = a + 10 by omega, show a + (5 + 5 + 4) = a + 14 by omega, show a + (5 + 5 + 4 + 3 * h.nc) = a + 14 + 3 * h.nc by omega] at c3 c3' c4 c4' b5
  have hrl : (rowsRun [] h.rows).length = h.nl + h.nd := by rw [ho.run, List.length_append, ho.lll, ho.dll]
  have hrows := rowsRun_le [] h.rows
  have hr := rows_read (n := h.nl + h.nd) (f := 400) hk b5 ho.ok ho.has hrl (by rw [hrl] at hrows; simp only [List.length_nil] at hrows; omega)
  unfold spDyn
  rw [if_neg (by omega), c1, if_neg (by omega), c2, if_neg (by omega), c3, show h.nc - 4 + 4 = h.nc by omega, if_neg (by omega), c4, clens_order ho.cl ho.zero, if_neg (not_not_intro ho.full)]
  rw [show h.nl - 257 + 257 = h.nl by omega, show h.nd - 1 + 1 = h.nd by omega, hr, ho.run]
  simp only
  rw [← ho.lll, List.take_left, List.drop_left, if_pos ⟨ho.fl, ho.fd⟩]
  congr 2
  omega

/-! ### Stored data -/

theorem num_take {l : List UInt8} {n : Nat} (h : n ≤ l.length) : num (l.take n) = num l % 256 ^ n := by
  have e := num_app (l.take n) (l.drop n)
  rw [List.take_append_drop, List.length_take, show min n l.length = n by omega] at e
  have hl := num_lt (l.take n)
  rw [List.length_take, show min n l.length = n by omega] at hl
  rw [show (256 : Nat) = 2 ^ 8 from rfl, ← Nat.pow_mul, e, Nat.add_mul_mod_self_left, Nat.mod_eq_of_lt hl]

theorem bitsAt_bytes {src : List UInt8} {p : Nat} {d : List UInt8} (h : BitsAt src (8 * p) (bitsOf d)) : p + d.length ≤ src.length ∧ (src.drop p).take d.length = d := by
  obtain ⟨h1, h2⟩ := h
  rw [bitsOf_len] at h1 h2
  have hl : d.length ≤ (src.drop p).length := by rw [List.length_drop]; omega
  refine ⟨by omega, num_inj (by rw [List.length_take]; omega) ?_⟩
  rw [num_take hl, ← num_div_byte, ← bitsN_bitsOf d, ← h2, bv, Nat.pow_mul, Nat.pow_mul]

/-! ### Blocks -/

/-- A block from bit a on, behind H: whether it is the last one, its bits, and what there is behind it. -/
inductive Blk : Nat → List UInt8 → Bool → List Bool → List UInt8 → Prop
  | stored {a H last d} : d.length ≤ 65535 → Blk a H last ([last] ++ enc 0 2 ++ List.replicate (8 * ((a + 3 + 7) / 8) - (a + 3)) false ++ enc d.length 16 ++ enc (65535 - d.length) 16 ++ bitsOf d) (H ++ d)
  | fixed {a H last l} : toksOk H.length l → Blk a H last ([last] ++ enc 1 2 ++ bodyBits fixedLens fixedDist l) (toksRun H l)
  | dyn {a H last l h ll dl} : toksOk H.length l → Head.OK h ll dl → (∀ n ∈ ll, n ≤ 15) → (∀ n ∈ dl, n ≤ 15) → ll.getD 256 0 ≠ 0 → (∀ t ∈ l, t.has ll dl) → Blk a H last ([last] ++ enc 2 2 ++ h.bits ++ bodyBits ll dl l) (toksRun H l)

theorem fixedLens_ne0 (s : Nat) (h : s < 288) : fixedLens.getD s 0 ≠ 0 := by
  have : ∀ s : Fin 288, fixedLens.getD s.1 0 ≠ 0 := by decide +kernel
  exact this ⟨s, h⟩

theorem codesLaw_fixed (src : List UInt8) : CodesLaw src fixedTab none fixedLens fixedDist := by
  obtain ⟨hL, hF⟩ := fixed_law
  have hmin := fixedTab_min
  refine ⟨hL, hF, ?_, fun _ => by rw [hmin]; omega, fun _ => ?_, distLaw_fixed⟩
  · exact ((initTab_law fixedLens_le (by rw [fixedLens_length]; omega)).2 fixedTab initFixed').1
  · rw [hmin]; decide +kernel

theorem bit_toNat (b : Bool) : bitsN [b] = b.toNat := by simp [bitsN]

theorem block_head {src : List UInt8} {last : Bool} {k : Nat} {M : List Bool} {r : Br} (hr : r.ok src) (hnb : r.nb ≤ 7) (hk : k < 4) (h : BitsAt src r.at_ ([last] ++ enc k 2 ++ M)) :
    ∃ r1, fill src.length 3 r = (true, r1) ∧ r1.at_ = r.at_ ∧ r1.pos = (r.at_ + 3 + 7) / 8 ∧ 3 ≤ r1.nb ∧ r1.ok src ∧ bv src r.at_ 1 = last.toNat ∧ bv src (r.at_ + 1) 2 = k ∧ BitsAt src (r.at_ + 3) M := by
  obtain ⟨h1, h2⟩ := bitsAt_append.1 h
  obtain ⟨h3, h4⟩ := bitsAt_append.1 h1
  have l1 : ([last] ++ enc k 2).length = 3 := by simp [enc_len]
  rw [l1] at h2
  obtain ⟨g1, g2⟩ := bitsAt_enc h4 hk
  simp only [List.length_cons, List.length_nil, Nat.zero_add] at g1 g2
  have hb := h3.2
  rw [bit_toNat] at hb
  have h2l := h2.1
  have o1 := hr.1
  have o2 := hr.2
  have hfl : ∃ r1, fill src.length 3 r = (true, r1) := by
    unfold fill
    split
    · exact ⟨_, rfl⟩
    · rw [if_pos (by omega)]; exact ⟨_, rfl⟩
  obtain ⟨r1, hf⟩ := hfl
  obtain ⟨a1, a2, a3, a4, a5⟩ := fill_ok hr hf
  refine ⟨r1, hf, a2, ?_, a4 rfl, a1, hb, g1, h2⟩
  unfold fill at hf
  unfold Br.nb at hnb
  split at hf
  · rename_i hn
    obtain ⟨_, rfl⟩ := Prod.mk.injEq .. ▸ hf
    unfold Br.nb at hn
    omega
  · split at hf
    · obtain ⟨_, rfl⟩ := Prod.mk.injEq .. ▸ hf
      rfl
    · simp at hf

theorem blk_read {src : List UInt8} {a : Nat} {H : List UInt8} {last : Bool} {B : List Bool} {H' : List UInt8} (hb : Blk a H last B H') (h : BitsAt src a B) {r : Br} (hr : r.ok src) (ha : r.at_ = a) (hnb : r.nb ≤ 7) :
    ∃ r', Reach src (.next r, H) (more last r', H') ∧ r'.at_ = a + B.length ∧ r'.ok src ∧ r'.nb ≤ 7 := by
  subst ha
  have hlast : (last.toNat == 1) = last := by cases last <;> rfl
  have h3l : ∀ k, ([last] ++ enc k 2).length = 3 := fun k => by simp [enc_len]
  cases hb with
  | @stored d hd =>
    simp only [List.append_assoc] at h
    rw [← List.append_assoc [last]] at h
    obtain ⟨r1, f1, f2, f3, f4, f5, f6, f7, f8⟩ := block_head hr hnb (by omega) h
    obtain ⟨_, g1⟩ := bitsAt_append.1 f8
    rw [List.length_replicate] at g1
    have e8 : r.at_ + 3 + (8 * ((r.at_ + 3 + 7) / 8) - (r.at_ + 3)) = 8 * r1.pos := by rw [f3]; omega
    rw [e8] at g1
    obtain ⟨g1, g2⟩ := bitsAt_append.1 g1
    obtain ⟨g2, g3⟩ := bitsAt_append.1 g2
    rw [enc_len] at g2 g3
    rw [enc_len] at g3
    obtain ⟨c1, _⟩ := bitsAt_enc g1 (by omega)
    obtain ⟨c2, c2'⟩ := bitsAt_enc g2 (by omega)
    have e9 : 8 * r1.pos + 16 + 16 = 8 * (r1.pos + 4) := by omega
    rw [e9] at g3
    obtain ⟨d1, d2⟩ := bitsAt_bytes g3
    refine ⟨⟨8 * (r1.pos + 4 + d.length), r1.pos + 4 + d.length⟩, .step ?_, ?_, ⟨Nat.le_refl _, d1⟩, by unfold Br.nb; simp only; omega⟩
    · have : sstep src (.next r, H) = (more last ⟨8 * (r1.pos + 4 + d.length), r1.pos + 4 + d.length⟩, H ++ d) := by
        show nextStep src r H = _
        unfold nextStep
        rw [f1]
        simp only
        rw [f2, f6, f7, if_pos rfl, hlast]
        unfold storedStep
        rw [if_neg (by omega), c1, c2, if_neg (by omega)]
        unfold stRest
        rw [if_pos d1, d2]
      rw [this]; exact .refl _
    · simp only [List.length_append, h3l, List.length_replicate, enc_len, bitsOf_len, List.length_cons, List.length_nil]
      omega
  | @fixed l hl =>
    obtain ⟨r1, f1, f2, f3, f4, f5, f6, f7, f8⟩ := block_head hr hnb (by omega) h
    obtain ⟨b1, b2⟩ := skip_ok f5 f4
    have hf1 := fill_ok hr f1
    have hC := codesLaw_fixed src
    have hrun := toks_run hC.tab.kraft hC.dist.kraft (fixedLens_ne0 256 (by omega)) f8 hl (fun t ht => by
      cases t with
      | lit c => have := c.toNat_lt; exact fixedLens_ne0 _ (by omega)
      | cpy f m =>
        have hok : ∀ {l : List Tk} {n : Nat}, toksOk n l → Tk.cpy f m ∈ l → 1 ≤ f ∧ f ≤ 32768 ∧ 3 ≤ m ∧ m ≤ 258 := by
          intro l
          induction l with
          | nil => intro n _ h; simp at h
          | cons t l ih =>
            intro n h1 h2
            rcases List.mem_cons.1 h2 with q | q
            · subst q; exact ⟨h1.1.1, h1.1.2.2.1, h1.1.2.2.2⟩
            · exact ih h1.2 q
        obtain ⟨k1, k2, k3, k4⟩ := hok hl ht
        have q1 := lenSymbol_ok k3 k4
        have q2 := distSymbol_ok k1 k2
        refine ⟨fixedLens_ne0 _ (by omega), ?_⟩
        rw [fixedDist_getD, if_pos (by omega)]; omega)
    obtain ⟨r', k1, k2, k3, k4⟩ := huff_good (last := last) (r := { r1 with at_ := r1.at_ + 3 }) hC hrun (by simp only; rw [f2]) b1 (.inl (by rw [b2]; omega)) rfl
    refine ⟨r', .step ?_, ?_, k3, k4⟩
    · have : sstep src (.next r, H) = (.huff last { r1 with at_ := r1.at_ + 3 } fixedTab none, H) := by
        show nextStep src r H = _
        unfold nextStep
        rw [f1]
        simp only
        rw [f2, f6, f7, if_neg (by omega), if_pos rfl, hlast]
      rw [this]; exact k1
    · rw [k2, List.length_append, h3l]; omega
  | @dyn l hd ll dl hl ho h15 h15' h256 hh =>
    rw [List.append_assoc ([last] ++ enc 2 2)] at h
    obtain ⟨r1, f1, f2, f3, f4, f5, f6, f7, f8⟩ := block_head hr hnb (by omega) h
    obtain ⟨g1, g2⟩ := bitsAt_append.1 f8
    obtain ⟨b1, b2⟩ := skip_ok f5 f4
    have hf1 := fill_ok hr f1
    have hnb1 : ({ r1 with at_ := r1.at_ + 3 } : Br).nb ≤ 7 := by rw [b2]; omega
    have hal := readHuff_alike b1 hnb1
    simp only at hal
    rw [f2, head_read g1 ho] at hal
    rw [f2] at b1 hnb1
    cases hq : readHuff src { r1 with at_ := r.at_ + 3 } with
    | bad e q => rw [hq] at hal; exact hal.elim
    | ok p r3 =>
      obtain ⟨T, D⟩ := p
      rw [hq] at hal
      obtain ⟨hC, q1, q2, q3⟩ := hal
      simp only at hC
      have hrun := toks_run hC.tab.kraft hC.dist.kraft h256 g2 hl hh
      obtain ⟨r', k1, k2, k3, k4⟩ := huff_good (last := last) (r := r3) hC hrun q1 q2 (.inl q3) rfl
      refine ⟨r', .step ?_, ?_, k3, k4⟩
      · have : sstep src (.next r, H) = (.huff last r3 T (some D), H) := by
          show nextStep src r H = _
          unfold nextStep
          rw [f1]
          simp only
          rw [f2, f6, f7, if_neg (by omega), if_neg (by omega), if_pos rfl, hlast, hq]
        rw [this]; exact k1
      · rw [k2, List.length_append, List.length_append, h3l]; omega

/-- Blocks, none of them the last one. -/
inductive Blks (H0 : List UInt8) : List Bool → List UInt8 → Prop
  | nil : Blks H0 [] H0
  | snoc {L H B H'} : Blks H0 L H → Blk L.length H false B H' → Blks H0 (L ++ B) H'

/-- Blocks with a last one. -/
def Data (H0 : List UInt8) (L : List Bool) (H' : List UInt8) : Prop := ∃ L1 H B, L = L1 ++ B ∧ Blks H0 L1 H ∧ Blk L1.length H true B H'

theorem blks_read {src H0 : List UInt8} {L : List Bool} {H : List UInt8} (h : Blks H0 L H) (hb : BitsAt src 0 L) : ∃ r, Reach src (start H0) (.next r, H) ∧ r.at_ = L.length ∧ r.ok src ∧ r.nb ≤ 7 := by
  induction h with
  | nil => exact ⟨⟨0, 0⟩, .refl _, rfl, ⟨Nat.le_refl _, Nat.zero_le _⟩, by decide⟩
  | @snoc L H B H' _ hk ih =>
    obtain ⟨h1, h2⟩ := bitsAt_append.1 hb
    obtain ⟨r, a1, a2, a3, a4⟩ := ih h1
    rw [Nat.zero_add] at h2
    obtain ⟨r', b1, b2, b3, b4⟩ := blk_read hk h2 a3 a2 a4
    exact ⟨r', a1.trans b1, by rw [b2, List.length_append], b3, b4⟩

theorem data_infl {dict : List UInt8} {L : List Bool} {X : List UInt8} (h : Data (lastOf dict) L (lastOf dict ++ X)) (m : List UInt8) : Infl (pack L ++ m) dict .eof (pack L).length X := by
  obtain ⟨L1, H, B, rfl, h1, h2⟩ := h
  have hb := bitsAt_pack (L1 ++ B) m
  obtain ⟨b1, b2⟩ := bitsAt_append.1 hb
  rw [Nat.zero_add] at b2
  obtain ⟨r, a1, a2, a3, a4⟩ := blks_read h1 b1
  obtain ⟨r', c1, c2, c3, c4⟩ := blk_read h2 b2 a3 a2 a4
  have hp : r'.pos = (pack (L1 ++ B)).length := by
    rw [pack_len, List.length_append, ← c2]
    have := c3.1
    unfold Br.nb at c4
    omega
  have := a1.trans c1
  unfold more at this
  rw [if_pos rfl, hp] at this
  exact this

end Flate

/-
  PLAIN LEAN: when the codes of some lengths are all there: by a sum over the lengths.
-/
namespace Flate

/-- What a code of so many bits takes. -/
def kw (n : Nat) : Nat := if n = 0 then 0 else 2 ^ (15 - n)
def ksum (l : List Nat) : Nat := (l.map kw).sum

/-- 'Ck' over any counts. -/
def Cf (f : Nat → Nat) : Nat → Nat
  | 0 => 0
  | i + 1 => 2 * Cf f i + f (i + 1)

theorem Cf_add (f g : Nat → Nat) (i : Nat) : Cf (fun n => f n + g n) i = Cf f i + Cf g i := by
  induction i with
  | zero => rfl
  | succ i ih => simp only [Cf, ih]; omega

theorem Cf_one (m i : Nat) : Cf (fun n => if m = n then 1 else 0) i = if m = 0 then 0 else if m ≤ i then 2 ^ (i - m) else 0 := by
  induction i with
  | zero =>
    rw [Cf]
    split
    · rfl
    · rw [if_neg (by omega)]
  | succ i ih =>
    rw [Cf, ih]
    by_cases h0 : m = 0
    · rw [if_pos h0, if_pos h0, if_neg (by omega)]
    · rw [if_neg h0, if_neg h0]
      by_cases h1 : m = i + 1
      · rw [if_neg (by omega), if_pos h1, if_pos (by omega), h1, Nat.sub_self]
      · rw [if_neg h1]
        by_cases h2 : m ≤ i
        · rw [if_pos h2, if_pos (by omega), show i + 1 - m = (i - m) + 1 by omega, Nat.pow_succ]; omega
        · rw [if_neg h2, if_neg (by omega)]

theorem Ck_Cf (lens : List Nat) : ∀ i, i ≤ 15 → Ck (cntAll lens).count i = Cf (fun n => lens.count n) i := by
  intro i
  induction i with
  | zero => intro _; rfl
  | succ i ih => intro h; rw [Ck, Cf, ih (by omega), (cnt_facts lens).count (i + 1) (by omega) (by omega)]

theorem Cf_ksum (lens : List Nat) (h15 : ∀ n ∈ lens, n ≤ 15) : Cf (fun n => lens.count n) 15 = ksum lens := by
  induction lens with
  | nil =>
    have : ∀ i, Cf (fun n => ([] : List Nat).count n) i = 0 := fun i => by
      induction i with
      | zero => rfl
      | succ i ih => rw [Cf, ih]; simp
    rw [this]; rfl
  | cons x l ih =>
    have e : (fun n => (x :: l).count n) = fun n => l.count n + if x = n then 1 else 0 := by
      funext n
      rw [List.count_cons]
      simp only [beq_iff_eq]
    have hx := h15 x (by simp)
    rw [e, Cf_add, ih (fun n hn => h15 n (by simp [hn])), Cf_one]
    unfold ksum kw
    rw [List.map_cons, List.sum_cons, if_pos hx]
    omega

theorem ksum_Ck {lens : List Nat} (h15 : ∀ n ∈ lens, n ≤ 15) : ksum lens = Ck (cntAll lens).count 15 := by
  rw [Ck_Cf lens 15 (Nat.le_refl _), Cf_ksum lens h15]

theorem Ck_top {lens : List Nat} (h15 : ∀ n ∈ lens, n ≤ 15) : Ck (cntAll lens).count 15 = Ck (cntAll lens).count (cntAll lens).max * 2 ^ (15 - (cntAll lens).max) := by
  have hc := cnt_facts lens
  have hm : (cntAll lens).max ≤ 15 := by
    rcases hc.mem with h | h
    · omega
    · exact h15 _ h
  have key : ∀ d, (cntAll lens).max + d ≤ 15 → Ck (cntAll lens).count ((cntAll lens).max + d) = Ck (cntAll lens).count (cntAll lens).max * 2 ^ d := by
    intro d
    induction d with
    | zero => intro _; simp
    | succ d ih =>
      intro h
      rw [← Nat.add_assoc, Ck, ih (by omega), hc.count _ (by omega) (by omega), Nat.pow_succ]
      have : lens.count ((cntAll lens).max + d + 1) = 0 := List.count_eq_zero.2 (fun hn => by have := hc.le _ hn; omega)
      rw [this, Nat.add_zero, Nat.mul_comm 2, Nat.mul_assoc]
  have := key (15 - (cntAll lens).max) (by omega)
  rwa [show (cntAll lens).max + (15 - (cntAll lens).max) = 15 by omega] at this

theorem many_split (l : List Nat) : l.count 1 + l.countP (fun n => n != 0 && n != 1) = l.countP (fun n => n != 0) := by
  induction l with
  | nil => rfl
  | cons x l ih =>
    rw [List.count_cons, List.countP_cons, List.countP_cons]
    by_cases h0 : x = 0
    · subst h0; simp; omega
    · by_cases h1 : x = 1
      · subst h1; simp; omega
      · simp [h0, h1]; omega

/-- The codes are all there, by the sum; or there is none; or one of one bit. -/
theorem full_iff {lens : List Nat} (h15 : ∀ n ∈ lens, n ≤ 15) : Full lens ↔ ksum lens = 32768 ∨ lens.countP (fun n => n != 0) = 0 ∨ lens.countP (fun n => n != 0) = 1 ∧ lens.count 1 = 1 := by
  have hc := cnt_facts lens
  have hm : (cntAll lens).max ≤ 15 := by
    rcases hc.mem with h | h
    · omega
    · exact h15 _ h
  have hk := ksum_Ck h15
  rw [Ck_top h15] at hk
  have hp : (32768 : Nat) = 2 ^ (cntAll lens).max * 2 ^ (15 - (cntAll lens).max) := by rw [← Nat.pow_add, show (cntAll lens).max + (15 - (cntAll lens).max) = 15 by omega]
  have h1 : Ck (cntAll lens).count 1 = lens.count 1 := by rw [Ck, Ck, hc.count 1 (by omega) (by omega)]; omega
  unfold Full
  constructor
  · rintro (h | h | ⟨h, h'⟩)
    · refine .inr (.inl (List.countP_eq_zero.2 fun n hn => ?_))
      have := hc.le n hn
      have : n = 0 := by omega
      simp [this]
    · refine .inl ?_
      rw [hk, h, ← hp]
    · refine .inr (.inr ?_)
      have h2 := many_split lens
      have h3 : lens.countP (fun n => n != 0 && n != 1) = 0 := List.countP_eq_zero.2 fun n hn => by
        have := hc.le n hn
        have : n = 0 ∨ n = 1 := by omega
        rcases this with q | q <;> simp [q]
      omega
  · rintro (h | h | ⟨h, h'⟩)
    · refine .inr (.inl ?_)
      rw [h, hp] at hk
      exact (Nat.eq_of_mul_eq_mul_right (Nat.two_pow_pos _) hk).symm
    · refine .inl ?_
      rcases hc.mem with q | q
      · exact q
      · have := List.countP_eq_zero.1 h _ q
        simpa using this
    · refine .inr (.inr ?_)
      have h2 := many_split lens
      have h3 := List.countP_eq_zero.1 (show lens.countP (fun n => n != 0 && n != 1) = 0 by omega)
      have hmem : 1 ∈ lens := List.count_pos_iff.1 (by omega)
      have hge := hc.le 1 hmem
      refine ⟨?_, by rw [h1, h']⟩
      rcases hc.mem with q | q
      · omega
      · have := h3 _ q
        simp at this
        omega

end Flate

/-
  PLAIN LEAN: the code that the writer makes for the symbols that are used is a full one.
-/
namespace Flate

theorem nodup_inj {l : List Nat} (h : l.Nodup) {i j : Nat} {hi : i < l.length} {hj : j < l.length} (e : l[i] = l[j]) : i = j :=
  (List.getElem?_inj hi h).1 (by rw [List.getElem?_eq_getElem hi, List.getElem?_eq_getElem hj, e])

/-- A code for the symbols that are used, of at most so many bits. -/
structure TreeOK (used : List Bool) (most : Nat) (out : List Nat) : Prop where
  len : out.length = used.length
  iff_ : ∀ s, out.getD s 0 ≠ 0 ↔ used.getD s false = true
  le : ∀ s, out.getD s 0 ≤ most
  full : Full out

/-- Some symbols have their lengths: 1, 2, .. up to 'long'; the others are in l. -/
structure Tr (used : List Bool) (out l : List Nat) (long : Nat) : Prop where
  len : out.length = used.length
  nodup : l.Nodup
  mem : ∀ s ∈ l, out.getD s 0 = 0 ∧ used.getD s false = true
  rest : ∀ s, s ∉ l → (out.getD s 0 ≠ 0 ↔ used.getD s false = true)
  le : ∀ s, out.getD s 0 ≤ long
  l15 : long ≤ 15
  sum : ksum out + 2 ^ (15 - long) = 32768

theorem ksum_set {l : List Nat} {s n : Nat} (hs : s < l.length) (h0 : l.getD s 0 = 0) : ksum (l.set s n) = ksum l + kw n := by
  induction l generalizing s with
  | nil => simp at hs
  | cons x l ih =>
    cases s with
    | zero =>
      have hx : x = 0 := by simpa using h0
      subst hx
      simp [ksum, kw]; omega
    | succ s =>
      have := ih (s := s) (by simpa using hs) (by simpa using h0)
      unfold ksum at this ⊢
      simp only [List.set_cons_succ, List.map_cons, List.sum_cons, this]
      omega

theorem used_lt {used : List Bool} {s : Nat} (h : used.getD s false = true) : s < used.length := by
  rcases Nat.lt_or_ge s used.length with q | q
  · exact q
  · rw [List.getD_eq_getElem?_getD, List.getElem?_eq_none q] at h; simp at h

theorem set_getD {l : List Nat} {s t n : Nat} (hs : s < l.length) : (l.set s n).getD t 0 = if s = t then n else l.getD t 0 := by
  rw [getD_set]
  by_cases h : s = t
  · rw [if_pos ⟨h, hs⟩, if_pos h]
  · rw [if_neg (fun q => h q.1), if_neg h]

theorem eraseIdx_nodup {l : List Nat} (h : l.Nodup) (k : Nat) : (l.eraseIdx k).Nodup := h.sublist (List.eraseIdx_sublist l k)

theorem mem_eraseIdx {l : List Nat} (h : l.Nodup) {k : Nat} (hk : k < l.length) {s : Nat} : s ∈ l.eraseIdx k ↔ s ∈ l ∧ s ≠ l[k] := by
  rw [List.mem_eraseIdx_iff_getElem]
  constructor
  · rintro ⟨i, hi, h1, rfl⟩
    exact ⟨List.getElem_mem hi, fun e => h1 (nodup_inj h e)⟩
  · rintro ⟨h1, h2⟩
    obtain ⟨i, hi, rfl⟩ := List.getElem_of_mem h1
    exact ⟨i, hi, fun e => h2 (by subst e; rfl), rfl⟩

/-- One of them has a bit more than the last one. -/
theorem Tr.step {used : List Bool} {out l : List Nat} {long k : Nat} (h : Tr used out l long) (hk : k < l.length) (h15 : long < 15) : Tr used (out.set l[k] (long + 1)) (l.eraseIdx k) (long + 1) := by
  obtain ⟨m1, m2⟩ := h.mem _ (List.getElem_mem hk)
  have hlt : l[k] < out.length := by rw [h.len]; exact used_lt m2
  refine ⟨by rw [List.length_set, h.len], eraseIdx_nodup h.nodup k, fun s hs => ?_, fun s hs => ?_, fun s => ?_, h15, ?_⟩
  · obtain ⟨a, b⟩ := (mem_eraseIdx h.nodup hk).1 hs
    rw [set_getD hlt, if_neg (Ne.symm b)]
    exact h.mem s a
  · rw [set_getD hlt]
    by_cases e : l[k] = s
    · subst e
      rw [if_pos rfl]
      exact ⟨fun _ => m2, fun _ => by omega⟩
    · rw [if_neg e]
      exact h.rest s (fun q => hs ((mem_eraseIdx h.nodup hk).2 ⟨q, Ne.symm e⟩))
  · rw [set_getD hlt]
    have := h.le s
    split <;> omega
  · rw [ksum_set hlt m1]
    have := h.sum
    have e : 2 ^ (15 - long) = 2 * 2 ^ (15 - (long + 1)) := by rw [show 15 - long = (15 - (long + 1)) + 1 by omega, Nat.pow_succ]; omega
    unfold kw
    rw [if_neg (by omega)]
    omega

/-- The first j of them have their lengths. -/
def outF (out l : List Nat) (v : Nat → Nat) (j : Nat) : List Nat := (List.range j).foldl (fun o i => o.set (l.getD i 0) (v i)) out

theorem outF_succ (out l : List Nat) (v : Nat → Nat) (j : Nat) : outF out l v (j + 1) = (outF out l v j).set (l.getD j 0) (v j) := by
  unfold outF; rw [List.range_succ, List.foldl_append]; rfl

theorem outF_len (out l : List Nat) (v : Nat → Nat) (j : Nat) : (outF out l v j).length = out.length := by
  induction j with
  | zero => rfl
  | succ j ih => rw [outF_succ, List.length_set, ih]

theorem outF_spec {used : List Bool} {out l : List Nat} {long : Nat} (h : Tr used out l long) (v : Nat → Nat) : ∀ j, j ≤ l.length →
    (∀ i, i < j → (outF out l v j).getD (l.getD i 0) 0 = v i) ∧ (∀ s, s ∉ l.take j → (outF out l v j).getD s 0 = out.getD s 0) ∧ ksum (outF out l v j) = ksum out + ((List.range j).map fun i => kw (v i)).sum := by
  intro j
  induction j with
  | zero => intro _; exact ⟨fun i hi => absurd hi (by omega), fun s _ => rfl, by simp [outF]⟩
  | succ j ih =>
    intro hj
    obtain ⟨i1, i2, i3⟩ := ih (by omega)
    have ej : l.getD j 0 = l[j] := by rw [List.getD_eq_getElem?_getD, List.getElem?_eq_getElem (by omega)]; rfl
    obtain ⟨m1, m2⟩ := h.mem l[j] (List.getElem_mem (by omega))
    have hlt : l[j] < (outF out l v j).length := by rw [outF_len, h.len]; exact used_lt m2
    have hnot : l[j] ∉ l.take j := fun q => by
      obtain ⟨i, hi, e⟩ := List.getElem_of_mem q
      rw [List.length_take] at hi
      rw [List.getElem_take] at e
      have := nodup_inj h.nodup e
      omega
    rw [outF_succ, ej]
    refine ⟨fun i hi => ?_, fun s hs => ?_, ?_⟩
    · rw [set_getD hlt]
      by_cases e : i = j
      · subst e; rw [ej, if_pos rfl]
      · have ei : l.getD i 0 = l[i]'(by omega) := by rw [List.getD_eq_getElem?_getD, List.getElem?_eq_getElem (by omega)]; rfl
        rw [if_neg (fun q => by
          rw [ei] at q
          exact e (nodup_inj h.nodup q).symm), i1 i (by omega)]
    · rw [List.take_succ_eq_append_getElem (by omega), List.mem_append, List.mem_singleton] at hs
      rw [set_getD hlt, if_neg (fun q => hs (.inr q.symm)), i2 s (fun q => hs (.inl q))]
    · rw [ksum_set hlt (by rw [i2 _ hnot]; exact m1), i3, List.range_succ, List.map_append, List.sum_append]
      simp only [List.map_cons, List.map_nil, List.sum_cons, List.sum_nil]
      omega

theorem sum_short (A B m : Nat) : ∀ n, ((List.range n).map fun i => if i < m then A else B).sum = min n m * A + (n - m) * B := by
  intro n
  induction n with
  | zero => simp
  | succ n ih =>
    rw [List.range_succ, List.map_append, List.sum_append, ih]
    simp only [List.map_cons, List.map_nil, List.sum_cons, List.sum_nil, Nat.add_zero]
    by_cases h : n < m
    · rw [if_pos h, show min (n + 1) m = min n m + 1 by omega, show n + 1 - m = n - m by omega, Nat.succ_mul]; omega
    · rw [if_neg h, show min (n + 1) m = min n m by omega, show n + 1 - m = (n - m) + 1 by omega, Nat.succ_mul]; omega

/-- The lengths that are left: 'deep' bits more than 'long', the first few a bit less. -/
def deepV (long deep short i : Nat) : Nat := if i < short then long + deep - 1 else long + deep

theorem tree_done {used : List Bool} {out l : List Nat} {long deep most : Nat} (h : Tr used out l long) (hl : l ≠ []) (hd1 : l.length ≤ 2 ^ deep) (hd2 : 2 ^ deep < 2 * l.length) (hpos : 0 < long + deep) (hm : long + deep ≤ most) (h15 : most ≤ 15) :
    TreeOK used most (outF out l (deepV long deep (2 ^ deep - l.length)) l.length) := by
  have hn : 0 < l.length := List.length_pos_iff.2 hl
  obtain ⟨s1, s2, s3⟩ := outF_spec h (deepV long deep (2 ^ deep - l.length)) l.length (Nat.le_refl _)
  have hv : ∀ i, deepV long deep (2 ^ deep - l.length) i ≤ most ∧ (i < l.length → deepV long deep (2 ^ deep - l.length) i ≠ 0) := by
    intro i
    unfold deepV
    constructor
    · split <;> omega
    · intro _
      split
      · rename_i hi
        rcases Nat.eq_zero_or_pos deep with e | e
        · subst e; simp at hi; omega
        · have : long + deep ≠ 1 ∨ (long = 0 ∧ deep = 1) := by omega
          rcases this with q | ⟨q1, q2⟩
          · omega
          · subst q1 q2; simp at hi hd2; omega
      · omega
  have hcase : ∀ s, (∃ i, i < l.length ∧ l.getD i 0 = s) ∨ s ∉ l := fun s => by
    by_cases q : s ∈ l
    · obtain ⟨i, hi, e⟩ := List.getElem_of_mem q
      exact .inl ⟨i, hi, by rw [List.getD_eq_getElem?_getD, List.getElem?_eq_getElem hi]; exact e⟩
    · exact .inr q
  rw [List.take_length] at s2
  have hle : ∀ s, (outF out l (deepV long deep (2 ^ deep - l.length)) l.length).getD s 0 ≤ most := fun s => by
    rcases hcase s with ⟨i, hi, rfl⟩ | q
    · rw [s1 i hi]; exact (hv i).1
    · rw [s2 s q]; have := h.le s; omega
  refine ⟨by rw [outF_len, h.len], fun s => ?_, hle, ?_⟩
  · rcases hcase s with ⟨i, hi, rfl⟩ | q
    · rw [s1 i hi]
      have e : l.getD i 0 = l[i] := by rw [List.getD_eq_getElem?_getD, List.getElem?_eq_getElem hi]; rfl
      exact ⟨fun _ => by rw [e]; exact (h.mem _ (List.getElem_mem hi)).2, fun _ => (hv i).2 hi⟩
    · rw [s2 s q]; exact h.rest s q
  · have h15' := getD_le_all (fun s => Nat.le_trans (hle s) h15)
    refine (full_iff h15').2 (.inl ?_)
    rw [s3]
    have e1 : ((List.range l.length).map fun i => kw (deepV long deep (2 ^ deep - l.length) i)) = (List.range l.length).map fun i => if i < 2 ^ deep - l.length then 2 ^ (15 - (long + deep - 1)) else 2 ^ (15 - (long + deep)) := by
      apply List.map_congr_left
      intro i hi
      have h0 := (hv i).2 (List.mem_range.1 hi)
      unfold kw
      rw [if_neg h0]
      unfold deepV
      split <;> rfl
    rw [e1, sum_short]
    have hs := h.sum
    have e2 : 2 ^ (15 - (long + deep - 1)) = 2 * 2 ^ (15 - (long + deep)) := by rw [show 15 - (long + deep - 1) = (15 - (long + deep)) + 1 by omega, Nat.pow_succ]; omega
    have e3 : 2 ^ (15 - long) = 2 ^ deep * 2 ^ (15 - (long + deep)) := by rw [← Nat.pow_add]; congr 1; omega
    have e4 : min l.length (2 ^ deep - l.length) = 2 ^ deep - l.length := by omega
    have e5 : l.length - (2 ^ deep - l.length) = 2 * l.length - 2 ^ deep := by omega
    rw [e2, e4, e5]
    rw [e3] at hs
    have e6 : (2 ^ deep - l.length) * (2 * 2 ^ (15 - (long + deep))) + (2 * l.length - 2 ^ deep) * 2 ^ (15 - (long + deep)) = 2 ^ deep * 2 ^ (15 - (long + deep)) := by
      rw [← Nat.mul_assoc, ← Nat.add_mul]
      congr 1
      omega
    omega

/-- One symbol alone, of one bit. -/
theorem tree_one {used : List Bool} {out : List Nat} {s most : Nat} (h : Tr used out [s] 0) (hm : 1 ≤ most) (h15 : most ≤ 15) : TreeOK used most (out.set s 1) := by
  obtain ⟨m1, m2⟩ := h.mem s (by simp)
  have hlt : s < out.length := by rw [h.len]; exact used_lt m2
  have hz : ∀ t, out.getD t 0 = 0 := fun t => by have := h.le t; omega
  have hle : ∀ t, (out.set s 1).getD t 0 ≤ most := fun t => by rw [set_getD hlt, hz]; split <;> omega
  refine ⟨by rw [List.length_set, h.len], fun t => ?_, hle, ?_⟩
  · rw [set_getD hlt]
    by_cases e : s = t
    · subst e; rw [if_pos rfl]; exact ⟨fun _ => m2, fun _ => by omega⟩
    · rw [if_neg e]; exact h.rest t (by simp [Ne.symm e])
  · refine (full_iff (getD_le_all (fun t => Nat.le_trans (hle t) h15))).2 (.inr (.inr ?_))
    have hall : ∀ n ∈ out, n = 0 := fun n hn => by
      obtain ⟨i, hi, rfl⟩ := List.getElem_of_mem hn
      have := hz i
      rwa [List.getD_eq_getElem?_getD, List.getElem?_eq_getElem hi] at this
    have key : ∀ (l : List Nat) (s : Nat), (∀ n ∈ l, n = 0) → s < l.length → (l.set s 1).countP (fun n => n != 0) = 1 ∧ (l.set s 1).count 1 = 1 := by
      intro l
      induction l with
      | nil => intro s _ h; simp at h
      | cons x l ih =>
        intro s hz hs
        have hx : x = 0 := hz x (by simp)
        subst hx
        cases s with
        | zero =>
          have c1 : l.countP (fun n => n != 0) = 0 := List.countP_eq_zero.2 fun n hn => by simp [hz n (by simp [hn])]
          have c2 : l.count 1 = 0 := List.count_eq_zero.2 fun hn => by have := hz 1 (by simp [hn]); omega
          simp [c1, c2]
        | succ s =>
          obtain ⟨a, b⟩ := ih s (fun n hn => hz n (by simp [hn])) (by simpa using hs)
          simp [a, b]
    exact key out s hall hlt

/-- No symbol at all. -/
theorem tree_none {used : List Bool} {out : List Nat} {most : Nat} (h : Tr used out [] 0) (h15 : most ≤ 15) : TreeOK used most out := by
  have hz : ∀ t, out.getD t 0 = 0 := fun t => by have := h.le t; omega
  refine ⟨h.len, fun s => h.rest s (by simp), fun s => by rw [hz]; omega, (full_iff (fun n hn => ?_)).2 (.inr (.inl (List.countP_eq_zero.2 fun n hn => ?_)))⟩
  all_goals
    obtain ⟨i, hi, rfl⟩ := List.getElem_of_mem hn
    have := hz i
    rw [List.getD_eq_getElem?_getD, List.getElem?_eq_getElem hi] at this
    simp at this
    simp [this]

/-- The symbols that are used. -/
def usedL (used : List Bool) : List Nat := (List.range used.length).filter fun s => used.getD s false

theorem tr_start (used : List Bool) : Tr used (List.replicate used.length 0) (usedL used) 0 := by
  have hz : ∀ s, (List.replicate used.length 0).getD s 0 = 0 := fun s => by rw [List.getD_eq_getElem?_getD, List.getElem?_replicate]; split <;> rfl
  refine ⟨by simp, List.nodup_range.sublist List.filter_sublist, fun s hs => ⟨hz s, ?_⟩, fun s hs => ?_, fun s => by rw [hz]; omega, by omega, ?_⟩
  · exact (List.mem_filter.1 hs).2
  · rw [hz]
    refine ⟨fun q => absurd rfl q, fun q => absurd (List.mem_filter.2 ⟨List.mem_range.2 (used_lt q), q⟩) hs⟩
  · have : ∀ n, ksum (List.replicate n 0) = 0 := fun n => by
      induction n with
      | zero => rfl
      | succ n ih => simp only [ksum, List.replicate_succ, List.map_cons, List.sum_cons] at ih ⊢; rw [ih]; rfl
    rw [this]

end Flate
