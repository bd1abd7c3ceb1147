/-
  PLAIN LEAN: THE MODEL OF THE READER OF DEFLATE BLOCKS: bits of a source as one number, the tables of a Huffman code, the steps of the reader. No program in sight.
-/
namespace Flate

/-! ### The source's bits as one number -/

/-- The bytes as one number, the first byte the lowest. -/
def num : List UInt8 → Nat
  | [] => 0
  | c :: l => c.toNat + 256 * num l

/-- n bits from bit 'at' on, as a number. -/
def bv (src : List UInt8) (at_ n : Nat) : Nat := num src / 2 ^ at_ % 2 ^ n

theorem bv_lt (src : List UInt8) (a n : Nat) : bv src a n < 2 ^ n := Nat.mod_lt _ (Nat.two_pow_pos n)

theorem num_lt (l : List UInt8) : num l < 2 ^ (8 * l.length) := by
  induction l with
  | nil => simp [num]
  | cons c l ih =>
    have hc := c.toNat_lt
    simp only [num, List.length_cons]
    rw [show 8 * (l.length + 1) = 8 * l.length + 8 from by omega, Nat.pow_add]
    omega

theorem num_div_byte (l : List UInt8) (i : Nat) : num l / 256 ^ i = num (l.drop i) := by
  induction i generalizing l with
  | zero => simp
  | succ i ih =>
    cases l with
    | nil => simp [num]
    | cons c l =>
      have hc := c.toNat_lt
      simp only [List.drop_succ_cons]
      rw [← ih, Nat.pow_succ, Nat.mul_comm, ← Nat.div_div_eq_div_mul]
      congr 1
      simp only [num]; omega

/-- A byte of the source is eight bits of the number. -/
theorem bv_byte (src : List UInt8) (i : Nat) (h : i < src.length) : bv src (8 * i) 8 = src[i].toNat := by
  have e : (2 : Nat) ^ (8 * i) = 256 ^ i := by rw [Nat.pow_mul]
  rw [bv, e, num_div_byte, List.drop_eq_getElem_cons h]
  have := src[i].toNat_lt
  simp only [num]; omega

theorem bv_add (src : List UInt8) (a n m : Nat) : bv src a (n + m) = bv src a n + 2 ^ n * bv src (a + n) m := by
  unfold bv
  rw [Nat.pow_add, Nat.pow_add, ← Nat.div_div_eq_div_mul, Nat.mod_mul]

theorem bv_div (src : List UInt8) (a n m : Nat) : bv src a (n + m) / 2 ^ n = bv src (a + n) m := by
  rw [bv_add, Nat.add_mul_div_left _ _ (Nat.two_pow_pos n), Nat.div_eq_of_lt (bv_lt src a n), Nat.zero_add]

theorem bv_mod (src : List UInt8) (a n m : Nat) : bv src a (n + m) % 2 ^ n = bv src a n := by
  rw [bv_add, Nat.add_mul_mod_self_left, Nat.mod_eq_of_lt (bv_lt src a n)]

theorem bv_zero (src : List UInt8) (a : Nat) : bv src a 0 = 0 := by simp [bv, Nat.mod_one]

theorem bv_or (src : List UInt8) (a n m : Nat) : bv src a n ||| (bv src (a + n) m <<< n) = bv src a (n + m) := by
  rw [bv_add, Nat.or_comm, Nat.shiftLeft_eq, Nat.mul_comm (bv src (a+n) m), Nat.add_comm (bv src a n)]
  exact (Nat.two_pow_add_eq_or_of_lt (bv_lt src a n) _).symm

/-! ### The reader's place: bits consumed, bytes read -/

structure Br where
  at_ : Nat
  pos : Nat
deriving DecidableEq

namespace Br
/-- Bits that are buffered. -/
def nb (r : Br) : Nat := 8 * r.pos - r.at_
/-- The buffer. -/
def b (src : List UInt8) (r : Br) : Nat := bv src r.at_ r.nb
def ok (src : List UInt8) (r : Br) : Prop := r.at_ ≤ 8 * r.pos ∧ r.pos ≤ src.length
end Br

/-- At least n bits in the buffer; false: the source breaks off. -/
def fill (len n : Nat) (r : Br) : Bool × Br :=
  if n ≤ r.nb then (true, r)
  else if (r.at_ + n + 7) / 8 ≤ len then (true, { r with pos := (r.at_ + n + 7) / 8 })
  else (false, { r with pos := len })

/-- One place turned. -/
def upd (g : Nat → UInt8) (k : Nat) (c : UInt8) : Nat → UInt8 := fun i => if i = k then c else g i
theorem upd_same (g : Nat → UInt8) (k : Nat) (c : UInt8) : upd g k c k = c := if_pos rfl
theorem upd_other (g : Nat → UInt8) {k i : Nat} (c : UInt8) (h : i ≠ k) : upd g k c i = g i := if_neg h

/-! ### Tables -/

structure Tab where
  min : Nat
  chunks : List Nat
  links : List (List Nat)
  mask : Nat
deriving DecidableEq

/-- The entry that the next bits choose. -/
def Tab.look (T : Tab) (bits : Nat) : Nat :=
  let c := T.chunks.getD (bits % 512) 0
  if 9 < c % 16 then (T.links.getD (c / 16) []).getD ((bits / 512) &&& T.mask) 0 else c

structure Tab.OK (T : Tab) : Prop where
  size : T.chunks.length = 512
  min : T.min ≤ 15
  chunk : ∀ i, T.chunks.getD i 0 < 2 ^ 32
  link : ∀ i, 9 < T.chunks.getD i 0 % 16 → T.chunks.getD i 0 / 16 < T.links.length
  row : ∀ l ∈ T.links, l.length = T.mask + 1
  entry : ∀ l ∈ T.links, ∀ i, l.getD i 0 < 2 ^ 32
  mask : T.mask < 2 ^ 32
  few : T.links.length ≤ 512
  two : T.links ≠ [] → 1 ≤ T.mask

inductive Err where
  | eof | cut | corrupt
deriving DecidableEq

/-- What reading gives: a value and the place behind it, or a fault and the place where it was met. -/
inductive Rd (α : Type) where
  | ok (v : α) (r : Br)
  | bad (e : Err) (r : Br)

/-- The next symbol: n bits at least are looked at first. -/
def sym (src : List UInt8) (T : Tab) : Nat → Nat → Br → Rd Nat
  | 0, _, r => .bad .corrupt r
  | f + 1, n, r =>
    match fill src.length n r with
    | (false, r') => .bad .cut r'
    | (true, r') =>
      let c := T.look (r'.b src)
      if c % 16 ≤ r'.nb then
        if c % 16 = 0 then .bad .corrupt r' else .ok (c / 16) { r' with at_ := r'.at_ + c % 16 }
      else sym src T f (c % 16) r'

def symbol (src : List UInt8) (T : Tab) (r : Br) : Rd Nat := sym src T 20 T.min r

theorem fill_has {len n : Nat} {r : Br} (h : n ≤ r.nb) : fill len n r = (true, r) := by unfold fill; rw [if_pos h]

theorem fill_end {len n : Nat} {r : Br} (h : ¬ n ≤ r.nb) (hp : r.pos = len) (ha : r.at_ ≤ 8 * r.pos) : fill len n r = (false, r) := by
  unfold Br.nb at h
  unfold fill; rw [if_neg (by unfold Br.nb; omega), if_neg (by omega)]
  cases r; simp_all

theorem fill_more {len n : Nat} {r : Br} (h : ¬ n ≤ r.nb) (hp : r.pos < len) (ha : r.at_ ≤ 8 * r.pos) : fill len n { r with pos := r.pos + 1 } = fill len n r := by
  unfold Br.nb at h
  unfold fill Br.nb
  simp only
  rw [if_neg (show ¬ n ≤ 8 * r.pos - r.at_ by omega)]
  by_cases h1 : n ≤ 8 * (r.pos + 1) - r.at_
  · rw [if_pos h1, if_pos (by omega)]
    congr 2; omega
  · rw [if_neg h1]

theorem sym_step {src : List UInt8} {T : Tab} {f n : Nat} {r r' : Br} (h : fill src.length n r = (true, r')) :
    sym src T (f + 1) n r = if T.look (r'.b src) % 16 ≤ r'.nb then
        if T.look (r'.b src) % 16 = 0 then .bad .corrupt r' else .ok (T.look (r'.b src) / 16) { r' with at_ := r'.at_ + T.look (r'.b src) % 16 }
      else sym src T f (T.look (r'.b src) % 16) r' := by
  rw [sym, h]

theorem sym_cut {src : List UInt8} {T : Tab} {f n : Nat} {r r' : Br} (h : fill src.length n r = (false, r')) : sym src T (f + 1) n r = .bad .cut r' := by
  rw [sym, h]

/-- What is left of the buffer behind n bits. -/
theorem b_skip {src : List UInt8} {r : Br} {n : Nat} (h : n ≤ r.nb) : r.b src / 2 ^ n = ({ r with at_ := r.at_ + n } : Br).b src := by
  have e : ({ r with at_ := r.at_ + n } : Br).nb = r.nb - n := by unfold Br.nb; simp only; omega
  have e2 : r.nb = n + (r.nb - n) := by omega
  unfold Br.b
  rw [e]
  conv => lhs; rw [e2]
  exact bv_div _ _ _ _

/-- So many bits as a number. -/
def getBits (src : List UInt8) (n : Nat) (r : Br) : Rd Nat :=
  match fill src.length n r with
  | (false, r') => .bad .cut r'
  | (true, r') => .ok (bv src r'.at_ n) { r' with at_ := r'.at_ + n }

end Flate
