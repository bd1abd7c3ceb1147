/-
  PLAIN LEAN: the first step of reading; stored blocks.
-/
import Derived.Test.YthfncdfcklbigaaDoorShift
set_option linter.unusedVariables false
set_option linter.unusedSimpArgs false
namespace Flate

/-- Where reading begins. -/
def start (H : List UInt8) : Cfg × List UInt8 := (.next ⟨0, 0⟩, H)

theorem start_ok (src H : List UInt8) : CfgOK src (start H).1 := ⟨⟨Nat.le_refl _, Nat.zero_le _⟩, by decide⟩

theorem bv_low (c : UInt8) (l : List UInt8) (a n : Nat) (h : a + n ≤ 8) : bv (c :: l) a n = c.toNat / 2 ^ a % 2 ^ n := by
  have e : num (c :: l) = c.toNat + 2 ^ a * (2 ^ n * (2 ^ (8 - a - n) * num l)) := by
    rw [num, ← Nat.mul_assoc, ← Nat.mul_assoc, ← Nat.pow_add, ← Nat.pow_add, show a + n + (8 - a - n) = 8 by omega]
  unfold bv
  rw [e, Nat.add_mul_div_left _ _ (Nat.two_pow_pos a), Nat.add_mul_mod_self_left]

theorem bv_two (src : List UInt8) (i : Nat) (h : i + 1 < src.length) : bv src (8 * i) 16 = src[i].toNat + 256 * src[i + 1].toNat := by
  rw [show (16 : Nat) = 8 + 8 from rfl, bv_add, bv_byte src i (by omega), show 8 * i + 8 = 8 * (i + 1) by omega, bv_byte src (i + 1) h]

theorem first_step (c : UInt8) (l H : List UInt8) : sstep (c :: l) (start H) =
    if c.toNat / 2 % 4 = 0 then storedStep (c :: l) (c.toNat % 2 == 1) 1 H
    else if c.toNat / 2 % 4 = 1 then (.huff (c.toNat % 2 == 1) ⟨3, 1⟩ fixedTab none, H)
    else if c.toNat / 2 % 4 = 2 then
      match readHuff (c :: l) ⟨3, 1⟩ with
      | .bad e r' => (.done e r'.pos, H)
      | .ok (T, D) r3 => (.huff (c.toNat % 2 == 1) r3 T (some D), H)
    else (.done .corrupt 1, H) := by
  have hf : fill (c :: l).length 3 ⟨0, 0⟩ = (true, ⟨0, 1⟩) := by
    unfold fill Br.nb
    rw [if_neg (by decide), if_pos (by simp only [List.length_cons]; omega)]
    rfl
  show nextStep (c :: l) ⟨0, 0⟩ H = _
  unfold nextStep
  rw [hf]
  simp only
  rw [bv_low c l 0 1 (by omega), bv_low c l (0 + 1) 2 (by omega)]
  (simp only [Nat.pow_zero, Nat.div_one, Nat.zero_add, Nat.pow_one, Nat.reducePow]) <;> rfl

/-- A stored block at the beginning. -/
theorem stored_first (last : Bool) (a b c d : UInt8) (l H : List UInt8) :
    sstep ((if last then 1 else 0) :: a :: b :: c :: d :: l) (start H) =
      if a.toNat + 256 * b.toNat + (c.toNat + 256 * d.toNat) ≠ 65535 then (.done .corrupt 5, H)
      else stRest ((if last then 1 else 0) :: a :: b :: c :: d :: l) last 5 (a.toNat + 256 * b.toNat) H := by
  have h1 : ((if last then 1 else 0 : UInt8)).toNat / 2 % 4 = 0 := by cases last <;> rfl
  have h2 : (((if last then 1 else 0 : UInt8)).toNat % 2 == 1) = last := by cases last <;> rfl
  rw [first_step, if_pos h1, h2]
  unfold storedStep
  rw [if_neg (by simp only [List.length_cons]; omega)]
  have e1 := bv_two ((if last then 1 else 0 : UInt8) :: a :: b :: c :: d :: l) 1 (by simp only [List.length_cons]; omega)
  have e2 := bv_two ((if last then 1 else 0 : UInt8) :: a :: b :: c :: d :: l) 3 (by simp only [List.length_cons]; omega)
  simp only [List.getElem_cons_succ, List.getElem_cons_zero, Nat.reduceMul, Nat.reduceAdd] at e1 e2 ⊢
  rw [e1, e2]

theorem not_byte (n : Nat) (hn : n < 256) : (~~~ UInt8.ofNat n).toNat = 255 - n := by
  have : ∀ k : Fin 256, (~~~ UInt8.ofNat k.1).toNat = 255 - k.1 := by decide +kernel
  exact this ⟨n, hn⟩

/-- A stored block of the data. -/
theorem stored_block (last : Bool) (data rest H : List UInt8) (hd : data.length ≤ 65535) :
    sstep (stHead last data.length ++ data ++ rest) (start H) = (more last ⟨8 * (5 + data.length), 5 + data.length⟩, H ++ data) := by
  have e0 : stHead last data.length ++ data ++ rest = (if last then 1 else 0) :: UInt8.ofNat (data.length % 256) :: UInt8.ofNat (data.length / 256) :: (~~~ UInt8.ofNat (data.length % 256)) :: (~~~ UInt8.ofNat (data.length / 256)) :: (data ++ rest) := by
    have : UInt8.ofNat data.length = UInt8.ofNat (data.length % 256) := by
      apply UInt8.toNat_inj.1; simp
    unfold stHead; rw [this]; rfl
  rw [e0, stored_first, not_byte _ (Nat.mod_lt _ (by omega)), not_byte _ (by omega)]
  have t1 : (UInt8.ofNat (data.length % 256)).toNat = data.length % 256 := by simp
  have t2 : (UInt8.ofNat (data.length / 256)).toNat = data.length / 256 := by simp; omega
  rw [t1, t2, if_neg (by omega)]
  have hn : data.length % 256 + 256 * (data.length / 256) = data.length := by omega
  rw [hn]
  unfold stRest
  rw [if_pos (by simp only [List.length_cons, List.length_append]; omega)]
  simp only [List.drop_succ_cons, List.drop_zero, List.take_append_of_le_length (Nat.le_refl _), List.take_length]

theorem stHead_len (last : Bool) (n : Nat) (l : List UInt8) : (stHead last n ++ l).length = 5 + l.length := by
  unfold stHead
  simp only [List.cons_append, List.nil_append, List.length_cons]
  omega

/-- Reading behind a stored block is reading what is behind it, with its data ahead. -/
theorem stored_then {data src : List UInt8} {e : Err} {p : Nat} {H : List UInt8} (hd : data.length ≤ 65535) (h : Reach src (start (lastOf data)) (.done e p, H)) :
    Reach (stHead false data.length ++ data ++ src) (start []) (.done e (p + (5 + data.length)), data.take (data.length - 32768) ++ H) := by
  refine .step ?_
  rw [stored_block false data src [] hd, List.nil_append]
  have hl : (stHead false data.length ++ data).length = 5 + data.length := stHead_len _ _ _
  have hfar : Far (data.take (data.length - 32768)) (start (lastOf data)).2 := by simp only [start]; exact lastOf_far data
  have := reach_shift (stHead false data.length ++ data) src h (start_ok src _) hfar
  rw [hl] at this
  simp only [start, Cfg.sh, lastOf_all, Br.sh, Nat.zero_add] at this
  exact this

/-- Reading behind a dictionary. -/
theorem dict_then {dict src : List UInt8} {e : Err} {p : Nat} {X : List UInt8} (hd : dict.length ≤ 65535) (h : Reach src (start (lastOf dict)) (.done e p, lastOf dict ++ X)) :
    Reach (stHead false dict.length ++ dict ++ src) (start []) (.done e (p + (5 + dict.length)), dict ++ X) := by
  have := stored_then hd h
  rw [← List.append_assoc, lastOf_all] at this
  exact this

theorem stored_last {data : List UInt8} (hd : data.length ≤ 65535) : Reach (stHead true data.length ++ data) (start []) (.done .eof (5 + data.length), data) := by
  refine .step ?_
  have := stored_block true data [] [] hd
  rw [List.append_nil] at this
  rw [this, List.nil_append]
  exact .refl _

/-- A block of the reserved kind. -/
theorem reserved {c : UInt8} {l H : List UInt8} (h : c.toNat / 2 % 4 = 3) : Reach (c :: l) (start H) (.done .corrupt 1, H) := by
  refine .step ?_
  rw [first_step, if_neg (by omega), if_neg (by omega), if_neg (by omega)]
  exact .refl _

/-- A last stored block with this length and complement. -/
theorem stored_len (n m : Nat) (data : List UInt8) (hn : n < 65536) (hm : m < 65536) :
    Reach ((1 : UInt8) :: UInt8.ofNat n :: UInt8.ofNat (n / 256) :: UInt8.ofNat m :: UInt8.ofNat (m / 256) :: data) (start [])
      (if n + m ≠ 65535 then (.done .corrupt 5, []) else if n ≤ data.length then (.done .eof (5 + n), data.take n) else (.done .cut (5 + data.length), data)) := by
  refine .step ?_
  have := stored_first true (UInt8.ofNat n) (UInt8.ofNat (n / 256)) (UInt8.ofNat m) (UInt8.ofNat (m / 256)) data []
  simp only [if_true] at this
  have t : ∀ k : Nat, k < 65536 → (UInt8.ofNat k).toNat + 256 * (UInt8.ofNat (k / 256)).toNat = k := by intro k hk; simp; omega
  rw [this, t n hn, t m hm]
  split
  · exact .refl _
  · unfold stRest
    simp only [List.length_cons, List.drop_succ_cons, List.drop_zero, List.nil_append]
    by_cases h : n ≤ data.length
    · rw [if_pos h, if_pos (by omega)]; exact .refl _
    · rw [if_neg h, if_neg (by omega), show data.length + 1 + 1 + 1 + 1 + 1 = 5 + data.length by omega]; exact .refl _

end Flate
