/-
  PLAIN LEAN: bytes ahead of the source, and history that lies too far back.
-/
import Derived.Test.YthfncdfcklbigaaDoorAhead
set_option linter.unusedVariables false
set_option linter.unusedSimpArgs false
namespace Flate

theorem bv_shift (pre src : List UInt8) (a n : Nat) : bv (pre ++ src) (a + 8 * pre.length) n = bv src a n := by
  unfold bv
  rw [num_append, Nat.add_comm a, Nat.pow_add, ← Nat.div_div_eq_div_mul, Nat.add_mul_div_left _ _ (Nat.two_pow_pos _), Nat.div_eq_of_lt (num_lt pre), Nat.zero_add]

/-- A place behind P bytes more. -/
def Br.sh (P : Nat) (r : Br) : Br := ⟨r.at_ + 8 * P, r.pos + P⟩

theorem sh_nb (P : Nat) (r : Br) : (r.sh P).nb = r.nb := by unfold Br.nb Br.sh; simp only; omega

theorem sh_skip (P n : Nat) (r : Br) : ({ r.sh P with at_ := (r.sh P).at_ + n } : Br) = ({ r with at_ := r.at_ + n } : Br).sh P := by
  unfold Br.sh; simp only [Br.mk.injEq, and_true]; omega

theorem sh_b (pre src : List UInt8) (r : Br) : (r.sh pre.length).b (pre ++ src) = r.b src := by
  unfold Br.b; rw [sh_nb]; exact bv_shift _ _ _ _

theorem fill_shift (pre src : List UInt8) (n : Nat) (r : Br) : fill (pre ++ src).length n (r.sh pre.length) = ((fill src.length n r).1, (fill src.length n r).2.sh pre.length) := by
  have e1 : (r.at_ + 8 * pre.length + n + 7) / 8 = (r.at_ + n + 7) / 8 + pre.length := by omega
  unfold fill
  rw [sh_nb]
  split
  · rfl
  · simp only [Br.sh, List.length_append]
    rw [e1]
    split
    · rename_i h; rw [if_pos (by omega)]
    · rename_i h; rw [if_neg (by omega), Nat.add_comm pre.length]

def Rd.sh {α : Type} (P : Nat) : Rd α → Rd α
  | .ok v r => .ok v (r.sh P)
  | .bad e r => .bad e (r.sh P)

section
variable (pre src : List UInt8)

theorem getBits_shift (n : Nat) (r : Br) : getBits (pre ++ src) n (r.sh pre.length) = (getBits src n r).sh pre.length := by
  unfold getBits
  rw [fill_shift]
  cases fill src.length n r with
  | mk t r' =>
    cases t with
    | false => rfl
    | true =>
      simp only
      rw [show (r'.sh pre.length).at_ = r'.at_ + 8 * pre.length from rfl, bv_shift]
      rw [← show (r'.sh pre.length).at_ = r'.at_ + 8 * pre.length from rfl, sh_skip]; rfl

theorem sym_shift (T : Tab) (f : Nat) : ∀ (n : Nat) (r : Br), sym (pre ++ src) T f n (r.sh pre.length) = (sym src T f n r).sh pre.length := by
  induction f with
  | zero => intro n r; rfl
  | succ f ih =>
    intro n r
    rw [sym, sym, fill_shift]
    cases fill src.length n r with
    | mk t r' =>
      cases t with
      | false => rfl
      | true =>
        simp only
        rw [sh_b, sh_nb]
        split
        · split
          · rfl
          · rw [sh_skip]; rfl
        · exact ih _ _

theorem symbol_shift (T : Tab) (r : Br) : symbol (pre ++ src) T (r.sh pre.length) = (symbol src T r).sh pre.length := sym_shift pre src T 20 _ r

theorem distSym_shift (D : Option Tab) (r : Br) : distSym (pre ++ src) D (r.sh pre.length) = (distSym src D r).sh pre.length := by
  unfold distSym
  cases D with
  | some T => exact symbol_shift pre src T r
  | none => rw [getBits_shift]; cases getBits src 5 r <;> rfl

theorem pair_shift (D : Option Tab) (v : Nat) (r : Br) : pair (pre ++ src) D v (r.sh pre.length) = (pair src D v r).sh pre.length := by
  unfold pair
  cases lenOf v with
  | none => rfl
  | some p =>
    obtain ⟨lb, lx⟩ := p
    simp only
    rw [getBits_shift]
    cases getBits src lx r with
    | bad e q => rfl
    | ok x r2 =>
      simp only [Rd.sh]
      rw [distSym_shift]
      cases distSym src D r2 with
      | bad e q => rfl
      | ok ds r3 =>
        simp only [Rd.sh]
        cases distOf ds with
        | none => rfl
        | some p =>
          obtain ⟨db, dx⟩ := p
          simp only
          rw [getBits_shift]
          cases getBits src dx r3 <;> rfl

theorem clRead_shift (k : Nat) : ∀ (acc : List Nat) (r : Br), clRead (pre ++ src) k acc (r.sh pre.length) = (clRead src k acc r).sh pre.length := by
  induction k with
  | zero => intro acc r; rfl
  | succ k ih =>
    intro acc r
    rw [clRead, clRead, getBits_shift]
    cases getBits src 3 r with
    | bad e q => rfl
    | ok x r2 => exact ih _ _

theorem lenStep_shift (T : Tab) (n : Nat) (acc : List Nat) (r : Br) : lenStep (pre ++ src) T n acc (r.sh pre.length) = (lenStep src T n acc r).sh pre.length := by
  unfold lenStep
  rw [symbol_shift]
  cases symbol src T r with
  | bad e q => rfl
  | ok x r1 =>
    simp only [Rd.sh]
    split
    · rfl
    · split
      · rfl
      · rw [getBits_shift]
        cases getBits src (repOf x acc).2.1 r1 with
        | bad e q => rfl
        | ok y r2 => simp only [Rd.sh]; split <;> rfl

theorem lenRead_shift (T : Tab) (n : Nat) (f : Nat) : ∀ (acc : List Nat) (r : Br), lenRead (pre ++ src) T n f acc (r.sh pre.length) = (lenRead src T n f acc r).sh pre.length := by
  induction f with
  | zero => intro acc r; rfl
  | succ f ih =>
    intro acc r
    rw [lenRead, lenRead]
    split
    · rfl
    · rw [lenStep_shift]
      cases lenStep src T n acc r with
      | bad e q => rfl
      | ok acc' r' => exact ih _ _

theorem twoTabs_shift (P : Nat) (ls : List Nat) (nlit : Nat) (r : Br) : twoTabs ls nlit (r.sh P) = (twoTabs ls nlit r).sh P := by
  unfold twoTabs
  cases initTab (ls.take nlit) with
  | none => rfl
  | some o1 =>
    cases o1 with
    | none => rfl
    | some T1 =>
      simp only
      cases initTab (ls.drop nlit) with
      | none => rfl
      | some o2 => cases o2 <;> rfl

theorem readHuff_shift (r : Br) : readHuff (pre ++ src) (r.sh pre.length) = (readHuff src r).sh pre.length := by
  unfold readHuff
  rw [fill_shift]
  cases fill src.length 14 r with
  | mk t r1 =>
    cases t with
    | false => rfl
    | true =>
      simp only
      have a0 : (r1.sh pre.length).at_ = r1.at_ + 8 * pre.length := rfl
      have a1 : (r1.sh pre.length).at_ + 5 = r1.at_ + 5 + 8 * pre.length := by rw [a0]; omega
      have a2 : (r1.sh pre.length).at_ + 10 = r1.at_ + 10 + 8 * pre.length := by rw [a0]; omega
      rw [sh_skip, a1, a2, a0, bv_shift, bv_shift, bv_shift]
      split
      · rfl
      · split
        · rfl
        · rw [clRead_shift]
          cases clRead src (bv src (r1.at_ + 10) 4 + 4) [] { r1 with at_ := r1.at_ + 14 } with
          | bad e q => rfl
          | ok vs r2 =>
            simp only [Rd.sh]
            cases initTab (clens vs) with
            | none => rfl
            | some o =>
              cases o with
              | none => rfl
              | some TC =>
                simp only
                rw [lenRead_shift]
                cases lenRead src TC (bv src r1.at_ 5 + 257 + (bv src (r1.at_ + 5) 5 + 1)) 400 [] r2 with
                | bad e q => rfl
                | ok ls r3 => simp only [Rd.sh]; exact twoTabs_shift _ _ _ _

/-- The same place behind P bytes more. -/
def Cfg.sh (P : Nat) : Cfg → Cfg
  | .next r => .next (r.sh P)
  | .huff l r T D => .huff l (r.sh P) T D
  | .done e p => .done e (p + P)

/-- History that lies too far back. -/
def Far (Z H : List UInt8) : Prop := Z = [] ∨ 32768 ≤ H.length

theorem lzBytes_far (Z H : List UInt8) (d n : Nat) (h1 : 1 ≤ d) (h : d ≤ H.length) : lzBytes (Z ++ H) d n = lzBytes H d n := by
  unfold lzBytes
  refine List.map_congr_left fun j _ => ?_
  have hm : j % d < d := Nat.mod_lt _ (by omega)
  rw [getD_append_right (by rw [List.length_append]; omega), List.length_append]
  congr 1; omega

theorem more_sh (P : Nat) (last : Bool) (r : Br) : more last (r.sh P) = (more last r).sh P := by cases last <;> rfl

theorem stRest_shift (last : Bool) (pos n : Nat) (Z H : List UInt8) : stRest (pre ++ src) last (pos + pre.length) n (Z ++ H) = ((stRest src last pos n H).1.sh pre.length, Z ++ (stRest src last pos n H).2) := by
  have e1 : (pre ++ src).drop (pos + pre.length) = src.drop pos := by rw [Nat.add_comm, List.drop_append]; simp
  have e2 : (⟨8 * (pos + pre.length + n), pos + pre.length + n⟩ : Br) = (⟨8 * (pos + n), pos + n⟩ : Br).sh pre.length := by unfold Br.sh; simp only [Br.mk.injEq]; omega
  unfold stRest
  rw [List.length_append, e1, e2, more_sh]
  split
  · rw [if_pos (by omega), List.append_assoc]
  · rw [if_neg (by omega), List.append_assoc, Nat.add_comm]; rfl

theorem sstep_shift {c : Cfg} {Z H : List UInt8} (h : CfgOK src c) (hf : Far Z H) :
    sstep (pre ++ src) (c.sh pre.length, Z ++ H) = ((sstep src (c, H)).1.sh pre.length, Z ++ (sstep src (c, H)).2) := by
  cases c with
  | done e p => rfl
  | next r =>
    show nextStep (pre ++ src) (r.sh pre.length) (Z ++ H) = ((nextStep src r H).1.sh pre.length, Z ++ (nextStep src r H).2)
    unfold nextStep
    rw [fill_shift]
    cases fill src.length 3 r with
    | mk t r1 =>
      cases t with
      | false => rfl
      | true =>
        simp only
        have a0 : (r1.sh pre.length).at_ = r1.at_ + 8 * pre.length := rfl
        have a1 : (r1.sh pre.length).at_ + 1 = r1.at_ + 1 + 8 * pre.length := by rw [a0]; omega
        rw [sh_skip, a1, a0, bv_shift, bv_shift]
        split
        · show storedStep (pre ++ src) _ (r1.pos + pre.length) (Z ++ H) = _
          have a2 : 8 * (r1.pos + pre.length) = 8 * r1.pos + 8 * pre.length := by omega
          have a3 : 8 * (r1.pos + pre.length) + 16 = 8 * r1.pos + 16 + 8 * pre.length := by omega
          unfold storedStep
          rw [a3, a2, bv_shift, bv_shift, List.length_append]
          by_cases hs : src.length < r1.pos + 4
          · rw [if_pos hs, if_pos (by omega), Nat.add_comm pre.length]; rfl
          · rw [if_neg hs, if_neg (by omega), show r1.pos + pre.length + 4 = r1.pos + 4 + pre.length by omega]
            split
            · rfl
            · exact stRest_shift pre src _ _ _ _ _
        · split
          · rfl
          · split
            · rw [readHuff_shift]
              cases readHuff src { r1 with at_ := r1.at_ + 3 } <;> rfl
            · rfl
  | huff last r T D =>
    obtain ⟨hr, hnb, hT, hD⟩ := h
    show huffStep (pre ++ src) last (r.sh pre.length) T D (Z ++ H) = ((huffStep src last r T D H).1.sh pre.length, Z ++ (huffStep src last r T D H).2)
    have g1 := symbol_good hT hr hnb
    unfold huffStep
    rw [symbol_shift]
    cases h1 : symbol src T r with
    | bad e q => rfl
    | ok v r1 =>
      rw [h1] at g1; obtain ⟨b1, b2, b3, b4⟩ := g1
      simp only [Rd.sh]
      split
      · rw [List.append_assoc]; rfl
      · split
        · rw [more_sh]
        · rw [pair_shift]
          have g2 := pair_good (D := D) (v := v) hD (by omega) b2 b4
          cases h2 : pair src D v r1 with
          | bad e q => rfl
          | ok p r2 =>
            rw [h2] at g2; obtain ⟨⟨c1, c2, c3, c4⟩, c5⟩ := g2
            obtain ⟨n, d⟩ := p
            simp only at c3 c4
            simp only [Rd.sh]
            have hlt : (Z ++ H).length < d ↔ H.length < d := by
              rw [List.length_append]
              rcases hf with rfl | hf
              · simp
              · omega
            by_cases hd : H.length < d
            · rw [if_pos hd, if_pos (hlt.2 hd)]; rfl
            · rw [if_neg hd, if_neg (fun q => hd (hlt.1 q))]
              unfold lz
              rw [lzBytes_far Z H d n c3 (by omega), List.append_assoc]; rfl

theorem reach_shift {x y : Cfg × List UInt8} {Z : List UInt8} (h : Reach src x y) (hx : CfgOK src x.1) (hf : Far Z x.2) : Reach (pre ++ src) (x.1.sh pre.length, Z ++ x.2) (y.1.sh pre.length, Z ++ y.2) := by
  induction h with
  | refl c => exact .refl _
  | @step c d hs ih =>
    have h1 := sstep_shift pre src (Z := Z) (H := c.2) hx hf
    have hk := (Reach.one src c).ok hx
    refine .step ?_
    rw [h1]
    refine ih hk.1 ?_
    obtain ⟨X, hX⟩ := hk.2
    rcases hf with hf | hf
    · exact .inl hf
    · right; rw [hX, List.length_append]; omega

end

/-- The end of a dictionary that a reader keeps. -/
def lastOf (dict : List UInt8) : List UInt8 := dict.drop (dict.length - 32768)

theorem lastOf_far (dict : List UInt8) : Far (dict.take (dict.length - 32768)) (lastOf dict) := by
  unfold lastOf Far
  by_cases h : dict.length ≤ 32768
  · left; rw [show dict.length - 32768 = 0 by omega]; rfl
  · right; rw [List.length_drop]; omega

theorem lastOf_all (dict : List UInt8) : dict.take (dict.length - 32768) ++ lastOf dict = dict := List.take_append_drop _ _

/-- A stored block's five bytes. -/
def stHead (last : Bool) (n : Nat) : List UInt8 := [if last then 1 else 0, UInt8.ofNat n, UInt8.ofNat (n / 256), ~~~ UInt8.ofNat n, ~~~ UInt8.ofNat (n / 256)]

end Flate
