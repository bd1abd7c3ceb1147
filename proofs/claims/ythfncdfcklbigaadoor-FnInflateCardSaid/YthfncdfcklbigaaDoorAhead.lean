/-
  PLAIN LEAN: bytes behind the source change nothing as long as the source does not break off.
-/
import Derived.Test.YthfncdfcklbigaaDoorFlow
set_option linter.unusedVariables false
set_option linter.unusedSimpArgs false
namespace Flate

theorem num_append (l m : List UInt8) : num (l ++ m) = num l + 2 ^ (8 * l.length) * num m := by
  induction l with
  | nil => simp [num]
  | cons c l ih =>
    simp only [List.cons_append, num, ih, List.length_cons]
    rw [show 8 * (l.length + 1) = 8 + 8 * l.length by omega, Nat.pow_add, show (2 : Nat) ^ 8 = 256 from rfl, Nat.mul_add, Nat.mul_assoc]
    omega

theorem bv_append (l m : List UInt8) (a n : Nat) (h : a + n ≤ 8 * l.length) : bv (l ++ m) a n = bv l a n := by
  unfold bv
  have e : 2 ^ (8 * l.length) * num m = 2 ^ a * (2 ^ n * (2 ^ (8 * l.length - a - n) * num m)) := by
    rw [← Nat.mul_assoc, ← Nat.mul_assoc, ← Nat.pow_add, ← Nat.pow_add]; congr 2; omega
  rw [num_append, e, Nat.add_mul_div_left _ _ (Nat.two_pow_pos a), Nat.add_mul_mod_self_left]

/-- An answer that stands when more bytes follow. -/
def Rd.Ext {α : Type} (a b : Rd α) : Prop := match a with
  | .bad .cut _ => True
  | x => b = x

theorem fill_ext {n k : Nat} {src : List UInt8} {r r' : Br} (h : fill src.length n r = (true, r')) : fill (src.length + k) n r = (true, r') := by
  unfold fill at h ⊢
  split
  · rename_i h1; rw [if_pos h1] at h; exact h
  · rename_i h1
    rw [if_neg h1] at h
    split at h
    · rename_i h2; rw [if_pos (by omega)]; exact h
    · simp at h

theorem ok_ext {src m : List UInt8} {r : Br} (hr : r.ok src) : r.ok (src ++ m) := ⟨hr.1, by rw [List.length_append]; have := hr.2; omega⟩

theorem b_ext {src m : List UInt8} {r : Br} (hr : r.ok src) : r.b (src ++ m) = r.b src := by
  unfold Br.b
  refine bv_append _ _ _ _ ?_
  have := hr.1; have := hr.2; unfold Br.nb; omega

theorem getBits_ext {src m : List UInt8} {n : Nat} {r : Br} (hr : r.ok src) : (getBits src n r).Ext (getBits (src ++ m) n r) := by
  unfold getBits
  cases hf : fill src.length n r with
  | mk t r' =>
    cases t with
    | false => trivial
    | true =>
      obtain ⟨a1, a2, a3, a4, a5⟩ := fill_ok hr hf
      rw [List.length_append, fill_ext hf]
      simp only [Rd.Ext]
      have h1 := a1.1
      have h2 := a1.2
      have h3 := a4 rfl
      unfold Br.nb at h3
      rw [bv_append _ _ _ _ (by omega)]

theorem sym_ext {src m : List UInt8} {T : Tab} (f : Nat) : ∀ {n : Nat} {r : Br}, r.ok src → (sym src T f n r).Ext (sym (src ++ m) T f n r) := by
  induction f with
  | zero => intro n r _; exact rfl
  | succ f ih =>
    intro n r hr
    rw [sym, sym]
    cases hf : fill src.length n r with
    | mk t r' =>
      cases t with
      | false => trivial
      | true =>
        obtain ⟨a1, a2, a3, a4, a5⟩ := fill_ok hr hf
        rw [List.length_append, fill_ext hf]
        simp only
        rw [b_ext a1]
        split
        · split <;> exact rfl
        · exact ih a1

theorem symbol_ext {src m : List UInt8} {T : Tab} {r : Br} (hr : r.ok src) : (symbol src T r).Ext (symbol (src ++ m) T r) := sym_ext 20 hr

/-- The answers are the same, or the first one breaks off. -/
theorem Rd.Ext.cases {α : Type} {a b : Rd α} (h : a.Ext b) : (∃ r, a = .bad .cut r) ∨ b = a := by
  cases a with
  | ok v r => exact .inr h
  | bad e r =>
    cases e with
    | cut => exact .inl ⟨r, rfl⟩
    | eof => exact .inr h
    | corrupt => exact .inr h

theorem Rd.Ext.rfl' {α : Type} (a : Rd α) : a.Ext a := by
  cases a with
  | ok v r => exact rfl
  | bad e r => cases e <;> first | exact rfl | trivial

theorem distSym_ext {src m : List UInt8} {D : Option Tab} {r : Br} (hr : r.ok src) : (distSym src D r).Ext (distSym (src ++ m) D r) := by
  unfold distSym
  cases D with
  | some T => exact symbol_ext hr
  | none =>
    rcases (getBits_ext (m := m) (n := 5) hr).cases with ⟨q, h⟩ | h
    · rw [h]; trivial
    · rw [h]; exact Rd.Ext.rfl' _

theorem pair_ext {src m : List UInt8} {D : Option Tab} {v : Nat} {r : Br} (hD : ∀ T, D = some T → T.OK) (hr : r.ok src) (hnb : r.nb ≤ 22) : (pair src D v r).Ext (pair (src ++ m) D v r) := by
  unfold pair
  cases lenOf v with
  | none => exact rfl
  | some p =>
    obtain ⟨lb, lx⟩ := p
    have g1 := getBits_good (n := lx) hr hnb
    simp only
    rcases (getBits_ext (m := m) (n := lx) hr).cases with ⟨q, h⟩ | h
    · rw [h]; trivial
    rw [h]
    cases h1 : getBits src lx r with
    | bad e q => exact Rd.Ext.rfl' _
    | ok x r2 =>
      rw [h1] at g1; obtain ⟨b1, b2, b3, b4⟩ := g1
      have g2 := distSym_good hD b2 b4
      simp only
      rcases (distSym_ext (m := m) (D := D) b2).cases with ⟨q, h⟩ | h
      · rw [h]; trivial
      rw [h]
      cases h2 : distSym src D r2 with
      | bad e q => exact Rd.Ext.rfl' _
      | ok ds r3 =>
        rw [h2] at g2; obtain ⟨c1, c2, c3, c4⟩ := g2
        simp only
        cases distOf ds with
        | none => exact rfl
        | some p =>
          obtain ⟨db, dx⟩ := p
          simp only
          rcases (getBits_ext (m := m) (n := dx) c2).cases with ⟨q, h⟩ | h
          · rw [h]; trivial
          · rw [h]; exact Rd.Ext.rfl' _

theorem clRead_ext {src m : List UInt8} (k : Nat) : ∀ {acc : List Nat} {r : Br}, r.ok src → r.nb ≤ 22 → (clRead src k acc r).Ext (clRead (src ++ m) k acc r) := by
  induction k with
  | zero => intro acc r _ _; exact rfl
  | succ k ih =>
    intro acc r hr hnb
    have g1 := getBits_good (n := 3) hr hnb
    rw [clRead, clRead]
    rcases (getBits_ext (m := m) (n := 3) hr).cases with ⟨q, h⟩ | h
    · rw [h]; trivial
    rw [h]
    cases h1 : getBits src 3 r with
    | bad e q => exact Rd.Ext.rfl' _
    | ok x r2 =>
      rw [h1] at g1
      exact ih g1.2.1 g1.2.2.2

theorem lenStep_ext {src m : List UInt8} {T : Tab} (hT : T.OK) {n : Nat} {acc : List Nat} {r : Br} (hr : r.ok src) (hnb : r.nb ≤ 22) : (lenStep src T n acc r).Ext (lenStep (src ++ m) T n acc r) := by
  have g1 := symbol_good hT hr hnb
  unfold lenStep
  rcases (symbol_ext (m := m) (T := T) hr).cases with ⟨q, h⟩ | h
  · rw [h]; trivial
  rw [h]
  cases h1 : symbol src T r with
  | bad e q => exact Rd.Ext.rfl' _
  | ok x r1 =>
    rw [h1] at g1; obtain ⟨b1, b2, b3, b4⟩ := g1
    simp only
    split
    · exact rfl
    · split
      · exact rfl
      · rcases (getBits_ext (m := m) (n := (repOf x acc).2.1) b2).cases with ⟨q, h⟩ | h
        · rw [h]; trivial
        · rw [h]; exact Rd.Ext.rfl' _

theorem lenRead_ext {src m : List UInt8} {T : Tab} (hT : T.OK) {n : Nat} (f : Nat) : ∀ {acc : List Nat} {r : Br}, r.ok src → r.nb ≤ 22 → (∀ v ∈ acc, v ≤ 15) → (lenRead src T n f acc r).Ext (lenRead (src ++ m) T n f acc r) := by
  induction f with
  | zero => intro acc r _ _ _; exact rfl
  | succ f ih =>
    intro acc r hr hnb ha
    rw [lenRead, lenRead]
    split
    · exact rfl
    · rename_i hn
      have g1 := lenStep_good hT hr hnb ha (by omega : acc.length < n)
      rcases (lenStep_ext (m := m) hT (n := n) (acc := acc) hr hnb).cases with ⟨q, h⟩ | h
      · rw [h]; trivial
      rw [h]
      cases h1 : lenStep src T n acc r with
      | bad e q => exact Rd.Ext.rfl' _
      | ok acc' r' =>
        rw [h1] at g1
        exact ih g1.2.1 g1.2.2.2 g1.1.2.2

theorem readHuff_ext {src m : List UInt8} {r : Br} (hr : r.ok src) (hnb : r.nb ≤ 22) : (readHuff src r).Ext (readHuff (src ++ m) r) := by
  unfold readHuff
  cases hf : fill src.length 14 r with
  | mk t r1 =>
    cases t with
    | false => trivial
    | true =>
      obtain ⟨a1, a2, a3, a4, a5⟩ := fill_ok hr hf
      have h14 := a4 rfl
      obtain ⟨b1, b2⟩ := skip_ok a1 h14
      have h1 := a1.1
      have h2 := a1.2
      have h15 := h14
      unfold Br.nb at h15
      rw [List.length_append, fill_ext hf]
      simp only
      rw [bv_append src m r1.at_ 5 (by omega), bv_append src m (r1.at_ + 5) 5 (by omega), bv_append src m (r1.at_ + 10) 4 (by omega)]
      split
      · exact rfl
      · split
        · exact rfl
        · have g1 := clRead_good (bv src (r1.at_ + 10) 4 + 4) (acc := []) b1 (by rw [b2]; omega) (fun v hv => absurd hv List.not_mem_nil)
          rcases (clRead_ext (m := m) (bv src (r1.at_ + 10) 4 + 4) (acc := []) b1 (by rw [b2]; omega)).cases with ⟨q, h⟩ | h
          · rw [h]; trivial
          rw [h]
          cases h1 : clRead src (bv src (r1.at_ + 10) 4 + 4) [] { r1 with at_ := r1.at_ + 14 } with
          | bad e q => exact Rd.Ext.rfl' _
          | ok vs r2 =>
            rw [h1] at g1; obtain ⟨c1, c2, c3, c4⟩ := g1
            have hcl := initTab_law (lens := clens vs) (fun n hn => by have := clens_le c1.2 n hn; omega) (by rw [clens_length]; omega)
            simp only
            cases h2 : initTab (clens vs) with
            | none => exact rfl
            | some o =>
              cases o with
              | none => exact rfl
              | some TC =>
                simp only
                rcases (lenRead_ext (m := m) (hcl.2 TC h2).1 (n := bv src r1.at_ 5 + 257 + (bv src (r1.at_ + 5) 5 + 1)) 400 (acc := []) c2 c4 (fun v hv => absurd hv List.not_mem_nil)).cases with ⟨q, h⟩ | h
                · rw [h]; trivial
                rw [h]
                exact Rd.Ext.rfl' _

theorem drop_append_le {l m : List UInt8} {p : Nat} (h : p ≤ l.length) : (l ++ m).drop p = l.drop p ++ m := by rw [List.drop_append, show p - l.length = 0 by omega, List.drop_zero]

/-- A step with more bytes behind the source: the same, or the source broke off and what was read is the beginning of what is read now. -/
theorem sstep_ext {src m : List UInt8} {c : Cfg} {H : List UInt8} (h : CfgOK src c) (hd : c.isDone = false) :
    sstep (src ++ m) (c, H) = sstep src (c, H) ∨ ∃ p X, sstep src (c, H) = (.done .cut p, H ++ X) ∧ ∃ Y, (sstep (src ++ m) (c, H)).2 = H ++ X ++ Y := by
  have cutq : ∀ {p : Nat} {c2 : Cfg}, sstep src (c2, H) = (.done .cut p, H) → CfgOK (src ++ m) c2 → c2.isDone = false → ∃ p X, sstep src (c2, H) = (.done .cut p, H ++ X) ∧ ∃ Y, (sstep (src ++ m) (c2, H)).2 = H ++ X ++ Y := by
    intro p c2 h1 h2 h3
    obtain ⟨_, _, X, h4, _⟩ := sstep_ok (H := H) h2 h3
    exact ⟨p, [], by rw [h1, List.append_nil], X, by rw [h4, List.append_nil]⟩
  cases c with
  | done e p => simp [Cfg.isDone] at hd
  | next r =>
    obtain ⟨hr, hnb⟩ := h
    have hok : CfgOK (src ++ m) (.next r) := ⟨ok_ext hr, hnb⟩
    have e1 : ∀ s, sstep s (.next r, H) = nextStep s r H := fun _ => rfl
    cases hf : fill src.length 3 r with
    | mk t r1 =>
      obtain ⟨a1, a2, a3, a4, a5⟩ := fill_ok hr hf
      cases t with
      | false => right; exact cutq (p := r1.pos) (by rw [e1]; unfold nextStep; rw [hf]) hok rfl
      | true =>
        have h3 := a4 rfl
        obtain ⟨b1, b2⟩ := skip_ok a1 h3
        have p1 := a1.1
        have p2 := a1.2
        unfold Br.nb at h3
        have E : ∀ s, s = src ++ m → nextStep s r H = (
            if bv src (r1.at_ + 1) 2 = 0 then storedStep s (bv src r1.at_ 1 == 1) r1.pos H
            else if bv src (r1.at_ + 1) 2 = 1 then (.huff (bv src r1.at_ 1 == 1) { r1 with at_ := r1.at_ + 3 } fixedTab none, H)
            else if bv src (r1.at_ + 1) 2 = 2 then
              match readHuff s { r1 with at_ := r1.at_ + 3 } with
              | .bad e r' => (.done e r'.pos, H)
              | .ok (T, D) r3 => (.huff (bv src r1.at_ 1 == 1) r3 T (some D), H)
            else (.done .corrupt r1.pos, H)) := by
          intro s hs
          unfold nextStep
          rw [hs, List.length_append, fill_ext hf]
          simp only
          (rw [bv_append src m r1.at_ 1 (by omega), bv_append src m (r1.at_ + 1) 2 (by omega)]) <;> rfl
        have E0 : nextStep src r H = (
            if bv src (r1.at_ + 1) 2 = 0 then storedStep src (bv src r1.at_ 1 == 1) r1.pos H
            else if bv src (r1.at_ + 1) 2 = 1 then (.huff (bv src r1.at_ 1 == 1) { r1 with at_ := r1.at_ + 3 } fixedTab none, H)
            else if bv src (r1.at_ + 1) 2 = 2 then
              match readHuff src { r1 with at_ := r1.at_ + 3 } with
              | .bad e r' => (.done e r'.pos, H)
              | .ok (T, D) r3 => (.huff (bv src r1.at_ 1 == 1) r3 T (some D), H)
            else (.done .corrupt r1.pos, H)) := by unfold nextStep; (rw [hf]) <;> rfl
        rw [e1, e1, E _ rfl, E0]
        split
        · unfold storedStep
          by_cases hs : src.length < r1.pos + 4
          · right
            rw [if_pos hs]
            refine ⟨src.length, [], by rw [List.append_nil], ?_⟩
            have := sstep_ok (H := H) hok rfl
            rw [e1, E _ rfl, if_pos (by assumption)] at this
            obtain ⟨_, _, X, h4, _⟩ := this
            unfold storedStep at h4
            exact ⟨X, by rw [h4, List.append_nil]⟩
          · rw [if_neg hs, if_neg (show ¬ (src ++ m).length < r1.pos + 4 by rw [List.length_append]; omega), bv_append src m (8 * r1.pos) 16 (by omega), bv_append src m (8 * r1.pos + 16) 16 (by omega)]
            split
            · exact .inl rfl
            · unfold stRest
              by_cases hn : r1.pos + 4 + bv src (8 * r1.pos) 16 ≤ src.length
              · left
                rw [if_pos hn, if_pos (by rw [List.length_append]; omega), drop_append_le (by omega), List.take_append_of_le_length (by rw [List.length_drop]; omega)]
              · right
                rw [if_neg hn]
                refine ⟨src.length, src.drop (r1.pos + 4), rfl, ?_⟩
                split
                · refine ⟨m.take (bv src (8 * r1.pos) 16 - (src.length - (r1.pos + 4))), ?_⟩
                  rw [drop_append_le (by omega), List.take_append, List.take_of_length_le (by rw [List.length_drop]; omega), List.length_drop, List.append_assoc]
                · exact ⟨m, by rw [drop_append_le (by omega), List.append_assoc]⟩
        · split
          · exact .inl rfl
          · split
            · rcases (readHuff_ext (m := m) b1 (by rw [b2]; omega)).cases with ⟨q, hq⟩ | hq
              · right
                have := sstep_ok (H := H) hok rfl
                rw [e1, E _ rfl, if_neg (by assumption), if_neg (by assumption), if_pos (by assumption)] at this
                obtain ⟨_, _, X, h4, _⟩ := this
                rw [hq]
                exact ⟨q.pos, [], by rw [List.append_nil], X, by rw [h4, List.append_nil]⟩
              · left; rw [hq]
            · exact .inl rfl
  | huff last r T D =>
    obtain ⟨hr, hnb, hT, hD⟩ := h
    have hok : CfgOK (src ++ m) (.huff last r T D) := ⟨ok_ext hr, hnb, hT, hD⟩
    have e1 : ∀ s, sstep s (.huff last r T D, H) = huffStep s last r T D H := fun _ => rfl
    have g1 := symbol_good hT hr hnb
    rcases (symbol_ext (m := m) (T := T) hr).cases with ⟨q, hq⟩ | hq
    · right; exact cutq (p := q.pos) (by rw [e1]; unfold huffStep; rw [hq]) hok rfl
    cases h1 : symbol src T r with
    | bad e q => left; rw [e1, e1]; unfold huffStep; rw [hq, h1]
    | ok v r1 =>
      rw [h1] at g1; obtain ⟨b1, b2, b3, b4⟩ := g1
      by_cases hv : v < 256
      · left; rw [e1, e1]; unfold huffStep; rw [hq, h1]; simp only; rw [if_pos hv, if_pos hv]
      by_cases hv2 : v = 256
      · left; rw [e1, e1]; unfold huffStep; rw [hq, h1]; simp only; rw [if_neg hv, if_pos hv2, if_neg hv, if_pos hv2]
      rcases (pair_ext (m := m) (D := D) (v := v) hD b2 b4).cases with ⟨q, hq2⟩ | hq2
      · right; exact cutq (p := q.pos) (by rw [e1]; unfold huffStep; rw [h1]; simp only; rw [if_neg hv, if_neg hv2, hq2]) hok rfl
      · left; rw [e1, e1]; unfold huffStep; rw [hq, h1]; simp only; rw [if_neg hv, if_neg hv2, if_neg hv, if_neg hv2, hq2]

/-- More bytes behind the source. -/
theorem reach_ext {src m : List UInt8} {x : Cfg × List UInt8} {e e2 : Err} {p p2 : Nat} {H1 H2 : List UInt8} (h : Reach src x (.done e p, H1)) (hx : CfgOK src x.1) (k : Reach (src ++ m) x (.done e2 p2, H2)) :
    (e ≠ .cut → e2 = e ∧ p2 = p ∧ H2 = H1) ∧ (e = .cut → ∃ X, H2 = H1 ++ X) := by
  generalize hy : (Cfg.done e p, H1) = y at h
  induction h with
  | refl c =>
    subst hy
    have := k.done
    simp only [Prod.mk.injEq, Cfg.done.injEq] at this
    exact ⟨fun _ => ⟨this.1.1, this.1.2, this.2⟩, fun _ => ⟨[], by rw [List.append_nil]; exact this.2⟩⟩
  | @step c d hs ih =>
    by_cases hd : c.1.isDone = false
    · obtain ⟨c1, H⟩ := c
      have ok1 := sstep_ok (H := H) hx hd
      have hok2 : ∀ {c : Cfg}, CfgOK src c → CfgOK (src ++ m) c := by
        intro c hc
        cases c with
        | next r => exact ⟨ok_ext hc.1, hc.2⟩
        | huff last r T D => exact ⟨ok_ext hc.1, hc.2⟩
        | done e p => exact Nat.le_trans hc (by rw [List.length_append]; omega)
      rcases sstep_ext (m := m) (H := H) hx hd with hq | ⟨q, X, hq, Y, hY⟩
      · exact ih ok1.1 (by rw [← hq]; exact k.back (Reach.one _ _)) hy
      · rw [hq] at hs
        have h1 := hs.done
        rw [← hy] at h1
        simp only [Prod.mk.injEq, Cfg.done.injEq] at h1
        obtain ⟨⟨h2, h3⟩, h4⟩ := h1
        refine ⟨fun hne => absurd h2 hne, fun _ => ?_⟩
        have k2 := k.back (Reach.one _ _)
        obtain ⟨_, Z, hZ⟩ := k2.ok (sstep_ok (H := H) (hok2 hx) hd).1
        simp only at hZ
        rw [hZ, hY, h4]
        exact ⟨Y ++ Z, by rw [List.append_assoc]⟩
    · obtain ⟨c1, H⟩ := c
      cases c1 with
      | next r => simp [Cfg.isDone] at hd
      | huff last r T D => simp [Cfg.isDone] at hd
      | done e' p' => exact ih hx (by exact k) hy

end Flate
