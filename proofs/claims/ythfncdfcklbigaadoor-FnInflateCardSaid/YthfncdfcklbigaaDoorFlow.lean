/-
  PLAIN LEAN: the reader of blocks as a machine that goes from place to place. No program in sight.
-/
import Derived.Test.YthfncdfcklbigaaDoorTabOk
import Derived.Test.YthfncdfcklbigaaDoorHist
set_option linter.unusedVariables false
set_option linter.unusedSimpArgs false
namespace Flate

/-- The order in which the lengths of the code for lengths stand. -/
def clOrder : List Nat := [16, 17, 18, 0, 8, 7, 9, 6, 10, 5, 11, 4, 12, 3, 13, 2, 14, 1, 15]

/-- Numbers of three bits. -/
def clRead (src : List UInt8) : Nat → List Nat → Br → Rd (List Nat)
  | 0, acc, r => .ok acc r
  | k + 1, acc, r =>
    match getBits src 3 r with
    | .bad e r' => .bad e r'
    | .ok x r' => clRead src k (acc ++ [x]) r'

/-- The lengths of the code for lengths. -/
def clens (vs : List Nat) : List Nat := (List.range 19).map fun s => vs.getD (clOrder.idxOf s) 0

/-- How a length is repeated: how often at least, how many bits say more, and which. -/
def repOf (x : Nat) (acc : List Nat) : Nat × Nat × Nat := if x = 16 then (3, 2, acc.getD (acc.length - 1) 0) else if x = 17 then (3, 3, 0) else (11, 7, 0)

/-- One symbol more of the lengths. -/
def lenStep (src : List UInt8) (T : Tab) (n : Nat) (acc : List Nat) (r : Br) : Rd (List Nat) :=
  match symbol src T r with
  | .bad e r' => .bad e r'
  | .ok x r1 =>
    if x < 16 then .ok (acc ++ [x]) r1
    else if x = 16 ∧ acc.length = 0 then .bad .corrupt r1
    else match getBits src (repOf x acc).2.1 r1 with
      | .bad e r' => .bad e r'
      | .ok y r2 => if n < acc.length + ((repOf x acc).1 + y) then .bad .corrupt r2 else .ok (acc ++ List.replicate ((repOf x acc).1 + y) (repOf x acc).2.2) r2

/-- The lengths of the codes: n of them. -/
def lenRead (src : List UInt8) (T : Tab) (n : Nat) : Nat → List Nat → Br → Rd (List Nat)
  | 0, acc, r => .ok acc r
  | f + 1, acc, r =>
    if n ≤ acc.length then .ok acc r
    else match lenStep src T n acc r with
      | .bad e r' => .bad e r'
      | .ok acc' r' => lenRead src T n f acc' r'

/-- The tables out of the lengths. -/
def twoTabs (ls : List Nat) (nlit : Nat) (r : Br) : Rd (Tab × Tab) :=
  match initTab (ls.take nlit) with
  | none | some none => .bad .corrupt r
  | some (some T1) =>
    match initTab (ls.drop nlit) with
    | none | some none => .bad .corrupt r
    | some (some T2) => .ok ({ T1 with min := if T1.min < ls.getD 256 0 then ls.getD 256 0 else T1.min }, T2) r

/-- The tables of a block with codes of its own. -/
def readHuff (src : List UInt8) (r : Br) : Rd (Tab × Tab) :=
  match fill src.length 14 r with
  | (false, r') => .bad .cut r'
  | (true, r1) =>
    if 29 < bv src r1.at_ 5 then .bad .corrupt r1
    else if 29 < bv src (r1.at_ + 5) 5 then .bad .corrupt r1
    else
      match clRead src (bv src (r1.at_ + 10) 4 + 4) [] { r1 with at_ := r1.at_ + 14 } with
      | .bad e r' => .bad e r'
      | .ok vs r2 =>
        match initTab (clens vs) with
        | none | some none => .bad .corrupt r2
        | some (some TC) =>
          match lenRead src TC (bv src r1.at_ 5 + 257 + (bv src (r1.at_ + 5) 5 + 1)) 400 [] r2 with
          | .bad e r' => .bad e r'
          | .ok ls r3 => twoTabs ls (bv src r1.at_ 5 + 257) r3

/-- Where reading stands. -/
inductive Cfg where
  | next (r : Br)
  | huff (last : Bool) (r : Br) (T : Tab) (D : Option Tab)
  | done (e : Err) (pos : Nat)

/-- Behind a block. -/
def more (last : Bool) (r : Br) : Cfg := if last then .done .eof r.pos else .next r

/-- What a symbol from 257 on says of a length: the least one, how many bits say more. -/
def lenOf (v : Nat) : Option (Nat × Nat) :=
  if v < 265 then some (v - 254, 0)
  else if v < 269 then some (v * 2 - 519, 1)
  else if v < 273 then some (v * 4 - 1057, 2)
  else if v < 277 then some (v * 8 - 2149, 3)
  else if v < 281 then some (v * 16 - 4365, 4)
  else if v < 285 then some (v * 32 - 8861, 5)
  else if v < 286 then some (258, 0)
  else none

/-- What a symbol says of a distance. -/
def distOf (d : Nat) : Option (Nat × Nat) :=
  if d < 4 then some (d + 1, 0)
  else if d < 30 then some (2 ^ ((d - 2) / 2 + 1) + 1 + d % 2 * 2 ^ ((d - 2) / 2), (d - 2) / 2)
  else none

/-- The symbol of a distance. -/
def distSym (src : List UInt8) (D : Option Tab) (r : Br) : Rd Nat :=
  match D with
  | some T => symbol src T r
  | none =>
    match getBits src 5 r with
    | .bad e r' => .bad e r'
    | .ok x r' => .ok (revB 5 x) r'

/-- A length and a distance behind the symbol v. -/
def pair (src : List UInt8) (D : Option Tab) (v : Nat) (r1 : Br) : Rd (Nat × Nat) :=
  match lenOf v with
  | none => .bad .corrupt r1
  | some (lb, lx) =>
    match getBits src lx r1 with
    | .bad e r' => .bad e r'
    | .ok x r2 =>
      match distSym src D r2 with
      | .bad e r' => .bad e r'
      | .ok ds r3 =>
        match distOf ds with
        | none => .bad .corrupt r3
        | some (db, dx) =>
          match getBits src dx r3 with
          | .bad e r' => .bad e r'
          | .ok y r4 => .ok (lb + x, db + y) r4

/-- A symbol of a block. -/
def huffStep (src : List UInt8) (last : Bool) (r : Br) (T : Tab) (D : Option Tab) (H : List UInt8) : Cfg × List UInt8 :=
  match symbol src T r with
  | .bad e r' => (.done e r'.pos, H)
  | .ok v r1 =>
    if v < 256 then (.huff last r1 T D, H ++ [UInt8.ofNat v])
    else if v = 256 then (more last r1, H)
    else match pair src D v r1 with
      | .bad e r' => (.done e r'.pos, H)
      | .ok (n, d) r' => if H.length < d then (.done .corrupt r'.pos, H) else (.huff last r' T D, lz H d n)

/-- n bytes of a stored block from a place on. -/
def stRest (src : List UInt8) (last : Bool) (pos n : Nat) (H : List UInt8) : Cfg × List UInt8 :=
  if pos + n ≤ src.length then (more last ⟨8 * (pos + n), pos + n⟩, H ++ (src.drop pos).take n) else (.done .cut src.length, H ++ src.drop pos)

/-- A stored block. -/
def storedStep (src : List UInt8) (last : Bool) (pos : Nat) (H : List UInt8) : Cfg × List UInt8 :=
  if src.length < pos + 4 then (.done .cut src.length, H)
  else if bv src (8 * pos) 16 + bv src (8 * pos + 16) 16 ≠ 65535 then (.done .corrupt (pos + 4), H)
  else stRest src last (pos + 4) (bv src (8 * pos) 16) H

def fixedTab : Tab := match initTab fixedLens with | some (some T) => T | _ => emptyTab

/-- A block's beginning. -/
def nextStep (src : List UInt8) (r : Br) (H : List UInt8) : Cfg × List UInt8 :=
  match fill src.length 3 r with
  | (false, r') => (.done .cut r'.pos, H)
  | (true, r1) =>
    let last := bv src r1.at_ 1 == 1
    let t := bv src (r1.at_ + 1) 2
    let r2 : Br := { r1 with at_ := r1.at_ + 3 }
    if t = 0 then storedStep src last r2.pos H
    else if t = 1 then (.huff last r2 fixedTab none, H)
    else if t = 2 then
      match readHuff src r2 with
      | .bad e r' => (.done e r'.pos, H)
      | .ok (T, D) r3 => (.huff last r3 T (some D), H)
    else (.done .corrupt r2.pos, H)

def sstep (src : List UInt8) : Cfg × List UInt8 → Cfg × List UInt8
  | (.next r, H) => nextStep src r H
  | (.huff last r T D, H) => huffStep src last r T D H
  | (.done e p, H) => (.done e p, H)

/-- From one place to another in some steps. -/
inductive Reach (src : List UInt8) : Cfg × List UInt8 → Cfg × List UInt8 → Prop
  | refl (c) : Reach src c c
  | step {c d} : Reach src (sstep src c) d → Reach src c d

theorem Reach.trans {src : List UInt8} {a b c : Cfg × List UInt8} (h : Reach src a b) (k : Reach src b c) : Reach src a c := by
  induction h with
  | refl => exact k
  | step _ ih => exact .step (ih k)

theorem Reach.one (src : List UInt8) (c : Cfg × List UInt8) : Reach src c (sstep src c) := .step (.refl _)

theorem Reach.done {src : List UInt8} {e : Err} {p : Nat} {H : List UInt8} {x : Cfg × List UInt8} (h : Reach src (.done e p, H) x) : x = (.done e p, H) := by
  generalize hc : (Cfg.done e p, H) = c at h
  induction h with
  | refl => rfl
  | step _ ih => exact (ih (by subst hc; rfl)).trans (by subst hc; rfl)

/-- Who reaches the end passes every place on the way. -/
theorem Reach.back {src : List UInt8} {c x : Cfg × List UInt8} {e : Err} {p : Nat} {H : List UInt8} (h : Reach src c (.done e p, H)) (k : Reach src c x) : Reach src x (.done e p, H) := by
  induction k with
  | refl => exact h
  | step _ ih =>
    cases h with
    | refl => exact ih (.refl _)
    | step h => exact ih h

theorem Reach.end_unique {src : List UInt8} {c : Cfg × List UInt8} {e e' : Err} {p p' : Nat} {H H' : List UInt8} (h : Reach src c (.done e p, H)) (k : Reach src c (.done e' p', H')) : e = e' ∧ p = p' ∧ H = H' := by
  have := (h.back k).done
  simp only [Prod.mk.injEq, Cfg.done.injEq] at this
  exact ⟨this.1.1, this.1.2, this.2⟩

/-! ### What reading keeps -/

theorem fill_ok {src : List UInt8} {n : Nat} {r r' : Br} {t : Bool} (hr : r.ok src) (h : fill src.length n r = (t, r')) : r'.ok src ∧ r'.at_ = r.at_ ∧ (r'.nb ≤ r.nb ∨ r'.nb ≤ n + 7) ∧ (t = true → n ≤ r'.nb) ∧ (t = false → r'.pos = src.length) := by
  obtain ⟨h1, h2⟩ := hr
  unfold fill at h
  split at h
  · rename_i hn
    obtain ⟨rfl, rfl⟩ := Prod.mk.injEq .. ▸ h
    exact ⟨⟨h1, h2⟩, rfl, .inl (Nat.le_refl _), fun _ => hn, fun e => Bool.noConfusion e⟩
  · rename_i hn
    split at h
    · rename_i hl
      obtain ⟨rfl, rfl⟩ := Prod.mk.injEq .. ▸ h
      refine ⟨⟨by simp only; omega, hl⟩, rfl, .inr ?_, fun _ => ?_, fun e => Bool.noConfusion e⟩
      · unfold Br.nb; simp only; omega
      · unfold Br.nb; simp only; omega
    · rename_i hl
      obtain ⟨rfl, rfl⟩ := Prod.mk.injEq .. ▸ h
      refine ⟨⟨by simp only; omega, Nat.le_refl _⟩, rfl, .inr ?_, fun e => Bool.noConfusion e, fun _ => rfl⟩
      unfold Br.nb; simp only; omega

/-- A good answer of a reader: the place went on by a bit at least. -/
def Rd.Good {α : Type} (src : List UInt8) (k : Nat) (r : Br) (P : α → Prop) : Rd α → Prop
  | .ok v r' => P v ∧ r'.ok src ∧ r.at_ + k ≤ r'.at_ ∧ r'.nb ≤ 22
  | .bad _ r' => r'.ok src

theorem skip_ok {src : List UInt8} {r : Br} {n : Nat} (hr : r.ok src) (hn : n ≤ r.nb) : ({ r with at_ := r.at_ + n } : Br).ok src ∧ ({ r with at_ := r.at_ + n } : Br).nb = r.nb - n := by
  obtain ⟨h1, h2⟩ := hr
  unfold Br.nb at hn
  refine ⟨⟨by simp only; omega, h2⟩, ?_⟩
  unfold Br.nb; simp only; omega

theorem getBits_good {src : List UInt8} {n : Nat} {r : Br} (hr : r.ok src) (hnb : r.nb ≤ 22) : (getBits src n r).Good src n r (fun v => v < 2 ^ n) := by
  unfold getBits
  cases hf : fill src.length n r with
  | mk t r' =>
    obtain ⟨a1, a2, a3, a4, a5⟩ := fill_ok hr hf
    cases t with
    | false => exact a1
    | true =>
      have hn := a4 rfl
      obtain ⟨b1, b2⟩ := skip_ok a1 hn
      refine ⟨bv_lt _ _ _, b1, by simp only; omega, ?_⟩
      rw [b2]; omega

theorem Tab.look_lt {T : Tab} (h : T.OK) (x : Nat) : T.look x < 2 ^ 32 := by
  have gd : ∀ (l : List (List Nat)) (i : Nat), l.getD i [] ∈ l ∨ l.getD i [] = [] := by
    intro l i
    rw [List.getD_eq_getElem?_getD]
    by_cases hi : i < l.length
    · rw [List.getElem?_eq_getElem hi]; exact .inl (List.getElem_mem hi)
    · rw [List.getElem?_eq_none (by omega)]; exact .inr rfl
  unfold Tab.look
  simp only
  split
  · rcases gd T.links (T.chunks.getD (x % 512) 0 / 16) with q | q
    · exact h.entry _ q _
    · rw [q]; simp
  · exact h.chunk _

theorem sym_good {src : List UInt8} {T : Tab} (hT : T.OK) (f : Nat) : ∀ {n : Nat} {r : Br}, n ≤ 15 → r.ok src → r.nb ≤ 22 → (sym src T f n r).Good src 1 r (fun v => v < 2 ^ 28) := by
  induction f with
  | zero => intro n r _ hr _; exact hr
  | succ f ih =>
    intro n r hn hr hnb
    rw [sym]
    cases hf : fill src.length n r with
    | mk t r' =>
      obtain ⟨a1, a2, a3, a4, a5⟩ := fill_ok hr hf
      cases t with
      | false => exact a1
      | true =>
        have h16 : T.look (r'.b src) % 16 < 16 := Nat.mod_lt _ (by omega)
        have hlt := Tab.look_lt hT (r'.b src)
        simp only
        split
        · rename_i h1
          split
          · exact a1
          · rename_i h0
            obtain ⟨b1, b2⟩ := skip_ok a1 h1
            refine ⟨by omega, b1, by simp only; omega, ?_⟩
            rw [b2]; omega
        · have := ih (n := T.look (r'.b src) % 16) (r := r') (by omega) a1 (by omega)
          cases hs : sym src T f (T.look (r'.b src) % 16) r' with
          | bad e q => rw [hs] at this; exact this
          | ok v q => rw [hs] at this; obtain ⟨b1, b2, b3, b4⟩ := this; exact ⟨b1, b2, by omega, b4⟩

theorem symbol_good {src : List UInt8} {T : Tab} (hT : T.OK) {r : Br} (hr : r.ok src) (hnb : r.nb ≤ 22) : (symbol src T r).Good src 1 r (fun v => v < 2 ^ 28) := sym_good hT 20 hT.min hr hnb

theorem distSym_good {src : List UInt8} {D : Option Tab} (hD : ∀ T, D = some T → T.OK) {r : Br} (hr : r.ok src) (hnb : r.nb ≤ 22) : (distSym src D r).Good src 1 r (fun v => v < 2 ^ 28) := by
  unfold distSym
  cases D with
  | some T => exact symbol_good (hD T rfl) hr hnb
  | none =>
    have := getBits_good (n := 5) hr hnb
    cases hs : getBits src 5 r with
    | bad e q => rw [hs] at this; exact this
    | ok v q =>
      rw [hs] at this; obtain ⟨b1, b2, b3, b4⟩ := this
      exact ⟨Nat.lt_of_lt_of_le (revB_lt 5 v) (by decide), b2, by omega, b4⟩

theorem lenOf_le {v lb lx : Nat} (h : lenOf v = some (lb, lx)) (h257 : 256 < v) : 3 ≤ lb ∧ lb + 2 ^ lx ≤ 259 ∧ lx ≤ 5 := by
  unfold lenOf at h
  repeat' split at h
  all_goals simp only [Option.some.injEq, Prod.mk.injEq, reduceCtorEq] at h
  all_goals
    obtain ⟨e1, e2⟩ := h
    rw [← e1, ← e2]
    simp only [Nat.reducePow]; omega

theorem distOf_le {d db dx : Nat} (h : distOf d = some (db, dx)) : 1 ≤ db ∧ db + 2 ^ dx ≤ 32769 ∧ dx ≤ 13 := by
  unfold distOf at h
  split at h
  · obtain ⟨rfl, rfl⟩ := Prod.mk.injEq .. ▸ Option.some.inj h; simp only [Nat.reducePow]; omega
  · split at h
    · rename_i h4 h30
      have hd : d = 4 ∨ d = 5 ∨ d = 6 ∨ d = 7 ∨ d = 8 ∨ d = 9 ∨ d = 10 ∨ d = 11 ∨ d = 12 ∨ d = 13 ∨ d = 14 ∨ d = 15 ∨ d = 16 ∨ d = 17 ∨ d = 18 ∨ d = 19 ∨ d = 20 ∨ d = 21 ∨ d = 22 ∨ d = 23 ∨ d = 24 ∨ d = 25 ∨ d = 26 ∨ d = 27 ∨ d = 28 ∨ d = 29 := by omega
      obtain ⟨h1, h2⟩ := Prod.mk.injEq .. ▸ Option.some.inj h
      subst h1; subst h2
      rcases hd with rfl | rfl | rfl | rfl | rfl | rfl | rfl | rfl | rfl | rfl | rfl | rfl | rfl | rfl | rfl | rfl | rfl | rfl | rfl | rfl | rfl | rfl | rfl | rfl | rfl | rfl <;> decide
    · exact absurd h (by simp)

theorem pair_good {src : List UInt8} {D : Option Tab} (hD : ∀ T, D = some T → T.OK) {v : Nat} {r : Br} (hv : 256 < v) (hr : r.ok src) (hnb : r.nb ≤ 22) :
    (pair src D v r).Good src 0 r (fun p => 3 ≤ p.1 ∧ p.1 ≤ 258 ∧ 1 ≤ p.2 ∧ p.2 ≤ 32768) := by
  unfold pair
  cases hl : lenOf v with
  | none => exact hr
  | some lp =>
    obtain ⟨lb, lx⟩ := lp
    have hL := lenOf_le hl hv
    have g1 := getBits_good (n := lx) hr hnb
    simp only
    cases h1 : getBits src lx r with
    | bad e q => rw [h1] at g1; exact g1
    | ok x r2 =>
      rw [h1] at g1; obtain ⟨b1, b2, b3, b4⟩ := g1
      have g2 := distSym_good hD b2 b4
      simp only
      cases h2 : distSym src D r2 with
      | bad e q => rw [h2] at g2; exact g2
      | ok ds r3 =>
        rw [h2] at g2; obtain ⟨c1, c2, c3, c4⟩ := g2
        simp only
        cases h3 : distOf ds with
        | none => exact c2
        | some dp =>
          obtain ⟨db, dx⟩ := dp
          have hDd := distOf_le h3
          have g3 := getBits_good (n := dx) c2 c4
          simp only
          cases h4 : getBits src dx r3 with
          | bad e q => rw [h4] at g3; exact g3
          | ok y r4 =>
            rw [h4] at g3; obtain ⟨d1, d2, d3, d4⟩ := g3
            exact ⟨⟨by simp only; omega, by simp only; omega, by simp only; omega, by simp only; omega⟩, d2, by omega, d4⟩

theorem clRead_good {src : List UInt8} (k : Nat) : ∀ {acc : List Nat} {r : Br}, r.ok src → r.nb ≤ 22 → (∀ v ∈ acc, v ≤ 7) → (clRead src k acc r).Good src 0 r (fun vs => vs.length = acc.length + k ∧ ∀ v ∈ vs, v ≤ 7) := by
  induction k with
  | zero => intro acc r hr hnb ha; exact ⟨⟨rfl, ha⟩, hr, by omega, hnb⟩
  | succ k ih =>
    intro acc r hr hnb ha
    have g1 := getBits_good (n := 3) hr hnb
    rw [clRead]
    cases h1 : getBits src 3 r with
    | bad e q => rw [h1] at g1; exact g1
    | ok x r2 =>
      rw [h1] at g1; obtain ⟨b1, b2, b3, b4⟩ := g1
      have g2 := ih (acc := acc ++ [x]) b2 b4 (fun v hv => by
        rcases List.mem_append.1 hv with hv | hv
        · exact ha v hv
        · rw [List.mem_singleton.1 hv]; omega)
      simp only
      cases h2 : clRead src k (acc ++ [x]) r2 with
      | bad e q => rw [h2] at g2; exact g2
      | ok vs r3 =>
        rw [h2] at g2; obtain ⟨c1, c2, c3, c4⟩ := g2
        refine ⟨⟨by rw [c1.1]; simp; omega, c1.2⟩, c2, by omega, c4⟩

theorem clens_le {vs : List Nat} (h : ∀ v ∈ vs, v ≤ 7) : ∀ n ∈ clens vs, n ≤ 7 := by
  intro n hn
  unfold clens at hn
  obtain ⟨s, _, rfl⟩ := List.mem_map.1 hn
  rw [List.getD_eq_getElem?_getD]
  by_cases hi : clOrder.idxOf s < vs.length
  · rw [List.getElem?_eq_getElem hi]; exact h _ (List.getElem_mem hi)
  · rw [List.getElem?_eq_none (by omega)]; exact Nat.zero_le _

theorem clens_length (vs : List Nat) : (clens vs).length = 19 := by unfold clens; simp

theorem sym_val {src : List UInt8} {T : Tab} {S : Nat} (hS : T.Sym S) (f : Nat) : ∀ {n : Nat} {r : Br} {v : Nat} {r' : Br}, sym src T f n r = .ok v r' → v < S := by
  induction f with
  | zero => intro n r v r' h; exact absurd h (by simp [sym])
  | succ f ih =>
    intro n r v r' h
    rw [sym] at h
    cases hf : fill src.length n r with
    | mk t q =>
      rw [hf] at h
      cases t with
      | false => exact absurd h (by simp)
      | true =>
        simp only at h
        split at h
        · split at h
          · exact absurd h (by simp)
          · rename_i h0
            simp only [Rd.ok.injEq] at h
            rw [← h.1]
            rcases hS (q.b src) with e | e
            · exact absurd e h0
            · exact e
        · exact ih h

theorem getD_le {l : List Nat} {m i : Nat} (h : ∀ v ∈ l, v ≤ m) : l.getD i 0 ≤ m := by
  rw [List.getD_eq_getElem?_getD]
  by_cases hi : i < l.length
  · rw [List.getElem?_eq_getElem hi]; exact h _ (List.getElem_mem hi)
  · rw [List.getElem?_eq_none (by omega)]; exact Nat.zero_le _

theorem repOf_le {x : Nat} {acc : List Nat} (ha : ∀ v ∈ acc, v ≤ 15) : 3 ≤ (repOf x acc).1 ∧ (repOf x acc).1 ≤ 11 ∧ 2 ≤ (repOf x acc).2.1 ∧ (repOf x acc).2.1 ≤ 7 ∧ (repOf x acc).2.2 ≤ 15 := by
  unfold repOf
  split
  · exact ⟨by simp, by simp, by simp, by simp, getD_le ha⟩
  · split <;> exact ⟨by simp, by simp, by simp, by simp, by simp⟩

theorem lenStep_good {src : List UInt8} {T : Tab} (hT : T.OK) {n : Nat} {acc : List Nat} {r : Br} (hr : r.ok src) (hnb : r.nb ≤ 22) (ha : ∀ v ∈ acc, v ≤ 15) (hn : acc.length < n) :
    (lenStep src T n acc r).Good src 1 r (fun acc' => acc.length < acc'.length ∧ acc'.length ≤ n ∧ ∀ v ∈ acc', v ≤ 15) := by
  have g1 := symbol_good hT hr hnb
  unfold lenStep
  cases h1 : symbol src T r with
  | bad e q => rw [h1] at g1; exact g1
  | ok x r1 =>
    rw [h1] at g1; obtain ⟨b1, b2, b3, b4⟩ := g1
    simp only
    split
    · refine ⟨⟨by simp, by simp; omega, fun v hv => ?_⟩, b2, b3, b4⟩
      rcases List.mem_append.1 hv with hv | hv
      · exact ha v hv
      · rw [List.mem_singleton.1 hv]; omega
    · split
      · exact b2
      · have hrep := repOf_le (x := x) ha
        have g2 := getBits_good (n := (repOf x acc).2.1) b2 b4
        cases h2 : getBits src (repOf x acc).2.1 r1 with
        | bad e q => rw [h2] at g2; exact g2
        | ok y r2 =>
          rw [h2] at g2; obtain ⟨c1, c2, c3, c4⟩ := g2
          simp only
          split
          · exact c2
          · refine ⟨⟨by simp; omega, by simp; omega, fun v hv => ?_⟩, c2, by omega, c4⟩
            rcases List.mem_append.1 hv with hv | hv
            · exact ha v hv
            · rw [(List.mem_replicate.1 hv).2]; exact hrep.2.2.2.2

theorem lenRead_good {src : List UInt8} {T : Tab} (hT : T.OK) {n : Nat} (f : Nat) : ∀ {acc : List Nat} {r : Br}, r.ok src → r.nb ≤ 22 → (∀ v ∈ acc, v ≤ 15) → acc.length ≤ n → n ≤ acc.length + f →
    (lenRead src T n f acc r).Good src 0 r (fun ls => ls.length = n ∧ ∀ v ∈ ls, v ≤ 15) := by
  induction f with
  | zero => intro acc r hr hnb ha h1 h2; exact ⟨⟨by omega, ha⟩, hr, by omega, hnb⟩
  | succ f ih =>
    intro acc r hr hnb ha h1 h2
    rw [lenRead]
    by_cases h : n ≤ acc.length
    · rw [if_pos h]; exact ⟨⟨by omega, ha⟩, hr, by omega, hnb⟩
    · rw [if_neg h]
      have g1 := lenStep_good hT hr hnb ha (by omega : acc.length < n)
      cases h3 : lenStep src T n acc r with
      | bad e q => rw [h3] at g1; exact g1
      | ok acc' r' =>
        rw [h3] at g1; obtain ⟨b1, b2, b3, b4⟩ := g1
        have g2 := ih b2 b4 b1.2.2 b1.2.1 (by omega)
        simp only
        cases h4 : lenRead src T n f acc' r' with
        | bad e q => rw [h4] at g2; exact g2
        | ok ls r2 => rw [h4] at g2; exact ⟨g2.1, g2.2.1, by have := g2.2.2.1; omega, g2.2.2.2⟩

theorem twoTabs_good {src : List UInt8} {ls : List Nat} {nlit : Nat} {r : Br} (hr : r.ok src) (hnb : r.nb ≤ 22) (hl : ls.length ≤ 320) (h15 : ∀ v ∈ ls, v ≤ 15) :
    (twoTabs ls nlit r).Good src 0 r (fun p => p.1.OK ∧ p.2.OK) := by
  have l1 := initTab_law (lens := ls.take nlit) (fun v hv => h15 v (List.mem_of_mem_take hv)) (by rw [List.length_take]; omega)
  have l2 := initTab_law (lens := ls.drop nlit) (fun v hv => h15 v (List.mem_of_mem_drop hv)) (by rw [List.length_drop]; omega)
  unfold twoTabs
  cases h1 : initTab (ls.take nlit) with
  | none => exact hr
  | some o1 =>
    cases o1 with
    | none => exact hr
    | some T1 =>
      simp only
      cases h2 : initTab (ls.drop nlit) with
      | none => exact hr
      | some o2 =>
        cases o2 with
        | none => exact hr
        | some T2 =>
          have k1 := (l1.2 T1 h1).1
          have k2 := (l2.2 T2 h2).1
          refine ⟨⟨⟨k1.size, ?_, k1.chunk, k1.link, k1.row, k1.entry, k1.mask, k1.few, k1.two⟩, k2⟩, hr, by omega, hnb⟩
          have := k1.min
          have := getD_le (i := 256) h15
          simp only
          split <;> omega

theorem readHuff_good {src : List UInt8} {r : Br} (hr : r.ok src) (hnb : r.nb ≤ 22) : (readHuff src r).Good src 0 r (fun p => p.1.OK ∧ p.2.OK) := by
  unfold readHuff
  cases hf : fill src.length 14 r with
  | mk t r1 =>
    obtain ⟨a1, a2, a3, a4, a5⟩ := fill_ok hr hf
    cases t with
    | false => exact a1
    | true =>
      have h14 := a4 rfl
      obtain ⟨b1, b2⟩ := skip_ok a1 h14
      simp only
      split
      · exact a1
      · split
        · exact a1
        · rename_i n1 n2
          have g1 := clRead_good (bv src (r1.at_ + 10) 4 + 4) (acc := []) b1 (by rw [b2]; omega) (fun v hv => absurd hv List.not_mem_nil)
          cases h1 : clRead src (bv src (r1.at_ + 10) 4 + 4) [] { r1 with at_ := r1.at_ + 14 } with
          | bad e q => rw [h1] at g1; exact g1
          | ok vs r2 =>
            rw [h1] at g1; obtain ⟨c1, c2, c3, c4⟩ := g1
            have hcl := initTab_law (lens := clens vs) (fun n hn => by have := clens_le c1.2 n hn; omega) (by rw [clens_length]; omega)
            simp only
            cases h2 : initTab (clens vs) with
            | none => exact c2
            | some o =>
              cases o with
              | none => exact c2
              | some TC =>
                have g2 := lenRead_good (hcl.2 TC h2).1 (n := bv src r1.at_ 5 + 257 + (bv src (r1.at_ + 5) 5 + 1)) 400 (acc := []) c2 c4 (fun v hv => absurd hv List.not_mem_nil) (Nat.zero_le _) (by simp only [List.length_nil]; omega)
                simp only
                cases h3 : lenRead src TC (bv src r1.at_ 5 + 257 + (bv src (r1.at_ + 5) 5 + 1)) 400 [] r2 with
                | bad e q => rw [h3] at g2; exact g2
                | ok ls r3 =>
                  rw [h3] at g2; obtain ⟨d1, d2, d3, d4⟩ := g2
                  have g3 := twoTabs_good (nlit := bv src r1.at_ 5 + 257) d2 d4 (by omega) d1.2
                  simp only
                  cases h4 : twoTabs ls (bv src r1.at_ 5 + 257) r3 with
                  | bad e q => rw [h4] at g3; exact g3
                  | ok p r4 => rw [h4] at g3; exact ⟨g3.1, g3.2.1, by have := g3.2.2.1; simp only at c3; omega, g3.2.2.2⟩

/-! ### The machine comes to an end -/

theorem fixedLens_le : ∀ n ∈ fixedLens, n ≤ 15 := by
  intro n hn; unfold fixedLens at hn; simp only [List.mem_append, List.mem_replicate] at hn; omega
theorem fixedLens_length : fixedLens.length = 288 := by unfold fixedLens; simp only [List.length_append, List.length_replicate]

def CfgOK (src : List UInt8) : Cfg → Prop
  | .next r => r.ok src ∧ r.nb ≤ 22
  | .huff _ r T D => r.ok src ∧ r.nb ≤ 22 ∧ T.OK ∧ ∀ T', D = some T' → T'.OK
  | .done _ p => p ≤ src.length

def Cfg.mu (src : List UInt8) : Cfg → Nat
  | .next r => 8 * src.length - r.at_ + 1
  | .huff _ r _ _ => 8 * src.length - r.at_ + 1
  | .done _ _ => 0

def Cfg.isDone : Cfg → Bool
  | .done _ _ => true
  | _ => false

/-- A step: its place is a good one, it comes nearer to the end, and says little. -/
def StepOK (src : List UInt8) (c : Cfg) (H : List UInt8) (x : Cfg × List UInt8) : Prop :=
  CfgOK src x.1 ∧ x.1.mu src < c.mu src ∧ ∃ X, x.2 = H ++ X ∧ X.length + 258 * x.1.mu src ≤ 258 * c.mu src

theorem more_ok {src : List UInt8} {last : Bool} {r : Br} (hr : r.ok src) (hnb : r.nb ≤ 22) : CfgOK src (more last r) ∧ (more last r).mu src ≤ 8 * src.length - r.at_ + 1 := by
  unfold more
  cases last
  · exact ⟨⟨hr, hnb⟩, Nat.le_refl _⟩
  · exact ⟨hr.2, Nat.zero_le _⟩

theorem stRest_ok {src : List UInt8} {last : Bool} {pos n : Nat} {H : List UInt8} (hp : pos ≤ src.length) :
    CfgOK src (stRest src last pos n H).1 ∧ (stRest src last pos n H).1.mu src ≤ 8 * (src.length - pos) + 1 ∧ ∃ X, (stRest src last pos n H).2 = H ++ X ∧ X.length + 258 * (stRest src last pos n H).1.mu src ≤ 258 * (8 * (src.length - pos) + 1) := by
  unfold stRest
  split
  · rename_i h
    have ho : (⟨8 * (pos + n), pos + n⟩ : Br).ok src := ⟨Nat.le_refl _, h⟩
    have hb : (⟨8 * (pos + n), pos + n⟩ : Br).nb = 0 := by unfold Br.nb; simp only; omega
    obtain ⟨h1, h2⟩ := more_ok (last := last) ho (by rw [hb]; omega)
    simp only at h2
    refine ⟨h1, by simp only; omega, _, rfl, ?_⟩
    simp only [List.length_take, List.length_drop]
    omega
  · refine ⟨Nat.le_refl _, Nat.zero_le _, _, rfl, ?_⟩
    simp only [List.length_drop, Cfg.mu]
    omega

theorem done_ok {src : List UInt8} {c : Cfg} {H : List UInt8} {e : Err} {p : Nat} (hp : p ≤ src.length) (hc : 0 < c.mu src) : StepOK src c H (.done e p, H) :=
  ⟨hp, hc, [], by simp, by simp only [Cfg.mu, List.length_nil]; omega⟩

theorem nextStep_ok {src : List UInt8} {r : Br} {H : List UInt8} (hr : r.ok src) (hnb : r.nb ≤ 22) : StepOK src (.next r) H (nextStep src r H) := by
  have hmu : 0 < (Cfg.next r).mu src := by simp [Cfg.mu]
  unfold nextStep
  cases hf : fill src.length 3 r with
  | mk t r1 =>
    obtain ⟨a1, a2, a3, a4, a5⟩ := fill_ok hr hf
    cases t with
    | false => exact done_ok a1.2 hmu
    | true =>
      obtain ⟨b1, b2⟩ := skip_ok a1 (a4 rfl)
      have b3 := b1.1
      have b4 := b1.2
      simp only at b3 b4
      simp only
      split
      · unfold storedStep
        split
        · exact done_ok (Nat.le_refl _) hmu
        · split
          · exact done_ok (by omega) hmu
          · obtain ⟨h1, h2, X, h3, h4⟩ := stRest_ok (last := bv src r1.at_ 1 == 1) (n := bv src (8 * r1.pos) 16) (H := H) (show r1.pos + 4 ≤ src.length by omega)
            refine ⟨h1, ?_, X, h3, ?_⟩
            · simp only [Cfg.mu] at h2 ⊢; omega
            · have : 8 * (src.length - (r1.pos + 4)) + 1 ≤ (Cfg.next r).mu src := by simp only [Cfg.mu]; omega
              exact Nat.le_trans h4 (Nat.mul_le_mul_left _ this)
      · have hstep : 8 * src.length - (r1.at_ + 3) + 1 < (Cfg.next r).mu src := by simp only [Cfg.mu]; omega
        split
        · refine ⟨⟨b1, by rw [b2]; omega, ?_, fun T' h => absurd h (by simp)⟩, hstep, [], by simp, ?_⟩
          · unfold fixedTab
            have := initTab_law fixedLens_le (by rw [fixedLens_length]; omega)
            split
            · rename_i T hT; exact (this.2 T hT).1
            · exact ((initTab_law (lens := []) (by simp) (by simp)).2 emptyTab (by rfl)).1
          · simp only [List.length_nil]; simp only [Cfg.mu] at hstep ⊢; omega
        · split
          · have g := readHuff_good b1 (by rw [b2]; omega)
            cases h1 : readHuff src { r1 with at_ := r1.at_ + 3 } with
            | bad e q => rw [h1] at g; exact done_ok g.2 hmu
            | ok p r3 =>
              rw [h1] at g; obtain ⟨c1, c2, c3, c4⟩ := g
              obtain ⟨T, D⟩ := p
              simp only at c3
              have c5 := c2.1
              have c6 := c2.2
              refine ⟨⟨c2, c4, c1.1, fun T' h => by obtain rfl := Option.some.inj h; exact c1.2⟩, ?_, [], by simp, ?_⟩
              · simp only [Cfg.mu]; omega
              · simp only [Cfg.mu, List.length_nil]; omega
          · exact done_ok b1.2 hmu

theorem huffStep_ok {src : List UInt8} {last : Bool} {r : Br} {T : Tab} {D : Option Tab} {H : List UInt8} (h : CfgOK src (.huff last r T D)) : StepOK src (.huff last r T D) H (huffStep src last r T D H) := by
  obtain ⟨hr, hnb, hT, hD⟩ := h
  have hmu : 0 < (Cfg.huff last r T D).mu src := by simp [Cfg.mu]
  have g1 := symbol_good hT hr hnb
  unfold huffStep
  cases h1 : symbol src T r with
  | bad e q => rw [h1] at g1; exact done_ok g1.2 hmu
  | ok v r1 =>
    rw [h1] at g1; obtain ⟨b1, b2, b3, b4⟩ := g1
    have b5 := b2.1
    have b6 := b2.2
    simp only
    split
    · refine ⟨⟨b2, b4, hT, hD⟩, by simp only [Cfg.mu]; omega, [UInt8.ofNat v], rfl, ?_⟩
      simp only [Cfg.mu, List.length_cons, List.length_nil]; omega
    · split
      · obtain ⟨h2, h3⟩ := more_ok (last := last) b2 b4
        refine ⟨h2, by simp only [Cfg.mu] at h3 ⊢; omega, [], by simp, ?_⟩
        simp only [Cfg.mu, List.length_nil] at h3 ⊢; omega
      · have g2 := pair_good (D := D) (v := v) hD (by omega) b2 b4
        cases h2 : pair src D v r1 with
        | bad e q => rw [h2] at g2; exact done_ok g2.2 hmu
        | ok p r' =>
          rw [h2] at g2; obtain ⟨c1, c2, c3, c4⟩ := g2
          obtain ⟨n, d⟩ := p
          have c5 := c2.1
          have c6 := c2.2
          simp only at c1
          simp only
          split
          · exact done_ok c2.2 hmu
          · refine ⟨⟨c2, c4, hT, hD⟩, by simp only [Cfg.mu]; omega, lzBytes H d n, rfl, ?_⟩
            have : (lzBytes H d n).length = n := by simp [lzBytes]
            simp only [Cfg.mu]; omega

theorem sstep_ok {src : List UInt8} {c : Cfg} {H : List UInt8} (h : CfgOK src c) (hd : c.isDone = false) : StepOK src c H (sstep src (c, H)) := by
  cases c with
  | next r => exact nextStep_ok h.1 h.2
  | huff last r T D => exact huffStep_ok h
  | done e p => exact absurd hd (by simp [Cfg.isDone])

/-- Reading comes to an end. -/
theorem Reach.ends {src : List UInt8} (m : Nat) : ∀ {c : Cfg} {H : List UInt8}, c.mu src ≤ m → CfgOK src c → ∃ e p X, Reach src (c, H) (.done e p, H ++ X) ∧ p ≤ src.length ∧ X.length ≤ 258 * c.mu src := by
  induction m with
  | zero =>
    intro c H hm h
    cases c with
    | next r => simp [Cfg.mu] at hm
    | huff last r T D => simp [Cfg.mu] at hm
    | done e p => exact ⟨e, p, [], by rw [List.append_nil]; exact .refl _, h, by simp⟩
  | succ m ih =>
    intro c H hm h
    by_cases hd : c.isDone = false
    · obtain ⟨h1, h2, X, h3, h4⟩ := sstep_ok (H := H) h hd
      obtain ⟨e, p, Y, g1, g2, g3⟩ := ih (c := (sstep src (c, H)).1) (H := (sstep src (c, H)).2) (by omega) h1
      refine ⟨e, p, X ++ Y, .step ?_, g2, by rw [List.length_append]; omega⟩
      rw [h3] at g1
      rw [← List.append_assoc]
      have : ((sstep src (c, H)).1, H ++ X) = sstep src (c, H) := by rw [← h3]
      rw [← this]; exact g1
    · cases c with
      | next r => simp [Cfg.isDone] at hd
      | huff last r T D => simp [Cfg.isDone] at hd
      | done e p => exact ⟨e, p, [], by rw [List.append_nil]; exact .refl _, h, by simp⟩

theorem Reach.ok {src : List UInt8} {x y : Cfg × List UInt8} (h : Reach src x y) (hx : CfgOK src x.1) : CfgOK src y.1 ∧ ∃ X, y.2 = x.2 ++ X := by
  induction h with
  | refl => exact ⟨hx, [], by simp⟩
  | @step c d _ ih =>
    by_cases hd : c.1.isDone = false
    · obtain ⟨h1, h2, X, h3, h4⟩ := sstep_ok (H := c.2) hx hd
      obtain ⟨g1, Y, g2⟩ := ih h1
      exact ⟨g1, X ++ Y, by rw [g2, h3, List.append_assoc]⟩
    · have he : sstep src c = c := by
        obtain ⟨c1, c2⟩ := c
        cases c1 with
        | next r => simp [Cfg.isDone] at hd
        | huff last r T D => simp [Cfg.isDone] at hd
        | done e p => rfl
      rw [he] at ih
      exact ih hx

end Flate
