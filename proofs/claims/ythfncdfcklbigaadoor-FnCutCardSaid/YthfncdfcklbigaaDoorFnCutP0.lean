/-
  Several texts in one: what the writer and the reader of bits do.
-/
import Derived.Test.YthfncdfcklbigaaDoorInfl
import Derived.Test.YthfncdfcklbigaaDoorLaw
import Derived.Test.YthfncdfcklbigaaDoorWc
set_option linter.unusedVariables false
set_option linter.unusedSimpArgs false

/-
  PLAIN LEAN: where a source breaks off, all of it was read; the laws of written blocks that are cut, or stand behind a stored one.
-/
namespace Flate

/-- If the source breaks off, it was read to its end. -/
def Rd.CutAt {α : Type} (src : List UInt8) : Rd α → Prop
  | .bad .cut r => r.pos = src.length
  | _ => True

theorem fill_cut {len n : Nat} {r r' : Br} (h : fill len n r = (false, r')) : r'.pos = len := by
  unfold fill at h
  split at h
  · simp at h
  · split at h
    · simp at h
    · obtain ⟨_, rfl⟩ := Prod.mk.injEq .. ▸ h; rfl

theorem Rd.CutAt.bad {α β : Type} {src : List UInt8} {e : Err} {r : Br} (h : (Rd.bad e r : Rd α).CutAt src) : (Rd.bad e r : Rd β).CutAt src := by
  cases e <;> exact h

theorem getBits_cutAt (src : List UInt8) (n : Nat) (r : Br) : (getBits src n r).CutAt src := by
  unfold getBits
  cases hf : fill src.length n r with
  | mk t r' =>
    cases t with
    | false => exact fill_cut hf
    | true => trivial

theorem sym_cutAt (src : List UInt8) (T : Tab) (f : Nat) : ∀ n r, (sym src T f n r).CutAt src := by
  induction f with
  | zero => intro n r; trivial
  | succ f ih =>
    intro n r
    rw [sym]
    cases hf : fill src.length n r with
    | mk t r' =>
      cases t with
      | false => exact fill_cut hf
      | true =>
        simp only
        split
        · split <;> trivial
        · exact ih _ _

theorem symbol_cutAt (src : List UInt8) (T : Tab) (r : Br) : (symbol src T r).CutAt src := sym_cutAt src T 20 _ _

theorem distSym_cutAt (src : List UInt8) (D : Option Tab) (r : Br) : (distSym src D r).CutAt src := by
  unfold distSym
  cases D with
  | some T => exact symbol_cutAt src T r
  | none =>
    have := getBits_cutAt src 5 r
    cases hg : getBits src 5 r with
    | bad e q => rw [hg] at this; exact this.bad
    | ok v q => trivial

theorem pair_cutAt (src : List UInt8) (D : Option Tab) (v : Nat) (r : Br) : (pair src D v r).CutAt src := by
  unfold pair
  cases lenOf v with
  | none => trivial
  | some lp =>
    obtain ⟨lb, lx⟩ := lp
    simp only
    have h1 := getBits_cutAt src lx r
    cases hg : getBits src lx r with
    | bad e q => rw [hg] at h1; exact h1.bad
    | ok x r2 =>
      simp only
      have h2 := distSym_cutAt src D r2
      cases hd : distSym src D r2 with
      | bad e q => rw [hd] at h2; exact h2.bad
      | ok ds r3 =>
        simp only
        cases distOf ds with
        | none => trivial
        | some dp =>
          obtain ⟨db, dx⟩ := dp
          simp only
          have h3 := getBits_cutAt src dx r3
          cases hg3 : getBits src dx r3 with
          | bad e q => rw [hg3] at h3; exact h3.bad
          | ok y r4 => trivial

theorem clRead_cutAt (src : List UInt8) (k : Nat) : ∀ acc r, (clRead src k acc r).CutAt src := by
  induction k with
  | zero => intro acc r; trivial
  | succ k ih =>
    intro acc r
    rw [clRead]
    have h1 := getBits_cutAt src 3 r
    cases hg : getBits src 3 r with
    | bad e q => rw [hg] at h1; exact h1.bad
    | ok x r2 => exact ih _ _

theorem lenStep_cutAt (src : List UInt8) (T : Tab) (n : Nat) (acc : List Nat) (r : Br) : (lenStep src T n acc r).CutAt src := by
  unfold lenStep
  have h1 := symbol_cutAt src T r
  cases hs : symbol src T r with
  | bad e q => rw [hs] at h1; exact h1.bad
  | ok x r1 =>
    simp only
    split
    · trivial
    · split
      · trivial
      · have h2 := getBits_cutAt src (repOf x acc).2.1 r1
        cases hg : getBits src (repOf x acc).2.1 r1 with
        | bad e q => rw [hg] at h2; exact h2.bad
        | ok y r2 => simp only; split <;> trivial

theorem lenRead_cutAt (src : List UInt8) (T : Tab) (n f : Nat) : ∀ acc r, (lenRead src T n f acc r).CutAt src := by
  induction f with
  | zero => intro acc r; trivial
  | succ f ih =>
    intro acc r
    rw [lenRead]
    split
    · trivial
    · have h1 := lenStep_cutAt src T n acc r
      cases hs : lenStep src T n acc r with
      | bad e q => rw [hs] at h1; exact h1.bad
      | ok x r1 => exact ih _ _

theorem twoTabs_cutAt (src : List UInt8) (ls : List Nat) (n : Nat) (r : Br) : (twoTabs ls n r).CutAt src := by
  unfold twoTabs
  split
  · trivial
  · trivial
  · split <;> trivial

theorem readHuff_cutAt (src : List UInt8) (r : Br) : (readHuff src r).CutAt src := by
  unfold readHuff
  cases hf : fill src.length 14 r with
  | mk t r' =>
    cases t with
    | false => exact fill_cut hf
    | true =>
      simp only
      split
      · trivial
      · split
        · trivial
        · have h1 := clRead_cutAt src (bv src (r'.at_ + 10) 4 + 4) [] { r' with at_ := r'.at_ + 14 }
          cases hc : clRead src (bv src (r'.at_ + 10) 4 + 4) [] { r' with at_ := r'.at_ + 14 } with
          | bad e q => rw [hc] at h1; exact h1.bad
          | ok vs r2 =>
            simp only
            split
            · trivial
            · trivial
            · rename_i TC _
              have h2 := lenRead_cutAt src TC (bv src r'.at_ 5 + 257 + (bv src (r'.at_ + 5) 5 + 1)) 400 [] r2
              cases hl : lenRead src TC (bv src r'.at_ 5 + 257 + (bv src (r'.at_ + 5) 5 + 1)) 400 [] r2 with
              | bad e q => rw [hl] at h2; exact h2.bad
              | ok ls r3 => exact twoTabs_cutAt src _ _ _

def Cfg.CutAt (src : List UInt8) : Cfg → Prop
  | .done .cut p => p = src.length
  | _ => True

theorem Rd.CutAt.done {α : Type} {src : List UInt8} {e : Err} {r : Br} (h : (Rd.bad e r : Rd α).CutAt src) : (Cfg.done e r.pos).CutAt src := by
  cases e <;> exact h

theorem more_cutAt (src : List UInt8) (last : Bool) (r : Br) : (more last r).CutAt src := by
  unfold more; split <;> trivial

theorem sstep_cutAt {src : List UInt8} {c : Cfg × List UInt8} (h : c.1.CutAt src) : (sstep src c).1.CutAt src := by
  obtain ⟨c, H⟩ := c
  cases c with
  | done e p => exact h
  | huff last r T D =>
    show (huffStep src last r T D H).1.CutAt src
    unfold huffStep
    have h1 := symbol_cutAt src T r
    cases hs : symbol src T r with
    | bad e q => rw [hs] at h1; exact h1.done
    | ok v r1 =>
      simp only
      split
      · trivial
      · split
        · exact more_cutAt _ _ _
        · have h2 := pair_cutAt src D v r1
          cases hp : pair src D v r1 with
          | bad e q => rw [hp] at h2; exact h2.done
          | ok nd r2 =>
            obtain ⟨n, d⟩ := nd
            simp only
            split <;> trivial
  | next r =>
    show (nextStep src r H).1.CutAt src
    unfold nextStep
    cases hf : fill src.length 3 r with
    | mk t r' =>
      cases t with
      | false =>
        show r'.pos = src.length
        exact fill_cut hf
      | true =>
        simp only
        split
        · unfold storedStep
          split
          · rfl
          · split
            · trivial
            · unfold stRest
              split
              · exact more_cutAt _ _ _
              · rfl
        · split
          · trivial
          · split
            · have h1 := readHuff_cutAt src { r' with at_ := r'.at_ + 3 }
              cases hh : readHuff src { r' with at_ := r'.at_ + 3 } with
              | bad e q => rw [hh] at h1; exact h1.done
              | ok p r3 => trivial
            · trivial

theorem reach_cutAt {src : List UInt8} {x y : Cfg × List UInt8} (h : Reach src x y) (hx : x.1.CutAt src) : y.1.CutAt src := by
  induction h with
  | refl => exact hx
  | step _ ih => exact ih (sstep_cutAt hx)

theorem infl_cut_end {src dict : List UInt8} {p : Nat} {X : List UInt8} (h : Infl src dict .cut p X) : p = src.length := reach_cutAt h trivial

/-- What is cut off: a prefix of the data. -/
theorem infl_prefix {b : List UInt8} {X : List UInt8} (h : Infl b [] .eof b.length X) {k : Nat} (hk : k < b.length) : ∃ Y Z, Infl (b.take k) [] .cut k Y ∧ X = Y ++ Z := by
  obtain ⟨e, p, Y, h1, h2, _⟩ := infl_ex (b.take k) []
  rw [List.length_take] at h2
  have h' := h
  rw [← List.take_append_drop k b] at h'
  obtain ⟨a1, a2⟩ := infl_ahead h1 h'
  by_cases hc : e = .cut
  · subst hc
    obtain ⟨Z, hZ⟩ := a2 rfl
    have hp := infl_cut_end h1
    rw [List.length_take, Nat.min_eq_left (by omega)] at hp
    subst hp
    exact ⟨Y, Z, h1, hZ⟩
  · obtain ⟨_, q, _⟩ := a1 hc
    simp only [List.take_append_drop] at q
    omega

end Flate

/-
  'laws.FnAhead', walked: if bytes with something behind them are still cut off, the data read of them alone is a prefix of the data read of both.
-/
namespace Go.Proofs.YthfncdfcklbigaaDoor
open Go.RowKit Flate
set_option maxRecDepth 100000

theorem prefix_take {X Y : List UInt8} : (X ++ Y).take X.length = X := by rw [List.take_append_of_le_length (Nat.le_refl _), List.take_length]

theorem fnAhead_any (w : World) (C : Nat) (p : Ps) (he : Env w C p) (base : Option Addr) (src : List UInt8) (cap : Nat) (hs : Bt w base src cap) (dbase : Option Addr) (more : List UInt8) (dcap : Nat) (hd : Bt w dbase more dcap) :
    Calls Tryd.prog 3 #[.slice base src.length cap, .slice dbase more.length dcap] w fun e w' => e = .returned (.bool true) ∧ Frm (fun _ _ => False) w w' := by
  have HE := Lib.hid he
  have HS := Lib.hid hs
  have HD := Lib.hid hd
  clear he hs hd
  obtain ⟨n1, hn1⟩ : ∃ n1, n1 = src.length := ⟨_, rfl⟩
  obtain ⟨n2, hn2⟩ : ∃ n2, n2 = more.length := ⟨_, rfl⟩
  rw [← hn1, ← hn2]
  have HN := Lib.hid (And.intro hn1 hn2)
  clear hn1 hn2
  go_enter Tryd.func3, Tryd.ntmps3
  by_cases h1 : 2147483647 < n1
  · have t1 : decide ((2147483647 : Int) < (n1 : Int)) = true := by simp; omega
    clear h1
    go_wp2_with fail
    go_ret
    exact ⟨rfl, Frm.refl _ _⟩
  · have t1 : decide ((2147483647 : Int) < (n1 : Int)) = false := by simp; omega
    have H1 := Lib.hid h1
    clear h1
    by_cases h2 : 2147483647 < n2
    · have t2 : decide ((2147483647 : Int) < (n2 : Int)) = true := by simp; omega
      clear h2
      go_wp2_with fail
      go_ret
      exact ⟨rfl, Frm.refl _ _⟩
    · have t2 : decide ((2147483647 : Int) < (n2 : Int)) = false := by simp; omega
      have H2 := Lib.hid h2
      clear h2
      have hin := inflate_any w C p HE.out base src cap HS.out (by have := H1.out; have := HN.out; omega) none [] 0 (bt_nil _) (by simp) false none 0 0 (nilSizes _ _ _)
      rw [← HN.out.1] at hin
      have HI := Lib.hid hin
      clear hin
      go_wp2_with fail
      refine HI.out.mono ?_
      rintro e w1 ⟨v1, er1, P1, X1, hX1, rfl, hown1, hf1⟩
      obtain ⟨b1, cap1, rfl, hbt1⟩ := hown1.bt
      -- the bytes of both
      have ho := own_new w1 [] (by simp)
      simp only [List.map_nil, List.length_nil] at ho
      obtain ⟨W2, hW2⟩ : ∃ W2, W2 = w1.alloc (.cells #[] 5) := ⟨_, rfl⟩
      have ho : Own W2 w1.heap.size (.slice (some ⟨w1.heap.size, 0, none⟩) 0 0) [] := by rw [hW2]; exact ho
      have hf2 : Frm (fun _ _ => False) w1 W2 := by rw [hW2]; exact (Frm.refl _ _).alloc _
      obtain ⟨v3, w3, hrun3, hown3, hfr3, _⟩ := append_bt W2 w1.heap.size _ [] ho base src cap ((HS.out.keep hf1).keep hf2) (by have := H1.out; have := HN.out; simp only [List.length_nil]; omega) hf2.size
      have hf3 := ho.fresh hf2 (Nat.le_refl _) hfr3
      rw [List.nil_append] at hown3
      obtain ⟨v4, w4, hrun4, hown4, hfr4, _⟩ := append_bt w3 w1.heap.size _ src hown3 dbase more dcap ((HD.out.keep hf1).keep hf3) (by have := H1.out; have := H2.out; have := HN.out; omega) hf3.size
      have hf4 := hown3.fresh hf3 (Nat.le_refl _) hfr4
      rw [← HN.out.1] at hrun3
      rw [← HN.out.2] at hrun4
      rw [hW2] at hrun3
      obtain ⟨b4, cap4, rfl, hbt4⟩ := hown4.bt
      have hin := inflate_any w4 C p ((HE.out.keep hf1 (fun _ _ e => e.elim)).keep hf4 (fun _ _ e => e.elim)) b4 (src ++ more) cap4 hbt4 (by have := H1.out; have := H2.out; have := HN.out; rw [List.length_append]; omega) none [] 0 (bt_nil _) (by simp) false none 0 0 (nilSizes _ _ _)
      obtain ⟨n4, hn4⟩ : ∃ n4, n4 = (src ++ more).length := ⟨_, rfl⟩
      rw [← hn4] at hin hrun4
      obtain ⟨m1, hm1⟩ : ∃ m1, m1 = X1.length := ⟨_, rfl⟩
      have HX1 := Lib.hid (And.intro hX1 (And.intro hbt1 (And.intro hf1 (And.intro hf4 hm1))))
      have HI2 := Lib.hid hin
      have hr3 := fun ty => hrun3 ty
      have hr4 := fun ty => hrun4 ty
      rw [← hm1]
      clear hX1 hown1 hbt1 hf1 ho hf2 hfr3 hown3 hf3 hfr4 hown4 hf4 hbt4 hin hn4 hm1 hrun3 hrun4 hW2
      go_wp2_with (at_builtin; first | refine wpList_append_by (by rfl) (.tmp 26) (.tmp 27) 22 (by rfl) _ _ (by rfl) (by rfl) (hr3 _) ?_ | refine wpList_append_by (by rfl) (.tmp 28) (.tmp 29) 22 (by rfl) _ _ (by rfl) (by rfl) (hr4 _) ?_)
      refine HI2.out.mono ?_
      rintro e w5 ⟨v5, er5, P5, X5, hX5, rfl, hown5, hf5⟩
      clear hr3 hr4
      obtain ⟨b5, cap5, rfl, hbt5⟩ := hown5.bt
      obtain ⟨hX1, hbt1, hf1, hf4, hm1⟩ := HX1.out
      obtain ⟨ha1, ha2⟩ := infl_ahead hX1 hX5
      have hf05 : Frm (fun _ _ => False) w w5 := (hf1.trans hf4).trans hf5
      have HW := Lib.hid (works_any w5 C p (HE.out.keep hf05 (fun _ _ e => e.elim)))
      obtain ⟨m5, hm5⟩ : ∃ m5, m5 = X5.length := ⟨_, rfl⟩
      rw [← hm5]
      have hbt1' : Bt w5 b1 X1 cap1 := (hbt1.keep hf4).keep hf5
      by_cases hc : er1 = .cut
      · obtain ⟨Y, hY⟩ := ha2 hc
        subst hc
        have hle : m1 ≤ m5 := by rw [hm1, hm5, hY, List.length_append]; omega
        obtain ⟨b6, hsl, hb6⟩ := run_headO hbt5 m1 (by rw [← hm5]; exact hle)
        rw [← hm5] at hsl
        have HB := Lib.hid (And.intro hbt1' (And.intro hb6 (And.intro hf05 (And.intro hY (And.intro hm1 hm5)))))
        clear hX1 hbt1 hf1 hf4 hm1 ha1 ha2 hf05 hbt1' hbt5 hown5 hX5 hf5 hY hb6 hm5
        go_wp2_with fail
        refine HW.out.mono ?_
        rintro e w6 ⟨rfl, hf6⟩
        have hsame := same_any w6 b1 b6 X1 (X5.take m1) cap1 cap5 (HB.out.1.keep hf6).bytes (HB.out.2.1.keep hf6 (fun a _ j _ e => e))
        have e1 : X5.take m1 = X1 := by rw [HB.out.2.2.2.1, HB.out.2.2.2.2.1]; exact prefix_take
        rw [e1, sameB_refl, ← HB.out.2.2.2.2.1] at hsame
        have HSM := Lib.hid hsame
        have HF6 := Lib.hid hf6
        clear hsame hf6 e1
        go_wp2_with fail
        refine HSM.out.mono ?_
        rintro e w7 ⟨rfl, rfl⟩
        go_wp2_with fail
        go_ret
        exact ⟨rfl, HB.out.2.2.1.trans HF6.out⟩
      · obtain ⟨rfl, rfl, rfl⟩ := ha1 hc
        have HB := Lib.hid (And.intro hbt1' (And.intro hbt5 (And.intro hf05 (And.intro hm1 hm5))))
        clear hX1 hbt1 hf1 hf4 hm1 ha1 ha2 hf05 hbt1' hbt5 hown5 hX5 hf5 hm5
        cases er5
        case cut => exact absurd rfl hc
        all_goals
          clear hc
          go_wp2_with fail
          refine HW.out.mono ?_
          rintro e w6 ⟨rfl, hf6⟩
          have hsame := same_any w6 b1 b5 X5 X5 cap1 cap5 (HB.out.1.keep hf6).bytes (HB.out.2.1.keep hf6).bytes
          rw [sameB_refl] at hsame
          have hs1 : Calls Tryd.prog 19 #[.slice b1 m1 cap1, .slice b5 m5 cap5] w6 fun e w' => e = .returned (.bool true) ∧ w6 = w' := by
            rw [HB.out.2.2.2.1, HB.out.2.2.2.2]; exact hsame
          have HSM := Lib.hid hs1
          have HF6 := Lib.hid hf6
          clear hsame hf6 hs1
          go_wp2_with fail
          refine HSM.out.mono ?_
          rintro e w7 ⟨rfl, rfl⟩
          go_wp2_with fail
          go_ret
          exact ⟨rfl, HB.out.2.2.1.trans HF6.out⟩

end Go.Proofs.YthfncdfcklbigaaDoor

/-
  'laws.FnCut', walked: a prefix of valid blocks gives a prefix of the data and fails with io.ErrUnexpectedEOF.
-/
namespace Go.Proofs.YthfncdfcklbigaaDoor
open Go.RowKit Go.IntWalk Flate
set_option maxRecDepth 100000

/-- The first bytes of a row, in place. -/
theorem run_headBt {w : World} {b : Option Addr} {l : List UInt8} {cap : Nat} (h : Bt w b l cap) (m : Nat) (hm : m ≤ l.length) :
    (∀ w' : World, (Instr.sliceAt 22 (.slice b l.length cap) none (some (.int .i64 (m : Int))) none).run Tryd.prog w' = .ok (.slice b m cap) w') ∧ Bt w b (l.take m) cap := by
  have hsz : ∀ w : World, (sizeOf (Tryd.prog.elem 22)).run Tryd.prog w = .ok 1 w := fun w => by kernel_rfl
  have hu : Tryd.prog.underlying 22 = some (.slice (Tryd.prog.elem 22)) := by kernel_rfl
  have hcap := h.hcap
  refine ⟨fun w' => ?_, ?_, by rw [List.length_take]; omega, h.lt, h.nilc⟩
  · rw [run_sliceAt_slice w' _ _ _ _ _ hu, run_slice_h w' _ _ _ _ hu _ _ (by omega) (by omega), hsz]
    simp only [Result.andThen, sliced, Int.toNat_natCast, Nat.sub_zero]
    cases b with
    | none => simp
    | some a => by_cases h : cap = 0 <;> simp [h, Addr.add]
  · have hb := h.bytes
    cases b with
    | none => have : l = [] := hb; subst this; simp; rfl
    | some a =>
      refine ⟨hb.1, fun j hj => ?_⟩
      rw [List.length_take] at hj
      rw [hb.2 j (by omega), List.getElem_take]

set_option maxHeartbeats 1000000 in
theorem fnCut_any (w : World) (C : Nat) (p : Ps) (he : Env w C p) (base : Option Addr) (data : List UInt8) (cap : Nat) (hs : Bt w base data cap) (n : Int) (hn : (Lit.int .i64 n).wf = true) (lb : Option Addr) (l : List Int) (lc : Nat) (hl : It w lb l lc) :
    Calls Tryd.prog 5 #[.slice base data.length cap, .int .i64 n, .slice lb l.length lc] w fun e w' => e = .returned (.bool true) ∧ Frm (fun _ _ => False) w w' := by
  have HE := Lib.hid he
  have HS := Lib.hid hs
  have HL := Lib.hid hl
  have HR := Lib.hid hn
  clear he hs hl hn
  obtain ⟨n1, hn1⟩ : ∃ n1, n1 = data.length := ⟨_, rfl⟩
  obtain ⟨n3, hn3⟩ : ∃ n3, n3 = l.length := ⟨_, rfl⟩
  rw [← hn1, ← hn3]
  have HN := Lib.hid (And.intro hn1 hn3)
  clear hn1 hn3
  go_enter Tryd.func5, Tryd.ntmps5
  by_cases h1 : 2147483647 < n1
  · have t1 : decide ((2147483647 : Int) < (n1 : Int)) = true := by simp; omega
    clear h1
    go_wp2_with fail
    go_ret
    exact ⟨rfl, Frm.refl _ _⟩
  have t1 : decide ((2147483647 : Int) < (n1 : Int)) = false := by simp; omega
  by_cases h3 : 2147483647 < n3
  · have t3 : decide ((2147483647 : Int) < (n3 : Int)) = true := by simp; omega
    clear h1 h3
    go_wp2_with fail
    go_ret
    exact ⟨rfl, Frm.refl _ _⟩
  have t3 : decide ((2147483647 : Int) < (n3 : Int)) = false := by simp; omega
  have hdl : data.length ≤ 2147483647 := by have := HN.out.1; omega
  have hll : l.length ≤ 2147483647 := by have := HN.out.2; omega
  have HB := Lib.hid (And.intro hdl hll)
  have hdf := deflate_any w base data cap HS.out none [] 0 (bt_nil _) lb l lc HL.out hdl (by simp) hll
  rw [← HN.out.1, ← HN.out.2] at hdf
  have HDF := Lib.hid (show Calls Tryd.prog 21 #[.slice base n1 cap, .slice none 0 0, .slice lb n3 lc] w _ from hdf)
  clear h1 h3 hdf hdl hll
  go_wp2_with fail
  refine HDF.out.mono ?_
  rintro e w1 ⟨v, L, rfl, hown, hdata, hpl, hpos, hf1⟩
  obtain ⟨b, c, rfl, hbt⟩ := hown.bt
  have hinf := data_infl hdata []
  rw [List.append_nil] at hinf
  obtain ⟨S, hS⟩ : ∃ S, S = pack L := ⟨_, rfl⟩
  rw [← hS] at hbt hinf hpl hpos ⊢
  obtain ⟨m, hm⟩ : ∃ m, m = S.length := ⟨_, rfl⟩
  rw [← hm]
  have hm1 : 1 ≤ m := by omega
  obtain ⟨y, hy⟩ : ∃ y, y = n.tmod (m : Int) := ⟨_, rfl⟩
  obtain ⟨g1, g2⟩ := tmod_range n m hm1
  rw [← hy] at g1 g2
  obtain ⟨k, hk⟩ : ∃ k : Nat, (k : Int) = (y + (m : Int)) % (m : Int) := by
    have := Int.emod_nonneg (y + (m : Int)) (show (m : Int) ≠ 0 by omega)
    exact ⟨((y + (m : Int)) % (m : Int)).toNat, Int.toNat_of_nonneg this⟩
  have hklt : k < m := by
    have := Int.emod_lt_of_pos (y + (m : Int)) (show (0 : Int) < (m : Int) by omega)
    omega
  obtain ⟨Y, Z, hin1, hYZ⟩ := infl_prefix hinf (show k < S.length by omega)
  obtain ⟨hrun2, hbt2⟩ := run_headBt hbt k (by omega)
  rw [← hm] at hrun2
  have hlt : (S.take k).length = k := by rw [List.length_take]; omega
  have hYl : Y.length ≤ data.length := by rw [hYZ, List.length_append]; omega
  have hin := inflate_long w1 C p (HE.out.keep hf1 (fun _ _ e => e.elim)) b (S.take k) c hbt2 (by omega) none [] 0 (bt_nil _) (by simp) false (fun e q X h => by
    obtain ⟨_, _, rfl⟩ := Infl.unique hin1 h
    have := HB.out.1; omega) none 0 0 (nilSizes _ _ _)
  rw [hlt] at hin
  have HI := Lib.hid (show Calls Tryd.prog 17 #[.slice b k c, .slice none 0 0, .bool false, .slice none 0 0] w1 _ from hin)
  have c1 : (m : Int) ≤ 549755813888 := by omega
  have c2 : (1 : Int) ≤ (m : Int) := by omega
  have c3 : (k : Int) < (m : Int) := by omega
  have c6 : (m : Int) ≠ 0 := by omega
  have c7 : 0 < m := by omega
  have c8 : m ≠ 0 := by omega
  have hy' := hy.symm
  have hk' := hk.symm
  have HP := Lib.hid (And.intro hbt (And.intro hm (And.intro hin1 (And.intro hYZ (And.intro hf1 (And.intro hinf (And.intro hpl (And.intro hpos (And.intro hYl hlt)))))))))
  clear hown hdata hpl hpos hf1 hbt hinf hS hm hm1 hy hk hin1 hYZ hbt2 hlt hYl hin hklt
  go_wp2_with fail
  refine HI.out.mono ?_
  rintro e w2 ⟨v2, er2, P2, X2, hX2, rfl, hown2, hf2⟩
  obtain ⟨hbt, hm, hin1, hYZ, hf1, hinf, hpl, hpos, hYl, hlt⟩ := HP.out
  obtain ⟨q1, q2, q3⟩ := hin1.unique hX2
  rw [q3] at hown2
  rw [q1, q2]
  obtain ⟨b3, c4, rfl, hbt3⟩ := hown2.bt
  obtain ⟨nx, hnx⟩ : ∃ nx, nx = Y.length := ⟨_, rfl⟩
  obtain ⟨b4, hrun4, hb4⟩ := run_headO HS.out nx (by omega)
  rw [← HN.out.1] at hrun4
  have hle : nx ≤ n1 := by have := HN.out.1; omega
  have e0 : (S.take k).length - k = 0 := by omega
  rw [e0, ← hnx]
  have hf02 : Frm (fun _ _ => False) w w2 := hf1.trans hf2
  have hsame := same_any w2 b3 b4 Y (data.take nx) c4 cap hbt3.bytes (hb4.keep hf02 (fun a _ j _ e => e))
  have e1 : data.take nx = Y := by rw [hnx, hYZ]; exact prefix_take
  rw [e1, sameB_refl, ← hnx] at hsame
  have HSM := Lib.hid hsame
  have hinfl := inflates_long w2 C p (HE.out.keep hf02 (fun _ _ e => e.elim)) b S c (hbt.keep hf2) (by omega) none [] 0 (bt_nil _) (by simp) false base data cap (HS.out.keep hf02) (by have := HB.out.1; omega) hinf hpos
  rw [← hm, ← HN.out.1] at hinfl
  have HIN := Lib.hid (show Calls Tryd.prog 20 #[.slice b m c, .slice none 0 0, .bool false, .slice base n1 cap] w2 _ from hinfl)
  have HF2 := Lib.hid hf02
  have hcorr : faultNum Err.cut = 4 := by rfl
  rw [hcorr]
  clear q1 q2 q3 hbt hm hin1 hYZ hf1 hinf hpl hpos hYl hlt hX2 hown2 hf2 hbt3 hnx hb4 e0 hf02 hsame e1 hinfl hcorr
  go_wp2_with fail
  refine HSM.out.mono ?_
  rintro e w3 ⟨rfl, rfl⟩
  go_wp2_with fail
  refine HIN.out.mono ?_
  rintro e w4 ⟨rfl, hf4⟩
  have HF4 := Lib.hid hf4
  clear hf4
  go_wp2_with fail
  go_ret
  exact ⟨rfl, HF2.out.trans HF4.out⟩

end Go.Proofs.YthfncdfcklbigaaDoor
