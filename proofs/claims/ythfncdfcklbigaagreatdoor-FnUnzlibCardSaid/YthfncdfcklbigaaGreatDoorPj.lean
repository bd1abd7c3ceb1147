/-
  Several texts in one: Ri.
-/
import Derived.Test.YthfncdfcklbigaaGreatDoorPd
import Derived.Test.YthfncdfcklbigaaGreatDoorPi
import Derived.Deep.RegionHeld3
set_option linter.unusedVariables false
set_option linter.unusedSimpArgs false
namespace Go.Proofs.YthfncdfcklbigaaGreatDoor
open Go.RowKit Flate
set_option maxRecDepth 100000
structure RI (w0 : World) (F C : Nat) (p : Ps) (d : DS) (H : List UInt8) (k : Nat) (w : World) (r : Br) : Prop where
 st : St w F C p (d.put r) H k 0
 ok : r.ok d.src
 nb : r.nb ≤ 22
 frm : Frm (SA F d) w0 w
theorem SB_sa {F : Nat} {d : DS} {b o : Nat} (h : SB F d.R b o) : SA F d b o := by
 rcases h with ⟨e, _⟩ | e
 · exact .inl e
 · exact .inr (.inl e)
theorem SB_x {F : Nat} {d : DS} {b o : Nat} (h : SB F d.R b o) : SX F d b o := by
 rcases h with ⟨e, h⟩ | h
 · exact .inr (.inr ⟨e, by omega⟩)
 · exact .inl h
section
variable {w0 w w' : World} {F C : Nat} {p : Ps} {d : DS} {H : List UInt8} {k : Nat} {r r' : Br}
theorem RI.bits (h : RI w0 F C p d H k w r) (hD : Dec w' F (d.put r')) (hf : Frm (SB F d.R) w w') (ho : r'.ok d.src) (hn : r'.nb ≤ 22) : RI w0 F C p d H k w' r' :=
 ⟨h.st.of hD (hf.mono fun b o e => SB_x e) (SX.ok (d := d.put r) h.st) ⟨rfl, rfl, rfl, rfl, rfl, rfl⟩ ⟨rfl, rfl, rfl, rfl, rfl⟩, ho, hn, h.frm.trans (hf.mono fun b o e => SB_sa e)⟩
theorem RI.keep {S : Nat → Nat → Prop} (h : RI w0 F C p d H k w r) (hf : Frm S w w') (hS : ∀ b o, b < w.heap.size → S b o → b = F ∧ 5 ≤ o ∧ o < 1035 ∨ b = d.BB ∨ b = d.CB) (h1 : Pre w' F 5) (h2 : Pre w' F 520) : RI w0 F C p d H k w' r := by
 have hf' := hf.mono' (S' := fun b o => b = F ∧ 5 ≤ o ∧ o < 1035 ∨ b = d.BB ∨ b = d.CB) hS
 have hb : ∀ b o, (b = F ∧ 5 ≤ o ∧ o < 1035 ∨ b = d.BB ∨ b = d.CB) → C ≤ b := fun b o x => by
  have e1 := h.st.cF; have e2 := h.st.cB; have e3 := h.st.cC; simp only [DS.put] at e2 e3; rcases x with x | x | x <;> omega
 have hD := h.st.dec
 have nBF := hD.neBF
 have nCF := hD.neCF
 have nRF := hD.neRF
 have nHF := hD.neHF
 have nRB := hD.neRB
 have nRC := hD.neRC
 have nHB := hD.neHB
 have nHC := hD.neHC
 simp only [DS.put] at nBF nCF nRF nHF nRB nRC nHB nHC
 have hD' : Dec w' F (d.put r) := hD.keep hf' (fun o x => by rcases x with x | x | x <;> omega) (fun o x => by simp only [DS.put] at x; rcases x with x | x | x <;> omega) (fun o x => by simp only [DS.put] at x; rcases x with x | x | x <;> omega)
  (fun a ha j _ x => by
   have := hD.far a ha; simp only [DS.put, List.mem_cons, List.not_mem_nil, or_false, not_or] at this; rcases x with x | x | x
   · exact this.1 x.1
   · exact this.2.2.2.1 x
   · exact this.2.2.2.2 x)
 have s := h.st
 exact ⟨⟨s.env.keep hf' hb, s.cF, s.cR, s.cH, s.cB, s.cC, hD', s.win, s.rd, s.rd2, s.ful, s.nful, s.out, h1, h2⟩, h.ok, h.nb, h.frm.trans (hf'.mono fun b o x => by
  rcases x with x | x | x
  · exact .inl x.1
  · exact .inr (.inr (.inr (.inl x)))
  · exact .inr (.inr (.inr (.inr x))))⟩
theorem RI.row (h : RI w0 F C p d H k w r) {B j : Nat} (hB : B = d.BB ∨ B = d.CB) (v : Value) : RI w0 F C p d H k (w.setCell ⟨B, j, none⟩ v) r := by
 have nBF := h.st.dec.neBF
 have nCF := h.st.dec.neCF
 simp only [DS.put] at nBF nCF
 have hf : Frm (fun b _ => b = B) w (w.setCell ⟨B, j, none⟩ v) := (Frm.refl _ _).setCell (.inl rfl) _
 exact h.keep hf (fun b o _ x => by rcases hB with e | e <;> omega) (h.st.pre1.keep hf (fun x _ _ e => by rcases hB with e' | e' <;> omega)) (h.st.pre2.keep hf (fun x _ _ e => by rcases hB with e' | e' <;> omega))
theorem RI.drewN (h : RI w0 F C p d H k w r) (n : Nat) : RI w0 F C p d H k (w.drewN n) r :=
 h.bits (h.st.dec.drewN n) ((Frm.refl _ _).drewN n) h.ok h.nb
theorem RI.drew (h : RI w0 F C p d H k w r) : RI w0 F C p d H k w.drew r :=
 h.bits h.st.dec.drew (Frm.refl _ _).drew h.ok h.nb
end
theorem initTab_min {lens : List Nat} {T : Tab} (h : initTab lens = some (some T)) : T = emptyTab ∨ T.min ≠ 0 := by
 by_cases h0 : (cntAll lens).max = 0
 · rw [initTab_empty rfl h0] at h; exact .inl (Option.some.inj (Option.some.inj h)).symm
 · right
   have hc := cnt_facts lens; have hm : (cntAll lens).min ≠ 0 := by
    rcases hc.mem with e | e
    · exact absurd e h0
    · exact (hc.min _ e h0).1
   unfold initTab at h; simp only at h; rw [if_neg h0] at h; split at h
   · simp at h
   · split at h
     · simp at h
     · split at h
       · simp at h
       · obtain rfl := Option.some.inj (Option.some.inj h); exact hm
theorem pre_of {w : World} {F o : Nat} {T : Tab} {N : Nat → Prop} (h : TabAt w F o T N) (hT : T = emptyTab ∨ T.min ≠ 0) : Pre w F o := by
 rcases hT with rfl | h0
 · exact .inr ⟨h.min, h.ch, h.mask, h.none_, fun e => absurd rfl e⟩
 · exact .inl ⟨T.min, by omega, h.min⟩
def RhPost (w0 : World) (F C : Nat) (p : Ps) (d : DS) (H : List UInt8) (k : Nat) (R : Rd (Tab × Tab)) (e : Ending) (w : World) : Prop :=
 match R with
 | .ok (T, D) r => e = .returned .nilIface ∧ RI w0 F C p d H k w r ∧ TabAt w F 5 T (LinkB F d) ∧ TabAt w F 520 D (LinkB F d)
 | .bad er r => ∃ v d', e = .returned v ∧ ErrV p er v ∧ St w F C p d' H k 0 ∧ Same d d' ∧ d'.pos = r.pos ∧ d'.wr = d.wr ∧ Frm (SA F d) w0 w
theorem RI.cut {w0 w w' : World} {F C : Nat} {p : Ps} {d : DS} {H : List UInt8} {k : Nat} {r r' : Br} (h : RI w0 F C p d H k w r) (hD : Dec w' F (d.put r')) (hf : Frm (SB F d.R) w w') {R : Rd (Tab × Tab)} (hR : R = .bad .cut r') : RhPost w0 F C p d H k R (.returned (errAt p.U)) w' := by
 rw [hR]
 exact ⟨_, d.put r', rfl, rfl, h.st.of hD (hf.mono fun b o e => SB_x e) (SX.ok (d := d.put r) h.st) ⟨rfl, rfl, rfl, rfl, rfl, rfl⟩ ⟨rfl, rfl, rfl, rfl, rfl⟩, ⟨rfl, rfl, rfl, rfl, rfl, rfl⟩, rfl, rfl, h.frm.trans (hf.mono fun b o e => SB_sa e)⟩
theorem RI.corrupt {w0 w w' : World} {F C : Nat} {p : Ps} {d d' : DS} {H : List UInt8} {k : Nat} {r : Br} (h : RI w0 F C p d H k w r) {x : Nat} {R : Rd (Tab × Tab)} {r' : Br} (hp : d'.pos = r'.pos) (hR : R = .bad .corrupt r') (hD : Dec w' F d') (hf : Frm (SX F d) w w')
 (hd : d' = { d.put r with b := d'.b, nb := d'.nb, roff := d'.roff, pos := d'.pos, err := d'.err }) : RhPost w0 F C p d H k R (.returned (corruptAt x)) w' := by
 rw [hR]
 have hs : Same d d' := by rw [hd]; exact ⟨rfl, rfl, rfl, rfl, rfl, rfl⟩
 exact ⟨_, d', rfl, ⟨x, rfl⟩, h.st.of hD hf (SX.ok (d := d.put r) h.st) (by rw [hd]; exact ⟨rfl, rfl, rfl, rfl, rfl, rfl⟩) (by rw [hd]; exact ⟨rfl, rfl, rfl, rfl, rfl⟩), hs, hp, by rw [hd]; rfl, h.frm.trans (hf.mono fun b o e => SX.sa e)⟩
theorem TabAt.mono {w : World} {B o : Nat} {T : Tab} {N N' : Nat → Prop} (h : TabAt w B o T N) (hN : ∀ b, N b → N' b) : TabAt w B o T N' :=
 ⟨h.min, h.ch, h.mask, h.none_, fun e => by
  obtain ⟨L, h1, h2, h3⟩ := h.some_ e; exact ⟨L, hN _ h1, h2, fun k hk => by obtain ⟨b, q1, q2⟩ := h3 k hk; exact ⟨b, hN _ q1, q2⟩⟩⟩
theorem RI.new {w0 w : World} {F C : Nat} {p : Ps} {d : DS} {H : List UInt8} {k : Nat} {r : Br} (h : RI w0 F C p d H k w r) : ∀ b, w.heap.size ≤ b → LinkB F d b := by
 have hD := h.st.dec
 have h1 := hD.lt
 have h2 := hD.so.lt
 have h3 := cell_lt (hD.win 0 (by omega))
 obtain ⟨v, hv⟩ := Option.isSome_iff_exists.1 (hD.bb 0 (by omega))
 obtain ⟨u, hu⟩ := Option.isSome_iff_exists.1 (hD.cb 0 (by omega))
 have h4 := cell_lt hv
 have h5 := cell_lt hu
 simp only [DS.put] at h2 h3 h4 h5
 intro b hb
 exact ⟨by omega, by omega, by omega, by omega, by omega⟩
theorem RI.table {w0 w w' : World} {F C : Nat} {p : Ps} {d : DS} {H : List UInt8} {k : Nat} {r : Br} (h : RI w0 F C p d H k w r) {o : Nat} (ho : o = 5 ∨ o = 520) (hf : Frm (ST F o) w w') (hp : Pre w' F o) : RI w0 F C p d H k w' r := by
 refine h.keep hf (fun b x _ e => .inl ?_) ?_ ?_
 · obtain ⟨e1, e2, e3⟩ := e; rcases ho with rfl | rfl <;> exact ⟨e1, by omega, by omega⟩
 · rcases ho with rfl | rfl
   · exact hp
   · exact h.st.pre1.keep hf (fun x h1 h2 e => by have := e.2; omega)
 · rcases ho with rfl | rfl
   · exact h.st.pre2.keep hf (fun x h1 h2 e => by have := e.2; omega)
   · exact hp
theorem symBad {src : List UInt8} {T : Tab} (f : Nat) : ∀ {n : Nat} {r : Br} {e : Err} {r' : Br}, sym src T f n r = .bad e r' → e = .cut ∨ e = .corrupt := by
 induction f with
 | zero => intro n r e r' h; simp only [sym, Rd.bad.injEq] at h; exact .inr h.1.symm
 | succ f ih =>
  intro n r e r' h; rw [sym] at h
  cases hf : fill src.length n r with
  | mk t q =>
   rw [hf] at h
   cases t with
   | false => simp only [Rd.bad.injEq] at h; exact .inl h.1.symm
   | true =>
    simp only at h; split at h
    · split at h
      · simp only [Rd.bad.injEq] at h; exact .inr h.1.symm
      · exact absurd h (by simp)
    · exact ih h
theorem Lens.snoc {w : World} {X v : Nat} {acc : List Nat} (h : Lens w X 0 acc) (hl : (w.cell? ⟨X, acc.length, none⟩).isSome = true) : Lens (w.setCell ⟨X, acc.length, none⟩ (.int .i64 (v : Int))) X 0 (acc ++ [v]) := by
 obtain ⟨u, hu⟩ := Option.isSome_iff_exists.1 hl
 intro j hj
 rw [List.length_append] at hj
 simp only [List.length_cons, List.length_nil] at hj
 rw [Nat.zero_add]
 by_cases e : j = acc.length
 · subst e; rw [set_get hu, List.getD_eq_getElem?_getD, List.getElem?_append_right (Nat.le_refl _), Nat.sub_self]; rfl
 · have := h j (by omega)
   rw [Nat.zero_add] at this; rw [cell_set_off e, this, List.getD_eq_getElem?_getD, List.getD_eq_getElem?_getD, List.getElem?_append_left (by omega)]
theorem RI.lens {w0 w w' : World} {F C : Nat} {p : Ps} {d : DS} {H : List UInt8} {k : Nat} {r : Br} (h : RI w0 F C p d H k w r) (hf : Frm (SB F d.R) w w') {l : List Nat} (hL : Lens w d.BB 0 l) : Lens w' d.BB 0 l := by
 have nBF := h.st.dec.neBF
 have nRB := h.st.dec.neRB
 simp only [DS.put] at nBF nRB
 exact fun j hj => hf.keep (hL j hj) (fun e => by
  rcases e with e | e
  · exact nBF e.1
  · exact nRB e.symm)
theorem RI.tabk {w0 w w' : World} {F C : Nat} {p : Ps} {d : DS} {H : List UInt8} {k : Nat} {r : Br} (h : RI w0 F C p d H k w r) (hf : Frm (SB F d.R) w w') {o : Nat} (ho : 5 ≤ o) {T : Tab} (hT : TabAt w F o T (LinkB F d)) : TabAt w' F o T (LinkB F d) :=
 hT.keep hf (fun x h1 h2 e => by
  rcases e with e | e
  · omega
  · exact h.st.dec.neRF e.symm) (fun b hb x e => by
  rcases e with e | e
  · exact hb.1 e.1
  · exact hb.2.1 e)
theorem RI.tabr {w0 w : World} {F C : Nat} {p : Ps} {d : DS} {H : List UInt8} {k : Nat} {r : Br} (h : RI w0 F C p d H k w r) {o : Nat} {T : Tab} (hT : TabAt w F o T (LinkB F d)) {j : Nat} {v : Value} : TabAt (w.setCell ⟨d.BB, j, none⟩ v) F o T (LinkB F d) := by
 have nBF := h.st.dec.neBF
 simp only [DS.put] at nBF
 exact hT.keep ((Frm.refl (fun b _ => b = d.BB) _).setCell (.inl rfl) _) (fun x h1 h2 e => nBF e.symm) (fun b hb x e => hb.2.2.2.1 e)
theorem arr316 : (Tryz.prog.arrayLen 159 = 316) ∧ Tryz.prog.underlying 159 = some (.array (Tryz.prog.arrayLen 159) (Tryz.prog.elem 159)) := ⟨by kernel_rfl, by kernel_rfl⟩
theorem size316 (w : World) : (sizeOf (Tryz.prog.elem 159)).run Tryz.prog w = .ok 1 w := by kernel_rfl
theorem run_bits (w : World) (B l h : Nat) (hl : l ≤ h) (hh : h ≤ 316) (hlt : l < 316) :
 (Instr.sliceAt 159 (.pointer (some ⟨B, 0, none⟩)) (some (.int .i64 (l : Int))) (some (.int .i64 (h : Int))) none).run Tryz.prog w = .ok (.slice (some ⟨B, l, none⟩) (h - l) (316 - l)) w := by
 rw [run_sliceAt_array_lh w _ _ arr316.2 _ _ _ _ (by omega) (by omega) (by rw [arr316.1]; omega), size316, arr316.1]
 have : ¬ 316 = l := by omega
 simp [Result.andThen, slicedAt, this, Addr.add]
 intro e; subst e; rfl
def RowPost (w0 : World) (F C : Nat) (p : Ps) (d : DS) (H : List UInt8) (k : Nat) (w : World) (r : Br) (o : Nat) (R : Option (Option Tab)) (e : Ending) (w' : World) : Prop :=
 match R with
 | none => False
 | some none => e = .returned (.bool false) ∧ Hid (RI w0 F C p d H k w' r ∧ Frm (ST F o) w w')
 | some (some T) => e = .returned (.bool true) ∧ Hid (RI w0 F C p d H k w' r ∧ TabAt w' F o T (LinkB F d) ∧ Frm (ST F o) w w')
theorem RI.init {w0 w : World} {F C : Nat} {p : Ps} {d : DS} {H : List UInt8} {k : Nat} {r : Br} (h : RI w0 F C p d H k w r) {o xo cnt cap : Nat} (ho : o = 5 ∨ o = 520) {lens : List Nat} (hL : Lens w d.BB xo lens) (hc : lens.length = cnt) (h320 : cnt ≤ 320) (h15 : ∀ n ∈ lens, n ≤ 15) :
 Calls Tryz.prog 88 #[.pointer (some ⟨F, o, none⟩), .slice (some ⟨d.BB, xo, none⟩) cnt cap] w (RowPost w0 F C p d H k w r o (initTab lens)) := by
 have hl := initTab_law h15 (by omega)
 have nBF := h.st.dec.neBF
 simp only [DS.put] at nBF
 have hpre : Pre w F o := by rcases ho with rfl | rfl; exact h.st.pre1; exact h.st.pre2
 have hcall := init_any w F o d.BB xo cap lens (by rcases hpre with h | h; exact .inl h; exact .inr ⟨h.min, h.ch, h.mask, h.none_, fun e => absurd rfl e⟩) (fun j hj => h.st.dec.tl (o + j) (by rcases ho with rfl | rfl <;> omega) (by rcases ho with rfl | rfl <;> omega)) h.st.dec.fr hL nBF (by omega) h15 hl.1
 rw [hc] at hcall
 refine hcall.mono ?_
 intro e w' hP
 unfold InitPost at hP
 unfold RowPost
 cases ht : initTab lens with
 | none => rw [ht] at hP; exact hP
 | some o1 =>
  cases o1 with
  | none =>
   rw [ht] at hP; obtain ⟨rfl, hT, hf⟩ := hP; exact ⟨rfl, zHi ⟨h.table ho hf (pre_of hT (.inl rfl)), hf⟩⟩
  | some T =>
   rw [ht] at hP; obtain ⟨rfl, hT, hf⟩ := hP; exact ⟨rfl, zHi ⟨h.table ho hf (pre_of hT (initTab_min ht)), hT.mono h.new, hf⟩⟩
theorem RI.lensT {w0 w w' : World} {F C : Nat} {p : Ps} {d : DS} {H : List UInt8} {k : Nat} {r : Br} (h : RI w0 F C p d H k w r) {o xo : Nat} (hf : Frm (ST F o) w w') {l : List Nat} (hL : Lens w d.BB xo l) : Lens w' d.BB xo l := by
 have nBF := h.st.dec.neBF
 simp only [DS.put] at nBF
 exact fun j hj => hf.keep (hL j hj) (fun e => nBF e.1)
theorem Lens.take {w : World} {X : Nat} {l : List Nat} (h : Lens w X 0 l) (n : Nat) : Lens w X 0 (l.take n) := by
 intro j hj
 rw [List.length_take] at hj
 rw [h j (by omega), List.getD_eq_getElem?_getD, List.getD_eq_getElem?_getD, List.getElem?_take, if_pos (by omega)]
theorem Lens.drop {w : World} {X : Nat} {l : List Nat} (h : Lens w X 0 l) (n : Nat) : Lens w X n (l.drop n) := by
 intro j hj
 rw [List.length_drop] at hj
 have := h (n + j) (by omega)
 rw [Nat.zero_add] at this
 rw [this, List.getD_eq_getElem?_getD, List.getD_eq_getElem?_getD, List.getElem?_drop]
theorem take_list {P : Program} {md : Region.Mode} {l r : List Oper} {Q : Exit → Act → World → Prop} {S : World → Prop} {i : Nat} {oi : Oper} {v : Value} {fuel : Nat} {listed : Array Bool} {a : Act} {w : World} (hl : l.drop i = oi :: r)
 (hs : Region.noSelect l.toArray = true) (hf : Region.free md l.toArray listed i = true) (hr : (Region.ready md l.toArray listed).contains i = true)
 (hQ : ∀ c a w, Q (.panic c) (a.put oi.dst v) w → Q (.panic c) a w) (hy : YieldsIf P l.toArray S oi v a) (hS : S w)
 (h : wpAnyH P md l.toArray Q S fuel (listed.setIfInBounds i true) (a.put oi.dst v) w) : wpAnyH P md l.toArray Q S (fuel + 1) listed a w := by
 refine wpAnyH_take ?_ hs hf hr hQ hy hS h
 have := List.getElem?_drop (xs := l) (i := i) (j := 0)
 rw [hl] at this
 simpa using this.symm
theorem RI.raise {w0 w : World} {F C : Nat} {p : Ps} {d : DS} {H : List UInt8} {k : Nat} {r : Br} (h : RI w0 F C p d H k w r) {T1 T2 : Tab} (h1 : TabAt w F 5 T1 (LinkB F d)) (h2 : TabAt w F 520 T2 (LinkB F d)) {m : Nat} (hm : T1.min < m) :
 RI w0 F C p d H k (w.setCell ⟨F, 5, none⟩ (.int .i64 (m : Int))) r ∧ TabAt (w.setCell ⟨F, 5, none⟩ (.int .i64 (m : Int))) F 5 { T1 with min := m } (LinkB F d) ∧ TabAt (w.setCell ⟨F, 5, none⟩ (.int .i64 (m : Int))) F 520 T2 (LinkB F d) := by
 have hf : Frm (fun b o => b = F ∧ o = 5) w (w.setCell ⟨F, 5, none⟩ (.int .i64 (m : Int))) := (Frm.refl _ _).setCell (.inl ⟨rfl, rfl⟩) _
 have hmin : (w.setCell ⟨F, 5, none⟩ (.int .i64 (m : Int))).cell? ⟨F, 5, none⟩ = some (.int .i64 (m : Int)) := set_get h1.min
 refine ⟨h.keep hf (fun b o _ e => .inl ⟨e.1, by omega, by omega⟩) (.inl ⟨m, by omega, hmin⟩) (h.st.pre2.keep hf (fun x h1 h2 e => by omega)), ?_, h2.keep hf (fun x h1 h2 e => by omega) (fun b hb x e => hb.1 e.1)⟩
 refine ⟨hmin, fun i hi => hf.keep (h1.ch i hi) (fun e => by omega), hf.keep h1.mask (fun e => by omega), fun e => hf.keep (h1.none_ e) (fun e => by omega), fun e => ?_⟩
 obtain ⟨L, hL, q1, q2⟩ := h1.some_ e
 refine ⟨L, hL, hf.keep q1 (fun e => by omega), fun j hj => ?_⟩
 obtain ⟨b, hb, q3, q4⟩ := q2 j hj
 exact ⟨b, hb, hf.keep q3 (fun e => hL.1 e.1), fun i hi => hf.keep (q4 i hi) (fun e => hb.1 e.1)⟩
end Go.Proofs.YthfncdfcklbigaaGreatDoor
