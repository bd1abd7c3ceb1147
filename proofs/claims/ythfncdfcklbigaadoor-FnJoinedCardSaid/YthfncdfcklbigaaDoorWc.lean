/-
  Several texts in one: what the writer and the reader of bits do.
-/
import Derived.Test.YthfncdfcklbigaaDoorWb
import Derived.Test.YthfncdfcklbigaaDoorWa
import Derived.Deep.RegionHeld3
import Derived.Test.YthfncdfcklbigaaDoorRi
set_option linter.unusedVariables false
set_option linter.unusedSimpArgs false

/-
  THE WALK OF the writer's 'dynamic': a block with its own codes.
-/
namespace Go.Proofs.YthfncdfcklbigaaDoor
open Go.RowKit Go.IntWalk Flate
set_option maxRecDepth 100000

/-- What a writer turns leaves the choices. -/
theorem Chs.keepW {w w' : World} {N0 W M C : Nat} {l : List Int} {k : Nat} (h : Chs w M C l k) (hf : Frm (SWr w N0 W) w w') (hCW : C ≠ W) (hM : M ≤ W) : Chs w' M C l k :=
  h.keep hf fun b o q => by
    rcases q with q | ⟨_, q⟩
    · exact ⟨by rw [q]; exact hCW.symm, .inl (by rw [q]; exact hM)⟩
    · refine ⟨fun e => ?_, .inr fun v hv ⟨u, e⟩ => ?_⟩
      · rw [e] at q
        obtain ⟨u, hu⟩ := q _ _ h.at_
        simp at hu
      · obtain ⟨u', hu⟩ := q _ _ hv
        rw [e] at hu
        simp at hu

/-- What turns the choices leaves a writer. -/
theorem Wt.keepC {w w' : World} {N0 W M C : Nat} {L : List Bool} {l : List Int} {k : Nat} (h : Wt w N0 W L) (hC : Chs w M C l k) (hCW : C ≠ W) (hf : Frm (fun b _ => b = C) w w') : Wt w' N0 W L := by
  obtain ⟨⟨v, h1, h2⟩, h3, h4⟩ := h
  refine ⟨⟨v, hf.keep h1 (fun q => hCW q.symm), h2.keep hf (fun g o hg q => ?_)⟩, hf.keep h3 (fun q => hCW q.symm), fun o => (hf.froz W o (cell_lt h3)).trans (h4 o)⟩
  subst q
  obtain ⟨u, hu⟩ := h2.kind g hg 1 _ hC.at_
  simp at hu

/-- Numbers behind a row. -/
theorem append_nats (w : World) (base : Nat) (v : Value) (l : List Nat) (hrow : OwnN w base v l) (g : Nat) (news : List Nat) (c : Nat) (hnews : ∀ j (h : j < news.length), w.cell? ⟨g, j, none⟩ = some (natV news[j])) (hle : l.length + news.length ≤ 1099511627776) (hbase : base ≤ w.heap.size) :
    ∃ v' w', (∀ ty, (Builtin.append_ #[27, 27] ty #[v, .slice (some ⟨g, 0, none⟩) news.length c]).run Tryd.prog w = .ok v' w') ∧ OwnN w' base v' (l ++ news) ∧ Frm (fun b _ => v.ownBlock = some b) w w' := by
  obtain ⟨i, hi, hiq⟩ := Option.map_eq_some_iff.1 infoInts
  simp only [Prod.mk.injEq] at hiq
  obtain ⟨h1, h2, h3⟩ := hiq
  obtain ⟨v', w', hrun, hr, hf, _⟩ := append_row (P := Tryd.prog) KI w base 27 3 i _ 1 8 Tryd.underlying27 hi h1 h2 h3 (by rfl) (by
      intro u hu
      have hu' : u ∈ [Value.int .i64 0] := hu
      rw [List.mem_singleton.1 hu']
      exact ⟨0, rfl⟩) v l.length _ hrow ⟨g, 0, none⟩ news.length c (news.map natV) (by simp) (fun j u hu => by
      rw [Addr.add_lit, Nat.zero_add]
      rw [List.getElem?_map] at hu
      obtain ⟨x, hx, rfl⟩ := Option.map_eq_some_iff.1 hu
      obtain ⟨hj, rfl⟩ := List.getElem?_eq_some_iff.1 hx
      exact hnews j hj) (fun u hu => by
        obtain ⟨x, _, rfl⟩ := List.mem_map.1 hu
        rfl) (fun u hu => by
        obtain ⟨x, _, rfl⟩ := List.mem_map.1 hu
        exact ⟨_, rfl⟩) (by simp only [maxLen]; omega) (by omega) hbase
  refine ⟨v', w', hrun, ?_, hf⟩
  unfold OwnN
  rw [List.map_append, List.length_append]
  exact hr

/-- The marks of the first tokens. -/
def DyT (w1 : World) (N1 g1 g2 : Nat) (toks : List Tk) (g : Nat) (iv : Value) (wr : World) : Prop :=
  ∃ (k : Nat) (A D : List Bool), k ≤ toks.length ∧ g = toks.length - k ∧ iv = .int .i64 (k : Int) ∧ OwnB wr N1 (.slice (some ⟨g1, 0, none⟩) 286 286) A ∧ OwnB wr N1 (.slice (some ⟨g2, 0, none⟩) 30 30) D ∧ A.length = 286 ∧ D.length = 30 ∧ A.getD 256 false = true ∧ (∀ t ∈ toks.take k, TkMark A D t) ∧ Frm (fun b _ => b = g1 ∨ b = g2) w1 wr

theorem tok_at {l : List Tk} : ∀ {n j : Nat}, toksOk n l → (h : j < l.length) → match l[j] with | .lit _ => True | .cpy f m => 1 ≤ f ∧ f ≤ 32768 ∧ 3 ≤ m ∧ m ≤ 258 := by
  induction l with
  | nil => intro n j _ h; simp at h
  | cons t l ih =>
    intro n j ho h
    cases j with
    | zero =>
      cases t with
      | lit c => exact trivial
      | cpy f m => exact ⟨ho.1.1, ho.1.2.2.1, ho.1.2.2.2.1, ho.1.2.2.2.2⟩
    | succ j => exact ih ho.2 (by simpa using h)

/-- All marks are there. -/
def DyEnd (w : World) (g1 g2 : Nat) (toks : List Tk) (wr : World) : Prop :=
  ∃ (A D : List Bool), OwnB wr w.heap.size (.slice (some ⟨g1, 0, none⟩) 286 286) A ∧ OwnB wr w.heap.size (.slice (some ⟨g2, 0, none⟩) 30 30) D ∧ A.length = 286 ∧ D.length = 30 ∧ A.getD 256 false = true ∧ (∀ t ∈ toks, TkMark A D t) ∧ Frm (fun _ _ => False) w wr

/-- Perhaps one more. -/
def DyMore (w3 : World) (N1 g1 g2 M C : Nat) (l : List Int) (k0 : Nat) (A D : List Bool) (wr : World) : Prop :=
  ∃ (A' : List Bool) (k : Nat), OwnB wr N1 (.slice (some ⟨g1, 0, none⟩) 286 286) A' ∧ OwnB wr N1 (.slice (some ⟨g2, 0, none⟩) 30 30) D ∧ Marks A A' ∧ Chs wr M C l k ∧ k0 ≤ k ∧ k ≤ k0 + 2 ∧ Frm (fun b _ => b = C ∨ b = g1) w3 wr

/-- The first numbers of a row. -/
theorem nt_take {S : Nat → Nat → Prop} {w w' : World} {g : Nat} {l : List Nat} (h : Nt w (some ⟨g, 0, none⟩) l) (hf : Frm S w w') (hS : ∀ o, ¬ S g o) (k : Nat) : ∀ j (_ : j < (l.take k).length), w'.cell? ⟨g, j, none⟩ = some (natV (l.take k)[j]) := by
  intro j hj
  rw [List.length_take] at hj
  obtain ⟨g', hg, hc⟩ := h.cells j (by omega)
  injection hg with hg
  injection hg with hg
  subst hg
  rw [List.getElem_take]
  exact hf.keep hc (hS j)

/-- An append whose run is known, as one step of a region that draws its order. -/
theorem step_append_run {P : Program} {ops : Array Oper} {o : Oper} {a : Act} {w : World} {K : Act → World → Prop} {Q : Exit → Act → World → Prop} {E : Prop} (hgd : o.guard = none) (x y : Operand) (t : TypeId)
    (ho : o.op = .call { callee := .builtin .append, args := #[x, y], argTypes := #[t, t] }) {dv sv v : Value} {w' : World} (hd : a.eval x = dv) (hs : a.eval y = sv)
    (hrun : ∀ ty, (Builtin.append_ #[t, t] ty #[dv, sv]).run P w = .ok v w') (h : K (a.put o.dst v) w') :
    if Region.wanted o (yielded ops a.tmps) = true then Oper.wp P o a w K Q else E := by
  have hw : Region.wanted o (yielded ops a.tmps) = true := by simp [Region.wanted, hgd]
  rw [if_pos hw]
  have hrun := hrun o.type
  unfold Oper.wp execOp
  simp only [ho, resolve, invoke, builtin, Sem.run_bind, Sem.run_pure, Result.andThen_ok, List.map_toArray, List.map_cons, List.map_nil, hd, hs, hrun]
  exact h

/-- The rows that are written. -/
def DyRows (w6 : World) (M C : Nat) (l : List Int) (k0 : Nat) (A : List Nat) (v : Value) (wq : World) : Prop :=
  ∃ (R : List (Nat × Nat)) (k : Nat), OwnR wq w6.heap.size v R ∧ rowsRun [] R = A ∧ rowsOk [] R ∧ Chs wq M C l k ∧ k0 ≤ k ∧ k ≤ k0 + 960 ∧ Frm (fun b _ => b = C) w6 wq

/-- What is in the rows. -/
theorem rows_all : ∀ {l : List (Nat × Nat)} {acc : List Nat}, rowsOk acc l → ∀ p ∈ l, p.1 ≤ 18 ∧ p.2 < 2 ^ rowX p.1 ∧ rowX p.1 ≤ 7
  | [], _, _, p, hp => absurd hp (by simp)
  | q :: l, acc, h, p, hp => by
    rcases List.mem_cons.1 hp with rfl | hp
    · refine ⟨h.1.1, h.1.2.2, ?_⟩
      unfold rowX
      split
      · omega
      · split
        · omega
        · split <;> omega
    · exact rows_all h.2 p hp

/-- The marks of the first rows. -/
def DyU (w8 : World) (N1 g3 : Nat) (R : List (Nat × Nat)) (g : Nat) (iv : Value) (wr : World) : Prop :=
  ∃ (k : Nat) (U : List Bool), k ≤ R.length ∧ g = R.length - k ∧ iv = .int .i64 (k : Int) ∧ OwnB wr N1 (.slice (some ⟨g3, 0, none⟩) 19 19) U ∧ U.length = 19 ∧ (∀ p ∈ R.take k, U.getD p.1 false = true) ∧ Frm (fun b _ => b = g3) w8 wr

def DyUsed (w7 : World) (g3 : Nat) (R : List (Nat × Nat)) (wq : World) : Prop :=
  ∃ U : List Bool, OwnB wq w7.heap.size (.slice (some ⟨g3, 0, none⟩) 19 19) U ∧ U.length = 19 ∧ (∀ p ∈ R, U.getD p.1 false = true) ∧ Frm (fun _ _ => False) w7 wq

/-- The lengths of the code for lengths. -/
def DyLen (w9 : World) (U : List Bool) (s : Value) (wq : World) : Prop :=
  ∃ (cg ccap : Nat) (CL : List Nat), s = .slice (some ⟨cg, 0, none⟩) 19 ccap ∧ Nt wq (some ⟨cg, 0, none⟩) CL ∧ TreeOK U 7 CL ∧ CL.length = 19 ∧ w9.heap.size ≤ cg ∧ cg < wq.heap.size ∧ 19 ≤ ccap ∧ Frm (fun _ _ => False) w9 wq

/-- New choices. -/
theorem chs_new (w : World) (M : Nat) : Chs (w.alloc (.cells #[.slice none 0 0, .int .i64 0] 70)) M w.heap.size [] 0 := by
  have hc : ∀ o, (w.alloc (.cells #[.slice none 0 0, .int .i64 0] 70)).cell? ⟨w.heap.size, o, none⟩ = (#[.slice none 0 0, .int .i64 0] : Array Value)[o]? := fun o => cells_at (heap_alloc_new w _)
  exact ⟨⟨none, 0, (hc 0).trans rfl, ⟨fun j hj => absurd hj (by simp), fun a h => by simp at h, Nat.le_refl _, fun a h => by simp at h, fun _ => rfl, fun x hx => absurd hx (by simp)⟩, fun a h => by simp at h⟩, (hc 1).trans rfl, fun o => World.frozen?_alloc_new (w := w) .., by simp⟩

/-- So many lengths of the code for lengths are written. -/
def DyNc (w11 : World) (CL : List Nat) (g : Nat) (s : Value) (wq : World) : Prop :=
  ∃ nc : Nat, nc ≤ g ∧ s = .int .i64 (nc : Int) ∧ 4 ≤ nc ∧ nc ≤ 19 ∧ (∀ i, nc ≤ i → i < 19 → CL.getD (clOrder.getD i 0) 0 = 0) ∧ Frm (fun _ _ => False) w11 wq

theorem order_lt (m : Nat) : clOrder.getD m 0 < 19 := by
  rcases Nat.lt_or_ge m 19 with h | h
  · have : ∀ i : Fin 19, clOrder.getD i.1 0 < 19 := by decide +kernel
    exact this ⟨m, h⟩
  · rw [List.getD_eq_getElem?_getD, List.getElem?_eq_none (by show 19 ≤ m; exact h)]; decide

/-- Rows stay. -/
theorem Rns.keep {S : Nat → Nat → Prop} {w w' : World} {b : Option Addr} {l : List (Nat × Nat)} (h : Rns w b l) (hf : Frm S w w') (hS : ∀ g, b = some ⟨g, 0, none⟩ → ∀ o, ¬ S g o) : Rns w' b l :=
  ⟨fun j hj => by
    obtain ⟨g, h1, h2, h3, h4⟩ := h.cells j hj
    exact ⟨g, h1, hf.keep h2 (hS g h1 _), hf.keep h3 (hS g h1 _), hf.keep h4 (hS g h1 _)⟩⟩

theorem Rns.keepW {w w' : World} {N0 W : Nat} {b : Option Addr} {l : List (Nat × Nat)} (h : Rns w b l) (hf : Frm (SWr w N0 W) w w') (hb : ∀ a, b = some a → a.block ≠ W) : Rns w' b l :=
  ⟨fun j hj => by
    obtain ⟨g, h1, h2, h3, h4⟩ := h.cells j hj
    exact ⟨g, h1, hf.kept h2 (hb _ h1) (.inr (by simp)), hf.kept h3 (hb _ h1) (.inr (by simp)), hf.kept h4 (hb _ h1) (.inr (by simp))⟩⟩

theorem flat3_len (cl : List Nat) : ∀ l : List Nat, (l.flatMap fun s => enc (cl.getD s 0) 3).length = 3 * l.length
  | [] => rfl
  | s :: l => by rw [List.flatMap_cons, List.length_append, flat3_len cl l, enc_len, List.length_cons]; omega

theorem rows_flat {cl : List Nat} (h7 : ∀ s, cl.getD s 0 ≤ 7) : ∀ {l : List (Nat × Nat)}, (∀ p ∈ l, rowX p.1 ≤ 7) → (l.flatMap (rowBits cl)).length ≤ 14 * l.length
  | [], _ => Nat.le_refl _
  | p :: l, h => by
    have h1 := rows_flat h7 (l := l) (fun q hq => h q (List.mem_cons_of_mem _ hq))
    have h2 := h p (List.mem_cons_self ..)
    have h3 := h7 p.1
    rw [List.flatMap_cons, List.length_append, List.length_cons]
    unfold rowBits at h1 ⊢
    rw [List.length_append, code_len, enc_len]
    omega

/-- So many lengths of the code for lengths stand there. -/
def DyCl (w16 : World) (N0 W : Nat) (L3 : List Bool) (CL : List Nat) (nc g : Nat) (iv : Value) (wr : World) : Prop :=
  ∃ k : Nat, k ≤ nc ∧ g = nc - k ∧ iv = .int .i64 (k : Int) ∧ Wt wr N0 W (L3 ++ (clOrder.take k).flatMap (fun s => enc (CL.getD s 0) 3)) ∧ Frm (SWr w16 N0 W) w16 wr

/-- The numbers of the code for lengths. -/
def DyNums (w18 : World) (CL : List Nat) (s : Value) (wq : World) : Prop :=
  ∃ (ng ncap : Nat) (out : List Nat), s = .slice (some ⟨ng, 0, none⟩) 19 ncap ∧ Nt wq (some ⟨ng, 0, none⟩) out ∧ w18.heap.size ≤ ng ∧ (∀ s, CL.getD s 0 ≠ 0 → out.getD s 0 = codeOf CL s) ∧ (∀ s, out.getD s 0 ≤ 1073741824) ∧ out.length = 19 ∧ 19 ≤ ncap ∧ Frm (fun _ _ => False) w18 wq

/-- So many rows stand there. -/
def DyRw (w19 : World) (N0 W : Nat) (L4 : List Bool) (CL : List Nat) (R : List (Nat × Nat)) (g : Nat) (iv : Value) (wr : World) : Prop :=
  ∃ k : Nat, k ≤ R.length ∧ g = R.length - k ∧ iv = .int .i64 (k : Int) ∧ Wt wr N0 W (L4 ++ (R.take k).flatMap (rowBits CL)) ∧ Frm (SWr w19 N0 W) w19 wr

def DyMade (w : World) (v1 v2 : Value) (wq : World) : Prop :=
  ∃ g1 g2, v1 = .slice (some ⟨g1, 0, none⟩) 286 286 ∧ v2 = .slice (some ⟨g2, 0, none⟩) 30 30 ∧ g1 ≠ g2 ∧ OwnB wq w.heap.size v1 (List.replicate 286 false) ∧ OwnB wq w.heap.size v2 (List.replicate 30 false) ∧ Frm (fun _ _ => False) w wq

theorem dy_made (w : World) : DyMade w (.slice (some ⟨w.heap.size, 0, none⟩) 286 286) (.slice (some ⟨w.heap.size + 1, 0, none⟩) 30 30) ((w.alloc (.cells (madeCells #[.bool false] 286) 4)).alloc (.cells (madeCells #[.bool false] 30) 4)).drew ∧
    DyMade w (.slice (some ⟨w.heap.size + 1, 0, none⟩) 286 286) (.slice (some ⟨w.heap.size, 0, none⟩) 30 30) ((w.alloc (.cells (madeCells #[.bool false] 30) 4)).alloc (.cells (madeCells #[.bool false] 286) 4)).drew := by
  have sz : ∀ (o : Obj), (w.alloc o).heap.size = w.heap.size + 1 := fun o => by simp
  constructor
  · have h1 := ownB_made w 286 (by simp only [maxLen]; omega)
    have h2 := ownB_made (w.alloc (.cells (madeCells #[.bool false] 286) 4)) 30 (by simp only [maxLen]; omega)
    rw [sz] at h2
    refine ⟨_, _, rfl, rfl, by omega, ?_, ?_, (((Frm.refl _ _).alloc _).trans ((Frm.refl _ _).alloc _)).trans ((Frm.refl _ _).drew)⟩
    · exact (h1.keep ((Frm.refl (fun _ _ => False) _).alloc _) (fun _ _ _ e => e)).keep ((Frm.refl (fun _ _ => False) _).drew) (fun _ _ _ e => e)
    · exact Row.lower (h2.keep ((Frm.refl (fun _ _ => False) _).drew) (fun _ _ _ e => e)) (by omega)
  · have h1 := ownB_made w 30 (by simp only [maxLen]; omega)
    have h2 := ownB_made (w.alloc (.cells (madeCells #[.bool false] 30) 4)) 286 (by simp only [maxLen]; omega)
    rw [sz] at h2
    refine ⟨_, _, rfl, rfl, by omega, ?_, ?_, (((Frm.refl _ _).alloc _).trans ((Frm.refl _ _).alloc _)).trans ((Frm.refl _ _).drew)⟩
    · exact Row.lower (h2.keep ((Frm.refl (fun _ _ => False) _).drew) (fun _ _ _ e => e)) (by omega)
    · exact (h1.keep ((Frm.refl (fun _ _ => False) _).alloc _) (fun _ _ _ e => e)).keep ((Frm.refl (fun _ _ => False) _).drew) (fun _ _ _ e => e)

set_option maxHeartbeats 4000000 in
theorem dynamic_any (w : World) (N0 W : Nat) (L : List Bool) (h : Wt w N0 W L) (hW : W < N0) (hN : N0 ≤ w.heap.size) (hL : L.length ≤ 4398046511104)
    (tb : Option Addr) (toks : List Tk) (tc : Nat) (ht : Tks w tb toks) (M C : Nat) (htW : ∀ a, tb = some a → a.block ≠ W ∧ a.block ≠ C ∧ a.block < w.heap.size) (htl : toks.length ≤ 65535) {n0 : Nat} (hok : toksOk n0 toks)
    (l : List Int) (k0 : Nat) (hC : Chs w M C l k0) (hk0 : k0 ≤ 68719476736) (hCW : C ≠ W) (hMW : M ≤ W) :
    Calls Tryd.prog 46 #[.pointer (some ⟨W, 0, none⟩), .slice tb toks.length tc, .pointer (some ⟨C, 0, none⟩)] w fun e w' => ∃ B k, e = .returned (.tuple #[]) ∧ DynBits B toks ∧ B.length ≤ 5000 + 48 * toks.length ∧ Wt w' N0 W (L ++ B) ∧ Chs w' M C l k ∧ k0 ≤ k ∧ k ≤ k0 + 1000 ∧ Frm (fun b o => b = C ∨ SWr w N0 W b o) w w' := by
  have HW := Lib.hid (And.intro h (And.intro hW (And.intro hN (And.intro hL (And.intro hCW hMW)))))
  have HT := Lib.hid (And.intro ht (And.intro htW (And.intro htl hok)))
  have HC := Lib.hid (And.intro hC hk0)
  obtain ⟨n, hn⟩ : ∃ n, n = toks.length := ⟨_, rfl⟩
  have c1 : (n : Int) ≤ 65535 := by omega
  rw [← hn]
  have HN := Lib.hid hn
  have hmk1 : ∀ w : World, (Instr.makeSlice 130 (.int .i64 286) (.int .i64 286)).run Tryd.prog w = .ok (.slice (some ⟨w.heap.size, 0, none⟩) 286 286) (w.alloc (.cells (madeCells #[.bool false] 286) 4)) := run_make_row' (P := Tryd.prog) 130 4 (.bool false) 1 Tryd.underlying130 infoBools rfl .i64 .i64 286 (by omega) (by omega)
  have hmk2 : ∀ w : World, (Instr.makeSlice 130 (.int .i64 30) (.int .i64 30)).run Tryd.prog w = .ok (.slice (some ⟨w.heap.size, 0, none⟩) 30 30) (w.alloc (.cells (madeCells #[.bool false] 30) 4)) := run_make_row' (P := Tryd.prog) 130 4 (.bool false) 1 Tryd.underlying130 infoBools rfl .i64 .i64 30 (by omega) (by omega)
  clear h hW hN hL ht htW htl hC hk0 hCW hMW hn hok
  go_enter Tryd.func46, Tryd.ntmps46
  go_upto_region 0 with (fail)
  go_cut [6, 7] (fun v1 v2 wq => DyMade w v1 v2 wq)
  case first =>
    as_aux_lemma =>
    have hd := dy_made w
    go_region_with (fail)
    all_goals
      go_wp2_with fail
      go_meet
      case rel => first | exact hd.1 | exact hd.2
  obtain ⟨g1, g2, rfl, rfl, hg12, hA0, hD0, hf1⟩ := hcut
  apply_assumption
  have HX := Lib.hid (And.intro hg12 hf1)
  obtain ⟨w1, rfl⟩ : ∃ w1, w1 = wc := ⟨_, rfl⟩
  have hbnd := hA0.lt g1 rfl
  have hbnd2 := hD0.lt g2 rfl
  obtain ⟨hs1, hsf1⟩ := hA0.set (g := g1) rfl (show 256 < (List.replicate 286 false).length by simp) true
  obtain ⟨gg, cp, hv, _, _, _, hoc, hofz⟩ := Row.at hA0 (show 256 < (List.replicate 286 false).length by simp)
  have hgg : g1 = gg := Option.some.inj (congrArg Value.ownBlock hv)
  subst hgg
  replace hoc : ∃ ov, w1.cell? ⟨g1, 256, none⟩ = some ov := ⟨_, hoc⟩
  obtain ⟨ov, hoc⟩ := hoc
  obtain ⟨w2, hw2⟩ : ∃ w2, w2 = w1.setCell ⟨g1, 256, none⟩ (.bool true) := ⟨_, rfl⟩
  rw [← hw2] at hs1 hsf1
  have hD1 : OwnB w2 w.heap.size (.slice (some ⟨g2, 0, none⟩) 30 30) (List.replicate 30 false) := hD0.keep hsf1 (fun g o hg e => by obtain rfl := Option.some.inj hg; exact hg12 e.1.symm)
  have hst : DyT w1 w.heap.size g1 g2 toks n (.int .i64 0) w2 := ⟨0, _, _, Nat.zero_le _, by rw [HN.out, Nat.sub_zero], rfl, hs1, hD1, by simp, by simp, mark_set (by simp), fun t ht => absurd ht (by simp), hsf1.mono fun _ _ e => .inl e.1⟩
  have HS := Lib.hid hst
  have HB := Lib.hid (And.intro hbnd hbnd2)
  clear hg12 hA0 hD0 hf1 hbnd hbnd2 hs1 hsf1 hv hD1 hst hmk1 hmk2
  go_upto_region 1 with (fail)
  go_cut [31] (fun s wq => wq = w2)
  case first =>
    as_aux_lemma =>
    go_wp2_with fail
    go_meet
    case rel => exact hw2.symm
  obtain rfl := hcut
  clear hw2 hoc hofz
  apply_assumption
  refine wp_seq_k ?_
  intro K1 hK1
  go_cut [10] (fun s wq => DyEnd w g1 g2 toks wq)
  case first =>
   as_aux_lemma =>
   go_wp2_with fail
   go_loopg [34] n (fun g iv wr => DyT w1 w.heap.size g1 g2 toks g iv wr)
   case atStart => exact HS.out
   case round =>
     obtain ⟨k, A, D, hk, hg, rfl, hA, hD, hAl, hDl, h256, hm, hf⟩ := hrel
     obtain ⟨hg12, hf1⟩ := HX.out
     by_cases hlt : k < n
     · have hkl : k < toks.length := by rw [← HN.out]; exact hlt
       obtain ⟨g', htb, t0, t1, t2⟩ := HT.out.1.cells k hkl
       have hgl := (HT.out.2.1 _ htb).2.2
       simp only at hgl
       have hgn : ∀ o : Nat, ¬ (g' = g1 ∨ g' = g2) := fun _ q => by have := HB.out; omega
       replace t0 := hf.keep (hf1.keep t0 (fun e => e)) (hgn 0)
       replace t1 := hf.keep (hf1.keep t1 (fun e => e)) (hgn 0)
       replace t2 := hf.keep (hf1.keep t2 (fun e => e)) (hgn 0)
       subst htb
       obtain ⟨t, htt⟩ : ∃ t, t = toks[k] := ⟨_, rfl⟩
       rw [← htt] at t0 t1 t2
       have htok := tok_at HT.out.2.2.2 hkl
       rw [← htt] at htok
       have hts : toks.take (k + 1) = toks.take k ++ [t] := by rw [List.take_add_one, List.getElem?_eq_getElem hkl, htt]; rfl
       have HR := Lib.hid (And.intro hg (And.intro hA (And.intro hD (And.intro hAl (And.intro hDl (And.intro h256 (And.intro hm (And.intro hf (And.intro hts hkl)))))))))
       clear hk hg hA hD hAl hDl h256 hm hf hkl hg12 hf1 hgl hgn htt hts
       cases t with
       | lit c =>
         obtain ⟨cn, hcn⟩ : ∃ cn, cn = c.toNat := ⟨_, rfl⟩
         have u0 : wr.cell? ⟨g', k * 3, none⟩ = some (.int .i64 (cn : Int)) := by rw [hcn]; exact t0
         have u1 : wr.cell? ⟨g', k * 3 + 1, none⟩ = some (.int .i64 0) := t1
         have u2 : wr.cell? ⟨g', k * 3 + 2, none⟩ = some (.int .i64 0) := t2
         have hcl := c.toNat_lt
         have d1 : cn < 286 := by omega
         have d2 : (cn : Int) ≤ 255 := by omega
         obtain ⟨W3, hW3⟩ : ∃ W3, W3 = wr.alloc (.cells #[.int .i64 (cn : Int), .int .i64 0, .int .i64 0] 89) := ⟨_, rfl⟩
         have hf3 : Frm (fun _ _ => False) wr W3 := by rw [hW3]; exact (Frm.refl _ _).alloc _
         have r0 : W3.cell? ⟨wr.heap.size, 0, none⟩ = some (.int .i64 (cn : Int)) := by rw [hW3]; exact (cells_at (heap_alloc_new wr _)).trans rfl
         have r1 : W3.cell? ⟨wr.heap.size, 1, none⟩ = some (.int .i64 0) := by rw [hW3]; exact (cells_at (heap_alloc_new wr _)).trans rfl
         have hA3 := HR.out.2.1.keep hf3 (fun _ _ _ e => e)
         have hD3 := HR.out.2.2.1.keep hf3 (fun _ _ _ e => e)
         have hcA : cn < A.length := by rw [HR.out.2.2.2.1]; exact d1
         obtain ⟨hs3, hsf3⟩ := OwnB.set hA3 (g := g1) rfl hcA true
         obtain ⟨gg, cp, hv, _, _, _, hoc, hofz⟩ := Row.at hA3 hcA
         have hgg : g1 = gg := Option.some.inj (congrArg Value.ownBlock hv)
         subst hgg
         replace hoc : ∃ ov, W3.cell? ⟨g1, cn, none⟩ = some ov := ⟨_, hoc⟩
         obtain ⟨ov, hoc⟩ := hoc
         have hD4 := hD3.keep hsf3 (fun g o hg e => by obtain rfl := Option.some.inj hg; exact HX.out.1 e.1.symm)
         have HC1 := Lib.hid (And.intro hcn (And.intro hf3 (And.intro hs3 (And.intro hsf3 (And.intro hD4 hcA)))))
         clear t0 t1 t2 hcl hf3 hA3 hD3 hcA hs3 hsf3 hv hD4 hcn htok
         go_upto_region 5 with (fail)
         rw [← hW3]
         clear hW3
         go_wp2_with fail
         go_roundg (n - (k + 1))
         case measure => have := HR.out.1; have := HN.out; omega
         case rel =>
           obtain ⟨hg, hA, hD, hAl, hDl, h256, hm, hf, hts, hkl⟩ := HR.out
           obtain ⟨hcn, hf3, hs3, hsf3, hD4, hcA⟩ := HC1.out
           refine ⟨k + 1, A.set cn true, D, hkl, by rw [HN.out], by go_num, hs3, hD4, by rw [List.length_set, hAl], hDl, (marks_set A cn).2 _ h256, fun t ht => ?_, (hf.trans (hf3.mono fun _ _ e => e.elim)).trans (hsf3.mono fun _ _ e => .inl e.1)⟩
           rw [hts] at ht
           rcases List.mem_append.1 ht with q | q
           · exact (hm t q).more (marks_set A cn) (Marks.refl _)
           · obtain rfl := List.mem_singleton.1 q
             show (A.set cn true).getD c.toNat false = true
             rw [← hcn]; exact mark_set hcA
       | cpy f m =>
         have u0 : wr.cell? ⟨g', k * 3, none⟩ = some (.int .i64 0) := t0
         have u1 : wr.cell? ⟨g', k * 3 + 1, none⟩ = some (.int .i64 (f : Int)) := t1
         have u2 : wr.cell? ⟨g', k * 3 + 2, none⟩ = some (.int .i64 (m : Int)) := t2
         obtain ⟨f1, f2, m1, m2⟩ : 1 ≤ f ∧ f ≤ 32768 ∧ 3 ≤ m ∧ m ≤ 258 := htok
         have d0 : ((f : Int) == 0) = false := by simp; omega
         have hl1 := fun W => lengthSymbol_any W m m1 m2
         have hl2 := fun W => distanceSymbol_any W f f1 f2
         obtain ⟨k1, k2, k3, k4, _, _, _⟩ := lenSymbol_ok m1 m2
         obtain ⟨k5, k6, k7, _, _, _⟩ := distSymbol_ok f1 f2
         obtain ⟨s1, hs1⟩ : ∃ s, s = (lenSymbol m).1 := ⟨_, rfl⟩
         obtain ⟨o1, ho1⟩ : ∃ s, s = (lenSymbol m).2.1 := ⟨_, rfl⟩
         obtain ⟨e1, he1⟩ : ∃ s, s = (lenSymbol m).2.2 := ⟨_, rfl⟩
         obtain ⟨s2, hs2⟩ : ∃ s, s = (distSymbol f).1 := ⟨_, rfl⟩
         obtain ⟨o2, ho2⟩ : ∃ s, s = (distSymbol f).2.1 := ⟨_, rfl⟩
         obtain ⟨e2, he2⟩ : ∃ s, s = (distSymbol f).2.2 := ⟨_, rfl⟩
         rw [← hs1, ← ho1, ← he1] at hl1
         rw [← hs2, ← ho2, ← he2] at hl2
         rw [← hs1] at k1 k2
         rw [← hs2] at k5
         have d1 : s1 < 286 := by omega
         have d2 : s2 < 30 := by omega
         have d3 : (s1 : Int) ≤ 285 := by omega
         have d4 : (s2 : Int) ≤ 29 := by omega
         obtain ⟨W3, hW3⟩ : ∃ W3, W3 = wr.alloc (.cells #[.int .i64 0, .int .i64 (f : Int), .int .i64 (m : Int)] 89) := ⟨_, rfl⟩
         have hf3 : Frm (fun _ _ => False) wr W3 := by rw [hW3]; exact (Frm.refl _ _).alloc _
         obtain ⟨B, hB⟩ : ∃ B, B = wr.heap.size := ⟨_, rfl⟩
         have v0 : W3.cell? ⟨B, 1, none⟩ = some (.int .i64 (f : Int)) := by rw [hW3, hB]; exact (cells_at (heap_alloc_new wr _)).trans rfl
         have v1 : W3.cell? ⟨B, 2, none⟩ = some (.int .i64 (m : Int)) := by rw [hW3, hB]; exact (cells_at (heap_alloc_new wr _)).trans rfl
         have hA3 := HR.out.2.1.keep hf3 (fun _ _ _ e => e)
         have hD3 := HR.out.2.2.1.keep hf3 (fun _ _ _ e => e)
         have hcA : s1 < A.length := by rw [HR.out.2.2.2.1]; exact d1
         have hcD : s2 < D.length := by rw [HR.out.2.2.2.2.1]; exact d2
         have hBg1 : B ≠ g1 := by have := (HR.out.2.1.lt g1 rfl).2; omega
         have hBg2 : B ≠ g2 := by have := (HR.out.2.2.1.lt g2 rfl).2; omega
         obtain ⟨hs3, hsf3⟩ := OwnB.set hA3 (g := g1) rfl hcA true
         obtain ⟨gg, cp, hv, _, _, _, hoc, hofz⟩ := Row.at hA3 hcA
         have hgg : g1 = gg := Option.some.inj (congrArg Value.ownBlock hv)
         subst hgg
         replace hoc : ∃ ov, W3.cell? ⟨g1, s1, none⟩ = some ov := ⟨_, hoc⟩
         obtain ⟨ov, hoc⟩ := hoc
         obtain ⟨W4, hW4⟩ : ∃ W4, W4 = W3.setCell ⟨g1, s1, none⟩ (.bool true) := ⟨_, rfl⟩
         rw [← hW4] at hs3 hsf3
         have v04 : W4.cell? ⟨B, 1, none⟩ = some (.int .i64 (f : Int)) := hsf3.keep v0 (fun e => hBg1 e.1)
         have hD4 := hD3.keep hsf3 (fun g o hg e => by obtain rfl := Option.some.inj hg; exact HX.out.1 e.1.symm)
         obtain ⟨hs4, hsf4⟩ := OwnB.set hD4 (g := g2) rfl hcD true
         obtain ⟨gg, cp2, hv2, _, _, _, hoc2, hofz2⟩ := Row.at hD4 hcD
         have hgg : g2 = gg := Option.some.inj (congrArg Value.ownBlock hv2)
         subst hgg
         replace hoc2 : ∃ ov, W4.cell? ⟨g2, s2, none⟩ = some ov := ⟨_, hoc2⟩
         obtain ⟨ov2, hoc2⟩ := hoc2
         have hs3' := hs3.keep hsf4 (fun g o hg e => by obtain rfl := Option.some.inj hg; exact HX.out.1 e.1)
         have HC1 := Lib.hid (And.intro hs1 (And.intro hs2 (And.intro hf3 (And.intro hs3' (And.intro hsf3 (And.intro hs4 (And.intro hsf4 (And.intro hcA (And.intro hcD (And.intro f1 (And.intro f2 (And.intro m1 m2))))))))))))
         have HL1 := Lib.hid (hl1 W3)
         have HL2 := Lib.hid (hl2 W4)
         clear t0 t1 t2 f1 f2 m1 m2 hl1 hl2 k1 k2 k3 k4 k5 k6 k7 hs1 ho1 he1 hs2 ho2 he2 hf3 hA3 hD3 hcA hcD hBg1 hBg2 hs3 hsf3 hv hD4 hs4 hsf4 hv2 hs3'
         go_upto_region 7 with (fail)
         rw [← hW3, ← hB]
         clear hW3 hB
         go_wp2_with fail
         refine HL1.out.mono ?_
         rintro e w4 ⟨rfl, rfl⟩
         go_upto_region 9 with (fail)
         rw [← hW4]
         clear hW4 hoc hofz
         go_wp2_with fail
         refine HL2.out.mono ?_
         rintro e w4 ⟨rfl, rfl⟩
         go_wp2_with fail
         go_roundg (n - (k + 1))
         case measure => have := HR.out.1; have := HN.out; omega
         case rel =>
           obtain ⟨hg, hA, hD, hAl, hDl, h256, hm, hf, hts, hkl⟩ := HR.out
           obtain ⟨hs1, hs2, hf3, hs3, hsf3, hs4, hsf4, hcA, hcD, f1, f2, m1, m2⟩ := HC1.out
           refine ⟨k + 1, A.set s1 true, D.set s2 true, hkl, by rw [HN.out], by go_num, hs3, hs4, by rw [List.length_set, hAl], by rw [List.length_set, hDl], (marks_set A s1).2 _ h256, fun t ht => ?_, ((hf.trans (hf3.mono fun _ _ e => e.elim)).trans (hsf3.mono fun _ _ e => .inl e.1)).trans (hsf4.mono fun _ _ e => .inr e.1)⟩
           rw [hts] at ht
           rcases List.mem_append.1 ht with q | q
           · exact (hm t q).more (marks_set A s1) (marks_set D s2)
           · obtain rfl := List.mem_singleton.1 q
             exact ⟨f1, f2, m1, m2, by rw [← hs1]; exact mark_set hcA, by rw [← hs2]; exact mark_set hcD⟩
     · obtain rfl : k = n := by have := HN.out; omega
       have hd : decide (k < k) = false := by simp
       have hall : ∀ t ∈ toks, TkMark A D t := by
         intro t ht
         refine hm t ?_
         rw [HN.out, List.take_length]; exact ht
       have hfw : Frm (fun _ _ => False) w wr := hf1.trans' hf (fun x o hx q => by have := HB.out; omega)
       have HR := Lib.hid (show DyEnd w g1 g2 toks wr from ⟨A, D, hA, hD, hAl, hDl, h256, hall, hfw⟩)
       clear hk hg hA hD hAl hDl h256 hm hf hg12 hf1 hall hfw hlt
       go_wp2_with fail
       go_meet
       case rel => exact HR.out
  obtain ⟨A, D, hA, hD, hAl, hDl, h256, hall, hfw⟩ := hcut
  refine hK1 _ _ ?_
  refine wp_seq_k ?_
  intro K2 hK2
  have HR := Lib.hid (And.intro hA (And.intro hD (And.intro hAl (And.intro hDl (And.intro h256 (And.intro hall hfw))))))
  obtain ⟨w3, rfl⟩ : ∃ w3, w3 = wc := ⟨_, rfl⟩
  clear hA hD hAl hDl h256 hall hfw HS
  go_cut [71] (fun s wq => DyMore w3 w.heap.size g1 g2 M C l k0 A D wq)
  case first =>
    as_aux_lemma =>
    have hn2 : Calls Tryd.prog 39 #[.pointer (some ⟨C, 0, none⟩), .int .i64 2] w3 fun e w' => ∃ v : Nat, e = .returned (natV v) ∧ v < 2 ∧ (l = [] → v = k0 % 2) ∧ Chs w' M C l (k0 + 1) ∧ Frm (fun b _ => b = C) w3 w' := next_any w3 M C l k0 (HC.out.1.keep0 HR.out.2.2.2.2.2.2) 2 (by omega) (by omega) (by have := HC.out.2; omega)
    have HN2 := Lib.hid hn2
    clear hn2
    go_wp2_with fail
    refine HN2.out.mono ?_
    rintro e w4 ⟨v4, rfl, hv4, _, hC4, hf4⟩
    have c6 : (v4 : Int) ≤ 1 := by omega
    obtain ⟨hA, hD, hAl, hDl, h256, hall, hfw⟩ := HR.out
    have hCl := HC.out.1.lt
    have hA4 : OwnB w4 w.heap.size (.slice (some ⟨g1, 0, none⟩) 286 286) A := hA.keep hf4 (fun g o hg e => by have := (hA.lt g hg).1; omega)
    have hD4 : OwnB w4 w.heap.size (.slice (some ⟨g2, 0, none⟩) 30 30) D := hD.keep hf4 (fun g o hg e => by have := (hD.lt g hg).1; omega)
    by_cases hv : v4 = 0
    · subst hv
      have hn3 : Calls Tryd.prog 39 #[.pointer (some ⟨C, 0, none⟩), .int .i64 286] w4 fun e w' => ∃ v : Nat, e = .returned (natV v) ∧ v < 286 ∧ (l = [] → v = (k0 + 1) % 286) ∧ Chs w' M C l (k0 + 1 + 1) ∧ Frm (fun b _ => b = C) w4 w' := next_any w4 M C l (k0 + 1) hC4 286 (by omega) (by omega) (by have := HC.out.2; omega)
      have HN3 := Lib.hid hn3
      have H4 := Lib.hid (And.intro hA4 (And.intro hD4 hf4))
      clear hn3 hA hD hAl hDl h256 hall hfw hA4 hD4 hf4 hC4 hv4
      go_wp2_with fail
      refine HN3.out.mono ?_
      rintro e w5 ⟨v5, rfl, hv5, _, hC5, hf5⟩
      obtain ⟨hA4, hD4, hf4⟩ := H4.out
      have c7 : (v5 : Int) ≤ 285 := by omega
      have hA5 : OwnB w5 w.heap.size (.slice (some ⟨g1, 0, none⟩) 286 286) A := hA4.keep hf5 (fun g o hg e => by have := (hA4.lt g hg).1; omega)
      have hD5 : OwnB w5 w.heap.size (.slice (some ⟨g2, 0, none⟩) 30 30) D := hD4.keep hf5 (fun g o hg e => by have := (hD4.lt g hg).1; omega)
      have hcA : v5 < A.length := by rw [HR.out.2.2.1]; exact hv5
      obtain ⟨hs5, hsf5⟩ := OwnB.set hA5 (g := g1) rfl hcA true
      obtain ⟨gg, cp, hvv, _, _, _, hoc, hofz⟩ := Row.at hA5 hcA
      have hgg : g1 = gg := Option.some.inj (congrArg Value.ownBlock hvv)
      subst hgg
      replace hoc : ∃ ov, w5.cell? ⟨g1, v5, none⟩ = some ov := ⟨_, hoc⟩
      obtain ⟨ov, hoc⟩ := hoc
      have hD6 := hD5.keep hsf5 (fun g o hg e => by obtain rfl := Option.some.inj hg; exact HX.out.1 e.1.symm)
      have hg1C : w.heap.size ≤ g1 := (hA4.lt g1 rfl).1
      have hC6 := hC5.keep hsf5 (fun b o q => ⟨by have := q.1; omega, .inl (by have := q.1; have := HW.out; omega)⟩)
      have hmore : DyMore w3 w.heap.size g1 g2 M C l k0 A D (w5.setCell ⟨g1, v5, none⟩ (.bool true)) := ⟨A.set v5 true, k0 + 2, hs5, hD6, marks_set A v5, hC6, by omega, by omega, ((hf4.mono fun _ _ e => .inl e).trans (hf5.mono fun _ _ e => .inl e)).trans (hsf5.mono fun _ _ e => .inr e.1)⟩
      have HM := Lib.hid hmore
      have d9 : v5 < 286 := hv5
      clear hA4 hD4 hf4 hA5 hD5 hcA hs5 hsf5 hvv hD6 hg1C hC6 hmore hC5 hf5 hCl hv5
      go_wp2_with fail
      go_meet
      case rel => exact HM.out
    · have t1 : ((v4 : Int) == 0) = false := by simp; omega
      have HM := Lib.hid (show DyMore w3 w.heap.size g1 g2 M C l k0 A D w4 from ⟨A, k0 + 1, hA4, hD4, Marks.refl _, hC4, by omega, by omega, hf4.mono fun _ _ e => .inl e⟩)
      clear hA hD hAl hDl h256 hall hfw hA4 hD4 hf4 hC4 hv4 hv hCl
      go_wp2_with fail
      go_meet
      case rel => exact HM.out
  obtain ⟨A', k1, hA', hD', hmk, hC1, hk1, hk2, hf3⟩ := hcut
  refine hK2 _ _ ?_
  obtain ⟨w4, rfl⟩ : ∃ w4, w4 = wc := ⟨_, rfl⟩
  obtain ⟨hA, hD, hAl, hDl, h256, hall, hfw⟩ := HR.out
  have hA'l : A'.length = 286 := by rw [← hmk.1]; exact hAl
  have h256' := hmk.2 _ h256
  have hall' : ∀ t ∈ toks, TkMark A' D t := fun t ht => (hall t ht).more hmk (Marks.refl _)
  have hsz4 : w.heap.size ≤ w4.heap.size := Nat.le_trans hfw.size hf3.size
  obtain ⟨ub1, uc1, hv1, _, hbs1⟩ := OwnB.bs hA'
  rw [hA'l] at hv1
  have hub1 : ub1 = some ⟨g1, 0, none⟩ := by injection hv1 with e1 e2 e3; exact e1.symm
  have huc1 : uc1 = 286 := by injection hv1 with e1 e2 e3; exact e3.symm
  subst hub1
  subst huc1
  clear hv1
  have htr1 := tree_any w4 (some ⟨g1, 0, none⟩) A' 286 hbs1 (by omega) M C (by have := HW.out; omega) l k1 hC1 (by have := HC.out.2; omega) 15 (by omega) (by omega) (by omega)
  rw [hA'l] at htr1
  have htr1' : Calls Tryd.prog 63 #[.slice (some ⟨g1, 0, none⟩) 286 286, .pointer (some ⟨C, 0, none⟩), .int .i64 15] w4 fun e w' => ∃ v out k, e = .returned v ∧ OwnN w' w4.heap.size v out ∧ TreeOK A' 15 out ∧ Chs w' M C l k ∧ k1 ≤ k ∧ k ≤ k1 + 5 ∧ Frm (fun b _ => b = C) w4 w' := htr1
  have HT1 := Lib.hid htr1'
  have HR4 := Lib.hid (And.intro hD' (And.intro hA'l (And.intro hDl (And.intro h256' (And.intro hall' (And.intro hk1 (And.intro hk2 (And.intro hfw (And.intro hf3 hsz4)))))))))
  clear hA hD hAl hDl h256 hall hfw hA' hD' hmk hC1 hk1 hk2 hf3 hA'l h256' hall' hsz4 hbs1 htr1 htr1' HR
  go_wp2_with fail
  refine HT1.out.mono ?_
  rintro e w5 ⟨v5, LL, k2, rfl, hLL, hT1, hC2, hk3, hk4, hf5⟩
  obtain ⟨hD', hA'l, hDl, h256', hall', hk1, hk2, hfw, hf3, hsz4⟩ := HR4.out
  have hCl := HC.out.1.lt
  have hD5 : OwnB w5 w.heap.size (.slice (some ⟨g2, 0, none⟩) 30 30) D := hD'.keep hf5 (fun g o hg e => by have := (hD'.lt g hg).1; omega)
  obtain ⟨ub2, uc2, hv2, _, hbs2⟩ := OwnB.bs hD5
  rw [hDl] at hv2
  have hub2 : ub2 = some ⟨g2, 0, none⟩ := by injection hv2 with e1 e2 e3; exact e1.symm
  have huc2 : uc2 = 30 := by injection hv2 with e1 e2 e3; exact e3.symm
  subst hub2
  subst huc2
  clear hv2
  have htr2 := tree_any w5 (some ⟨g2, 0, none⟩) D 30 hbs2 (by omega) M C (by have := HW.out; have := hf5.size; omega) l k2 hC2 (by have := HC.out.2; omega) 15 (by omega) (by omega) (by omega)
  rw [hDl] at htr2
  have htr2' : Calls Tryd.prog 63 #[.slice (some ⟨g2, 0, none⟩) 30 30, .pointer (some ⟨C, 0, none⟩), .int .i64 15] w5 fun e w' => ∃ v out k, e = .returned v ∧ OwnN w' w5.heap.size v out ∧ TreeOK D 15 out ∧ Chs w' M C l k ∧ k2 ≤ k ∧ k ≤ k2 + 5 ∧ Frm (fun b _ => b = C) w5 w' := htr2
  have HT2 := Lib.hid htr2'
  have HR5 := Lib.hid (And.intro hLL (And.intro hT1 (And.intro hk3 (And.intro hk4 hf5))))
  clear hD' hA'l hDl h256' hall' hk1 hk2 hfw hf3 hsz4 hD5 hbs2 htr2 htr2' hLL hT1 hC2 hk3 hk4 hf5 HT1
  go_wp2_with fail
  refine HT2.out.mono ?_
  rintro e w6 ⟨v6, DL, k3, rfl, hDL, hT2, hC3, hk5, hk6, hf6⟩
  obtain ⟨hD', hA'l, hDl, h256', hall', hk1, hk2, hfw, hf3, hsz4⟩ := HR4.out
  obtain ⟨hLL, hT1, hk3, hk4, hf5⟩ := HR5.out
  have hf46 : Frm (fun b _ => b = C) w4 w6 := hf5.trans hf6
  have hLL6 : OwnN w6 w4.heap.size v5 LL := hLL.keep hf6 (fun g o hg e => by have := (hLL.lt g hg).1; omega)
  have hLLl : LL.length = 286 := by rw [hT1.len]; exact hA'l
  have hDLl : DL.length = 30 := by rw [hT2.len]; exact hDl
  have HP := Lib.hid (And.intro hT1 (And.intro hT2 (And.intro hA'l (And.intro hDl (And.intro h256' hall')))))
  have hf06 : Frm (fun b _ => b = C) w w6 := (hfw.mono fun _ _ e => e.elim).trans' (hf3.trans (hf46.mono fun _ _ e => .inl e)) (fun x o hx q => by
    rcases q with q | q
    · exact q
    · have := HB.out.1; omega)
  obtain ⟨lg, lcap, hv5, hlg1, hlg2, hlc⟩ := Row.val hLL6 (by omega)
  obtain ⟨dg, dcap, hv6, hdg1, hdg2, hdc⟩ := Row.val hDL (by omega)
  rw [hLLl] at hv5 hlc
  rw [hDLl] at hv6 hdc
  subst hv5
  subst hv6
  have hntL : Nt w6 (some ⟨lg, 0, none⟩) LL := by
    obtain ⟨b, cap, q1, _, q2⟩ := OwnN.nt hLL6
    have : b = some ⟨lg, 0, none⟩ := by injection q1 with e1 e2 e3; exact e1.symm
    subst this
    exact q2
  have hntD : Nt w6 (some ⟨dg, 0, none⟩) DL := by
    obtain ⟨b, cap, q1, _, q2⟩ := OwnN.nt hDL
    have : b = some ⟨dg, 0, none⟩ := by injection q1 with e1 e2 e3; exact e1.symm
    subst this
    exact q2
  have HG := Lib.hid (And.intro (show w.heap.size ≤ lg by omega) (And.intro (show w.heap.size ≤ dg by have := hf5.size; omega) (And.intro hlg2 hdg2)))
  have HL := Lib.hid (And.intro hntL (And.intro hLLl (And.intro hntD hDLl)))
  have HC6 := Lib.hid (And.intro hC3 (And.intro (show k0 ≤ k3 by omega) (And.intro (show k3 ≤ k0 + 12 by omega) hf06)))
  have k3b : k3 ≤ 68719476748 := by have := HC.out.2; omega
  clear hD' hA'l hDl h256' hall' hk1 hk2 hfw hf3 hsz4 hLL hT1 hk3 hk4 hf5 hDL hT2 hC3 hk5 hk6 hf6 hf46 hLL6 hLLl hDLl hf06 hlg1 hlg2 hdg1 hdg2 hntL hntD HT2 HR5 hCl
  go_upto_region 15 with (fail)
  go_cut [15, 16] (fun s t wq => s = .int .i64 286 ∧ t = .int .i64 30 ∧ w6 = wq)
  case first =>
    as_aux_lemma =>
    go_wp2_with fail
    go_meet
    case rel => exact ⟨rfl, rfl, rfl⟩
  obtain ⟨rfl, rfl, rfl⟩ := hcut
  apply_assumption
  refine wp_seq_k ?_
  intro K3 hK3
  go_cut [15] (fun s wq => w6 = wq ∧ ∃ nl : Nat, s = .int .i64 (nl : Int) ∧ 257 ≤ nl ∧ nl ≤ 286 ∧ ∀ j, nl ≤ j → LL.getD j 0 = 0)
  case first =>
    as_aux_lemma =>
    go_wp2_with fail
    go_loopg [15] 286 (fun g s wq => w6 = wq ∧ ∃ nl : Nat, g = nl ∧ s = .int .i64 (nl : Int) ∧ 257 ≤ nl ∧ nl ≤ 286 ∧ ∀ j, nl ≤ j → LL.getD j 0 = 0)
    case atStart => exact ⟨rfl, 286, rfl, rfl, by omega, by omega, fun j hj => by rw [List.getD_eq_getElem?_getD, List.getElem?_eq_none (by rw [HL.out.2.1]; exact hj)]; rfl⟩
    case round =>
      obtain ⟨rfl, nl, hgk, rfl, n1, n2, hz⟩ := hrel
      have HGK := Lib.hid hgk
      clear hgk
      obtain ⟨wr, rfl⟩ : ∃ wr, wr = w6 := ⟨_, rfl⟩
      have c7 : (nl : Int) ≤ 286 := by omega
      have c8 : (257 : Int) ≤ (nl : Int) := by omega
      have HZ := Lib.hid (And.intro n1 hz)
      clear hz n1
      by_cases hlt : 257 < nl
      · have d0 : decide ((257 : Int) < (nl : Int)) = true := by simp; omega
        obtain ⟨m, hm⟩ : ∃ m, m = nl - 1 := ⟨_, rfl⟩
        have e1 : (nl : Int) - 1 = (m : Int) := by omega
        have d1 : m < 286 := by omega
        obtain ⟨x, hx⟩ : ∃ x, x = LL.getD m 0 := ⟨_, rfl⟩
        obtain ⟨gq, hgq, hcx⟩ := HL.out.1.getS (show m < LL.length by rw [HL.out.2.1]; exact d1) x hx
        have hgq' : lg = gq := by injection hgq with e; injection e
        subst hgq'
        have HMx := Lib.hid (And.intro hm hx)
        clear hm hx hgq
        by_cases h0 : x = 0
        · subst h0
          go_wp2_with fail
          go_roundg m
          case measure => have := HMx.out.1; have := HGK.out; omega
          case rel =>
            obtain ⟨hm, hx⟩ := HMx.out
            refine ⟨rfl, m, rfl, rfl, by omega, by omega, fun j hj => ?_⟩
            by_cases e : j = m
            · subst e; exact hx.symm
            · exact HZ.out.2 j (by omega)
        · have t1 : ((x : Int) == 0) = false := by simp; omega
          clear h0
          go_wp2_with fail
          go_meet
          case rel => exact ⟨rfl, nl, rfl, HZ.out.1, n2, HZ.out.2⟩
      · have d0 : decide ((257 : Int) < (nl : Int)) = false := by simp; omega
        clear hlt
        go_wp2_with fail
        go_meet
        case rel => exact ⟨rfl, nl, rfl, HZ.out.1, n2, HZ.out.2⟩
  obtain ⟨rfl, nl, rfl, nl1, nl2, hzl⟩ := hcut
  obtain ⟨w6, rfl⟩ : ∃ wr, wr = w6 := ⟨_, rfl⟩
  refine hK3 _ _ ?_
  refine wp_seq_k ?_
  intro K4 hK4
  have HZL := Lib.hid (And.intro nl1 hzl)
  have c7 : (nl : Int) ≤ 286 := by omega
  have c8 : (257 : Int) ≤ (nl : Int) := by omega
  clear hzl nl1
  go_cut [16] (fun s wq => w6 = wq ∧ ∃ nd : Nat, s = .int .i64 (nd : Int) ∧ 1 ≤ nd ∧ nd ≤ 30 ∧ ∀ j, nd ≤ j → DL.getD j 0 = 0)
  case first =>
    as_aux_lemma =>
    go_wp2_with fail
    go_loopg [16] 30 (fun g s wq => w6 = wq ∧ ∃ nl : Nat, g = nl ∧ s = .int .i64 (nl : Int) ∧ 1 ≤ nl ∧ nl ≤ 30 ∧ ∀ j, nl ≤ j → DL.getD j 0 = 0)
    case atStart => exact ⟨rfl, 30, rfl, rfl, by omega, by omega, fun j hj => by rw [List.getD_eq_getElem?_getD, List.getElem?_eq_none (by rw [HL.out.2.2.2]; exact hj)]; rfl⟩
    case round =>
      obtain ⟨rfl, nd, hgk, rfl, n1, n2, hz⟩ := hrel
      have HGK := Lib.hid hgk
      clear hgk
      obtain ⟨wr, rfl⟩ : ∃ wr, wr = w6 := ⟨_, rfl⟩
      have c9 : (nd : Int) ≤ 30 := by omega
      have c10 : (1 : Int) ≤ (nd : Int) := by omega
      have HZ := Lib.hid (And.intro n1 hz)
      clear hz n1
      by_cases hlt : 1 < nd
      · have d0 : decide ((1 : Int) < (nd : Int)) = true := by simp; omega
        obtain ⟨m, hm⟩ : ∃ m, m = nd - 1 := ⟨_, rfl⟩
        have e1 : (nd : Int) - 1 = (m : Int) := by omega
        have d1 : m < 30 := by omega
        obtain ⟨x, hx⟩ : ∃ x, x = DL.getD m 0 := ⟨_, rfl⟩
        obtain ⟨gq, hgq, hcx⟩ := HL.out.2.2.1.getS (show m < DL.length by rw [HL.out.2.2.2]; exact d1) x hx
        have hgq' : dg = gq := by injection hgq with e; injection e
        subst hgq'
        have HMx := Lib.hid (And.intro hm hx)
        clear hm hx hgq
        by_cases h0 : x = 0
        · subst h0
          go_wp2_with fail
          go_roundg m
          case measure => have := HMx.out.1; have := HGK.out; omega
          case rel =>
            obtain ⟨hm, hx⟩ := HMx.out
            refine ⟨rfl, m, rfl, rfl, by omega, by omega, fun j hj => ?_⟩
            by_cases e : j = m
            · subst e; exact hx.symm
            · exact HZ.out.2 j (by omega)
        · have t1 : ((x : Int) == 0) = false := by simp; omega
          clear h0
          go_wp2_with fail
          go_meet
          case rel => exact ⟨rfl, nd, rfl, HZ.out.1, n2, HZ.out.2⟩
      · have d0 : decide ((1 : Int) < (nd : Int)) = false := by simp; omega
        clear hlt
        go_wp2_with fail
        go_meet
        case rel => exact ⟨rfl, nd, rfl, HZ.out.1, n2, HZ.out.2⟩
  obtain ⟨rfl, nd, rfl, nd1, nd2, hzd⟩ := hcut
  obtain ⟨w6, rfl⟩ : ∃ wr, wr = w6 := ⟨_, rfl⟩
  refine hK4 _ _ ?_
  have HZD := Lib.hid (And.intro nd1 hzd)
  have c9 : (nd : Int) ≤ 30 := by omega
  have c10 : (1 : Int) ≤ (nd : Int) := by omega
  clear hzd nd1
  obtain ⟨AA, hAA⟩ : ∃ A, A = LL.take nl ++ DL.take nd := ⟨_, rfl⟩
  obtain ⟨X, hX⟩ : ∃ X, X = (w6.alloc (.cells #[] 3)).drew := ⟨_, rfl⟩
  have hfX : Frm (fun _ _ => False) w6 X := by rw [hX]; exact ((Frm.refl _ _).alloc _).drew
  have ho0 : OwnN X w6.heap.size (.slice (some ⟨w6.heap.size, 0, none⟩) 0 0) [] := by
    rw [hX]
    have := ownN_new w6 [] (by simp)
    exact this.keep (S := fun _ _ => False) ((Frm.refl _ _).drew) (fun _ _ _ e => e)
  have hlt1 : (LL.take nl).length = nl := by rw [List.length_take, HL.out.2.1]; omega
  have hlt2 : (DL.take nd).length = nd := by rw [List.length_take, HL.out.2.2.2]; omega
  obtain ⟨v1, x1, hr1, ho1, hfr1⟩ := append_nats X w6.heap.size _ [] ho0 lg (LL.take nl) lcap (nt_take HL.out.1 hfX (fun _ e => e) nl) (by rw [hlt1]; simp; omega) hfX.size
  have hfx1 := ho0.fresh hfX (Nat.le_refl _) hfr1
  rw [List.nil_append] at ho1
  obtain ⟨v2, x2, hr2, ho2, hfr2⟩ := append_nats x1 w6.heap.size v1 (LL.take nl) ho1 dg (DL.take nd) dcap (nt_take HL.out.2.2.1 hfx1 (fun _ e => e) nd) (by rw [hlt1, hlt2]; omega) hfx1.size
  have hfx2 := ho1.fresh hfx1 (Nat.le_refl _) hfr2
  rw [← hAA] at ho2
  rw [hlt1, hX] at hr1
  rw [hlt2] at hr2
  obtain ⟨ab, ac, rfl, hac, hnt2⟩ := OwnN.nt ho2
  have hAl : AA.length = nl + nd := by rw [hAA, List.length_append, hlt1, hlt2]
  have hA15 : ∀ n ∈ AA, n ≤ 15 := fun n hn => by
    rw [hAA] at hn
    rcases List.mem_append.1 hn with q | q
    · exact tree_le15 HP.out.1 n (List.mem_of_mem_take q)
    · exact tree_le15 HP.out.2.1 n (List.mem_of_mem_take q)
  have hCl6 : C < w6.heap.size := HC6.out.1.lt
  have hMw6 : M ≤ w6.heap.size := by have := HW.out; have := HC6.out.2.2.2.size; omega
  have hru := runs_any x2 ab AA ac hnt2 (by omega) (fun j => getD_le hA15) M C l k3 (HC6.out.1.keep0 hfx2) (by omega) (fun a ha e => by subst ha; have := (ho2.lt a.block rfl).1; omega) (by have := hfx2.size; omega)
  have hru' : Calls Tryd.prog 64 #[.slice ab AA.length ac, .pointer (some ⟨C, 0, none⟩)] x2 (fun e w' => ∃ v, e = .returned v ∧ DyRows w6 M C l k3 AA v w') := by
    refine hru.mono ?_
    rintro e w' ⟨v, R, k, rfl, q1, q2, q3, q4, q5, q6, q7⟩
    exact ⟨v, rfl, R, k, Row.lower q1 hfx2.size, q2, q3, q4, q5, by rw [hAl] at q6; omega, (hfx2.mono fun _ _ e => e.elim).trans q7⟩
  have HRU := Lib.hid hru'
  have HR1 := Lib.hid hr1
  have HR2 := Lib.hid hr2
  have HAA := Lib.hid (And.intro hAA (And.intro hAl hMw6))
  have c11 : (nl : Int) ≤ (lcap : Int) := by have := HL.out.2; omega
  have c12 : (nd : Int) ≤ (dcap : Int) := by omega
  have s1 : ∀ W, (Instr.sliceAt 27 (.slice (some ⟨lg, 0, none⟩) 286 lcap) none (some (.int .i64 (nl : Int))) none).run Tryd.prog W = .ok (.slice (some ⟨lg, 0, none⟩) nl lcap) W := fun W => by
    rw [run_sliceAt_slice W _ _ _ _ _ under_ints, run_slice_h W _ _ _ _ under_ints _ _ (by omega) (by omega), size_int]
    simp only [Result.andThen, sliced, Int.toNat_natCast, Nat.sub_zero]
    by_cases h : lcap = 0 <;> simp [h, Addr.add]
  have s2 : ∀ W, (Instr.sliceAt 27 (.slice (some ⟨dg, 0, none⟩) 30 dcap) none (some (.int .i64 (nd : Int))) none).run Tryd.prog W = .ok (.slice (some ⟨dg, 0, none⟩) nd dcap) W := fun W => by
    rw [run_sliceAt_slice W _ _ _ _ _ under_ints, run_slice_h W _ _ _ _ under_ints _ _ (by omega) (by omega), size_int]
    simp only [Result.andThen, sliced, Int.toNat_natCast, Nat.sub_zero]
    by_cases h : dcap = 0 <;> simp [h, Addr.add]
  clear hAA hX hfX ho0 hlt1 hlt2 hr1 ho1 hfr1 hfx1 hr2 ho2 hfr2 hfx2 hac hnt2 hAl hA15 hCl6 hMw6 hru hru'
  refine wp_seq_k ?_
  intro K5 hK5
  go_cut [17] (fun s wq => DyRows w6 M C l k3 AA s wq)
  case first =>
    as_aux_lemma =>
    go_region_held3 (fun w' => True) (first | exact trivial | go_keep) (first | (refine step_append_run (by rfl) _ _ _ (by rfl) (by rfl) (by rfl) HR1.out ?_) | (refine step_append_run (by rfl) _ _ _ (by rfl) (by rfl) (by rfl) HR2.out ?_) | (go_at_call 64; refine HRU.out.mono ?_; rintro e w7 ⟨v7, rfl, h7⟩))
    go_wp2_with fail
    go_meet
    case rel => exact h7
  obtain ⟨R, k4, hR, hrr, hro, hC7, hk7, hk8, hf67⟩ := hcut
  obtain ⟨w7, rfl⟩ : ∃ wr, wr = wc := ⟨_, rfl⟩
  refine hK5 _ _ ?_
  obtain ⟨rb, rcap, rfl, hrc, hrns, hrlt⟩ := OwnR.rns hR
  obtain ⟨nr, hnr⟩ : ∃ n, n = R.length := ⟨_, rfl⟩
  have hnr2 : nr ≤ 316 := by
    have h1 := rowsRun_le [] R
    rw [hrr, HAA.out.2.1] at h1
    have h0 : ([] : List Nat).length = 0 := rfl
    omega
  have c13 : (nr : Int) ≤ 316 := by omega
  rw [← hnr]
  obtain ⟨w8, hw8⟩ : ∃ w8, w8 = w7.alloc (.cells (madeCells #[.bool false] 19) 4) := ⟨_, rfl⟩
  obtain ⟨g3, hg3⟩ : ∃ g, g = w7.heap.size := ⟨_, rfl⟩
  have hU0 : OwnB w8 w7.heap.size (.slice (some ⟨g3, 0, none⟩) 19 19) (List.replicate 19 false) := by rw [hw8, hg3]; exact ownB_made w7 19 (by simp only [maxLen]; omega)
  have hf78 : Frm (fun _ _ => False) w7 w8 := by rw [hw8]; exact (Frm.refl _ _).alloc _
  have hmk3 : ∀ w : World, (Instr.makeSlice 130 (.int .i64 19) (.int .i64 19)).run Tryd.prog w = .ok (.slice (some ⟨w.heap.size, 0, none⟩) 19 19) (w.alloc (.cells (madeCells #[.bool false] 19) 4)) := run_make_row' (P := Tryd.prog) 130 4 (.bool false) 1 Tryd.underlying130 infoBools rfl .i64 .i64 19 (by omega) (by omega)
  have HRO := Lib.hid (And.intro hnr (And.intro hnr2 (And.intro hrns (And.intro hrlt (And.intro hrr hro)))))
  have HC7 := Lib.hid (And.intro hC7 (And.intro hk7 (And.intro hk8 hf67)))
  have HU := Lib.hid (And.intro hU0 (And.intro hf78 (And.intro hw8 hg3)))
  clear hR hrr hro hC7 hk7 hk8 hf67 hrc hrns hrlt hnr hnr2 hw8 hg3 hU0 hf78 s1 s2 HR1 HR2 HRU
  refine wp_seq_k ?_
  intro K6 hK6
  go_cut [18] (fun s wq => s = .slice (some ⟨g3, 0, none⟩) 19 19 ∧ w8 = wq)
  case first =>
    as_aux_lemma =>
    go_wp2_with fail
    go_meet
    case rel => exact ⟨by rw [HU.out.2.2.2], HU.out.2.2.1⟩
  obtain ⟨rfl, rfl⟩ := hcut
  obtain ⟨w8, rfl⟩ : ∃ wr, wr = w8 := ⟨_, rfl⟩
  clear hmk3
  refine hK6 _ _ ?_
  refine wp_seq_k ?_
  intro K7 hK7
  go_cut [20] (fun s wq => DyUsed w7 g3 R wq)
  case first =>
    as_aux_lemma =>
    go_wp2_with fail
    go_loopg [117] nr (fun g iv wr => DyU w8 w7.heap.size g3 R g iv wr)
    case atStart => exact ⟨0, _, Nat.zero_le _, by rw [HRO.out.1, Nat.sub_zero], rfl, HU.out.1, by simp, fun p hp => absurd hp (by simp), Frm.refl _ _⟩
    case round =>
      obtain ⟨k, U, hk, hg, rfl, hU, hUl, hm, hf⟩ := hrel
      by_cases hlt : k < nr
      · have hkl : k < R.length := by rw [← HRO.out.1]; exact hlt
        obtain ⟨g', htb, t0, t1, t2⟩ := HRO.out.2.2.1.cells k hkl
        have hgl : g' < w7.heap.size := (HRO.out.2.2.2.1 _ htb).2
        have hgn : ¬ g' = g3 := by have := HU.out.2.2.2; omega
        replace t0 := hf.keep (HU.out.2.1.keep t0 (fun e => e)) hgn
        replace t1 := hf.keep (HU.out.2.1.keep t1 (fun e => e)) hgn
        replace t2 := hf.keep (HU.out.2.1.keep t2 (fun e => e)) hgn
        subst htb
        obtain ⟨p, hp⟩ : ∃ p, p = R[k] := ⟨_, rfl⟩
        rw [← hp] at t0 t1 t2
        obtain ⟨o1, o2, o3⟩ := rows_all HRO.out.2.2.2.2.2 p (by rw [hp]; exact List.getElem_mem _)
        have hts : R.take (k + 1) = R.take k ++ [p] := by rw [List.take_add_one, List.getElem?_eq_getElem hkl, hp]; rfl
        obtain ⟨p0, hp0⟩ : ∃ q, q = p.1 := ⟨_, rfl⟩
        obtain ⟨p1, hp1⟩ : ∃ q, q = p.2 := ⟨_, rfl⟩
        obtain ⟨p2, hp2⟩ : ∃ q, q = rowX p.1 := ⟨_, rfl⟩
        have u0 : wr.cell? ⟨g', k * 3, none⟩ = some (.int .i64 (p0 : Int)) := by rw [hp0]; exact t0
        have u1 : wr.cell? ⟨g', k * 3 + 1, none⟩ = some (.int .i64 (p1 : Int)) := by rw [hp1]; exact t1
        have u2 : wr.cell? ⟨g', k * 3 + 2, none⟩ = some (.int .i64 (p2 : Int)) := by rw [hp2]; exact t2
        have d1 : p0 < 19 := by omega
        have d2 : (p0 : Int) ≤ 18 := by omega
        obtain ⟨W3, hW3⟩ : ∃ W3, W3 = wr.alloc (.cells #[.int .i64 (p0 : Int), .int .i64 (p1 : Int), .int .i64 (p2 : Int)] 135) := ⟨_, rfl⟩
        have hf3 : Frm (fun _ _ => False) wr W3 := by rw [hW3]; exact (Frm.refl _ _).alloc _
        obtain ⟨B, hB⟩ : ∃ B, B = wr.heap.size := ⟨_, rfl⟩
        have r0 : W3.cell? ⟨B, 0, none⟩ = some (.int .i64 (p0 : Int)) := by rw [hW3, hB]; exact (cells_at (heap_alloc_new wr _)).trans rfl
        have hU3 := hU.keep hf3 (fun _ _ _ e => e)
        have hcU : p0 < U.length := by rw [hUl]; exact d1
        obtain ⟨hs3, hsf3⟩ := OwnB.set hU3 (g := g3) rfl hcU true
        obtain ⟨gg, cp, hv, _, _, _, hoc, hofz⟩ := Row.at hU3 hcU
        have hgg : g3 = gg := Option.some.inj (congrArg Value.ownBlock hv)
        subst hgg
        replace hoc : ∃ ov, W3.cell? ⟨g3, p0, none⟩ = some ov := ⟨_, hoc⟩
        obtain ⟨ov, hoc⟩ := hoc
        have HC1 := Lib.hid (And.intro hp0 (And.intro hf3 (And.intro hs3 (And.intro hsf3 (And.intro hcU hts)))))
        have HRR := Lib.hid (And.intro hg (And.intro hUl (And.intro hm (And.intro hf hkl))))
        clear t0 t1 t2 hg hU hUl hm hf hkl hgl hgn hp o1 o2 o3 hts hp0 hp1 hp2 hf3 hU3 hcU hs3 hsf3 hv hk
        go_upto_region 25 with (fail)
        rw [← hW3, ← hB]
        clear hW3 hB
        go_wp2_with fail
        go_roundg (nr - (k + 1))
        case measure => have := HRR.out.1; have := HRO.out.1; omega
        case rel =>
          obtain ⟨hg, hUl, hm, hf, hkl⟩ := HRR.out
          obtain ⟨hp0, hf3, hs3, hsf3, hcU, hts⟩ := HC1.out
          refine ⟨k + 1, U.set p0 true, hkl, by rw [HRO.out.1], by go_num, hs3, by rw [List.length_set, hUl], fun q hq => ?_, (hf.trans (hf3.mono fun _ _ e => e.elim)).trans (hsf3.mono fun _ _ e => e.1)⟩
          rw [hts] at hq
          rcases List.mem_append.1 hq with q1 | q1
          · exact (marks_set U p0).2 _ (hm q q1)
          · obtain rfl := List.mem_singleton.1 q1
            rw [← hp0]; exact mark_set hcU
      · obtain rfl : k = nr := by have := HRO.out.1; omega
        have hd : decide (k < k) = false := by simp
        have hall : ∀ p ∈ R, U.getD p.1 false = true := by
          intro p hp
          refine hm p ?_
          rw [HRO.out.1, List.take_length]; exact hp
        have hfw : Frm (fun _ _ => False) w7 wr := HU.out.2.1.trans' hf (fun x o hx q => by have := HU.out.2.2.2; omega)
        have HRR := Lib.hid (show DyUsed w7 g3 R wr from ⟨U, hU, hUl, hall, hfw⟩)
        clear hk hg hU hUl hm hf hlt hall hfw
        go_wp2_with fail
        go_meet
        case rel => exact HRR.out
  obtain ⟨U, hU, hUl, hUm, hf79⟩ := hcut
  obtain ⟨w9, rfl⟩ : ∃ wr, wr = wc := ⟨_, rfl⟩
  refine hK7 _ _ ?_
  obtain ⟨w10, hw10⟩ : ∃ x, x = w9.alloc (.cells #[.slice none 0 0, .int .i64 0] 70) := ⟨_, rfl⟩
  obtain ⟨C2, hC2⟩ : ∃ x, x = w9.heap.size := ⟨_, rfl⟩
  have hch : Chs w10 0 C2 [] 0 := by rw [hw10, hC2]; exact chs_new w9 0
  have hf910 : Frm (fun _ _ => False) w9 w10 := by rw [hw10]; exact (Frm.refl _ _).alloc _
  have hU10 := hU.keep hf910 (fun _ _ _ e => e)
  obtain ⟨ub3, uc3, hv3, _, hbs3⟩ := OwnB.bs hU10
  rw [hUl] at hv3
  have hub3 : ub3 = some ⟨g3, 0, none⟩ := by injection hv3 with e1 e2 e3; exact e1.symm
  have huc3 : uc3 = 19 := by injection hv3 with e1 e2 e3; exact e3.symm
  subst hub3
  subst huc3
  have htr3 := tree_any w10 (some ⟨g3, 0, none⟩) U 19 hbs3 (by omega) 0 C2 (Nat.zero_le _) [] 0 hch (by omega) 7 (by omega) (by omega) (fun _ => by rw [hUl]; omega)
  rw [hUl] at htr3
  have htr3' : Calls Tryd.prog 63 #[.slice (some ⟨g3, 0, none⟩) 19 19, .pointer (some ⟨C2, 0, none⟩), .int .i64 7] w10 fun e w' => ∃ v out k, e = .returned v ∧ OwnN w' w10.heap.size v out ∧ TreeOK U 7 out ∧ Chs w' 0 C2 [] k ∧ 0 ≤ k ∧ k ≤ 0 + 5 ∧ Frm (fun b _ => b = C2) w10 w' := htr3
  have HT3 := Lib.hid htr3'
  have H9 := Lib.hid (And.intro hUl (And.intro hUm (And.intro hf79 (And.intro hf910 (And.intro hw10 hC2)))))
  clear hU hUl hUm hf79 hch hf910 hU10 hv3 hbs3 htr3 htr3'
  go_upto_region 27 with (fail)
  go_cut [21] (fun s wq => DyLen w9 U s wq)
  case first =>
    as_aux_lemma =>
    go_wp2_with fail
    rw [← hw10, ← hC2]
    clear hw10 hC2
    refine HT3.out.mono ?_
    rintro e w11 ⟨v11, CL, k5, rfl, hCL, hT, _, _, _, hf11⟩
    have hcl : CL.length = 19 := by rw [hT.len]; exact H9.out.1
    obtain ⟨cg, ccap, hv11, hc1, hc2, hc3⟩ := Row.val hCL (by omega)
    obtain ⟨cb, ccp, hv12, _, hntc⟩ := OwnN.nt hCL
    have hrel : DyLen w9 U v11 w11 := by
      refine ⟨cg, ccap, CL, by rw [hv11, hcl], ?_, hT, hcl, Nat.le_trans H9.out.2.2.2.1.size hc1, hc2, by omega, H9.out.2.2.2.1.trans' hf11 (fun x o hx e => by have := H9.out.2.2.2.2.2; omega)⟩
      rw [hv11] at hv12
      injection hv12 with e1 e2 e3
      rw [e1]; exact hntc
    have HRR := Lib.hid hrel
    clear hCL hT hf11 hcl hv11 hc1 hc2 hc3 hv12 hntc hrel
    go_wp2_with fail
    go_meet
    case rel => exact HRR.out
  obtain ⟨cg, ccap, CL, rfl, hntC, hTC, hCl, hcg1, hcg2, hcc, hf911⟩ := hcut
  obtain ⟨w11, rfl⟩ : ∃ wr, wr = wc := ⟨_, rfl⟩
  clear hw10 hC2 HT3
  have HCL := Lib.hid (And.intro hntC (And.intro hTC (And.intro hCl (And.intro hcg1 (And.intro hcg2 hf911)))))
  have c14 : (19 : Int) ≤ (ccap : Int) := by omega
  clear hntC hTC hCl hcg1 hcg2 hf911
  apply_assumption
  go_upto_region 28 with (fail)
  go_cut [22] (fun s wq => s = .int .i64 19 ∧ w11 = wq)
  case first =>
    as_aux_lemma =>
    go_wp2_with fail
    go_meet
    case rel => exact ⟨rfl, rfl⟩
  obtain ⟨rfl, rfl⟩ := hcut
  obtain ⟨w11, rfl⟩ : ∃ wr, wr = w11 := ⟨_, rfl⟩
  apply_assumption
  refine wp_seq_k ?_
  intro K8 hK8
  go_cut [22] (fun s wq => DyNc w11 CL 19 s wq)
  case first =>
    as_aux_lemma =>
    go_wp2_with fail
    go_loopg [22] 19 (fun g s wq => DyNc w11 CL g s wq)
    case atStart => exact ⟨19, by omega, rfl, by omega, by omega, fun i h1 h2 => absurd h1 (by omega), Frm.refl _ _⟩
    case round =>
      obtain ⟨nc, hg, rfl, n1, n2, hz, hf⟩ := hrel
      have c15 : (nc : Int) ≤ 19 := by omega
      have c16 : (4 : Int) ≤ (nc : Int) := by omega
      have HZ := Lib.hid (And.intro hg (And.intro n1 (And.intro hz hf)))
      clear hg hz n1 hf
      by_cases hlt : 4 < nc
      · have d0 : decide ((4 : Int) < (nc : Int)) = true := by simp; omega
        obtain ⟨m, hm⟩ : ∃ m, m = nc - 1 := ⟨_, rfl⟩
        have e1 : (nc : Int) - 1 = (m : Int) := by omega
        have d1 : m < 19 := by omega
        have d2 : (m : Int) ≤ 18 := by omega
        have HMx := Lib.hid hm
        have hlt' := Lib.hid hlt
        clear hm hlt
        go_wp2_with fail
        refine (order_any _).mono ?_
        rintro e w12 ⟨rfl, hor, hf12⟩
        obtain ⟨ob, ocp, hvo, _, hnto⟩ := OwnN.nt hor
        have hob : ob = some ⟨wr.heap.size, 0, none⟩ := by injection hvo with q1 q2 q3; exact q1.symm
        subst hob
        have hol : clOrder.length = 19 := by decide
        obtain ⟨x, hx⟩ : ∃ x, x = clOrder.getD m 0 := ⟨_, rfl⟩
        obtain ⟨og, hog, hcx⟩ := hnto.getS (show m < clOrder.length by rw [hol]; exact d1) x hx
        have hogg : og = wr.heap.size := by injection hog with q1; injection q1 with q2; exact q2.symm
        subst hogg
        have hx19 : x < 19 := by rw [hx]; exact order_lt m
        have d3 : (x : Int) ≤ 18 := by omega
        obtain ⟨y, hy⟩ : ∃ y, y = CL.getD x 0 := ⟨_, rfl⟩
        have hff : Frm (fun _ _ => False) w11 w12 := HZ.out.2.2.2.trans hf12
        have hntc : Nt w12 (some ⟨cg, 0, none⟩) CL := HCL.out.1.keep hff (fun _ _ e => e.elim)
        obtain ⟨cg', hcg', hcy⟩ := hntc.getS (show x < CL.length by rw [HCL.out.2.2.1]; exact hx19) y hy
        have hcgg : cg' = cg := by injection hcg' with q1; injection q1 with q2; exact q2.symm
        subst hcgg
        have HX12 := Lib.hid (And.intro hx (And.intro hy hff))
        clear hor hf12 hvo hnto hol hx hog hx19 hy hff hntc hcg'
        by_cases h0 : y = 0
        · subst h0
          go_wp2_with fail
          go_roundg m
          case measure => have := HMx.out; have := HZ.out.1; have := hlt'.out; omega
          case rel =>
            obtain ⟨hx, hy, hff⟩ := HX12.out
            have := HMx.out
            have := hlt'.out
            refine ⟨m, by omega, rfl, by omega, by omega, fun i h1 h2 => ?_, hff⟩
            by_cases e : i = m
            · subst e; rw [← hx]; exact hy.symm
            · exact HZ.out.2.2.1 i (by omega) h2
        · have t1 : ((y : Int) == 0) = false := by simp; omega
          clear h0
          go_wp2_with fail
          go_meet
          case rel => exact ⟨nc, by omega, rfl, HZ.out.2.1, n2, HZ.out.2.2.1, HX12.out.2.2⟩
      · have d0 : decide ((4 : Int) < (nc : Int)) = false := by simp; omega
        clear hlt
        go_wp2_with fail
        go_meet
        case rel => exact ⟨nc, by omega, rfl, HZ.out.2.1, n2, HZ.out.2.2.1, HZ.out.2.2.2⟩
  obtain ⟨nc, _, rfl, nc1, nc2, hzc, hf1112⟩ := hcut
  obtain ⟨w12, rfl⟩ : ∃ wr, wr = wc := ⟨_, rfl⟩
  refine hK8 _ _ ?_
  have c17 : (nc : Int) ≤ 19 := by omega
  have c18 : (4 : Int) ≤ (nc : Int) := by omega
  have hf712 : Frm (fun _ _ => False) w7 w12 := (H9.out.2.2.1.trans HCL.out.2.2.2.2.2).trans hf1112
  have hf612 : Frm (fun b _ => b = C) w6 w12 := HC7.out.2.2.2.trans (hf712.mono fun _ _ e => e.elim)
  have hf012 : Frm (fun b _ => b = C) w w12 := HC6.out.2.2.2.trans hf612
  have hwt12 : Wt w12 N0 W L := HW.out.1.keepC HC.out.1 HW.out.2.2.2.2.1 hf012
  have hC12 : Chs w12 M C l k4 := HC7.out.1.keep0 hf712
  have hCw : C < w.heap.size := HC.out.1.lt
  have hN12 : N0 ≤ w12.heap.size := Nat.le_trans HW.out.2.2.1 hf012.size
  have hL12 : Nt w12 (some ⟨lg, 0, none⟩) LL := ⟨fun j hj => by
    obtain ⟨g, h1, h2⟩ := HL.out.1.cells j hj
    injection h1 with h1
    injection h1 with h1
    subst h1
    exact ⟨lg, rfl, hf612.keep h2 (fun e => by have := HG.out.1; omega)⟩⟩
  have hD12 : Nt w12 (some ⟨dg, 0, none⟩) DL := ⟨fun j hj => by
    obtain ⟨g, h1, h2⟩ := HL.out.2.2.1.cells j hj
    injection h1 with h1
    injection h1 with h1
    subst h1
    exact ⟨dg, rfl, hf612.keep h2 (fun e => by have := HG.out.2.1; omega)⟩⟩
  have hT12 : Tks w12 tb toks := ⟨fun j hj => by
    obtain ⟨g, h1, h2, h3, h4⟩ := HT.out.1.cells j hj
    have hn := (HT.out.2.1 _ h1).2.1
    exact ⟨g, h1, hf012.keep h2 hn, hf012.keep h3 hn, hf012.keep h4 hn⟩⟩
  have hR12 : Rns w12 rb R := HRO.out.2.2.1.keep hf712 (fun _ _ _ e => e)
  have hK12 : Nt w12 (some ⟨cg, 0, none⟩) CL := HCL.out.1.keep hf1112 (fun _ _ e => e.elim)
  have hlgW : lg ≠ W := by have := HG.out.1; have := HW.out; omega
  have hdgW : dg ≠ W := by have := HG.out.2.1; have := HW.out; omega
  have hcgW : cg ≠ W := by have := HCL.out.2.2.2.1; have := HW.out; have := hf012.size; have := (HC6.out.2.2.2.trans HC7.out.2.2.2).size; have := H9.out.2.2.1.size; omega
  have hrbW : ∀ a, rb = some a → a.block ≠ W := fun a ha e => by
    have h1 := (HRO.out.2.2.2.1 a ha).1
    have := HW.out; have := HC6.out.2.2.2.size; omega
  have H12 := Lib.hid (And.intro hwt12 (And.intro hC12 (And.intro hN12 (And.intro hL12 (And.intro hD12 (And.intro hT12 (And.intro hR12 (And.intro hK12 (And.intro hlgW (And.intro hdgW (And.intro hcgW (And.intro hrbW (And.intro hf012 (And.intro hzc (And.intro nc1 hCw)))))))))))))))
  clear hzc hf1112 hf712 hf612 hf012 hwt12 hC12 hCw hN12 hL12 hD12 hT12 hR12 hK12 hlgW hdgW hcgW hrbW nc1
  obtain ⟨a1, ha1⟩ : ∃ a, a = nl - 257 := ⟨_, rfl⟩
  obtain ⟨a2, ha2⟩ : ∃ a, a = nd - 1 := ⟨_, rfl⟩
  obtain ⟨a3, ha3⟩ : ∃ a, a = nc - 4 := ⟨_, rfl⟩
  have hb1 : Calls Tryd.prog 41 #[.pointer (some ⟨W, 0, none⟩), .int .i64 (a1 : Int), .int .i64 5] w12 fun e w' => e = .returned (.tuple #[]) ∧ Wt w' N0 W (L ++ enc a1 5) ∧ Frm (SWr w12 N0 W) w12 w' := bits_any w12 N0 W L H12.out.1 HW.out.2.1 H12.out.2.2.1 a1 5 (by omega) (by have := HW.out.2.2.2.1; omega) (by omega)
  have e1 : (nl : Int) - 257 = (a1 : Int) := by omega
  have HB1 := Lib.hid hb1
  have HE := Lib.hid (And.intro ha1 (And.intro ha2 ha3))
  have e2 : (nd : Int) - 1 = (a2 : Int) := by omega
  have e3 : (nc : Int) - 4 = (a3 : Int) := by omega
  have d15 : (a2 : Int) ≤ 29 := by omega
  have d16 : (a3 : Int) ≤ 15 := by omega
  clear hb1 ha1 ha2 ha3
  go_wp2_with fail
  refine HB1.out.mono ?_
  rintro e w13 ⟨rfl, hw13, hf13⟩
  have hb2 : Calls Tryd.prog 41 #[.pointer (some ⟨W, 0, none⟩), .int .i64 (a2 : Int), .int .i64 5] w13 fun e w' => e = .returned (.tuple #[]) ∧ Wt w' N0 W (L ++ enc a1 5 ++ enc a2 5) ∧ Frm (SWr w13 N0 W) w13 w' := bits_any w13 N0 W _ hw13 HW.out.2.1 (Nat.le_trans H12.out.2.2.1 hf13.size) a2 5 (by omega) (by rw [List.length_append, enc_len]; have := HW.out.2.2.2.1; omega) (by omega)
  have HB2 := Lib.hid hb2
  have HF13 := Lib.hid hf13
  clear hb2 hw13 hf13 HB1
  go_wp2_with fail
  refine HB2.out.mono ?_
  rintro e w14 ⟨rfl, hw14, hf14⟩
  have hf14 := frm_SWr_trans HF13.out hf14
  have hb3 : Calls Tryd.prog 41 #[.pointer (some ⟨W, 0, none⟩), .int .i64 (a3 : Int), .int .i64 4] w14 fun e w' => e = .returned (.tuple #[]) ∧ Wt w' N0 W (L ++ enc a1 5 ++ enc a2 5 ++ enc a3 4) ∧ Frm (SWr w14 N0 W) w14 w' := bits_any w14 N0 W _ hw14 HW.out.2.1 (Nat.le_trans H12.out.2.2.1 hf14.size) a3 4 (by omega) (by rw [List.length_append, List.length_append, enc_len, enc_len]; have := HW.out.2.2.2.1; omega) (by omega)
  have HB3 := Lib.hid hb3
  have HF14 := Lib.hid hf14
  clear hb3 hw14 hf14 HB2 HF13
  go_upto_region 33 with (fail)
  go_cut [156] (fun _ wq => Wt wq N0 W (L ++ enc a1 5 ++ enc a2 5 ++ enc a3 4) ∧ Frm (SWr w12 N0 W) w12 wq)
  case first =>
    as_aux_lemma =>
    go_wp2_with fail
    refine HB3.out.mono ?_
    rintro e w15 ⟨rfl, hw15, hf15⟩
    have HH := Lib.hid (And.intro hw15 (frm_SWr_trans HF14.out hf15))
    clear hw15 hf15
    go_wp2_with fail
    go_meet
    case rel => exact HH.out
  obtain ⟨hw15, hf15⟩ := hcut
  obtain ⟨w15, rfl⟩ : ∃ wr, wr = wc := ⟨_, rfl⟩
  clear HB3 HF14 e1 e2 e3
  obtain ⟨L3, hL3⟩ : ∃ L3, L3 = L ++ enc a1 5 ++ enc a2 5 ++ enc a3 4 := ⟨_, rfl⟩
  rw [← hL3] at hw15
  have hL3l : L3.length = L.length + 14 := by rw [hL3]; simp [enc_len]
  have H15 := Lib.hid (And.intro hw15 (And.intro hf15 (And.intro hL3 hL3l)))
  clear hw15 hf15 hL3 hL3l
  apply_assumption
  refine wp_seq_k ?_
  intro K9 hK9
  go_cut [24] (fun s wq => Wt wq N0 W (L3 ++ (clOrder.take nc).flatMap (fun s => enc (CL.getD s 0) 3)) ∧ Frm (SWr w12 N0 W) w12 wq)
  case first =>
    as_aux_lemma =>
    have hor := order_any w15
    have HOR := Lib.hid hor
    clear hor
    go_wp2_with fail
    refine HOR.out.mono ?_
    rintro e w16 ⟨rfl, hor, hf16⟩
    obtain ⟨og, hog⟩ : ∃ og, og = w15.heap.size := ⟨_, rfl⟩
    rw [← hog] at hor ⊢
    obtain ⟨ob, ocp, hvo, _, hnto⟩ := OwnN.nt hor
    have hob : ob = some ⟨og, 0, none⟩ := by injection hvo with q1 q2 q3; exact q1.symm
    subst hob
    have hol : clOrder.length = 19 := by decide
    have hogW : og ≠ W := by have := H15.out.1.lt; omega
    have hwt16 : Wt w16 N0 W L3 := H15.out.1.keep hf16 (fun _ e => e) (fun _ _ _ e => e)
    have hf1216 : Frm (SWr w12 N0 W) w12 w16 := frm_SWr_trans H15.out.2.1 (frm_SWr_none hf16)
    have hK16 : Nt w16 (some ⟨cg, 0, none⟩) CL := H12.out.2.2.2.2.2.2.2.1.keepW hf1216 (fun a ha e => by obtain rfl := Option.some.inj ha; exact H12.out.2.2.2.2.2.2.2.2.2.2.1 e)
    have s3 : ∀ W', (Instr.sliceAt 27 (.slice (some ⟨og, 0, none⟩) 19 19) none (some (.int .i64 (nc : Int))) none).run Tryd.prog W' = .ok (.slice (some ⟨og, 0, none⟩) nc 19) W' := fun W' => by
      rw [run_sliceAt_slice W' _ _ _ _ _ under_ints, run_slice_h W' _ _ _ _ under_ints _ _ (by omega) (by omega), size_int]
      simp only [Result.andThen, sliced, Int.toNat_natCast, Nat.sub_zero]
      simp [Addr.add]
    have HO := Lib.hid (And.intro hnto (And.intro hol (And.intro hogW (And.intro hwt16 (And.intro hf1216 (And.intro hK16 hog))))))
    clear hor hvo hnto hol hogW hwt16 hf1216 hK16 hog hf16 HOR
    go_wp2_with fail
    go_loopg [161] (nc - 0) (fun g iv wr => DyCl w16 N0 W L3 CL nc g iv wr)
    case atStart => exact ⟨0, Nat.zero_le _, rfl, rfl, by simpa using HO.out.2.2.2.1, Frm.refl _ _⟩
    case round =>
      obtain ⟨k, hk, hg, rfl, hwr, hf⟩ := hrel
      by_cases hlt : k < nc
      · have hk19 : k < 19 := by omega
        obtain ⟨x, hx⟩ : ∃ x, x = clOrder.getD k 0 := ⟨_, rfl⟩
        obtain ⟨og', hog', hcx⟩ := (HO.out.1.keepW hf (fun a ha e => by obtain rfl := Option.some.inj ha; exact HO.out.2.2.1 e)).getS (show k < clOrder.length by rw [HO.out.2.1]; exact hk19) x hx
        have hogg : og' = og := by injection hog' with q1; injection q1 with q2; exact q2.symm
        subst hogg
        have hx19 : x < 19 := by rw [hx]; exact order_lt k
        have d3 : (x : Int) ≤ 18 := by omega
        obtain ⟨y, hy⟩ : ∃ y, y = CL.getD x 0 := ⟨_, rfl⟩
        obtain ⟨cg', hcg', hcy⟩ := (HO.out.2.2.2.2.2.1.keepW hf (fun a ha e => by obtain rfl := Option.some.inj ha; exact H12.out.2.2.2.2.2.2.2.2.2.2.1 e)).getS (show x < CL.length by rw [HCL.out.2.2.1]; exact hx19) y hy
        have hcgg : cg' = cg := by injection hcg' with q1; injection q1 with q2; exact q2.symm
        subst hcgg
        have hy7 : y ≤ 7 := by rw [hy]; exact HCL.out.2.1.le x
        have hsz : N0 ≤ wr.heap.size := Nat.le_trans H12.out.2.2.1 (Nat.le_trans HO.out.2.2.2.2.1.size hf.size)
        have hbt := bits_any wr N0 W _ hwr HW.out.2.1 hsz y 3 (by omega) (by rw [List.length_append, flat3_len, H15.out.2.2.2, List.length_take]; have := HW.out.2.2.2.1; have := HO.out.2.1; omega) (by omega)
        have hbt' : Calls Tryd.prog 41 #[.pointer (some ⟨W, 0, none⟩), .int .i64 (y : Int), .int .i64 3] wr fun e w' => e = .returned (.tuple #[]) ∧ Wt w' N0 W (L3 ++ (clOrder.take k).flatMap (fun s => enc (CL.getD s 0) 3) ++ enc y 3) ∧ Frm (SWr wr N0 W) wr w' := hbt
        have htk : clOrder.take (k + 1) = clOrder.take k ++ [x] := by
          rw [List.take_add_one, List.getElem?_eq_getElem (by rw [HO.out.2.1]; exact hk19), hx, List.getD_eq_getElem?_getD, List.getElem?_eq_getElem (by rw [HO.out.2.1]; exact hk19)]; rfl
        have HBT := Lib.hid hbt'
        have HRR := Lib.hid (And.intro hk (And.intro hg (And.intro hf (And.intro htk hy))))
        clear hk hg hwr hf hx hog' hy hcg' hy7 hsz hbt hbt' htk
        go_wp2_with fail
        refine HBT.out.mono ?_
        rintro e w17 ⟨rfl, hw17, hf17⟩
        have H17 := Lib.hid (And.intro hw17 hf17)
        clear hw17 hf17
        go_wp2_with fail
        go_roundg (nc - (k + 1))
        case measure => have := HRR.out.2.1; omega
        case rel =>
          obtain ⟨hk, hg, hf, htk, hy⟩ := HRR.out
          refine ⟨k + 1, hlt, rfl, by go_num, ?_, frm_SWr_trans hf H17.out.2⟩
          rw [htk, List.flatMap_append, ← List.append_assoc]
          have := H17.out.1
          rw [hy] at this
          simpa using this
      · obtain rfl : k = nc := by omega
        have hd : decide (k < k) = false := by simp
        have HRR := Lib.hid (And.intro hwr (frm_SWr_trans HO.out.2.2.2.2.1 hf))
        clear hk hg hwr hf hlt
        go_wp2_with fail
        go_meet
        case rel => exact HRR.out
  obtain ⟨hw18, hf18⟩ := hcut
  obtain ⟨w18, rfl⟩ : ∃ wr, wr = wc := ⟨_, rfl⟩
  refine hK9 _ _ ?_
  obtain ⟨L4, hL4⟩ : ∃ L4, L4 = L3 ++ (clOrder.take nc).flatMap (fun s => enc (CL.getD s 0) 3) := ⟨_, rfl⟩
  rw [← hL4] at hw18
  have hol : clOrder.length = 19 := by decide
  have hL4l : L4.length = L.length + 14 + 3 * nc := by rw [hL4, List.length_append, flat3_len, H15.out.2.2.2, List.length_take, hol]; omega
  have hK18 : Nt w18 (some ⟨cg, 0, none⟩) CL := H12.out.2.2.2.2.2.2.2.1.keepW hf18 (fun a ha e => by obtain rfl := Option.some.inj ha; exact H12.out.2.2.2.2.2.2.2.2.2.2.1 e)
  have hCL7 : ∀ n ∈ CL, n ≤ 7 := getD_le_all HCL.out.2.1.le
  have hcd := codes_any w18 (some ⟨cg, 0, none⟩) CL ccap hK18 (fun n hn => by have := hCL7 n hn; omega) (by rw [HCL.out.2.2.1]; omega)
  rw [HCL.out.2.2.1] at hcd
  have HCD := Lib.hid hcd
  have H18 := Lib.hid (And.intro hw18 (And.intro hf18 (And.intro hL4 (And.intro hL4l hCL7))))
  clear hw18 hf18 hL4 hL4l hK18 hCL7 hcd hol
  refine wp_seq_k ?_
  intro K10 hK10
  go_cut [25] (fun s wq => DyNums w18 CL s wq)
  case first =>
    as_aux_lemma =>
    go_wp2_with fail
    refine HCD.out.mono ?_
    rintro e w19 ⟨v19, NO, rfl, hno, hnl, hnc, hnb, hf19⟩
    have hl19 : NO.length = 19 := by rw [hnl]; exact HCL.out.2.2.1
    obtain ⟨ng, ncap, hv19, hn1, hn2, hn3⟩ := Row.val hno (by omega)
    obtain ⟨nb, ncp, hv20, _, hntn⟩ := OwnN.nt hno
    have hrel : DyNums w18 CL v19 w19 := by
      refine ⟨ng, ncap, NO, by rw [hv19, hl19], ?_, hn1, hnc, hnb, hl19, by omega, hf19⟩
      rw [hv19] at hv20
      injection hv20 with e1 e2 e3
      rw [e1]; exact hntn
    have HRR := Lib.hid hrel
    clear hno hnl hnc hnb hf19 hl19 hv19 hn1 hn2 hn3 hv20 hntn hrel
    go_wp2_with fail
    go_meet
    case rel => exact HRR.out
  obtain ⟨ng, ncap, NO, rfl, hntN, hngl, hNc, hNb, hNl, hncc, hf19⟩ := hcut
  obtain ⟨w19, rfl⟩ : ∃ wr, wr = wc := ⟨_, rfl⟩
  clear HCD
  have c19 : (19 : Int) ≤ (ncap : Int) := by omega
  have hf1219 : Frm (SWr w12 N0 W) w12 w19 := frm_SWr_trans H18.out.2.1 (frm_SWr_none hf19)
  have hwt19 : Wt w19 N0 W L4 := H18.out.1.keep hf19 (fun _ e => e) (fun _ _ _ e => e)
  have hngW : ng ≠ W := by have := H18.out.1.lt; omega
  have hK19 : Nt w19 (some ⟨cg, 0, none⟩) CL := H12.out.2.2.2.2.2.2.2.1.keepW hf1219 (fun a ha e => by obtain rfl := Option.some.inj ha; exact H12.out.2.2.2.2.2.2.2.2.2.2.1 e)
  have hR19 : Rns w19 rb R := H12.out.2.2.2.2.2.2.1.keepW hf1219 H12.out.2.2.2.2.2.2.2.2.2.2.2.1
  have H19 := Lib.hid (And.intro hntN (And.intro hNc (And.intro hNb (And.intro hNl (And.intro hf1219 (And.intro hwt19 (And.intro hngW (And.intro hK19 hR19))))))))
  clear hntN hngl hNc hNb hNl hncc hf19 hf1219 hwt19 hngW hK19 hR19
  refine hK10 _ _ ?_
  refine wp_seq_k ?_
  intro K11 hK11
  go_cut [27] (fun s wq => Wt wq N0 W (L4 ++ R.flatMap (rowBits CL)) ∧ Frm (SWr w19 N0 W) w19 wq)
  case first =>
    as_aux_lemma =>
    go_wp2_with fail
    go_loopg [176] (nr - 0) (fun g iv wr => DyRw w19 N0 W L4 CL R g iv wr)
    case atStart => exact ⟨0, Nat.zero_le _, by rw [HRO.out.1], rfl, by simpa using H19.out.2.2.2.2.2.1, Frm.refl _ _⟩
    case round =>
      obtain ⟨k, hk, hg, rfl, hwr, hf⟩ := hrel
      by_cases hlt : k < nr
      · have hkl : k < R.length := by rw [← HRO.out.1]; exact hlt
        have hRr := H19.out.2.2.2.2.2.2.2.2.keepW hf H12.out.2.2.2.2.2.2.2.2.2.2.2.1
        have hKr := H19.out.2.2.2.2.2.2.2.1.keepW hf (fun a ha e => by obtain rfl := Option.some.inj ha; exact H12.out.2.2.2.2.2.2.2.2.2.2.1 e)
        have hNr := H19.out.1.keepW hf (fun a ha e => by obtain rfl := Option.some.inj ha; exact H19.out.2.2.2.2.2.2.1 e)
        obtain ⟨g', htb, t0, t1, t2⟩ := hRr.cells k hkl
        subst htb
        obtain ⟨p, hp⟩ : ∃ p, p = R[k] := ⟨_, rfl⟩
        rw [← hp] at t0 t1 t2
        obtain ⟨o1, o2, o3⟩ := rows_all HRO.out.2.2.2.2.2 p (by rw [hp]; exact List.getElem_mem _)
        have hts : R.take (k + 1) = R.take k ++ [p] := by rw [List.take_add_one, List.getElem?_eq_getElem hkl, hp]; rfl
        obtain ⟨p0, hp0⟩ : ∃ q, q = p.1 := ⟨_, rfl⟩
        obtain ⟨p1, hp1⟩ : ∃ q, q = p.2 := ⟨_, rfl⟩
        obtain ⟨p2, hp2⟩ : ∃ q, q = rowX p.1 := ⟨_, rfl⟩
        have u0 : wr.cell? ⟨g', k * 3, none⟩ = some (.int .i64 (p0 : Int)) := by rw [hp0]; exact t0
        have u1 : wr.cell? ⟨g', k * 3 + 1, none⟩ = some (.int .i64 (p1 : Int)) := by rw [hp1]; exact t1
        have u2 : wr.cell? ⟨g', k * 3 + 2, none⟩ = some (.int .i64 (p2 : Int)) := by rw [hp2]; exact t2
        have d1 : p0 < 19 := by omega
        have d2 : (p0 : Int) < 19 := by omega
        have hpw := pow_le_Int (P := 2 ^ rowX p.1) rfl o3
        have hp1b : p1 ≤ 127 := by omega
        have hp2b : p2 ≤ 7 := by omega
        obtain ⟨x, hx⟩ : ∃ x, x = CL.getD p0 0 := ⟨_, rfl⟩
        obtain ⟨y, hy⟩ : ∃ y, y = NO.getD p0 0 := ⟨_, rfl⟩
        have hx7 : x ≤ 7 := by rw [hx]; exact HCL.out.2.1.le p0
        have hyb : y ≤ 1073741824 := by rw [hy]; exact H19.out.2.2.1 p0
        obtain ⟨W3, hW3⟩ : ∃ W3, W3 = wr.alloc (.cells #[.int .i64 (p0 : Int), .int .i64 (p1 : Int), .int .i64 (p2 : Int)] 135) := ⟨_, rfl⟩
        have hf3 : Frm (fun _ _ => False) wr W3 := by rw [hW3]; exact (Frm.refl _ _).alloc _
        obtain ⟨B, hB⟩ : ∃ B, B = wr.heap.size := ⟨_, rfl⟩
        have r0 : W3.cell? ⟨B, 0, none⟩ = some (.int .i64 (p0 : Int)) := by rw [hW3, hB]; exact (cells_at (heap_alloc_new wr _)).trans rfl
        have r1 : W3.cell? ⟨B, 1, none⟩ = some (.int .i64 (p1 : Int)) := by rw [hW3, hB]; exact (cells_at (heap_alloc_new wr _)).trans rfl
        have r2 : W3.cell? ⟨B, 2, none⟩ = some (.int .i64 (p2 : Int)) := by rw [hW3, hB]; exact (cells_at (heap_alloc_new wr _)).trans rfl
        have hBW : B ≠ W := by have := hwr.lt; omega
        obtain ⟨cg', hcg', hcy⟩ := (hKr.keep hf3 (fun _ _ e => e.elim)).getS (show p0 < CL.length by rw [HCL.out.2.2.1]; exact d1) x hx
        have hcgg : cg' = cg := by injection hcg' with q1; injection q1 with q2; exact q2.symm
        subst hcgg
        obtain ⟨ng', hng', hny⟩ := (hNr.keep hf3 (fun _ _ e => e.elim)).getS (show p0 < NO.length by rw [H19.out.2.2.2.1]; exact d1) y hy
        have hngg : ng' = ng := by injection hng' with q1; injection q1 with q2; exact q2.symm
        subst hngg
        have hsz : N0 ≤ wr.heap.size := Nat.le_trans H12.out.2.2.1 (Nat.le_trans H19.out.2.2.2.2.1.size hf.size)
        have hLk : (L4 ++ (R.take k).flatMap (rowBits CL)).length ≤ L.length + 14 + 57 + 14 * 316 := by
          have h1 := rows_flat HCL.out.2.1.le (l := R.take k) (fun q hq => (rows_all HRO.out.2.2.2.2.2 q (List.mem_of_mem_take hq)).2.2)
          rw [List.length_take] at h1
          rw [List.length_append, H18.out.2.2.2.1]
          have := HRO.out.1; have := HRO.out.2.1
          omega
        have hcd := code_any W3.drew N0 W (L4 ++ (R.take k).flatMap (rowBits CL)) (hwr.keep (hf3.drew) (fun _ e => e) (fun _ _ _ e => e)) HW.out.2.1 (Nat.le_trans hsz hf3.size) y x (by omega) (by have := HW.out.2.2.2.1; omega) (by omega)
        have HCDD := Lib.hid hcd
        have hyc : x ≠ 0 → y = codeOf CL p0 := fun h => by rw [hy]; exact H19.out.2.1 p0 (by rw [← hx]; exact h)
        have hx0 : x ≠ 0 := by
          obtain ⟨U', hU', hUq⟩ : ∃ U' : List Bool, TreeOK U' 7 CL ∧ ∀ p ∈ R, U'.getD p.1 false = true := ⟨_, HCL.out.2.1, H9.out.2.1⟩
          rw [hx, hp0]
          exact (hU'.iff_ _).2 (hUq p (by rw [hp]; exact List.getElem_mem _))
        have HRR := Lib.hid (And.intro hk (And.intro hg (And.intro hf (And.intro hts (And.intro hf3 (And.intro hsz (And.intro hLk (And.intro hp0 (And.intro hp1 (And.intro hp2 (And.intro hx (And.intro (hyc hx0) (And.intro hx7 hBW)))))))))))))
        have HBB := Lib.hid (And.intro hp1b hp2b)
        clear hk hg hwr hf hkl hRr hKr hNr t0 t1 t2 hp o1 o2 o3 hts hp0 hp1 hp2 hpw hp1b hp2b hx hy hx7 hyb hf3 hBW hcg' hng' hsz hLk hcd hyc hx0
        go_upto_region 43 with (fail)
        rw [← hW3, ← hB]
        clear hW3 hB
        (refine region_tail 11 (by kernel_rfl) (by kernel_rfl) ?_; simp only [List.take_succ_cons, List.take_zero, List.drop_succ_cons, List.drop_zero]; (repeat still_step); refine wpStill_nil ?_)
        go_wp2_with fail
        refine HCDD.out.mono ?_
        rintro e w4 ⟨rfl, hw4, hf4⟩
        have hBW := HRR.out.2.2.2.2.2.2.2.2.2.2.2.2.2
        have r14 : w4.cell? ⟨B, 1, none⟩ = some (.int .i64 (p1 : Int)) := hf4.kept (w := W3.drew) r1 hBW (.inr (by simp))
        have r24 : w4.cell? ⟨B, 2, none⟩ = some (.int .i64 (p2 : Int)) := hf4.kept (w := W3.drew) r2 hBW (.inr (by simp))
        have hb4 := bits_any w4 N0 W _ hw4 HW.out.2.1 (Nat.le_trans (Nat.le_trans HRR.out.2.2.2.2.2.1 HRR.out.2.2.2.2.1.size) hf4.size) p1 p2 (by have := HBB.out; omega) (by rw [List.length_append, encC_len]; have := HRR.out.2.2.2.2.2.2.1; have := HRR.out.2.2.2.2.2.2.2.2.2.2.2.2.1; have := HW.out.2.2.2.1; omega) (by have := HBB.out; omega)
        have HB4 := Lib.hid hb4
        have H4 := Lib.hid hf4
        clear hb4 hw4 hf4 hBW r0 r1 r2 hcy hny
        go_wp2_with fail
        refine HB4.out.mono ?_
        rintro e w5 ⟨rfl, hw5, hf5⟩
        have H5 := Lib.hid (And.intro hw5 hf5)
        clear hw5 hf5
        go_wp2_with fail
        go_roundg (nr - (k + 1))
        case measure => have := HRR.out.2.1; have := HRO.out.1; omega
        case rel =>
          obtain ⟨hk, hg, hf, hts, hf3, hsz, hLk, hp0, hp1, hp2, hx, hyc, hx7, hBW⟩ := HRR.out
          refine ⟨k + 1, by have := HRO.out.1; omega, by rw [HRO.out.1], by go_num, ?_, frm_SWr_trans hf (frm_SWr_trans (frm_SWr_none hf3.drew) (frm_SWr_trans H4.out H5.out.2))⟩
          rw [hts, List.flatMap_append, ← List.append_assoc]
          have h5 := H5.out.1
          rw [hyc, hx, hp0, hp1, hp2, List.append_assoc] at h5
          simpa [rowBits, code] using h5
      · obtain rfl : k = nr := by have := HRO.out.1; omega
        have hd : decide (k < k) = false := by simp
        have hw' : Wt wr N0 W (L4 ++ R.flatMap (rowBits CL)) := by
          have := hwr
          rw [HRO.out.1, List.take_length] at this
          exact this
        have HRR := Lib.hid (And.intro hw' hf)
        clear hk hg hwr hf hlt hw'
        go_wp2_with fail
        go_meet
        case rel => exact HRR.out
  obtain ⟨hw20, hf20⟩ := hcut
  obtain ⟨w20, rfl⟩ : ∃ wr, wr = wc := ⟨_, rfl⟩
  refine hK11 _ _ ?_
  have hf1220 : Frm (SWr w12 N0 W) w12 w20 := frm_SWr_trans H19.out.2.2.2.2.1 hf20
  obtain ⟨hwt12, hC12, hN12, hL12, hD12, hT12, hR12, hK12, hlgW, hdgW, hcgW, hrbW, hf012, hzc, nc1, hCw⟩ := H12.out
  obtain ⟨hT1, hT2, hA'l, hDl, h256', hall'⟩ := HP.out
  have hR14 := rows_flat HCL.out.2.1.le (l := R) (fun q hq => (rows_all HRO.out.2.2.2.2.2 q hq).2.2)
  have hin : ∀ t ∈ toks, TokIn LL DL t := fun t ht => tokIn_tree hT1 hT2 (hall' t ht)
  have hbd := body_any w20 N0 W _ hw20 HW.out.2.1 (Nat.le_trans hN12 hf1220.size) (by rw [List.length_append, H18.out.2.2.2.1]; have := HRO.out.1; have := HRO.out.2.1; have := HW.out.2.2.2.1; omega)
    tb toks tc (hT12.keepW hf1220 (fun a ha => (HT.out.2.1 a ha).1)) (fun a ha => (HT.out.2.1 a ha).1) (by have := HT.out.2.2.1; omega)
    (some ⟨lg, 0, none⟩) LL lcap (hL12.keepW hf1220 (fun a ha e => by obtain rfl := Option.some.inj ha; exact hlgW e)) (fun a ha e => by obtain rfl := Option.some.inj ha; exact hlgW e) (tree_le15 hT1) (by rw [HL.out.2.1]; omega) (by rw [HL.out.2.1]; omega)
    (some ⟨dg, 0, none⟩) DL dcap (hD12.keepW hf1220 (fun a ha e => by obtain rfl := Option.some.inj ha; exact hdgW e)) (fun a ha e => by obtain rfl := Option.some.inj ha; exact hdgW e) (tree_le15 hT2) (by rw [HL.out.2.2.2]; omega) (by rw [HL.out.2.2.2]; omega) hin ((hT1.iff_ 256).2 h256')
  rw [← HN.out, HL.out.2.1, HL.out.2.2.2] at hbd
  have HBD := Lib.hid hbd
  have HFF := Lib.hid (And.intro hf1220 (And.intro hR14 hin))
  clear hw20 hf20 hf1220 hwt12 hC12 hN12 hL12 hD12 hT12 hR12 hK12 hlgW hdgW hcgW hrbW hf012 hzc nc1 hCw hT1 hT2 hA'l hDl h256' hall' hR14 hin hbd
  go_wp2_with fail
  refine HBD.out.mono ?_
  rintro e w21 ⟨rfl, hw21, hf21⟩
  have H21 := Lib.hid (And.intro hw21 hf21)
  clear hw21 hf21
  go_wp2_with fail
  obtain ⟨hw21, hf21⟩ := H21.out
  obtain ⟨hf1220, hR14, hin⟩ := HFF.out
  obtain ⟨hwt12, hC12, hN12, hL12, hD12, hT12, hR12, hK12, hlgW, hdgW, hcgW, hrbW, hf012, hzc, nc1, hCw⟩ := H12.out
  obtain ⟨hT1, hT2, hA'l, hDl, h256', hall'⟩ := HP.out
  obtain ⟨ha1, ha2, ha3⟩ := HE.out
  have hf1221 : Frm (SWr w12 N0 W) w12 w21 := frm_SWr_trans hf1220 hf21
  have hdy := dyn_head (lits := A') (dists := D) (used := U) (toks := toks) hT1 hA'l hT2 hDl HCL.out.2.1 H9.out.1 HZL.out.1 nl2 HZL.out.2 HZD.out.1 nd2 HZD.out.2 nc1 nc2 hzc (HRO.out.2.2.2.2.1.trans HAA.out.1) HRO.out.2.2.2.2.2 H9.out.2.1 h256' hall'
  refine bodyPost_end (results_none rfl _ _ _) rfl ⟨_, k4, rfl, hdy, ?_, ?_, hC12.keepW hf1221 HW.out.2.2.2.2.1 HW.out.2.2.2.2.2, ?_, ?_, ?_⟩
  · have hb1 := flat_len (tree_le15 hT1) (tree_le15 hT2) hin
    have hb2 : (code LL 256).length ≤ 15 := by rw [code_len]; exact hT1.le 256
    have h3 := flat3_len CL (clOrder.take nc)
    have hol : clOrder.length = 19 := by decide
    rw [List.length_take, hol] at h3
    unfold Head.bits bodyBits
    simp only [List.length_append, enc_len, h3]
    have := HRO.out.1; have := HRO.out.2.1; have := HN.out
    omega
  · have : L ++ ((Head.mk nl nd nc CL R).bits ++ bodyBits LL DL toks) = L4 ++ R.flatMap (rowBits CL) ++ bodyBits LL DL toks := by
      rw [H18.out.2.2.1, H15.out.2.2.1]
      unfold Head.bits
      simp only [List.append_assoc, ha1, ha2, ha3]
    rw [this]; exact hw21
  · have := HC7.out; have := HC6.out; omega
  · have := HC7.out; have := HC6.out; omega
  · refine (hf012.mono fun b o e => .inl e).trans' hf1221 (fun x o hx q => ?_)
    by_cases hxC : x = C
    · exact .inl hxC
    · rcases q with q | ⟨q1, q2⟩
      · exact .inr (.inl q)
      · exact .inr (.inr ⟨q1, fun o' u hu => q2 o' u (hf012.keep hu hxC)⟩)

end Go.Proofs.YthfncdfcklbigaaDoor

/-
  PLAIN LEAN: that writing blocks ends: how many more there can be.
-/
namespace Flate

/-- So many blocks more at most: 'rest' bytes are left, the choices were asked k times (fresh: new ones). -/
def dG (rest : Nat) (fresh : Bool) (k : Nat) : Nat := rest / 65535 * 20002 + (if fresh then 0 else 20001 - k)

theorem dG_le (rest : Nat) (f : Bool) (k : Nat) : dG rest f k ≤ rest / 65535 * 20002 + 20001 := by
  unfold dG; split <;> omega

theorem dG_more {rest rest' k k' : Nat} (hr : rest' ≤ rest) (hk : k < k') (hk' : k' ≤ 20000) : dG rest' false k' + 1 ≤ dG rest false k := by
  have : rest' / 65535 ≤ rest / 65535 := Nat.div_le_div_right hr
  unfold dG
  simp only [Bool.false_eq_true, if_false]
  omega

theorem dG_new {rest rest' k : Nat} (hr : rest' ≤ rest) (hk : k ≤ 20000) : dG rest' true 0 + 1 ≤ dG rest false k := by
  have : rest' / 65535 ≤ rest / 65535 := Nat.div_le_div_right hr
  unfold dG
  simp only [Bool.false_eq_true, if_false, if_true]
  omega

theorem dG_fresh {rest k' : Nat} {f' : Bool} (hr : 65535 ≤ rest) : dG (rest - 65535) f' k' + 1 ≤ dG rest true 0 := by
  have h1 := dG_le (rest - 65535) f' k'
  have h2 : (rest - 65535) / 65535 + 1 = rest / 65535 := by omega
  have h3 : dG rest true 0 = rest / 65535 * 20002 := by unfold dG; simp
  rw [h3]
  omega

/-- One block more, whatever its kind. -/
theorem dG_step {rest n k k' k'' : Nat} {f f' : Bool} (hk : k ≤ 20000) (hn : n ≤ rest) (hk1 : k < k') (hf : f = true → k = 0 ∧ n = 65535) (hnew : f' = true ∧ k'' = 0 ∨ f' = false ∧ k'' = k' ∧ k' ≤ 20000) : dG (rest - n) f' k'' + 1 ≤ dG rest f k := by
  cases f with
  | true =>
    obtain ⟨rfl, rfl⟩ := hf rfl
    exact dG_fresh hn
  | false =>
    rcases hnew with ⟨rfl, rfl⟩ | ⟨rfl, rfl, h⟩
    · exact dG_new (by omega) hk
    · exact dG_more (by omega) hk1 h

theorem storedBits_len (a n : Nat) (last : Bool) (d : List UInt8) (hd : d.length = n) : ([last] ++ enc 0 2 ++ List.replicate (8 * ((a + 3 + 7) / 8) - (a + 3)) false ++ enc n 16 ++ enc (65535 - n) 16 ++ bitsOf d).length ≤ 5200 + 60 * n := by
  simp only [List.length_append, List.length_cons, List.length_nil, enc_len, List.length_replicate, bitsOf_len, hd]
  omega

end Flate

/-
  THE WALKS OF 'spec.Fit', 'spec.Fixed', 'spec.Expand'.
-/
namespace Go.Proofs.YthfncdfcklbigaaDoor
open Go.RowKit Go.IntWalk Flate
set_option maxRecDepth 100000

/-- Tokens that came in: any numbers. -/
structure Tin (w : World) (base : Option Addr) (l : List (Int × Int × Int)) (cap : Nat) : Prop where
  cells : ∀ j (h : j < l.length), ∃ b o, base = some ⟨b, o, none⟩ ∧ w.cell? ⟨b, o + j * 3, none⟩ = some (.int .i64 l[j].1) ∧ w.cell? ⟨b, o + j * 3 + 1, none⟩ = some (.int .i64 l[j].2.1) ∧ w.cell? ⟨b, o + j * 3 + 2, none⟩ = some (.int .i64 l[j].2.2)
  hcap : l.length ≤ cap
  nilc : base = none → cap = 0

theorem Tin.keep {w w' : World} {b : Option Addr} {l : List (Int × Int × Int)} {cap : Nat} (h : Tin w b l cap) (hf : Frm (fun _ _ => False) w w') : Tin w' b l cap :=
  ⟨fun j hj => by
    obtain ⟨b', o, h1, h2, h3, h4⟩ := h.cells j hj
    exact ⟨b', o, h1, hf.keep h2 (fun e => e), hf.keep h3 (fun e => e), hf.keep h4 (fun e => e)⟩, h.hcap, h.nilc⟩

theorem i64_and_255 (x : Int) : bits .and .i64 x 255 = (((x % 256).toNat : Nat) : Int) := by
  show IntKind.i64.wrap ((BitVec.ofInt 64 x &&& BitVec.ofInt 64 255).toNat : Int) = _
  have e1 : (BitVec.ofInt 64 255).toNat = 2 ^ 8 - 1 := by rw [BitVec.toNat_ofInt]; decide
  have e2 : (BitVec.ofInt 64 x).toNat % 2 ^ 8 = (x % 256).toNat := by rw [BitVec.toNat_ofInt]; omega
  rw [BitVec.toNat_and, e1, Nat.and_two_pow_sub_one_eq_mod, e2]
  exact i64_in _ (by omega)

def FtInv (w : World) (N0 N : Nat) (behind : Nat) (g : Nat) (out nv i : Value) (wr : World) : Prop :=
  ∃ (k n : Nat) (toks : List Tk), k ≤ N ∧ g = N - k ∧ i = .int .i64 (k : Int) ∧ nv = .int .i64 (n : Int) ∧ n = behind + toksSize toks ∧ toks.length = k ∧ toksOk behind toks ∧ OwnT 87 wr N0 out toks ∧ Frm (fun _ _ => False) w wr

set_option maxHeartbeats 2000000 in
theorem fit_any (w : World) (base : Option Addr) (l : List (Int × Int × Int)) (cap : Nat) (h : Tin w base l cap) (hl : l.length ≤ 2147483647) (behind : Nat) (hb : behind ≤ 2147483647) :
    Calls Tryd.prog 26 #[.slice base l.length cap, .int .i64 (behind : Int)] w fun e w' => ∃ v toks, e = .returned v ∧ OwnT 87 w' w.heap.size v toks ∧ toksOk behind toks ∧ toks.length ≤ 300 ∧ Frm (fun _ _ => False) w w' := by
  have HH := Lib.hid h
  obtain ⟨n, hn⟩ : ∃ n, n = l.length := ⟨_, rfl⟩
  obtain ⟨N, hN⟩ : ∃ N, N = min n 300 := ⟨_, rfl⟩
  rw [← hn] at hl ⊢
  have e1 : min (n : Int) 300 = (N : Int) := by omega
  have c1 : (n : Int) ≤ 2147483647 := by omega
  have c2 : (N : Int) ≤ (n : Int) := by omega
  have c3 : (N : Int) ≤ 300 := by omega
  have c4 : (behind : Int) ≤ 2147483647 := by omega
  have hcap : n ≤ cap := by rw [hn]; exact h.hcap
  have HN := Lib.hid (And.intro hn (And.intro hN (And.intro hl hb)))
  clear h hn hN hl hb
  go_enter Tryd.func26, Tryd.ntmps26
  go_upto_region 3 with (fail)
  go_cut [16, 17, 18] (fun a b c wq => a = .slice base N cap ∧ b = .int .i64 (N : Int) ∧ c = .int .i64 0 ∧ w = wq)
  case first =>
    by_cases h3 : n ≤ 300
    · have t1 : decide ((n : Int) ≤ 300) = true := by simp; omega
      have hNn : N = n := by have := HN.out.2.1; omega
      clear h3
      go_wp2_with fail
      all_goals
        go_meet
        case rel => first | exact ⟨by rw [hNn], by rw [hNn], rfl, rfl⟩ | (exfalso; omega)
    · have t1 : decide ((n : Int) ≤ 300) = false := by simp; omega
      have hNn : N = 300 := by have := HN.out.2.1; omega
      have c5 : (300 : Int) ≤ (n : Int) := by omega
      have c6 : (n : Int) ≤ (cap : Int) := by omega
      go_wp2_with fail
      go_meet
      case rel => exact ⟨by rw [hNn], by rw [hNn]; rfl, rfl, rfl⟩
  case rest =>
    obtain ⟨rfl, rfl, rfl, rfl⟩ := hcut
    go_wp2_with fail
    go_loopg [5, 6, 18] (N - 0) (fun g out nv i wr => FtInv w w.heap.size N behind g out nv i wr)
    case atStart => exact ⟨0, behind, [], Nat.zero_le _, rfl, rfl, rfl, by simp [toksSize], rfl, trivial, Row.nil _ _ _ _ _, Frm.refl _ _⟩
    case round =>
      obtain ⟨k, nn, toks, hk, hg, rfl, rfl, hnn, hlen, hok, hown, hf⟩ := hrel
      by_cases hlt : k < N
      · have hkl : k < l.length := by have := HN.out; omega
        obtain ⟨b', o, hb', t0, t1, t2⟩ := (HH.out.keep hf).cells k hkl
        subst hb'
        obtain ⟨x, hx⟩ : ∃ x, x = l[k] := ⟨_, rfl⟩
        rw [← hx] at t0 t1 t2
        obtain ⟨lt, ft, gt⟩ := x
        simp only at t0 t1 t2
        obtain ⟨fa, hfa⟩ : ∃ fa, fa = min nn 32768 := ⟨_, rfl⟩
        have hnle : nn ≤ 2147483647 + 77400 := by
          have := toksSize_le hok
          have := HN.out
          omega
        have c5 : (nn : Int) ≤ 2147561047 := by omega
        have c6 : (fa : Int) ≤ 32768 := by omega
        have HR := Lib.hid (And.intro hk (And.intro hg (And.intro hnn (And.intro hlen (And.intro hok (And.intro hown hf))))))
        have HFA := Lib.hid hfa
        obtain ⟨W3, hW3⟩ : ∃ W3, W3 = wr.alloc (.cells #[.int .i64 lt, .int .i64 ft, .int .i64 gt] 87) := ⟨_, rfl⟩
        have hf3 : Frm (fun _ _ => False) wr W3 := by rw [hW3]; exact (Frm.refl _ _).alloc _
        obtain ⟨B, hB⟩ : ∃ B, B = wr.heap.size := ⟨_, rfl⟩
        have v0 : W3.cell? ⟨B, 0, none⟩ = some (.int .i64 lt) := by rw [hW3, hB]; exact (cells_at (heap_alloc_new wr _)).trans rfl
        have v1 : W3.cell? ⟨B, 1, none⟩ = some (.int .i64 ft) := by rw [hW3, hB]; exact (cells_at (heap_alloc_new wr _)).trans rfl
        have v2 : W3.cell? ⟨B, 2, none⟩ = some (.int .i64 gt) := by rw [hW3, hB]; exact (cells_at (heap_alloc_new wr _)).trans rfl
        have HW3 := Lib.hid hf3
        clear hk hg hnn hlen hok hown hf hx hkl hfa hnle hf3
        go_upto_region 6 with (fail)
        rw [← hW3, ← hB]
        clear hW3 hB t0 t1 t2
        go_cut [9] (fun f wq => f = .int .i64 (fa : Int) ∧ W3 = wq)
        case first =>
          have hfa := HFA.out
          by_cases h3 : nn ≤ 32768
          · have e3 : decide ((nn : Int) ≤ 32768) = true := by simp; omega
            have hNn : fa = nn := by omega
            clear h3 hfa
            go_wp2_with fail
            all_goals
              go_meet
              case rel => first | exact ⟨by rw [hNn], rfl⟩ | (exfalso; omega)
          · have e3 : decide ((nn : Int) ≤ 32768) = false := by simp; omega
            have hNn : fa = 32768 := by omega
            have c7 : (32768 : Int) ≤ (nn : Int) := by omega
            clear hfa
            go_wp2_with fail
            go_meet
            case rel => exact ⟨by rw [hNn]; rfl, rfl⟩
        case rest =>
          obtain ⟨rfl, rfl⟩ := hcut
          apply_assumption
          by_cases hft : ft = 0
          · subst hft
            have hand := i64_and_255 lt
            obtain ⟨c, hc⟩ : ∃ c, c = (lt % 256).toNat := ⟨_, rfl⟩
            rw [← hc] at hand
            have hc256 : c < 256 := by omega
            have hcn : (UInt8.ofNat c).toNat = c := by rw [UInt8.toNat_ofNat']; exact Nat.mod_eq_of_lt hc256
            obtain ⟨hk, hg, hnn, hlen, hok, hown, hf⟩ := HR.out
            have hf3 := HW3.out
            obtain ⟨v', w', hrun, hown', hfr⟩ := append_tokenX W3 w.heap.size _ _ (hown.keep hf3 (fun _ _ _ e => e)) (.lit (UInt8.ofNat c)) (by omega) (hf.trans hf3).size
            have hf' := OwnT.fresh (hown.keep hf3 (fun _ _ _ e => e)) (hf.trans hf3) (Nat.le_refl _) hfr
            have hr : ∀ ty, (Builtin.append_ #[38, 38] ty #[u5, .slice (some ⟨W3.heap.size, 0, none⟩) 1 1]).run Tryd.prog (W3.alloc (.cells #[.int .i64 (c : Int), .int .i64 0, .int .i64 0] 87)) = .ok v' w' := by
              have := hrun
              simp only [tokC0, tokC1, tokC2, hcn] at this
              exact this
            have HX := Lib.hid (And.intro hown' hf')
            clear hc hc256 hcn hk hg hnn hlen hok hown hf hf3 hrun hown' hfr hf'
            go_wp2_with (at_builtin; refine wpList_append_by (by rfl) (.tmp 54) (.tmp 59) 38 (by rfl) _ _ (by rfl) (by rfl) (hr _) ?_)
            clear hr
            go_roundg (N - (k + 1))
            case measure => have := HR.out.2.1; omega
            case rel =>
              obtain ⟨hk, hg, hnn, hlen, hok, hown, hf⟩ := HR.out
              exact ⟨k + 1, nn + 1, toks ++ [.lit (UInt8.ofNat c)], hlt, rfl, by go_num, by go_num, by rw [toksSize_snoc, hnn]; simp only [Tk.size]; omega, by rw [List.length_append, hlen]; rfl, (toksOk_snoc (t := .lit (UInt8.ofNat c))).2 ⟨hok, trivial⟩, HX.out.1, HX.out.2⟩
          · have e1 : (ft != 0) = true := by simp [hft]
            by_cases hf0 : fa = 0
            · subst hf0
              have HFT := Lib.hid hft
              clear hft
              have hand := i64_and_255 lt
              obtain ⟨c, hc⟩ : ∃ c, c = (lt % 256).toNat := ⟨_, rfl⟩
              rw [← hc] at hand
              have hc256 : c < 256 := by omega
              have hcn : (UInt8.ofNat c).toNat = c := by rw [UInt8.toNat_ofNat']; exact Nat.mod_eq_of_lt hc256
              obtain ⟨hk, hg, hnn, hlen, hok, hown, hf⟩ := HR.out
              have hf3 := HW3.out
              obtain ⟨v', w', hrun, hown', hfr⟩ := append_tokenX W3 w.heap.size _ _ (hown.keep hf3 (fun _ _ _ e => e)) (.lit (UInt8.ofNat c)) (by omega) (hf.trans hf3).size
              have hf' := OwnT.fresh (hown.keep hf3 (fun _ _ _ e => e)) (hf.trans hf3) (Nat.le_refl _) hfr
              have hr : ∀ ty, (Builtin.append_ #[38, 38] ty #[u5, .slice (some ⟨W3.heap.size, 0, none⟩) 1 1]).run Tryd.prog (W3.alloc (.cells #[.int .i64 (c : Int), .int .i64 0, .int .i64 0] 87)) = .ok v' w' := by
                have := hrun
                simp only [tokC0, tokC1, tokC2, hcn] at this
                exact this
              have HX := Lib.hid (And.intro hown' hf')
              clear hc hc256 hcn hk hg hnn hlen hok hown hf hf3 hrun hown' hfr hf'
              go_wp2_with (at_builtin; refine wpList_append_by (by rfl) (.tmp 54) (.tmp 59) 38 (by rfl) _ _ (by rfl) (by rfl) (hr _) ?_)
              clear hr
              go_roundg (N - (k + 1))
              case measure => have := HR.out.2.1; omega
              case rel =>
                obtain ⟨hk, hg, hnn, hlen, hok, hown, hf⟩ := HR.out
                exact ⟨k + 1, nn + 1, toks ++ [.lit (UInt8.ofNat c)], hlt, rfl, by go_num, by go_num, by rw [toksSize_snoc, hnn]; simp only [Tk.size]; omega, by rw [List.length_append, hlen]; rfl, (toksOk_snoc (t := .lit (UInt8.ofNat c))).2 ⟨hok, trivial⟩, HX.out.1, HX.out.2⟩
            · have e2 : decide ((0 : Int) < (fa : Int)) = true := by simp; omega
              have e20 : 0 < fa := by omega
              obtain ⟨y, hy⟩ : ∃ y, y = gt.tmod 256 := ⟨_, rfl⟩
              obtain ⟨g1, g2⟩ := tmod_range gt 256 (by omega)
              obtain ⟨z, hz⟩ : ∃ z : Nat, (z : Int) = (y + 256) % 256 := ⟨((y + 256) % 256).toNat, by omega⟩
              obtain ⟨m, hm⟩ : ∃ m : Nat, m = 3 + z := ⟨_, rfl⟩
              obtain ⟨y2, hy2⟩ : ∃ y2, y2 = ft.tmod (fa : Int) := ⟨_, rfl⟩
              obtain ⟨g3, g4⟩ := tmod_range ft fa e20
              rw [← hy2] at g3 g4
              have g1' : (-256 : Int) < y := by rw [hy]; exact g1
              have g2' : y < 256 := by rw [hy]; exact g2
              obtain ⟨z2, hz2⟩ : ∃ z2 : Nat, (z2 : Int) = (y2 + (fa : Int)) % (fa : Int) := ⟨((y2 + (fa : Int)) % (fa : Int)).toNat, Int.toNat_of_nonneg (Int.emod_nonneg _ (by omega))⟩
              have hz2l : z2 < fa := by
                have := Int.emod_lt_of_pos (y2 + (fa : Int)) (show (0 : Int) < (fa : Int) by omega)
                omega
              obtain ⟨f, hf⟩ : ∃ f : Nat, f = 1 + z2 := ⟨_, rfl⟩
              have hzl : z < 256 := by omega
              have a1 := hy.symm
              have a2 := hz.symm
              have a3 : 3 + (z : Int) = (m : Int) := by omega
              have a4 := hy2.symm
              have a5 := hz2.symm
              have a6 : 1 + (z2 : Int) = (f : Int) := by omega
              have c8 : (m : Int) ≤ 258 := by omega
              have c9 : (f : Int) ≤ 32768 := by omega
              have c10 : (z : Int) ≤ 255 := by omega
              have c11 : (z2 : Int) < (fa : Int) := by omega
              have hfn : f ≤ nn ∧ f ≤ 32768 ∧ 1 ≤ f ∧ 3 ≤ m ∧ m ≤ 258 := by have := HFA.out; omega
              obtain ⟨hk, hg, hnn, hlen, hok, hown, hfr0⟩ := HR.out
              have hf3 := HW3.out
              obtain ⟨v', w', hrun, hown', hfr⟩ := append_tokenX W3 w.heap.size _ _ (hown.keep hf3 (fun _ _ _ e => e)) (.cpy f m) (by omega) (hfr0.trans hf3).size
              have hf' := OwnT.fresh (hown.keep hf3 (fun _ _ _ e => e)) (hfr0.trans hf3) (Nat.le_refl _) hfr
              have hr : ∀ ty, (Builtin.append_ #[38, 38] ty #[u5, .slice (some ⟨W3.heap.size, 0, none⟩) 1 1]).run Tryd.prog (W3.alloc (.cells #[.int .i64 0, .int .i64 (f : Int), .int .i64 (m : Int)] 87)) = .ok v' w' := hrun
              have HX := Lib.hid (And.intro hown' (And.intro hf' hfn))
              have HFT := Lib.hid hft
              clear hft hy hz hm hy2 hz2 hf hzl hz2l hfn hk hg hnn hlen hok hown hfr0 hf3 hrun hown' hfr hf' hf0
              go_wp2_with (at_builtin; refine wpList_append_by (by rfl) (.tmp 37) (.tmp 49) 38 (by rfl) _ _ (by rfl) (by rfl) (hr _) ?_)
              clear hr
              go_roundg (N - (k + 1))
              case measure => have := HR.out.2.1; omega
              case rel =>
                obtain ⟨hk, hg, hnn, hlen, hok, hown, hf⟩ := HR.out
                obtain ⟨hown', hf', q1, q2, q3, q4, q5⟩ := HX.out
                exact ⟨k + 1, nn + m, toks ++ [.cpy f m], hlt, rfl, by go_num, by go_num, by rw [toksSize_snoc, hnn]; simp only [Tk.size]; omega, by rw [List.length_append, hlen]; rfl, (toksOk_snoc (t := .cpy f m)).2 ⟨hok, ⟨q3, by rw [← hnn]; exact q1, q2, q4, q5⟩⟩, hown', hf'⟩
      · obtain rfl : k = N := by omega
        have HR := Lib.hid (And.intro hlen (And.intro hok (And.intro hown hf)))
        have hd : decide (k < k) = false := by simp
        clear hlen hok hown hf hg hnn hlt hk
        go_wp2_with fail
        go_ret
        exact ⟨_, toks, rfl, HR.out.2.2.1, HR.out.2.1, by have := HR.out.1; omega, HR.out.2.2.2⟩

end Go.Proofs.YthfncdfcklbigaaDoor

/-
  THE WALKS OF 'spec.Fixed' and 'spec.Expand'.
-/
namespace Go.Proofs.YthfncdfcklbigaaDoor
open Go.RowKit Go.IntWalk Flate
set_option maxRecDepth 100000

theorem tokIn_fixed {l : List Tk} : ∀ {n : Nat}, toksOk n l → ∀ t ∈ l, TokIn fixedLens fixedDist t := by
  induction l with
  | nil => intro n _ t ht; simp at ht
  | cons a l ih =>
    intro n h t ht
    rcases List.mem_cons.1 ht with rfl | q
    · cases t with
      | lit c => have := c.toNat_lt; exact fixedLens_ne0 _ (by omega)
      | cpy f m =>
        obtain ⟨a1, a2, a3, a4, a5⟩ := h.1
        have q1 := lenSymbol_ok a4 a5
        have q2 := distSymbol_ok a1 a3
        refine ⟨a1, a3, a4, a5, fixedLens_ne0 _ (by omega), ?_⟩
        rw [fixedDist_getD, if_pos (by omega)]; omega
    · exact ih h.2 t q

theorem fixedDist15 : ∀ n ∈ fixedDist, n ≤ 15 := fun n hn => by unfold fixedDist at hn; have := (List.mem_replicate.1 hn).2; omega

/-- A new writer. -/
theorem wt_new (w : World) : Wt (w.alloc (.cells #[.slice none 0 0, .int .i64 0] 73)) (w.heap.size + 1) w.heap.size [] := by
  have hc : ∀ o, (w.alloc (.cells #[.slice none 0 0, .int .i64 0] 73)).cell? ⟨w.heap.size, o, none⟩ = (#[.slice none 0 0, .int .i64 0] : Array Value)[o]? := fun o => cells_at (heap_alloc_new w _)
  exact ⟨⟨_, (hc 0).trans rfl, Row.nil _ _ _ _ _⟩, (hc 1).trans rfl, fun o => World.frozen?_alloc_new (w := w) ..⟩

/-- The frame of a writer that is new. -/
theorem frm_new {w w1 w2 : World} {N0 W : Nat} (h : Frm (fun _ _ => False) w w1) (hW : w.heap.size ≤ W) (hN : w.heap.size ≤ N0) (k : Frm (SWr w1 N0 W) w1 w2) : Frm (fun _ _ => False) w w2 :=
  h.trans' k fun x o hx q => by
    rcases q with q | ⟨q, _⟩ <;> omega

def FxdInv (w3 : World) (N : Nat) (toks : List Tk) (g : Nat) (m i : Value) (wr : World) : Prop :=
  ∃ k : Nat, k ≤ toks.length ∧ g = toks.length - k ∧ i = .int .i64 (k : Int) ∧ OwnT 89 wr N m (toks.take k) ∧ Frm (fun _ _ => False) w3 wr

set_option maxHeartbeats 2000000 in
theorem fixedB_any (w : World) (tb : Option Addr) (toks : List Tk) (tc : Nat) (ht : Tks w tb toks) (htl : toks.length ≤ 300) {n0 : Nat} (hok : toksOk n0 toks) :
    Calls Tryd.prog 27 #[.slice tb toks.length tc] w fun e w' => ∃ v, e = .returned v ∧ Own w' w.heap.size v (pack ([true] ++ enc 1 2 ++ bodyBits fixedLens fixedDist toks)) ∧ Frm (fun _ _ => False) w w' := by
  have HT := Lib.hid (And.intro ht (And.intro htl hok))
  obtain ⟨n, hn⟩ : ∃ n, n = toks.length := ⟨_, rfl⟩
  rw [← hn] at htl ⊢
  have c1 : (n : Int) ≤ 300 := by omega
  have hwt := wt_new w
  obtain ⟨W, hW⟩ : ∃ W, W = w.heap.size := ⟨_, rfl⟩
  obtain ⟨w1, hw1⟩ : ∃ w1, w1 = w.alloc (.cells #[.slice none 0 0, .int .i64 0] 73) := ⟨_, rfl⟩
  have hf1 : Frm (fun _ _ => False) w w1 := by rw [hw1]; exact (Frm.refl _ _).alloc _
  rw [← hW, ← hw1] at hwt
  have hN1 : W + 1 ≤ w1.heap.size := by rw [hw1, hW]; simp
  have hb1 : Calls Tryd.prog 41 #[.pointer (some ⟨W, 0, none⟩), .int .i64 1, .int .i64 1] w1 fun e w' => e = .returned (.tuple #[]) ∧ Wt w' (W + 1) W [true] ∧ Frm (SWr w1 (W + 1) W) w1 w' := bits_any w1 (W + 1) W [] hwt (by omega) hN1 1 1 (by omega) (by simp) (by omega)
  have HB1 := Lib.hid hb1
  have HA := Lib.hid (And.intro hn (And.intro hW (And.intro hf1 hN1)))
  clear ht htl hok hn hwt hf1 hN1 hb1
  go_enter Tryd.func27, Tryd.ntmps27
  go_upto_region 2 with (fail)
  rw [← hw1, ← hW]
  clear hw1 hW
  go_wp2_with fail
  refine HB1.out.mono ?_
  rintro e w2 ⟨rfl, hw2, hf2⟩
  have hb2 : Calls Tryd.prog 41 #[.pointer (some ⟨W, 0, none⟩), .int .i64 1, .int .i64 2] w2 fun e w' => e = .returned (.tuple #[]) ∧ Wt w' (W + 1) W ([true] ++ enc 1 2) ∧ Frm (SWr w2 (W + 1) W) w2 w' := bits_any w2 (W + 1) W [true] hw2 (by omega) (Nat.le_trans HA.out.2.2.2 hf2.size) 1 2 (by omega) (by simp) (by omega)
  have HB2 := Lib.hid hb2
  have HF2 := Lib.hid hf2
  clear hb2 hf2 hw2
  go_wp2_with fail
  refine HB2.out.mono ?_
  rintro e w3 ⟨rfl, hw3, hf3⟩
  have hf13 : Frm (SWr w1 (W + 1) W) w1 w3 := frm_SWr_trans HF2.out hf3
  have hf03 : Frm (fun _ _ => False) w w3 := frm_new HA.out.2.2.1 (by rw [HA.out.2.1]; exact Nat.le_refl _) (by rw [HA.out.2.1]; omega) hf13
  have H3 := Lib.hid (And.intro hw3 hf03)
  clear hw3 hf3 hf13 hf03 HB1 HB2 HF2
  go_wp2_with fail
  go_loopg [4, 17] (n - 0) (fun g m i wr => FxdInv w3 w3.heap.size toks g m i wr)
  case atStart => exact ⟨0, Nat.zero_le _, by rw [HA.out.1], rfl, Row.nil _ _ _ _ _, Frm.refl _ _⟩
  case round =>
    obtain ⟨k, hk, hg, rfl, hown, hf⟩ := hrel
    by_cases hlt : k < n
    · have hkl : k < toks.length := by rw [← HA.out.1]; exact hlt
      obtain ⟨g', htb, t0, t1, t2⟩ := ((HT.out.1.keep H3.out.2 (fun _ _ e => e)).keep hf (fun _ _ e => e)).cells k hkl
      subst htb
      obtain ⟨t, htt⟩ : ∃ t, t = toks[k] := ⟨_, rfl⟩
      rw [← htt] at t0 t1 t2
      have hts : toks[k]? = some t := by rw [htt]; exact List.getElem?_eq_getElem hkl
      obtain ⟨q0, hq0⟩ : ∃ q, q = tokC0 t := ⟨_, rfl⟩
      obtain ⟨q1, hq1⟩ : ∃ q, q = tokC1 t := ⟨_, rfl⟩
      obtain ⟨q2, hq2⟩ : ∃ q, q = tokC2 t := ⟨_, rfl⟩
      have u0 : wr.cell? ⟨g', k * 3, none⟩ = some (.int .i64 (q0 : Int)) := by rw [hq0]; exact t0
      have u1 : wr.cell? ⟨g', k * 3 + 1, none⟩ = some (.int .i64 (q1 : Int)) := by rw [hq1]; exact t1
      have u2 : wr.cell? ⟨g', k * 3 + 2, none⟩ = some (.int .i64 (q2 : Int)) := by rw [hq2]; exact t2
      obtain ⟨W4, hW4⟩ : ∃ W4, W4 = wr.alloc (.cells #[.int .i64 (q0 : Int), .int .i64 (q1 : Int), .int .i64 (q2 : Int)] 87) := ⟨_, rfl⟩
      have hf4 : Frm (fun _ _ => False) wr W4 := by rw [hW4]; exact (Frm.refl _ _).alloc _
      obtain ⟨B, hB⟩ : ∃ B, B = wr.heap.size := ⟨_, rfl⟩
      have v0 : W4.cell? ⟨B, 0, none⟩ = some (.int .i64 (q0 : Int)) := by rw [hW4, hB]; exact (cells_at (heap_alloc_new wr _)).trans rfl
      have v1 : W4.cell? ⟨B, 1, none⟩ = some (.int .i64 (q1 : Int)) := by rw [hW4, hB]; exact (cells_at (heap_alloc_new wr _)).trans rfl
      have v2 : W4.cell? ⟨B, 2, none⟩ = some (.int .i64 (q2 : Int)) := by rw [hW4, hB]; exact (cells_at (heap_alloc_new wr _)).trans rfl
      obtain ⟨v', w', hrun, hown', hfr⟩ := append_token W4 w3.heap.size _ _ (hown.keep hf4 (fun _ _ _ e => e)) t (by rw [List.length_take]; have := HT.out.2.1; omega) (hf.trans hf4).size
      have hf' := OwnT.fresh (hown.keep hf4 (fun _ _ _ e => e)) (hf.trans hf4) (Nat.le_refl _) hfr
      have hr : ∀ ty, (Builtin.append_ #[77, 77] ty #[u4, .slice (some ⟨W4.heap.size, 0, none⟩) 1 1]).run Tryd.prog (W4.alloc (.cells #[.int .i64 (q0 : Int), .int .i64 (q1 : Int), .int .i64 (q2 : Int)] 89)) = .ok v' w' := by
        rw [hq0, hq1, hq2]; exact hrun
      have htake : toks.take (k + 1) = toks.take k ++ [t] := by rw [List.take_add_one, hts]; rfl
      have hown2 : OwnT 89 w' w3.heap.size v' (toks.take (k + 1)) := by rw [htake]; exact hown'
      have HR := Lib.hid (And.intro hg (And.intro hown2 hf'))
      clear hk hg hown hf hkl htt t0 t1 t2 hts hq0 hq1 hq2 hf4 hrun hown' hfr hf' htake hown2
      go_upto_region 8 with (fail)
      rw [← hW4, ← hB]
      clear hW4 hB
      go_wp2_with (at_builtin; refine wpList_append_by (by rfl) (.tmp 21) (.tmp 29) 77 (by rfl) _ _ (by rfl) (by rfl) (hr _) ?_)
      clear hr
      go_roundg (n - (k + 1))
      case measure => have := HR.out.1; have := HA.out.1; omega
      case rel => exact ⟨k + 1, by have := HA.out.1; omega, by rw [HA.out.1], by go_num, HR.out.2.1, HR.out.2.2⟩
    · obtain rfl : k = n := by have := HA.out.1; omega
      have hown2 : OwnT 89 wr w3.heap.size u4 toks := by
        have := hown
        rw [HA.out.1, List.take_length] at this
        exact this
      have HR := Lib.hid (And.intro hown2 hf)
      clear hlt hown hf hg hk hown2
      have hd : decide (k < k) = false := by simp
      go_wp2_with fail
      refine (fixed_any wr).mono ?_
      rintro e w5 ⟨v1, v2, rfl, h1, h2, hf5⟩
      obtain ⟨hown2, hf⟩ := HR.out
      have hown5 := hown2.keep hf5 (fun _ _ _ e => e)
      obtain ⟨b3, cp3, hv3, _, hnt3, hlt3⟩ := OwnT.tks hown5
      obtain ⟨b1, cp1, hv1, _, hnt1⟩ := OwnN.nt h1
      obtain ⟨b2, cp2, hv2, _, hnt2⟩ := OwnN.nt h2
      subst hv1 hv2
      have e1 : fixedLens.length = 288 := fixedLens_length
      have e2 : fixedDist.length = 32 := by unfold fixedDist; rw [List.length_replicate]
      have hWlt : W < w3.heap.size := H3.out.1.lt
      have hwt5 : Wt w5 (W + 1) W ([true] ++ enc 1 2) := H3.out.1.keep (hf.trans hf5) (fun _ e => e) (fun _ _ _ e => e)
      have hbd := body_any w5 (W + 1) W _ hwt5 (by omega) (Nat.le_trans (Nat.le_trans (by omega) hf.size) hf5.size) (by simp [enc_len]) b3 toks cp3 hnt3 (fun a ha e => by have := (hlt3 a ha).1; omega) (by have := HT.out.2.1; omega)
        b1 fixedLens cp1 hnt1 (fun a ha e => by subst ha; have := (h1.lt a.block rfl).1; have := hf.size; omega) fixedLens_le (by omega) (by omega)
        b2 fixedDist cp2 hnt2 (fun a ha e => by subst ha; have := (h2.lt a.block rfl).1; have := hf.size; omega) fixedDist15 (by omega) (by omega) (tokIn_fixed HT.out.2.2) (fixedLens_ne0 256 (by omega))
      rw [← HA.out.1] at hv3 hbd
      rw [e1, e2] at hbd
      have HBD := Lib.hid hbd
      have HF5 := Lib.hid (And.intro hf hf5)
      have HV3 := Lib.hid hv3
      clear hown2 hf hown5 hnt3 hlt3 h1 h2 hf5 hnt1 hnt2 hWlt hwt5 hbd HR
      rw [e1, e2]
      clear e1 e2
      subst hv3
      go_wp2_with fail
      refine HBD.out.mono ?_
      rintro e w6 ⟨rfl, hw6, hf6⟩
      obtain ⟨⟨v6, hv6, ho6⟩, hat6, hfr6⟩ := hw6
      have HO6 := Lib.hid (And.intro ho6 hf6)
      clear ho6 hat6 hfr6 hf6
      go_wp2_with fail
      go_ret
      obtain ⟨ho6, hf6⟩ := HO6.out
      have hall : Frm (fun _ _ => False) w w6 := frm_new ((H3.out.2.trans HF5.out.1).trans HF5.out.2) (by rw [HA.out.2.1]; exact Nat.le_refl _) (by rw [HA.out.2.1]; omega) hf6
      exact ⟨v6, rfl, ho6.lower (by rw [HA.out.2.1]; omega), hall⟩

end Go.Proofs.YthfncdfcklbigaaDoor

/-
  THE WALK OF 'spec.Deflate': data behind a dictionary, in blocks of each kind.
-/
namespace Go.Proofs.YthfncdfcklbigaaDoor
open Go.RowKit Go.IntWalk Flate
set_option maxRecDepth 100000

theorem xor_ffff (n : Nat) (h : n < 65536) : n ^^^ 65535 = 65535 - n := by
  have h1 := BitVec.xor_allOnes (x := BitVec.ofNat 16 n)
  have h2 := congrArg BitVec.toNat h1
  rw [BitVec.toNat_xor, BitVec.toNat_not, BitVec.toNat_allOnes, BitVec.toNat_ofNat, Nat.mod_eq_of_lt h] at h2
  simp at h2
  exact h2

theorem i64_xor_ffff (n : Nat) (h : n ≤ 65535) : bits .xor .i64 (n : Int) 65535 = ((65535 - n : Nat) : Int) := by
  rw [show (65535 : Int) = ((65535 : Nat) : Int) from rfl]
  show IntKind.i64.wrap ((BitVec.ofInt 64 (n : Int) ^^^ BitVec.ofInt 64 ((65535 : Nat) : Int)).toNat : Int) = _
  have ea : (BitVec.ofInt 64 (n : Int)).toNat = n := by rw [BitVec.toNat_ofInt]; omega
  have eb : (BitVec.ofInt 64 ((65535 : Nat) : Int)).toNat = 65535 := by rw [BitVec.toNat_ofInt]; omega
  rw [BitVec.toNat_xor, ea, eb, xor_ffff n (by omega)]
  exact i64_in _ (by omega)

/-- The last part of a dictionary. -/
def DfDict (w : World) (dict : List UInt8) (s : Value) (wq : World) : Prop :=
  ∃ b c, s = .slice b (lastOf dict).length c ∧ Bt w b (lastOf dict) c ∧ w = wq

/-- The writer, the choices and all the data lie there. -/
def DfAll (w : World) (A : List UInt8) (l : List Int) (C0 W : Nat) (s : Value) (wq : World) : Prop :=
  ∃ ab ac, s = .slice ab A.length ac ∧ Bt wq ab A ac ∧ (∀ a, ab = some a → a.block ≠ C0 ∧ a.block ≠ W) ∧ Wt wq wq.heap.size W [] ∧ Chs wq w.heap.size C0 l 0 ∧ W < wq.heap.size ∧ Frm (fun _ _ => False) w wq

/-- Between two blocks. -/
def DfInv (w5 : World) (M C0 W : Nat) (l : List Int) (d2 A : List UInt8) (G0 g : Nat) (cv fv : Value) (wr : World) : Prop :=
  ∃ (fr k C : Nat) (lx : List Int) (fresh : Bool) (L : List Bool), fv = .int .i64 (fr : Int) ∧ cv = .pointer (some ⟨C, 0, none⟩) ∧ d2.length ≤ fr ∧ fr ≤ A.length ∧ Chs wr M C lx k ∧ (C = C0 ∨ w5.heap.size ≤ C) ∧ k ≤ 20000 ∧ (fresh = true → k = 0 ∧ lx = []) ∧
    Wt wr w5.heap.size W L ∧ Blks d2 L (A.take fr) ∧ L.length ≤ 5200 * (G0 - g) + 60 * (fr - d2.length) ∧ g ≤ G0 ∧ g = dG (A.length - fr) fresh k ∧ Frm (fun b _ => b = C0 ∨ b = W) w5 wr

/-- How much goes into the next block. -/
def DfN (wr : World) (M C : Nat) (lx : List Int) (k rest : Nat) (s : Value) (wq : World) : Prop :=
  ∃ n k1 : Nat, s = .int .i64 (n : Int) ∧ n ≤ rest ∧ n ≤ 65535 ∧ Chs wq M C lx k1 ∧ k < k1 ∧ k1 ≤ k + 2 ∧ (lx = [] → k = 0 → k1 = 1 ∧ n = min rest 65535) ∧ Frm (fun b _ => b = C) wr wq

/-- Whether it is the last one. -/
def DfLast (wr : World) (M C : Nat) (lx : List Int) (k1 : Nat) (all : Prop) (s : Value) (wq : World) : Prop :=
  ∃ (b : Bool) (k2 : Nat), s = .int .i64 (b.toNat : Int) ∧ (b = true → all) ∧ (lx = [] → k1 = 1 → all → b = true) ∧ Chs wq M C lx k2 ∧ k1 ≤ k2 ∧ k2 ≤ k1 + 1 ∧ Frm (fun b _ => b = C) wr wq

/-- A block is written. -/
def DfBlk (w4 : World) (N0 W M C : Nat) (lx : List Int) (k4 : Nat) (L : List Bool) (H H' : List UInt8) (last : Bool) (n : Nat) (wq : World) : Prop :=
  ∃ (B : List Bool) (k5 : Nat), Wt wq N0 W (L ++ B) ∧ Blk L.length H last B H' ∧ B.length ≤ 5200 + 60 * n ∧ Chs wq M C lx k5 ∧ k4 ≤ k5 ∧ Frm (fun b o => b = C ∨ SWr w4 N0 W b o) w4 wq

/-- What 'Deflate' gives. -/
def DfPost (w : World) (dict data : List UInt8) (e : Ending) (w' : World) : Prop :=
  ∃ v L, e = .returned v ∧ Own w' w.heap.size v (pack L) ∧ Flate.Data (lastOf dict) L (lastOf dict ++ data) ∧ (pack L).length ≤ 549755813888 ∧ 0 < (pack L).length ∧ Frm (fun _ _ => False) w w'

theorem blk_pos {a : Nat} {H H' : List UInt8} {last : Bool} {B : List Bool} (h : Blk a H last B H') : 0 < B.length := by
  cases h <;> simp <;> omega

/-- New choices from a row that came in. -/
theorem chs_made {w : World} {lb : Option Addr} {l : List Int} {lc : Nat} (hl : It w lb l lc) (hll : l.length ≤ 2147483647) : Chs (w.alloc (.cells #[.slice lb l.length lc, .int .i64 0] 70)) w.heap.size w.heap.size l 0 := by
  have hc : ∀ o, (w.alloc (.cells #[.slice lb l.length lc, .int .i64 0] 70)).cell? ⟨w.heap.size, o, none⟩ = (#[.slice lb l.length lc, .int .i64 0] : Array Value)[o]? := fun o => cells_at (heap_alloc_new w _)
  exact ⟨⟨lb, lc, (hc 0).trans rfl, hl.keep ((Frm.refl _ _).alloc _), fun a ha => ⟨by have := hl.lt a ha; omega, hl.lt a ha⟩⟩, (hc 1).trans rfl, fun o => World.frozen?_alloc_new (w := w) .., hll⟩

theorem bytes_take {w : World} {b : Option Addr} {l : List UInt8} (h : Bytes w b l) (m : Nat) : Bytes w b (l.take m) := by
  cases b with
  | none => have : l = [] := h; subst this; rw [List.take_nil]; rfl
  | some a =>
    refine ⟨h.1, fun j hj => ?_⟩
    rw [List.length_take] at hj
    rw [h.2 j (by omega), List.getElem_take]

theorem run_head_bytes {w : World} {b : Option Addr} {l : List UInt8} {cap : Nat} (h : Bt w b l cap) (m : Nat) (hm : m ≤ l.length) (w' : World) :
    (Instr.sliceAt 22 (.slice b l.length cap) none (some (.int .i64 (m : Int))) none).run Tryd.prog w' = .ok (.slice b m cap) w' := by
  have hsz : ∀ w : World, (sizeOf (Tryd.prog.elem 22)).run Tryd.prog w = .ok 1 w := fun w => by kernel_rfl
  have hu : Tryd.prog.underlying 22 = some (.slice (Tryd.prog.elem 22)) := by kernel_rfl
  have hcap := h.hcap
  rw [run_sliceAt_slice w' _ _ _ _ _ hu, run_slice_h w' _ _ _ _ hu _ _ (by omega) (by omega), hsz]
  simp only [Result.andThen, sliced, Int.toNat_natCast, Nat.sub_zero]
  cases b with
  | none => simp
  | some a => by_cases h : cap = 0 <;> simp [h, Addr.add]

/-- What turns the choices and a writer, one step behind another. -/
theorem frm_CW_trans {a b c : World} {N0 W C : Nat} (h : Frm (fun x o => x = C ∨ SWr a N0 W x o) a b) (k : Frm (fun x o => x = C ∨ SWr b N0 W x o) b c) : Frm (fun x o => x = C ∨ SWr a N0 W x o) a c := by
  refine h.trans' k fun x o hx q => ?_
  by_cases hS : x = C ∨ SWr a N0 W x o
  · exact hS
  · refine .inr (.inr ?_)
    rcases q with q | q | ⟨q, hq⟩
    · exact absurd (.inl q) hS
    · exact absurd (.inr (.inl q)) hS
    · refine ⟨q, fun o' u hu => hq o' u ?_⟩
      have hS' : ¬ (x = C ∨ SWr a N0 W x o') := hS
      rw [h.cell x o' hx hS']; exact hu

/-- The frame of all blocks. -/
theorem df_frm {w5 wr w6 : World} {C C0 W : Nat} (hC : C = C0 ∨ w5.heap.size ≤ C) (h : Frm (fun b _ => b = C0 ∨ b = W) w5 wr) (k : Frm (fun b o => b = C ∨ SWr wr w5.heap.size W b o) wr w6) : Frm (fun b _ => b = C0 ∨ b = W) w5 w6 :=
  h.trans' k fun x o hx q => by
    rcases q with q | q | ⟨q, _⟩
    · rcases hC with e | e
      · exact .inl (q.trans e)
      · omega
    · exact .inr q
    · omega

theorem run_midB {w : World} {b : Option Addr} {l : List UInt8} {cap : Nat} (h : Bt w b l cap) (m1 m2 : Nat) (h12 : m1 ≤ m2) (h2 : m2 ≤ l.length) :
    ∃ b', (∀ w' : World, (Instr.sliceAt 22 (.slice b l.length cap) (some (.int .i64 (m1 : Int))) (some (.int .i64 (m2 : Int))) none).run Tryd.prog w' = .ok (.slice b' (m2 - m1) (cap - m1)) w') ∧ Bt w b' ((l.take m2).drop m1) (cap - m1) := by
  have hsz : ∀ w : World, (sizeOf (Tryd.prog.elem 22)).run Tryd.prog w = .ok 1 w := fun w => by kernel_rfl
  have hu : Tryd.prog.underlying 22 = some (.slice (Tryd.prog.elem 22)) := by kernel_rfl
  have hcap := h.hcap
  have hl : (l.take m2).length = m2 := by rw [List.length_take]; omega
  have ht : Bt w b (l.take m2) cap := ⟨bytes_take h.bytes m2, by rw [hl]; omega, h.lt, h.nilc⟩
  obtain ⟨b', hr, hb⟩ := run_tailB ht m1 (by rw [hl]; exact h12)
  refine ⟨b', fun w' => ?_, hb⟩
  have hb' : (if cap = m1 then b else b.map (·.add m1)) = b' := by
    have := hr w
    rw [run_sliceAt_slice w _ _ _ _ _ hu, run_slice_l w _ _ _ _ hu _ _ (by omega) (by rw [hl]; omega), hsz] at this
    simp only [Result.andThen, sliced, Int.toNat_natCast, Nat.mul_one] at this
    exact congrArg (fun r : Result Value => match r with | .ok (.slice b _ _) _ => b | _ => none) this
  rw [run_sliceAt_slice w' _ _ _ _ _ hu, run_slice_lh w' _ _ _ _ hu _ _ _ _ (by omega) (by omega) (by omega), hsz]
  simp only [Result.andThen, sliced, Int.toNat_natCast, Nat.mul_one]
  rw [hb']

set_option maxHeartbeats 4000000 in
theorem deflate_any (w : World) (base : Option Addr) (data : List UInt8) (cap : Nat) (hs : Bt w base data cap) (dbase : Option Addr) (dict : List UInt8) (dcap : Nat) (hd : Bt w dbase dict dcap) (lb : Option Addr) (l : List Int) (lc : Nat) (hl : It w lb l lc) (hdl : data.length ≤ 2147483647) (hdd : dict.length ≤ 2147483647) (hll : l.length ≤ 2147483647) :
    Calls Tryd.prog 21 #[.slice base data.length cap, .slice dbase dict.length dcap, .slice lb l.length lc] w (DfPost w dict data) := by
  have HS := Lib.hid hs
  have HD := Lib.hid hd
  have HL := Lib.hid hl
  have HLL := Lib.hid hll
  obtain ⟨n1, hn1⟩ : ∃ n1, n1 = data.length := ⟨_, rfl⟩
  obtain ⟨n2, hn2⟩ : ∃ n2, n2 = dict.length := ⟨_, rfl⟩
  obtain ⟨n3, hn3⟩ : ∃ n3, n3 = l.length := ⟨_, rfl⟩
  have hb1 : n1 ≤ 2147483647 := by omega
  have hb2 : n2 ≤ 2147483647 := by omega
  have hb3 : n3 ≤ 2147483647 := by omega
  have c1 : (n1 : Int) ≤ 2147483647 := by omega
  have c2 : (n2 : Int) ≤ 2147483647 := by omega
  have c3 : (n3 : Int) ≤ 2147483647 := by omega
  rw [← hn1, ← hn2, ← hn3]
  have HN := Lib.hid (And.intro hn1 (And.intro hn2 hn3))
  have HB := Lib.hid (And.intro hb1 (And.intro hb2 hb3))
  clear hn1 hn2 hn3 hs hd hl hdl hdd hll hb1 hb2 hb3
  go_enter Tryd.func21, Tryd.ntmps21
  go_upto_if 19 with (fail)
  go_cut [1] (fun s wq => DfDict w dict s wq)
  case first =>
    by_cases h : 32768 < n2
    · have t1 : decide ((32768 : Int) < (n2 : Int)) = true := by simp; omega
      obtain ⟨q, hq⟩ : ∃ q, q = n2 - 32768 := ⟨_, rfl⟩
      have e1 : (n2 : Int) - 32768 = (q : Int) := by omega
      obtain ⟨b', hrun, hbt⟩ := run_tailB HD.out q (by have := HN.out.2.1; omega)
      have hq1 : dict.length - q = (lastOf dict).length := by unfold lastOf; rw [List.length_drop]; have := HN.out.2.1; omega
      have hq2 : dict.drop q = lastOf dict := by unfold lastOf; rw [hq, HN.out.2.1]
      rw [hq2] at hbt
      rw [hq1, ← HN.out.2.1] at hrun
      have HX := Lib.hid (show DfDict w dict (.slice b' (lastOf dict).length (dcap - q)) w from ⟨b', dcap - q, rfl, hbt, rfl⟩)
      clear hq hbt hq1 hq2 h
      rw [t1]
      clear t1
      go_wp2_with fail
      go_meet
      case rel => exact HX.out
    · have t1 : decide ((32768 : Int) < (n2 : Int)) = false := by simp; omega
      have hq2 : lastOf dict = dict := by unfold lastOf; have := HN.out.2.1; rw [show dict.length - 32768 = 0 by omega]; rfl
      have HX := Lib.hid (show DfDict w dict (.slice dbase n2 dcap) w from ⟨dbase, dcap, by rw [hq2, HN.out.2.1], by rw [hq2]; exact HD.out, rfl⟩)
      clear hq2 h
      rw [t1]
      clear t1
      go_wp2_with fail
      go_meet
      case rel => exact HX.out
  obtain ⟨b2, cp2, rfl, hbt2, rfl⟩ := hcut
  apply_assumption
  obtain ⟨d2, hd2⟩ : ∃ d2, d2 = lastOf dict := ⟨_, rfl⟩
  rw [← hd2] at hbt2 ⊢
  obtain ⟨m2, hm2⟩ : ∃ m2, m2 = d2.length := ⟨_, rfl⟩
  have hm2b : m2 ≤ 32768 := by rw [hm2, hd2]; unfold lastOf; rw [List.length_drop]; omega
  rw [← hm2]
  obtain ⟨A, hA⟩ : ∃ A, A = d2 ++ data := ⟨_, rfl⟩
  obtain ⟨nA, hnA⟩ : ∃ nA, nA = A.length := ⟨_, rfl⟩
  have hnA2 : nA = m2 + n1 := by rw [hnA, hA, List.length_append, hm2, HN.out.1]
  obtain ⟨w1, hw1⟩ : ∃ x, x = w.alloc (.cells #[.slice lb n3 lc, .int .i64 0] 70) := ⟨_, rfl⟩
  obtain ⟨w2, hw2⟩ : ∃ x, x = w1.alloc (.cells #[.slice none 0 0, .int .i64 0] 73) := ⟨_, rfl⟩
  obtain ⟨C0, hC0⟩ : ∃ x, x = w.heap.size := ⟨_, rfl⟩
  obtain ⟨W, hW⟩ : ∃ x, x = w.heap.size + 1 := ⟨_, rfl⟩
  have hs1 : w1.heap.size = w.heap.size + 1 := by rw [hw1]; simp
  have hs2 : w2.heap.size = w.heap.size + 2 := by rw [hw2]; simp [hs1]
  have hch1 : Chs w1 w.heap.size C0 l 0 := by rw [hw1, hC0, HN.out.2.2]; exact chs_made HL.out HLL.out
  have hf01 : Frm (fun _ _ => False) w w1 := by rw [hw1]; exact (Frm.refl _ _).alloc _
  have hf12 : Frm (fun _ _ => False) w1 w2 := by rw [hw2]; exact (Frm.refl _ _).alloc _
  have hwc : ∀ o, w2.cell? ⟨W, o, none⟩ = (#[.slice none 0 0, .int .i64 0] : Array Value)[o]? := fun o => by rw [hw2, hW, ← hs1]; exact cells_at (heap_alloc_new w1 _)
  have hwz : ∀ o, w2.frozen? ⟨W, o, none⟩ = false := fun o => by rw [hw2, hW, ← hs1]; exact World.frozen?_alloc_new (w := w1) ..
  have hf23 : Frm (fun _ _ => False) w2 (w2.alloc (.cells #[] 5)) := (Frm.refl _ _).alloc _
  have ho3 : Own (w2.alloc (.cells #[] 5)) w2.heap.size (.slice (some ⟨w2.heap.size, 0, none⟩) 0 0) [] := own_new w2 [] (by simp)
  have hf03 := (hf01.trans hf12).trans hf23
  obtain ⟨v4, w4, hr4, ho4, hfr4, _⟩ := append_bt _ w2.heap.size _ [] ho3 b2 d2 cp2 (hbt2.keep hf03) (by simp only [List.length_nil]; omega) hf23.size
  have hf4 := ho3.fresh hf23 (Nat.le_refl _) hfr4
  obtain ⟨v5, w5, hr5, ho5, hfr5, _⟩ := append_bt w4 w2.heap.size v4 _ ho4 base data cap (HS.out.keep ((hf01.trans hf12).trans hf4)) (by rw [List.nil_append]; have := HB.out.1; have := HN.out.1; omega) hf4.size
  have hf5 := ho4.fresh hf4 (Nat.le_refl _) hfr5
  rw [List.nil_append, ← hA] at ho5
  rw [← hm2] at hr4
  rw [← HN.out.1] at hr5
  have hrel : DfAll w A l C0 W v5 w5 := by
    obtain ⟨ab, ac, rfl, hbtA⟩ := ho5.bt
    have hf25 : Frm (fun _ _ => False) w2 w5 := hf5
    refine ⟨ab, ac, rfl, hbtA, fun a ha => ?_, ⟨⟨_, hf25.keep ((hwc 0).trans rfl) (fun e => e), Row.nil _ _ _ _ _⟩, hf25.keep ((hwc 1).trans rfl) (fun e => e), fun o => (hf25.froz W o (by omega)).trans (hwz o)⟩, (hch1.keep0 hf12).keep0 hf25, by have := hf25.size; omega, (hf01.trans hf12).trans hf25⟩
    have hg : Value.ownBlock (.slice ab A.length ac) = some a.block := by subst ha; rfl
    have := (ho5.lt a.block hg).1
    omega
  have HR := Lib.hid hrel
  have HA := Lib.hid (And.intro hd2 (And.intro hm2 (And.intro hA (And.intro hnA (And.intro hC0 hW)))))
  have hr4' := fun ty => hr4 ty
  have hr5' := fun ty => hr5 ty
  have hWC : C0 + 1 = W := by rw [hC0, hW]
  clear hbt2 hd2 hm2 hA hnA hs1 hs2 hch1 hf01 hf12 hwc hwz hf23 ho3 hf03 hr4 ho4 hfr4 hf4 hr5 ho5 hfr5 hf5 hrel
  have H45 := Lib.hid (And.intro hr4' hr5')
  clear hr4' hr5'
  go_upto_region 5 with (fail)
  rw [← hw1, ← hw2, ← hC0, hWC]
  clear hw1 hw2 hWC
  go_cut [9] (fun s wq => DfAll w A l C0 W s wq)
  case first => as_aux_lemma =>
    obtain ⟨hr4, hr5⟩ := H45.out
    clear hC0 hW
    go_wp2_with (at_builtin; first | refine wpList_append_by (by rfl) (.tmp 30) (.tmp 31) 22 (by rfl) _ _ (by rfl) (by rfl) (hr4 _) ?_ | refine wpList_append_by (by rfl) (.tmp 32) (.tmp 33) 22 (by rfl) _ _ (by rfl) (by rfl) (hr5 _) ?_)
    go_meet
    case rel => exact HR.out
  clear H45 HR
  obtain ⟨ab, ac, rfl, hbA, habn, hwt, hch, hWl, hf5⟩ := hcut
  obtain ⟨w5, rfl⟩ : ∃ wr, wr = wc := ⟨_, rfl⟩
  rw [← HA.out.2.2.2.1]
  apply_assumption
  have H5 := Lib.hid (And.intro hbA (And.intro habn (And.intro hwt (And.intro hch (And.intro hWl hf5)))))
  have hd2A : m2 ≤ nA := by omega
  have hnAb : nA ≤ 2147516415 := by have := HB.out.1; omega
  have c4 : (nA : Int) ≤ 2147516415 := by omega
  have c5 : (m2 : Int) ≤ 32768 := by omega
  obtain ⟨G0, hG0⟩ : ∃ G0, G0 = dG (nA - m2) false 0 := ⟨_, rfl⟩
  have hG0b : G0 ≤ 655445537 := by
    have h1 := dG_le (nA - m2) false 0
    have h2 : (nA - m2) / 65535 ≤ 2147483647 / 65535 := Nat.div_le_div_right (by have := HB.out.1; omega)
    omega
  have HG := Lib.hid (And.intro hG0 (And.intro hG0b (And.intro hd2A (And.intro hnAb (And.intro hnA2 hm2b)))))
  clear hbA habn hwt hch hWl hf5 hG0 hG0b hd2A hnAb hnA2 hm2b hC0 hW
  go_wp2_with fail
  go_loopg [7, 10] G0 (fun g cv fv wr => DfInv w5 w.heap.size C0 W l d2 A G0 g cv fv wr)
  case atStart =>
    obtain ⟨hbA, habn, hwt, hch, hWl, hf5⟩ := H5.out
    obtain ⟨hG0, hG0b, hd2A, hnAb, hnA2, hm2b⟩ := HG.out
    obtain ⟨hd2, hm2, hA, hnA, hC0, hW⟩ := HA.out
    refine ⟨m2, 0, C0, l, false, [], rfl, rfl, by omega, by omega, hch, .inl rfl, by omega, fun h => by simp at h, hwt, ?_, by simp, Nat.le_refl _, by rw [hG0, ← hnA], Frm.refl _ _⟩
    rw [hA, hm2, List.take_left]; exact .nil
  case round =>
    obtain ⟨fr, k, C, lx, fresh, L, rfl, rfl, h1, h2, hC, hCC, hk, hfresh, hWr, hBk, hLl, hg1, hg2, hf⟩ := hrel
    obtain ⟨rest, hrest⟩ : ∃ r, r = nA - fr := ⟨_, rfl⟩
    have hfn : fr ≤ nA := by rw [HA.out.2.2.2.1]; exact h2
    have e1 : (nA : Int) - (fr : Int) = (rest : Int) := by omega
    have c6 : (fr : Int) ≤ (nA : Int) := by omega
    have c7 : (rest : Int) ≤ 2147516415 := by omega
    have HR := Lib.hid (And.intro h1 (And.intro h2 (And.intro hC (And.intro hCC (And.intro hk (And.intro hfresh (And.intro hWr (And.intro hBk (And.intro hLl (And.intro hg1 (And.intro hg2 (And.intro hf (And.intro hrest hfn)))))))))))))
    clear h1 h2 hC hCC hk hfresh hWr hBk hLl hg1 hg2 hf hrest hfn
    go_upto_region 7 with (fail)
    go_cut [11] (fun s wq => s = .int .i64 ((min rest 65535 : Nat) : Int) ∧ wr = wq)
    case first => as_aux_lemma =>
      go_wp2_with fail
      all_goals
        go_meet
        case rel => exact ⟨by first | (rw [show min rest 65535 = rest by omega]) | (rw [show min rest 65535 = 65535 by omega]; rfl), rfl⟩
    obtain ⟨rfl, rfl⟩ := hcut
    obtain ⟨wr, rfl⟩ : ∃ x, x = wr := ⟨_, rfl⟩
    apply_assumption
    obtain ⟨n0, hn0⟩ : ∃ n0, n0 = min rest 65535 := ⟨_, rfl⟩
    rw [← hn0]
    have c8 : (n0 : Int) ≤ 65535 := by omega
    have HN0 := Lib.hid hn0
    clear hn0 e1
    refine wp_seq_k ?_
    intro K1 hK1
    go_cut [11] (fun s wq => DfN wr w.heap.size C lx k rest s wq)
    case first => as_aux_lemma =>
      have hn3 : Calls Tryd.prog 39 #[.pointer (some ⟨C, 0, none⟩), .int .i64 3] wr fun e w' => ∃ v : Nat, e = .returned (natV v) ∧ v < 3 ∧ (lx = [] → v = k % 3) ∧ Chs w' w.heap.size C lx (k + 1) ∧ Frm (fun b _ => b = C) wr w' := next_any wr w.heap.size C lx k HR.out.2.2.1 3 (by omega) (by omega) (by have := HR.out.2.2.2.2.1; omega)
      have HN3 := Lib.hid hn3
      clear hn3
      go_wp2_with fail
      refine HN3.out.mono ?_
      rintro e w1 ⟨v1, rfl, hv1, hz1, hC1, hf1⟩
      have c9 : (v1 : Int) ≤ 2 := by omega
      have H1 := Lib.hid (And.intro hC1 (And.intro hf1 hz1))
      clear hC1 hf1 hv1 hz1
      by_cases hv : v1 = 0
      · subst hv
        go_wp2_with fail
        go_meet
        case rel => exact ⟨n0, k + 1, rfl, by have := HN0.out; omega, by have := HN0.out; omega, H1.out.1, by omega, by omega, fun _ hk0 => ⟨by omega, HN0.out⟩, H1.out.2.1⟩
      · have d2 : decide ((0 : Int) < (v1 : Int)) = true := by simp; omega
        have d3 : 0 < v1 := by omega
        have HV := Lib.hid hv
        have hn2 : Calls Tryd.prog 39 #[.pointer (some ⟨C, 0, none⟩), .int .i64 200] w1 fun e w' => ∃ v : Nat, e = .returned (natV v) ∧ v < 200 ∧ (lx = [] → v = (k + 1) % 200) ∧ Chs w' w.heap.size C lx (k + 1 + 1) ∧ Frm (fun b _ => b = C) w1 w' := next_any w1 w.heap.size C lx (k + 1) H1.out.1 200 (by omega) (by omega) (by have := HR.out.2.2.2.2.1; omega)
        have HN2 := Lib.hid hn2
        clear hn2 hv
        go_wp2_with fail
        refine HN2.out.mono ?_
        rintro e w2 ⟨v2, rfl, hv2, _, hC2, hf2⟩
        have c10 : (v2 : Int) ≤ 199 := by omega
        have H2 := Lib.hid (And.intro hC2 hf2)
        have hnot : lx = [] → k = 0 → k + 1 + 1 = 1 ∧ min n0 v2 = min rest 65535 := fun q1 q2 => by
          have := H1.out.2.2 q1
          have := HV.out
          omega
        have hrel : DfN wr w.heap.size C lx k rest (.int .i64 ((min n0 v2 : Nat) : Int)) w2 := ⟨min n0 v2, k + 1 + 1, rfl, by have := HN0.out; omega, by have := HN0.out; omega, hC2, by omega, by omega, hnot, H1.out.2.1.trans hf2⟩
        by_cases hle : n0 ≤ v2
        · have t1 : decide (n0 ≤ v2) = true := by simp; omega
          have hm : min n0 v2 = n0 := by omega
          rw [hm] at hrel
          have HX := Lib.hid hrel
          clear hrel hnot hm hC2 hf2 hv2
          go_wp2_with fail
          go_meet
          case rel => exact HX.out
        · have t1 : decide (n0 ≤ v2) = false := by simp; omega
          have hm : min n0 v2 = v2 := by omega
          rw [hm] at hrel
          have HX := Lib.hid hrel
          clear hrel hnot hm hC2 hf2 hv2
          go_wp2_with fail
          go_meet
          case rel => exact HX.out
    obtain ⟨n, k1, rfl, hn1, hn2, hC1, hk1, hk2, hfr, hf1⟩ := hcut
    obtain ⟨w1, rfl⟩ : ∃ x, x = wc := ⟨_, rfl⟩
    refine hK1 _ _ ?_
    have c9 : (n : Int) ≤ 65535 := by omega
    obtain ⟨q, hq⟩ : ∃ q, q = fr + n := ⟨_, rfl⟩
    have hqn : q ≤ nA := by have := HR.out.2.2.2.2.2.2.2.2.2.2.2.2; omega
    have e2 : (fr : Int) + (n : Int) = (q : Int) := by omega
    have c10 : (q : Int) ≤ (nA : Int) := by omega
    have H1 := Lib.hid (And.intro hC1 (And.intro hk1 (And.intro hk2 (And.intro hfr (And.intro hf1 (And.intro hn1 (And.intro hn2 (And.intro hq hqn))))))))
    clear hC1 hk1 hk2 hfr hf1 hn1 hn2 hq hqn
    refine wp_seq_k ?_
    intro K2 hK2
    go_cut [12] (fun s wq => s = .int .i64 0 ∧ w1 = wq)
    case first => as_aux_lemma =>
      go_wp2_with fail
      go_meet
      case rel => exact ⟨rfl, rfl⟩
    obtain ⟨rfl, rfl⟩ := hcut
    obtain ⟨w1, rfl⟩ : ∃ x, x = w1 := ⟨_, rfl⟩
    refine hK2 _ _ ?_
    refine wp_seq_k ?_
    intro K3 hK3
    go_cut [12] (fun s wq => DfLast w1 w.heap.size C lx k1 (q = nA) s wq)
    case first => as_aux_lemma =>
      by_cases hqe : q = nA
      · have t1 : ((q : Int) == (nA : Int)) = true := by simp; omega
        have hn4 : Calls Tryd.prog 39 #[.pointer (some ⟨C, 0, none⟩), .int .i64 4] w1 fun e w' => ∃ v : Nat, e = .returned (natV v) ∧ v < 4 ∧ (lx = [] → v = k1 % 4) ∧ Chs w' w.heap.size C lx (k1 + 1) ∧ Frm (fun b _ => b = C) w1 w' := next_any w1 w.heap.size C lx k1 H1.out.1 4 (by omega) (by omega) (by have := HR.out.2.2.2.2.1; have := H1.out.2.2.1; omega)
        have HN4 := Lib.hid hn4
        have HQ := Lib.hid hqe
        clear hn4 hqe
        go_wp2_with fail
        refine HN4.out.mono ?_
        rintro e w2 ⟨v2, rfl, hv2, hz2, hC2, hf2⟩
        have c11 : (v2 : Int) ≤ 3 := by omega
        have H2 := Lib.hid (And.intro hC2 (And.intro hf2 hz2))
        clear hC2 hf2 hv2 hz2
        by_cases hv : v2 = 0
        · subst hv
          go_wp2_with fail
          go_meet
          case rel => exact ⟨false, k1 + 1, rfl, fun h => by simp at h, fun q1 q2 _ => by have := H2.out.2.2 q1; omega, H2.out.1, by omega, by omega, H2.out.2.1⟩
        · have d2 : decide ((0 : Int) < (v2 : Int)) = true := by simp; omega
          have d3 : 0 < v2 := by omega
          clear hv
          go_wp2_with fail
          go_meet
          case rel => exact ⟨true, k1 + 1, rfl, fun _ => HQ.out, fun _ _ _ => rfl, H2.out.1, by omega, by omega, H2.out.2.1⟩
      · have t1 : ((q : Int) == (nA : Int)) = false := by simp; omega
        have HQ := Lib.hid hqe
        clear hqe
        go_wp2_with fail
        go_meet
        case rel => exact ⟨false, k1, rfl, fun h => by simp at h, fun _ _ h => absurd h HQ.out, H1.out.1, by omega, by omega, Frm.refl _ _⟩
    obtain ⟨b, k2, rfl, hb1, hb2, hC2, hk3, hk4, hf2⟩ := hcut
    obtain ⟨w2, rfl⟩ : ∃ x, x = wc := ⟨_, rfl⟩
    refine hK3 _ _ ?_
    obtain ⟨lt, hlt⟩ : ∃ lt, lt = b.toNat := ⟨_, rfl⟩
    rw [← hlt]
    have hlt1 : lt ≤ 1 := by rw [hlt]; exact Bool.toNat_le b
    have hltb : (lt % 2 == 1) = b := by rw [hlt]; cases b <;> rfl
    have c11 : (lt : Int) ≤ 1 := by omega
    have hCW : C ≠ W := by
      have := H5.out.2.2.2.2.1
      have := HA.out.2.2.2.2
      rcases HR.out.2.2.2.1 with e | e <;> omega
    have hf02 : Frm (fun b _ => b = C) wr w2 := H1.out.2.2.2.2.1.trans hf2
    have hwt2 : Wt w2 w5.heap.size W L := HR.out.2.2.2.2.2.2.1.keepC HR.out.2.2.1 hCW hf02
    have hW5 : W < w5.heap.size := H5.out.2.2.2.2.1
    have hN2 : w5.heap.size ≤ w2.heap.size := Nat.le_trans HR.out.2.2.2.2.2.2.2.2.2.2.2.1.size hf02.size
    have hLb : L.length ≤ 3538000000000 := by
      have := HR.out.2.2.2.2.2.2.2.2.1
      have := HG.out; have := HR.out.2.1; have := HA.out.2.2.2.1; have := HA.out.2.1
      omega
    have hbt := bit_any w2 w5.heap.size W L hwt2 hW5 hN2 (by omega) lt (by omega)
    rw [hltb] at hbt
    have HBT := Lib.hid hbt
    have H2 := Lib.hid (And.intro hb1 (And.intro hb2 (And.intro hC2 (And.intro hk3 (And.intro hk4 (And.intro hf02 (And.intro hCW (And.intro hW5 (And.intro hN2 (And.intro hLb hlt))))))))))
    clear hb1 hb2 hC2 hk3 hk4 hf2 hlt hlt1 hltb hCW hf02 hwt2 hW5 hN2 hLb hbt
    go_wp2_with fail
    refine HBT.out.mono ?_
    rintro e w3 ⟨rfl, hw3, hf3⟩
    have hC3 : Chs w3 w.heap.size C lx k2 := H2.out.2.2.1.keepW hf3 H2.out.2.2.2.2.2.2.1 (by have := HA.out.2.2.2.2; omega)
    have hn5 : Calls Tryd.prog 39 #[.pointer (some ⟨C, 0, none⟩), .int .i64 3] w3 fun e w' => ∃ v : Nat, e = .returned (natV v) ∧ v < 3 ∧ (lx = [] → v = k2 % 3) ∧ Chs w' w.heap.size C lx (k2 + 1) ∧ Frm (fun b _ => b = C) w3 w' := next_any w3 w.heap.size C lx k2 hC3 3 (by omega) (by omega) (by have := HR.out.2.2.2.2.1; have := H1.out.2.2.1; have := H2.out.2.2.2.2.1; omega)
    have HN5 := Lib.hid hn5
    have H3 := Lib.hid (And.intro hw3 (And.intro hf3 hC3))
    clear hn5 hw3 hf3 hC3 HBT
    go_wp2_with fail
    refine HN5.out.mono ?_
    rintro e w4 ⟨v4, rfl, hv4, _, hC4, hf4⟩
    have c12 : (v4 : Int) ≤ 2 := by omega
    have hwt4 : Wt w4 w5.heap.size W (L ++ [b]) := H3.out.1.keepC H3.out.2.2 H2.out.2.2.2.2.2.2.1 hf4
    have hN4 : w5.heap.size ≤ w4.heap.size := Nat.le_trans (Nat.le_trans H2.out.2.2.2.2.2.2.2.2.1 H3.out.2.1.size) hf4.size
    have hb4 : Calls Tryd.prog 41 #[.pointer (some ⟨W, 0, none⟩), .int .i64 (v4 : Int), .int .i64 2] w4 fun e w' => e = .returned (.tuple #[]) ∧ Wt w' w5.heap.size W (L ++ [b] ++ enc v4 2) ∧ Frm (SWr w4 w5.heap.size W) w4 w' := bits_any w4 w5.heap.size W _ hwt4 H2.out.2.2.2.2.2.2.2.1 hN4 v4 2 (by omega) (by rw [List.length_append]; have := H2.out.2.2.2.2.2.2.2.2.2.1; simp only [List.length_cons, List.length_nil]; omega) (by omega)
    have HB4 := Lib.hid hb4
    have H4 := Lib.hid (And.intro hC4 (And.intro hf4 (And.intro hv4 hN4)))
    clear hb4 hC4 hf4 hv4 hwt4 hN4 HN5
    go_upto_region 15 with (fail)
    go_cut [67] (fun _ wq => Wt wq w5.heap.size W (L ++ [b] ++ enc v4 2) ∧ Chs wq w.heap.size C lx (k2 + 1) ∧ Frm (fun b _ => b = C0 ∨ b = W) w5 wq ∧ Frm (fun b o => b = C ∨ SWr wr w5.heap.size W b o) wr wq)
    case first => as_aux_lemma =>
      go_wp2_with fail
      refine HB4.out.mono ?_
      rintro e w6 ⟨rfl, hw6, hf6⟩
      have hfa : Frm (fun b o => b = C ∨ SWr wr w5.heap.size W b o) wr w6 := frm_CW_trans (frm_CW_trans (frm_CW_trans (H2.out.2.2.2.2.2.1.mono fun _ _ e => .inl e) (H3.out.2.1.mono fun _ _ e => .inr e)) (H4.out.2.1.mono fun _ _ e => .inl e)) (hf6.mono fun _ _ e => .inr e)
      have HX := Lib.hid (And.intro hw6 (And.intro (H4.out.1.keepW hf6 H2.out.2.2.2.2.2.2.1 (by have := HA.out.2.2.2.2; omega)) (And.intro (df_frm HR.out.2.2.2.1 HR.out.2.2.2.2.2.2.2.2.2.2.2.1 hfa) hfa)))
      clear hw6 hf6 hfa
      go_wp2_with fail
      go_meet
      case rel => exact HX.out
    obtain ⟨hw6, hC6, hf56, hfr6⟩ := hcut
    obtain ⟨w6, rfl⟩ : ∃ x, x = wc := ⟨_, rfl⟩
    apply_assumption
    clear HB4 H3
    -- the tokens
    have hbA6 : Bytes w6 ab A := H5.out.1.bytes.keep hf56 (fun a ha j _ e => by have := H5.out.2.1 a ha; rcases e with e | e <;> omega)
    have hq := H1.out.2.2.2.2.2.2.2.1
    have hql : (A.take q).length = q := by rw [List.length_take]; have := HA.out.2.2.2.1; have := H1.out.2.2.2.2.2.2.2.2; omega
    have htkb : Bytes w6 ab (A.take q) := bytes_take hbA6 q
    have haC : ∀ a, ab = some a → a.block ≠ C := fun a ha e => by
      have := H5.out.2.1 a ha
      have := H5.out.1.lt a ha
      rcases HR.out.2.2.2.1 with q | q <;> omega
    have hMw : w.heap.size ≤ w6.heap.size := by have := HA.out.2.2.2.2; have := H5.out.2.2.2.2.1; have := hf56.size; omega
    have htk := tokens_any w6 ab (A.take q) ac htkb (by rw [hql]; have := H1.out.2.2.2.2.2.2.2.2; have := HG.out; omega) fr (by rw [hql]; omega) w.heap.size C hMw lx (k2 + 1) hC6 (by have := HR.out.2.2.2.2.1; have := H1.out.2.2.1; have := H2.out.2.2.2.2.1; omega) haC
    have htt : (A.take q).take fr = A.take fr := by rw [List.take_take, Nat.min_eq_left (by omega)]
    rw [hql, htt] at htk
    have s1 : ∀ W', (Instr.sliceAt 22 (.slice ab nA ac) none (some (.int .i64 (q : Int))) none).run Tryd.prog W' = .ok (.slice ab q ac) W' := by
      have := (run_head_bytes H5.out.1 q (by have := HA.out.2.2.2.1; omega))
      rw [← HA.out.2.2.2.1] at this
      exact this
    have HTK := Lib.hid htk
    have H6 := Lib.hid (And.intro hw6 (And.intro hC6 (And.intro hf56 (And.intro hfr6 (And.intro hMw haC)))))
    clear hw6 hC6 hf56 hfr6 hbA6 hq hql htkb haC hMw htk htt
    go_upto_region 16 with (fail)
    go_cut [14] (fun s wq => ∃ toks k4, OwnT 89 wq w6.heap.size s toks ∧ toksRun (A.take fr) toks = A.take q ∧ toksOk fr toks ∧ toks.length ≤ q - fr ∧ Chs wq w.heap.size C lx k4 ∧ k2 + 1 ≤ k4 ∧ k4 ≤ k2 + 1 + 4 * (q - fr) ∧ Frm (fun b _ => b = C) w6 wq)
    case first => as_aux_lemma =>
      go_wp2_with fail
      refine HTK.out.mono ?_
      rintro e w7 ⟨v7, toks, k4, rfl, q1, q2, q3, q4, q5, q6, q7, q8⟩
      have HX := Lib.hid (And.intro q1 (And.intro q2 (And.intro q3 (And.intro q4 (And.intro q5 (And.intro q6 (And.intro q7 q8)))))))
      clear q1 q2 q3 q4 q5 q6 q7 q8
      go_wp2_with fail
      go_meet
      case rel => exact ⟨toks, k4, HX.out⟩
    obtain ⟨toks, k4, hT, htr, hto, htl, hC7, hk5, hk6, hf67⟩ := hcut
    obtain ⟨w7, rfl⟩ : ∃ x, x = wc := ⟨_, rfl⟩
    apply_assumption
    clear HTK
    obtain ⟨tb, tcp, rfl, _, hTks, hTlt⟩ := OwnT.tks hT
    obtain ⟨nt, hnt⟩ : ∃ nt, nt = toks.length := ⟨_, rfl⟩
    rw [← hnt]
    have c13 : (nt : Int) ≤ 65535 := by have := H1.out.2.2.2.2.2.2.2.1; omega
    have hwt7 : Wt w7 w5.heap.size W (L ++ [b] ++ enc v4 2) := H6.out.1.keepC H6.out.2.1 H2.out.2.2.2.2.2.2.1 hf67
    have hN7 : w5.heap.size ≤ w7.heap.size := Nat.le_trans H6.out.2.2.1.size hf67.size
    have hbA7 : Bytes w7 ab A := (H5.out.1.bytes.keep H6.out.2.2.1 (fun a ha j _ e => by have := H5.out.2.1 a ha; rcases e with e | e <;> omega)).keep hf67 (fun a ha j _ e => H6.out.2.2.2.2.2 a ha e)
    have htW : ∀ a, tb = some a → a.block ≠ W ∧ a.block ≠ C ∧ a.block < w7.heap.size := fun a ha => by
      have h1 := (hTlt a ha).1
      have h2 := (hTlt a ha).2
      have h3 := H6.out.2.1.lt
      have h4 := H6.out.1.lt
      omega
    have hfrl : (A.take fr).length = fr := by rw [List.length_take]; have := HR.out.2.1; omega
    have H7 := Lib.hid (And.intro hTks (And.intro hnt (And.intro hwt7 (And.intro hN7 (And.intro hbA7 (And.intro htW (And.intro htr (And.intro hto (And.intro htl (And.intro hC7 (And.intro hk5 (And.intro hk6 (And.intro hf67 hfrl)))))))))))))
    clear hT hTks hTlt hnt hwt7 hN7 hbA7 htW htr hto htl hC7 hk5 hk6 hf67 hfrl s1
    refine wp_seq_k ?_
    intro K4 hK4
    go_cut [81] (fun s wq => DfBlk w7 w5.heap.size W w.heap.size C lx k4 L (A.take fr) (A.take q) b n wq)
    case first =>
      have hv : v4 = 0 ∨ v4 = 1 ∨ v4 = 2 := by have := H4.out.2.2.1; omega
      have hcW : ∀ x : World, Frm (SWr w7 w5.heap.size W) w7 x → Chs x w.heap.size C lx k4 := fun x hf => H7.out.2.2.2.2.2.2.2.2.2.1.keepW hf H2.out.2.2.2.2.2.2.1 (by have := HA.out.2.2.2.2; have := H2.out.2.2.2.2.2.2.2.1; omega)
      have HCW := Lib.hid hcW
      clear hcW
      rcases hv with rfl | rfl | rfl
      · as_aux_lemma =>
        rw [show natV 0 = Value.int .i64 0 from rfl]
        obtain ⟨xn, hxn⟩ : ∃ x, x = 65535 - n := ⟨_, rfl⟩
        have e3 : bits .xor .i64 (n : Int) 65535 = (xn : Int) := by rw [hxn]; exact i64_xor_ffff n (by omega)
        obtain ⟨M0, hM0⟩ : ∃ M, M = L ++ [b] ++ enc 0 2 := ⟨_, rfl⟩
        have hM0l : M0.length = L.length + 3 := by rw [hM0]; simp [enc_len]
        have hal := align_any w7 w5.heap.size W M0 (by rw [hM0]; exact H7.out.2.2.1) H2.out.2.2.2.2.2.2.2.1 (by have := H2.out.2.2.2.2.2.2.2.2.2.1; omega)
        have HAL := Lib.hid hal
        have HX := Lib.hid (And.intro hxn (And.intro hM0 hM0l))
        clear hal hxn hM0 hM0l
        go_wp2_with fail
        refine HAL.out.mono ?_
        rintro e w8 ⟨rfl, hw8, hf8⟩
        have hp8 : (padTo M0).length = 8 * ((L.length + 3 + 7) / 8) := by rw [padTo_len, HX.out.2.2]
        have hb8 : Calls Tryd.prog 41 #[.pointer (some ⟨W, 0, none⟩), .int .i64 (n : Int), .int .i64 16] w8 fun e w' => e = .returned (.tuple #[]) ∧ Wt w' w5.heap.size W (padTo M0 ++ enc n 16) ∧ Frm (SWr w8 w5.heap.size W) w8 w' := bits_any w8 w5.heap.size W _ hw8 H2.out.2.2.2.2.2.2.2.1 (Nat.le_trans H7.out.2.2.2.1 hf8.size) n 16 (by omega) (by rw [hp8]; have := H2.out.2.2.2.2.2.2.2.2.2.1; omega) (by omega)
        have HB8 := Lib.hid hb8
        have H8 := Lib.hid (And.intro hf8 hp8)
        clear hb8 hw8 hf8 hp8 HAL
        go_wp2_with fail
        refine HB8.out.mono ?_
        rintro e w9 ⟨rfl, hw9, hf9⟩
        have hf79 := frm_SWr_trans H8.out.1 hf9
        have hb9 : Calls Tryd.prog 41 #[.pointer (some ⟨W, 0, none⟩), .int .i64 (xn : Int), .int .i64 16] w9 fun e w' => e = .returned (.tuple #[]) ∧ Wt w' w5.heap.size W (padTo M0 ++ enc n 16 ++ enc xn 16) ∧ Frm (SWr w9 w5.heap.size W) w9 w' := bits_any w9 w5.heap.size W _ hw9 H2.out.2.2.2.2.2.2.2.1 (Nat.le_trans H7.out.2.2.2.1 hf79.size) xn 16 (by omega) (by rw [List.length_append, H8.out.2, enc_len]; have := H2.out.2.2.2.2.2.2.2.2.2.1; omega) (by have := HX.out.1; omega)
        have HB9 := Lib.hid hb9
        have H9 := Lib.hid hf79
        clear hb9 hw9 hf9 hf79 HB8
        go_wp2_with fail
        refine HB9.out.mono ?_
        rintro e w10 ⟨rfl, hw10, hf10⟩
        have hf710 := frm_SWr_trans H9.out hf10
        obtain ⟨M1, hM1⟩ : ∃ M, M = padTo M0 ++ enc n 16 ++ enc xn 16 := ⟨_, rfl⟩
        rw [← hM1] at hw10
        have hM1l : M1.length = 8 * ((L.length + 3 + 7) / 8) + 32 := by rw [hM1]; simp only [List.length_append, H8.out.2, enc_len]
        obtain ⟨⟨v10, hv10, ho10⟩, hat10, hfr10⟩ := hw10
        have hbA10 : Bt w10 ab A ac := ⟨H7.out.2.2.2.2.1.keep hf710 (fun a ha j _ e => by
            have h1 := H5.out.2.1 a ha
            have h2 := H5.out.1.lt a ha
            rcases e with e | ⟨e, _⟩ <;> omega), H5.out.1.hcap, fun a ha => Nat.lt_of_lt_of_le (H5.out.1.lt a ha) (Nat.le_trans H7.out.2.2.2.1 hf710.size), H5.out.1.nilc⟩
        obtain ⟨b3, hr3, hbt3⟩ := run_midB hbA10 fr q (by have := H1.out; omega) (by have := H1.out; have := HA.out.2.2.2.1; omega)
        obtain ⟨D, hD⟩ : ∃ D, D = (A.take q).drop fr := ⟨_, rfl⟩
        rw [← hD] at hbt3
        have hqn : q - fr = n := by have := H1.out.2.2.2.2.2.2.2.1; omega
        have hDl : D.length = n := by rw [hD, List.length_drop, List.length_take]; have := H1.out; have := HA.out.2.2.2.1; omega
        rw [hqn, ← HA.out.2.2.2.1] at hr3
        have ho10d := ho10.keep (S := fun _ _ => False) ((Frm.refl _ _).drew) (fun _ _ _ e => e)
        have hbt3d := hbt3.keep ((Frm.refl _ _).drew)
        obtain ⟨v11, w11, hr11, ho11, hfr11, _⟩ := append_bt w10.drew w5.heap.size v10 _ ho10d b3 D _ hbt3d (by rw [pack_len, hM1l]; have := H2.out.2.2.2.2.2.2.2.2.2.1; omega) (Nat.le_trans H7.out.2.2.2.1 hf710.size)
        rw [hDl] at hr11
        rw [← pack_bytes _ _ (by rw [hM1l]; omega)] at ho11
        obtain ⟨mp, hmp⟩ : ∃ m, m = (pack (M1 ++ bitsOf D)).length := ⟨_, rfl⟩
        have hmp8 : 8 * mp = (M1 ++ bitsOf D).length := by rw [hmp, pack_len, List.length_append, bitsOf_len, hM1l, hDl]; omega
        obtain ⟨b4, cp4, rfl, _⟩ := ho11.bytes
        rw [← hmp] at hr11 ho11
        obtain ⟨b5, cp5, rfl, _⟩ := ho10.bytes
        have f0 := hfr10 0
        have f1 : w11.frozen? ⟨W, 0, none⟩ = false := (hfr11.froz W 0 (cell_lt (w := w10.drew) hat10)).trans (hfr10 0)
        have f2 : w11.frozen? ⟨W, 1, none⟩ = false := (hfr11.froz W 1 (cell_lt (w := w10.drew) hat10)).trans (hfr10 1)
        have hnW : ∀ o : Nat, ¬ (Value.slice b5 (pack M1).length cp5).ownBlock = some W := fun o e => by have := (ho10.lt W e).1; have := H2.out.2.2.2.2.2.2.2.1; omega
        have hv11 := hfr11.keep (w := w10.drew) hv10 (hnW 0)
        have hat11 := hfr11.keep (w := w10.drew) hat10 (hnW 1)
        have hfin : DfBlk w7 w5.heap.size W w.heap.size C lx k4 L (A.take fr) (A.take q) b n ((w11.setCell ⟨W, 0, none⟩ (.slice b4 mp cp4)).setCell ⟨W, 1, none⟩ (.int .i64 (8 * (mp : Int)))) := by
          have hf711 : Frm (SWr w7 w5.heap.size W) w7 w11 := frm_SWr_trans (hf710.drew) (frm_SWr_own ho10d hfr11)
          have hfall : Frm (SWr w7 w5.heap.size W) w7 ((w11.setCell ⟨W, 0, none⟩ (.slice b4 mp cp4)).setCell ⟨W, 1, none⟩ (.int .i64 (8 * (mp : Int)))) := (hf711.setCell (.inl (.inl rfl)) _).setCell (.inl (.inl rfl)) _
          have hx : Wt ((w11.setCell ⟨W, 0, none⟩ (.slice b4 mp cp4)).setCell ⟨W, 1, none⟩ (.int .i64 (8 * (mp : Int)))) w5.heap.size W (M1 ++ bitsOf D) := by
            refine ⟨⟨_, (cell_set_off (by decide)).trans (set_get hv11), ?_⟩, ?_, fun o => ?_⟩
            · rw [hmp]
              rw [hmp] at ho11
              exact ho11.keep (S := fun b _ => b = W) (((Frm.refl _ _).setCell (.inl rfl) _).setCell (.inl rfl) _) (fun g o hg e => by have := (ho11.lt g hg).1; have := H2.out.2.2.2.2.2.2.2.1; omega)
            · have h1 := set_get (v := .int .i64 (8 * (mp : Int))) ((cell_set_off (v := .slice b4 mp cp4) (by decide : (1 : Nat) ≠ 0)).trans hat11)
              rw [h1, ← hmp8]; simp
            · rw [World.frozen?_setCell, World.frozen?_setCell]
              exact (hfr11.froz W o (cell_lt (w := w10.drew) hat10)).trans (hfr10 o)
          refine ⟨[b] ++ enc 0 2 ++ List.replicate (8 * ((L.length + 3 + 7) / 8) - (L.length + 3)) false ++ enc D.length 16 ++ enc (65535 - D.length) 16 ++ bitsOf D, k4, ?_, ?_, ?_, HCW.out _ hfall, Nat.le_refl _, hfall.mono fun _ _ e => .inr e⟩
          · have e : L ++ ([b] ++ enc 0 2 ++ List.replicate (8 * ((L.length + 3 + 7) / 8) - (L.length + 3)) false ++ enc D.length 16 ++ enc (65535 - D.length) 16 ++ bitsOf D) = M1 ++ bitsOf D := by
              rw [hM1, hDl, ← HX.out.1]
              unfold padTo
              rw [HX.out.2.2, HX.out.2.1, Nat.mul_comm ((L.length + 3 + 7) / 8) 8]
              simp only [List.append_assoc]
            rw [e]; exact hx
          · have e : A.take q = A.take fr ++ D := by
              rw [hD]
              have := List.take_append_drop fr (A.take q)
              rw [List.take_take, Nat.min_eq_left (by have := H1.out; omega)] at this
              exact this.symm
            rw [e]; exact .stored (by rw [hDl]; omega)
          · have := storedBits_len L.length n b D hDl
            rw [← hDl] at this ⊢
            exact this
        have HFIN := Lib.hid hfin
        have HR11 := Lib.hid hr11
        have cW : (mp : Int) ≤ 549755813888 := by have := H2.out.2.2.2.2.2.2.2.2.2.1; rw [List.length_append, bitsOf_len, hM1l, hDl] at hmp8; omega
        have cfr : (fr : Int) ≤ (q : Int) := by have := H1.out; omega
        have cqa : (q : Int) ≤ (ac : Int) := by have := H1.out; have := H5.out.1.hcap; have := HA.out.2.2.2.1; omega
        have e4 : IntKind.i64.wrap (q : Int) = (q : Int) := i64_in _ (by omega)
        obtain ⟨p5, hp5⟩ : ∃ p, p = (pack M1).length := ⟨_, rfl⟩
        rw [← hp5] at hv10 hv11 HR11
        clear hf710 hM1 hM1l ho10 hat10 hfr10 hbA10 hbt3 ho10d hbt3d hD hqn hDl hr11 ho11 hfr11 hmp hmp8 hnW hfin hp5 hf10 HB9
        go_upto_region 23 with (fail)
        refine wp_region_held_drew (S := fun _ => True) (by kernel_rfl) trivial (fun hHeld => ?_)
        refine take_list (i := 0) (v := ?_) rfl (by kernel_rfl) (by kernel_rfl) (by kernel_rfl) (fun _ _ _ h => h) (Or.inl ⟨by rfl, ?_⟩) (by assumption) ?_
        rotate_left
        · (intro w hSw; (try dsimp only at hSw); go_simp; (try with_reducible rfl))
        (try simp only [Act.put, List.setIfInBounds_toArray, List.set_cons_zero, List.set_cons_succ])
        refine take_list (i := 1) (v := ?_) rfl (by kernel_rfl) (by kernel_rfl) (by kernel_rfl) (fun _ _ _ h => h) (Or.inl ⟨by rfl, ?_⟩) (by assumption) ?_
        rotate_left
        · (intro w hSw; (try dsimp only at hSw); go_simp; (try with_reducible rfl))
        (try simp only [Act.put, List.setIfInBounds_toArray, List.set_cons_zero, List.set_cons_succ])
        refine take_list (i := 2) (v := ?_) rfl (by kernel_rfl) (by kernel_rfl) (by kernel_rfl) (fun _ _ _ h => h) (Or.inl ⟨by rfl, ?_⟩) (by assumption) ?_
        rotate_left
        · (intro w hSw; (try dsimp only at hSw); go_simp; (try with_reducible rfl))
        (try simp only [Act.put, List.setIfInBounds_toArray, List.set_cons_zero, List.set_cons_succ])
        refine take_list (i := 3) (v := ?_) rfl (by kernel_rfl) (by kernel_rfl) (by kernel_rfl) (fun _ _ _ h => h) (Or.inl ⟨by rfl, ?_⟩) (by assumption) ?_
        rotate_left
        · (intro w hSw; (try dsimp only at hSw); go_simp; (try with_reducible rfl))
        (try simp only [Act.put, List.setIfInBounds_toArray, List.set_cons_zero, List.set_cons_succ])
        refine take_list (i := 5) (v := ?_) rfl (by kernel_rfl) (by kernel_rfl) (by kernel_rfl) (fun _ _ _ h => h) (Or.inl ⟨by rfl, ?_⟩) (by assumption) ?_
        rotate_left
        · (intro w hSw; (try dsimp only at hSw); go_simp; (try with_reducible rfl))
        (try simp only [Act.put, List.setIfInBounds_toArray, List.set_cons_zero, List.set_cons_succ])
        refine take_list (i := 6) (v := ?_) rfl (by kernel_rfl) (by kernel_rfl) (by kernel_rfl) (fun _ _ _ h => h) (Or.inl ⟨by rfl, ?_⟩) (by assumption) ?_
        rotate_left
        · (intro w hSw; (try dsimp only at hSw); go_simp; (try with_reducible rfl))
        (try simp only [Act.put, List.setIfInBounds_toArray, List.set_cons_zero, List.set_cons_succ])
        refine take_list (i := 7) (v := ?_) rfl (by kernel_rfl) (by kernel_rfl) (by kernel_rfl) (fun _ _ _ h => h) (Or.inl ⟨by rfl, ?_⟩) (by assumption) ?_
        rotate_left
        · (intro w hSw; (try dsimp only at hSw); go_simp; (try with_reducible rfl))
        (try simp only [Act.put, List.setIfInBounds_toArray, List.set_cons_zero, List.set_cons_succ])
        refine take_list (i := 8) (v := ?_) rfl (by kernel_rfl) (by kernel_rfl) (by kernel_rfl) (fun _ _ _ h => h) (Or.inl ⟨by rfl, ?_⟩) (by assumption) ?_
        rotate_left
        · (intro w hSw; (try dsimp only at hSw); go_simp; (try with_reducible rfl))
        (try simp only [Act.put, List.setIfInBounds_toArray, List.set_cons_zero, List.set_cons_succ])
        refine take_list (i := 9) (v := ?_) rfl (by kernel_rfl) (by kernel_rfl) (by kernel_rfl) (fun _ _ _ h => h) (Or.inl ⟨by rfl, ?_⟩) (by assumption) ?_
        rotate_left
        · (intro w hSw; (try dsimp only at hSw); go_simp; (try with_reducible rfl))
        (try simp only [Act.put, List.setIfInBounds_toArray, List.set_cons_zero, List.set_cons_succ])
        refine take_list (i := 10) (v := ?_) rfl (by kernel_rfl) (by kernel_rfl) (by kernel_rfl) (fun _ _ _ h => h) (Or.inl ⟨by rfl, ?_⟩) (by assumption) ?_
        rotate_left
        · (intro w hSw; (try dsimp only at hSw); go_simp; (try with_reducible rfl))
        (try simp only [Act.put, List.setIfInBounds_toArray, List.set_cons_zero, List.set_cons_succ])
        refine wpAnyH_ready (rs := [4]) (by kernel_rfl) (by simp) ?_
        refine AllReadyH.cons rfl (fun K hK => ?_) AllReadyH.nil
        go_simp
        refine hK.out _ _ trivial (fun _ => ?_)
        clear hK K
        (try simp only [Act.put, List.setIfInBounds_toArray, List.set_cons_zero, List.set_cons_succ])
        refine wpAnyH_ready (rs := [11]) (by kernel_rfl) (by simp) ?_
        refine AllReadyH.cons rfl (fun K hK => ?_) AllReadyH.nil
        refine step_append_run (by rfl) _ _ _ (by rfl) (by rfl) (by rfl) HR11.out ?_
        refine hK.out _ _ trivial (fun _ => ?_)
        clear hK K
        (try simp only [Act.put, List.setIfInBounds_toArray, List.set_cons_zero, List.set_cons_succ])
        refine take_list (i := 12) (v := ?_) rfl (by kernel_rfl) (by kernel_rfl) (by kernel_rfl) (fun _ _ _ h => h) (Or.inl ⟨by rfl, ?_⟩) (by assumption) ?_
        rotate_left
        · (intro w hSw; (try dsimp only at hSw); go_simp; (try with_reducible rfl))
        (try simp only [Act.put, List.setIfInBounds_toArray, List.set_cons_zero, List.set_cons_succ])
        refine take_list (i := 13) (v := ?_) rfl (by kernel_rfl) (by kernel_rfl) (by kernel_rfl) (fun _ _ _ h => h) (Or.inl ⟨by rfl, ?_⟩) (by assumption) ?_
        rotate_left
        · (intro w hSw; (try dsimp only at hSw); go_simp; (try with_reducible rfl))
        (try simp only [Act.put, List.setIfInBounds_toArray, List.set_cons_zero, List.set_cons_succ])
        refine wpAnyH_ready (rs := [14]) (by kernel_rfl) (by simp) ?_
        refine AllReadyH.cons rfl (fun K hK => ?_) AllReadyH.nil
        go_simp
        refine hK.out _ _ trivial (fun _ => ?_)
        clear hK K
        (try simp only [Act.put, List.setIfInBounds_toArray, List.set_cons_zero, List.set_cons_succ])
        refine wpAnyH_done (by kernel_rfl) ?_ _
        go_wp2_with fail
        go_meet
        case rel => exact HFIN.out
      · as_aux_lemma =>
        rw [show natV 1 = Value.int .i64 1 from rfl]
        go_wp2_with fail
        refine (fixed_any w7).mono ?_
        rintro e w8 ⟨v1, v2, rfl, h1, h2, hf8⟩
        obtain ⟨b1, cp1, hv1, _, hnt1⟩ := OwnN.nt h1
        obtain ⟨b2', cp2', hv2, _, hnt2⟩ := OwnN.nt h2
        subst hv1 hv2
        have l1 : fixedLens.length = 288 := fixedLens_length
        have l2 : fixedDist.length = 32 := by unfold fixedDist; rw [List.length_replicate]
        have hWl : W < w7.heap.size := Nat.lt_of_lt_of_le H2.out.2.2.2.2.2.2.2.1 H7.out.2.2.2.1
        have hbd := body_any w8 w5.heap.size W (L ++ [b] ++ enc 1 2) (H7.out.2.2.1.keep hf8 (fun _ e => e) (fun _ _ _ e => e)) H2.out.2.2.2.2.2.2.2.1 (Nat.le_trans H7.out.2.2.2.1 hf8.size) (by simp only [List.length_append, List.length_cons, List.length_nil, enc_len]; have := H2.out.2.2.2.2.2.2.2.2.2.1; omega)
          tb toks tcp (H7.out.1.keep hf8 (fun _ _ e => e)) (fun a ha => (H7.out.2.2.2.2.2.1 a ha).1) (by have := H7.out.2.1; omega)
          b1 fixedLens cp1 hnt1 (fun a ha e => by subst ha; have := (h1.lt a.block rfl).1; omega) fixedLens_le (by omega) (by omega)
          b2' fixedDist cp2' hnt2 (fun a ha e => by subst ha; have := (h2.lt a.block rfl).1; omega) fixedDist15 (by omega) (by omega) (tokIn_fixed H7.out.2.2.2.2.2.2.2.1) (fixedLens_ne0 256 (by omega))
        rw [l1, l2, ← H7.out.2.1] at hbd
        rw [l1, l2]
        have HBD := Lib.hid hbd
        have HF8 := Lib.hid hf8
        clear hbd hf8 h1 h2 hnt1 hnt2 l1 l2 hWl
        go_wp2_with fail
        refine HBD.out.mono ?_
        rintro e w9 ⟨rfl, hw9, hf9⟩
        have hf79 : Frm (SWr w7 w5.heap.size W) w7 w9 := frm_SWr_trans (frm_SWr_none HF8.out) hf9
        have hrel : DfBlk w7 w5.heap.size W w.heap.size C lx k4 L (A.take fr) (A.take q) b n w9 := by
          obtain ⟨hTks, hnt, hwt7, hN7, hbA7, htW, htr, hto, htl, hC7, hk5, hk6, hf67, hfrl⟩ := H7.out
          refine ⟨[b] ++ enc 1 2 ++ bodyBits fixedLens fixedDist toks, k4, ?_, ?_, ?_, HCW.out _ hf79, Nat.le_refl _, hf79.mono fun _ _ e => .inr e⟩
          · have e : L ++ ([b] ++ enc 1 2 ++ bodyBits fixedLens fixedDist toks) = L ++ [b] ++ enc 1 2 ++ bodyBits fixedLens fixedDist toks := by simp only [List.append_assoc]
            rw [e]; exact hw9
          · rw [← htr]; exact .fixed (by rw [hfrl]; exact hto)
          · have hb1 := flat_len fixedLens_le fixedDist15 (tokIn_fixed hto)
            have hb2 : (code fixedLens 256).length ≤ 15 := by rw [code_len]; exact getD_le fixedLens_le
            unfold bodyBits
            simp only [List.length_append, List.length_cons, List.length_nil, enc_len]
            have := H1.out.2.2.2.2.2.2.2.1
            omega
        have HX := Lib.hid hrel
        clear hw9 hf9 hf79 hrel
        go_wp2_with fail
        go_meet
        case rel => exact HX.out
      · as_aux_lemma =>
        rw [show natV 2 = Value.int .i64 2 from rfl]
        have hdy := dynamic_any w7 w5.heap.size W (L ++ [b] ++ enc 2 2) H7.out.2.2.1 H2.out.2.2.2.2.2.2.2.1 H7.out.2.2.2.1 (by simp only [List.length_append, List.length_cons, List.length_nil, enc_len]; have := H2.out.2.2.2.2.2.2.2.2.2.1; omega)
          tb toks tcp H7.out.1 w.heap.size C H7.out.2.2.2.2.2.1 (by have := H7.out.2.1; omega) H7.out.2.2.2.2.2.2.2.1 lx k4 H7.out.2.2.2.2.2.2.2.2.2.1 (by have := H7.out.2.2.2.2.2.2.2.2.2.2.2.1; have := HR.out.2.2.2.2.1; have := H1.out.2.2.1; have := H2.out.2.2.2.2.1; have := H1.out.2.2.2.2.2.2.2.1; omega) H2.out.2.2.2.2.2.2.1 (by have := HA.out.2.2.2.2; omega)
        rw [← H7.out.2.1] at hdy
        have HDY := Lib.hid hdy
        clear hdy
        go_wp2_with fail
        refine HDY.out.mono ?_
        rintro e w8 ⟨B, k5, rfl, hdb, hBl, hw8, hC8, hk1, hk2, hf8⟩
        have hrel : DfBlk w7 w5.heap.size W w.heap.size C lx k4 L (A.take fr) (A.take q) b n w8 := by
          obtain ⟨hTks, hnt, hwt7, hN7, hbA7, htW, htr, hto, htl, hC7, hk5, hk6, hf67, hfrl⟩ := H7.out
          refine ⟨[b] ++ enc 2 2 ++ B, k5, ?_, ?_, ?_, hC8, hk1, hf8⟩
          · have e : L ++ ([b] ++ enc 2 2 ++ B) = L ++ [b] ++ enc 2 2 ++ B := by simp only [List.append_assoc]
            rw [e]; exact hw8
          · rw [← htr]; exact hdb.blk (by rw [hfrl]; exact hto)
          · simp only [List.length_append, List.length_cons, List.length_nil, enc_len]
            have := H1.out.2.2.2.2.2.2.2.1
            omega
        have HX := Lib.hid hrel
        clear hdb hBl hw8 hC8 hk1 hk2 hf8 hrel
        go_wp2_with fail
        go_meet
        case rel => exact HX.out
    obtain ⟨B, k5, hw8, hblk, hBl, hC8, hk7, hf8⟩ := hcut
    obtain ⟨w8, rfl⟩ : ∃ x, x = wc := ⟨_, rfl⟩
    refine hK4 _ _ ?_
    have hfr8 : Frm (fun b o => b = C ∨ SWr wr w5.heap.size W b o) wr w8 := frm_CW_trans (frm_CW_trans H6.out.2.2.2.1 (H7.out.2.2.2.2.2.2.2.2.2.2.2.2.1.mono fun _ _ e => .inl e)) hf8
    have hf58 : Frm (fun b _ => b = C0 ∨ b = W) w5 w8 := df_frm HR.out.2.2.2.1 HR.out.2.2.2.2.2.2.2.2.2.2.2.1 hfr8
    have hkk : k < k5 := by have := H1.out; have := H2.out.2.2.2.1; have := H7.out.2.2.2.2.2.2.2.2.2.2.1; omega
    have hkb : k5 ≤ 68719476736 ∨ True := .inr trivial
    have hat8 := hC8.at_
    have hz8 := hC8.fr 1
    have H8 := Lib.hid (And.intro hw8 (And.intro hblk (And.intro hBl (And.intro hC8 (And.intro hf58 hkk)))))
    clear hblk hBl hk7 hf8 hfr8 hf58 hkk hkb
    cases b with
    | true =>
      obtain rfl : lt = 1 := H2.out.2.2.2.2.2.2.2.2.2.2
      obtain ⟨⟨v8, hv8, ho8⟩, _, _⟩ := hw8
      have HO := Lib.hid ho8
      clear ho8 hat8 hz8 hC8
      go_wp2_with fail
      go_ret
      obtain ⟨hw8, hblk, hBl, hC8, hf58, hkk⟩ := H8.out
      obtain ⟨hd2, hm2, hA, hnA, hC0, hW⟩ := HA.out
      have hqA : q = nA := H2.out.1 trivial
      have hLl : (pack (L ++ B)).length ≤ 549755813888 ∧ 0 < (pack (L ++ B)).length := by
        have hb := H2.out.2.2.2.2.2.2.2.2.2.1
        have hpos : 0 < B.length := blk_pos hblk
        rw [pack_len, List.length_append]
        omega
      refine ⟨v8, L ++ B, rfl, HO.out.lower H5.out.2.2.2.2.2.size, ?_, hLl.1, hLl.2, H5.out.2.2.2.2.2.trans' hf58 (fun x o hx e => by omega)⟩
      refine ⟨L, A.take fr, B, rfl, by rw [← hd2]; exact HR.out.2.2.2.2.2.2.2.1, ?_⟩
      have : A.take q = lastOf dict ++ data := by rw [hqA, hnA, List.take_length, hA, hd2]
      rw [← this]; exact hblk
    | false =>
      obtain rfl : lt = 0 := H2.out.2.2.2.2.2.2.2.2.2.2
      have hstep : ∀ (fresh' : Bool) (k'' : Nat), (fresh' = true ∧ k'' = 0 ∨ fresh' = false ∧ k'' = k5 ∧ k5 ≤ 20000) → dG (A.length - q) fresh' k'' + 1 ≤ gk ∧ (L ++ B).length ≤ 5200 * (G0 - dG (A.length - q) fresh' k'') + 60 * (q - d2.length) ∧ dG (A.length - q) fresh' k'' ≤ G0 := by
        intro fresh' k'' hnew
        obtain ⟨h1, h2, hC, hCC, hk, hfresh, hWr, hBk, hLl, hg1, hg2, hf, hrest, hfn⟩ := HR.out
        obtain ⟨hC1, hk1, hk2, hfr, hf1, hn1, hn2, hq, hqn⟩ := H1.out
        obtain ⟨hw8, hblk, hBl, hC8, hf58, hkk⟩ := H8.out
        have hnA := HA.out.2.2.2.1
        have hd := dG_step (rest := A.length - fr) (n := n) (k := k) (k' := k5) (k'' := k'') (f := fresh) (f' := fresh') hk (by omega) hkk (fun hfr' => by
          obtain ⟨q1, q2⟩ := hfresh hfr'
          obtain ⟨q3, q4⟩ := hfr q2 q1
          refine ⟨q1, ?_⟩
          have hne : ¬ q = nA := fun e => by have := H2.out.2.1 q2 q3 e; simp at this
          omega) hnew
        have e : A.length - fr - n = A.length - q := by omega
        rw [e] at hd
        rw [List.length_append]
        refine ⟨by omega, by omega, by omega⟩
      have HST := Lib.hid hstep
      clear hstep hw8 hC8
      by_cases hbig : 20000 < k5
      · have t1 : decide ((20000 : Int) < (k5 : Int)) = true := by simp; omega
        obtain ⟨w9, hw9⟩ : ∃ x, x = w8.alloc (.cells #[.slice none 0 0, .int .i64 0] 70) := ⟨_, rfl⟩
        obtain ⟨C2, hC2⟩ : ∃ x, x = w8.heap.size := ⟨_, rfl⟩
        have hch : Chs w9 w.heap.size C2 [] 0 := by rw [hw9, hC2]; exact chs_new w8 w.heap.size
        have hf9 : Frm (fun _ _ => False) w8 w9 := by rw [hw9]; exact (Frm.refl _ _).alloc _
        have H9 := Lib.hid (And.intro hch (And.intro hf9 hC2))
        clear hch hf9 hbig
        go_upto_region 32 with (fail)
        go_wp2_with fail
        rw [← hw9, ← hC2]
        clear hw9 hC2
        go_roundg (dG (A.length - q) true 0)
        case measure => have := (HST.out true 0 (.inl ⟨rfl, rfl⟩)).1; omega
        case rel =>
          obtain ⟨hw8, hblk, hBl, hC8, hf58, hkk⟩ := H8.out
          obtain ⟨hch, hf9, hC2⟩ := H9.out
          obtain ⟨g1, g2, g3⟩ := HST.out true 0 (.inl ⟨rfl, rfl⟩)
          refine ⟨q, 0, C2, [], true, L ++ B, rfl, rfl, by have := HR.out.1; have := H1.out.2.2.2.2.2.2.2.1; omega, by have := H1.out.2.2.2.2.2.2.2.2; have := HA.out.2.2.2.1; omega, hch, .inr (by have := hf58.size; omega), by omega, fun _ => ⟨rfl, rfl⟩, hw8.keep hf9 (fun _ e => e) (fun _ _ _ e => e), .snoc HR.out.2.2.2.2.2.2.2.1 hblk, g2, g3, rfl, hf58.trans (hf9.mono fun _ _ e => e.elim)⟩
      · have t1 : decide ((20000 : Int) < (k5 : Int)) = false := by simp; omega
        have hk5b : k5 ≤ 20000 := by omega
        have HK := Lib.hid hk5b
        clear hbig hk5b
        go_wp2_with fail
        go_roundg (dG (A.length - q) false k5)
        case measure => have := (HST.out false k5 (.inr ⟨rfl, rfl, HK.out⟩)).1; omega
        case rel =>
          obtain ⟨hw8, hblk, hBl, hC8, hf58, hkk⟩ := H8.out
          obtain ⟨g1, g2, g3⟩ := HST.out false k5 (.inr ⟨rfl, rfl, HK.out⟩)
          exact ⟨q, k5, C, lx, false, L ++ B, rfl, rfl, by have := HR.out.1; have := H1.out.2.2.2.2.2.2.2.1; omega, by have := H1.out.2.2.2.2.2.2.2.2; have := HA.out.2.2.2.1; omega, hC8, HR.out.2.2.2.1, HK.out, fun h => by simp at h, hw8, .snoc HR.out.2.2.2.2.2.2.2.1 hblk, g2, g3, rfl, hf58⟩

end Go.Proofs.YthfncdfcklbigaaDoor
