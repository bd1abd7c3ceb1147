/-
  Several texts in one: Dyn.
-/
import Derived.Test.YthfncdfcklbigaaGreatDoorWb
import Derived.Test.YthfncdfcklbigaaGreatDoorWc
import Derived.Deep.RegionHeld3
set_option linter.unusedVariables false
set_option linter.unusedSimpArgs false
namespace Go.Proofs.YthfncdfcklbigaaGreatDoor
open Go.RowKit Go.IntWalk Flate
set_option maxRecDepth 100000
theorem Chs.keepW {w w' : World} {N0 W M C : Nat} {l : List Int} {k : Nat} (h : Chs w M C l k) (hf : Frm (SWr w N0 W) w w') (hCW : C ≠ W) (hM : M ≤ W) : Chs w' M C l k :=
 h.keep hf fun b o q => by
  rcases q with q | ⟨_, q⟩
  · exact ⟨by rw [q]; exact hCW.symm, .inl (by rw [q]; exact hM)⟩
  · refine ⟨fun e => ?_, .inr fun v hv ⟨u, e⟩ => ?_⟩
    · rw [e] at q; obtain ⟨u, hu⟩ := q _ _ h.at_; simp at hu
    · obtain ⟨u', hu⟩ := q _ _ hv; rw [e] at hu; simp at hu
theorem Wt.keepC {w w' : World} {N0 W M C : Nat} {L : List Bool} {l : List Int} {k : Nat} (h : Wt w N0 W L) (hC : Chs w M C l k) (hCW : C ≠ W) (hf : Frm (fun b _ => b = C) w w') : Wt w' N0 W L := by
 obtain ⟨⟨v, h1, h2⟩, h3, h4⟩ := h
 refine ⟨⟨v, hf.keep h1 (fun q => hCW q.symm), h2.keep hf (fun g o hg q => ?_)⟩, hf.keep h3 (fun q => hCW q.symm), fun o => (hf.froz W o (cell_lt h3)).trans (h4 o)⟩
 subst q
 obtain ⟨u, hu⟩ := h2.kind g hg 1 _ hC.at_
 simp at hu
theorem append_nats (w : World) (base : Nat) (v : Value) (l : List Nat) (hrow : OwnN w base v l) (g : Nat) (news : List Nat) (c : Nat) (hnews : ∀ j (h : j < news.length), w.cell? ⟨g, j, none⟩ = some (natV news[j])) (hle : l.length + news.length ≤ 1099511627776) (hbase : base ≤ w.heap.size) :
 ∃ v' w', (∀ ty, (Builtin.append_ #[33, 33] ty #[v, .slice (some ⟨g, 0, none⟩) news.length c]).run Tryz.prog w = .ok v' w') ∧ OwnN w' base v' (l ++ news) ∧ Frm (fun b _ => v.ownBlock = some b) w w' := by
 obtain ⟨i, hi, hiq⟩ := Option.map_eq_some_iff.1 infoInts
 simp only [Prod.mk.injEq] at hiq
 obtain ⟨h1, h2, h3⟩ := hiq
 obtain ⟨v', w', hrun, hr, hf, _⟩ := append_row (P := Tryz.prog) KI w base 33 3 i _ 1 8 Tryz.underlying33 hi h1 h2 h3 (by rfl) (by
  intro u hu; have hu' : u ∈ [Value.int .i64 0] := hu; rw [List.mem_singleton.1 hu']; exact ⟨0, rfl⟩) v l.length _ hrow ⟨g, 0, none⟩ news.length c (news.map natV) (by simp) (fun j u hu => by
  rw [Addr.add_lit, Nat.zero_add]; rw [List.getElem?_map] at hu; obtain ⟨x, hx, rfl⟩ := Option.map_eq_some_iff.1 hu; obtain ⟨hj, rfl⟩ := List.getElem?_eq_some_iff.1 hx; exact hnews j hj) (fun u hu => by
   obtain ⟨x, _, rfl⟩ := List.mem_map.1 hu; rfl) (fun u hu => by
   obtain ⟨x, _, rfl⟩ := List.mem_map.1 hu; exact ⟨_, rfl⟩) (by simp only [maxLen]; omega) (by omega) hbase
 refine ⟨v', w', hrun, ?_, hf⟩
 unfold OwnN
 rw [List.map_append, List.length_append]
 exact hr
def DyT (w1 : World) (N1 g1 g2 : Nat) (toks : List Tk) (g : Nat) (iv : Value) (wr : World) : Prop :=
 ∃ (k : Nat) (A D : List Bool), k ≤ toks.length ∧ g = toks.length - k ∧ iv = .int .i64 (k : Int) ∧ OwnB wr N1 (.slice (some ⟨g1, 0, none⟩) 286 286) A ∧ OwnB wr N1 (.slice (some ⟨g2, 0, none⟩) 30 30) D ∧ A.length = 286 ∧ D.length = 30 ∧ A.getD 256 false = true ∧ (∀ t ∈ toks.take k, TkMark A D t) ∧ Frm (fun b _ => b = g1 ∨ b = g2) w1 wr
theorem tok_at {l : List Tk} : ∀ {n j : Nat}, toksOk n l → (h : j < l.length) → match l[j] with | .lit _ => True | .cpy f m => 1 ≤ f ∧ f ≤ 32768 ∧ 3 ≤ m ∧ m ≤ 258 := by
 induction l with
 | nil => intro n j _ h; simp at h
 | cons t l ih =>
  intro n j ho h
  cases j with
  | zero =>
   cases t with
   | lit c => exact trivial
   | cpy f m => exact ⟨ho.1.1, ho.1.2.2.1, ho.1.2.2.2.1, ho.1.2.2.2.2⟩
  | succ j => exact ih ho.2 (by simpa using h)
def DyEnd (w : World) (g1 g2 : Nat) (toks : List Tk) (wr : World) : Prop :=
 ∃ (A D : List Bool), OwnB wr w.heap.size (.slice (some ⟨g1, 0, none⟩) 286 286) A ∧ OwnB wr w.heap.size (.slice (some ⟨g2, 0, none⟩) 30 30) D ∧ A.length = 286 ∧ D.length = 30 ∧ A.getD 256 false = true ∧ (∀ t ∈ toks, TkMark A D t) ∧ Frm (fun _ _ => False) w wr
def DyMore (w3 : World) (N1 g1 g2 M C : Nat) (l : List Int) (k0 : Nat) (A D : List Bool) (wr : World) : Prop :=
 ∃ (A' : List Bool) (k : Nat), OwnB wr N1 (.slice (some ⟨g1, 0, none⟩) 286 286) A' ∧ OwnB wr N1 (.slice (some ⟨g2, 0, none⟩) 30 30) D ∧ Marks A A' ∧ Chs wr M C l k ∧ k0 ≤ k ∧ k ≤ k0 + 2 ∧ Frm (fun b _ => b = C ∨ b = g1) w3 wr
theorem nt_take {S : Nat → Nat → Prop} {w w' : World} {g : Nat} {l : List Nat} (h : Nt w (some ⟨g, 0, none⟩) l) (hf : Frm S w w') (hS : ∀ o, ¬ S g o) (k : Nat) : ∀ j (_ : j < (l.take k).length), w'.cell? ⟨g, j, none⟩ = some (natV (l.take k)[j]) := by
 intro j hj
 rw [List.length_take] at hj
 obtain ⟨g', hg, hc⟩ := h.cells j (by omega)
 injection hg with hg
 injection hg with hg
 subst hg
 rw [List.getElem_take]
 exact hf.keep hc (hS j)
theorem step_append_run {P : Program} {ops : Array Oper} {o : Oper} {a : Act} {w : World} {K : Act → World → Prop} {Q : Exit → Act → World → Prop} {E : Prop} (hgd : o.guard = none) (x y : Operand) (t : TypeId)
 (ho : o.op = .call { callee := .builtin .append, args := #[x, y], argTypes := #[t, t] }) {dv sv v : Value} {w' : World} (hd : a.eval x = dv) (hs : a.eval y = sv)
 (hrun : ∀ ty, (Builtin.append_ #[t, t] ty #[dv, sv]).run P w = .ok v w') (h : K (a.put o.dst v) w') :
 if Region.wanted o (yielded ops a.tmps) = true then Oper.wp P o a w K Q else E := by
 have hw : Region.wanted o (yielded ops a.tmps) = true := by simp [Region.wanted, hgd]
 rw [if_pos hw]
 have hrun := hrun o.type
 unfold Oper.wp execOp
 simp only [ho, resolve, invoke, builtin, Sem.run_bind, Sem.run_pure, Result.andThen_ok, List.map_toArray, List.map_cons, List.map_nil, hd, hs, hrun]
 exact h
def DyRows (w6 : World) (M C : Nat) (l : List Int) (k0 : Nat) (A : List Nat) (v : Value) (wq : World) : Prop :=
 ∃ (R : List (Nat × Nat)) (k : Nat), OwnR wq w6.heap.size v R ∧ rowsRun [] R = A ∧ rowsOk [] R ∧ Chs wq M C l k ∧ k0 ≤ k ∧ k ≤ k0 + 960 ∧ Frm (fun b _ => b = C) w6 wq
theorem rows_all : ∀ {l : List (Nat × Nat)} {acc : List Nat}, rowsOk acc l → ∀ p ∈ l, p.1 ≤ 18 ∧ p.2 < 2 ^ rowX p.1 ∧ rowX p.1 ≤ 7
 | [], _, _, p, hp => absurd hp (by simp)
 | q :: l, acc, h, p, hp => by
  rcases List.mem_cons.1 hp with rfl | hp
  · refine ⟨h.1.1, h.1.2.2, ?_⟩; unfold rowX; split
    · omega
    · split
      · omega
      · split <;> omega
  · exact rows_all h.2 p hp
def DyU (w8 : World) (N1 g3 : Nat) (R : List (Nat × Nat)) (g : Nat) (iv : Value) (wr : World) : Prop :=
 ∃ (k : Nat) (U : List Bool), k ≤ R.length ∧ g = R.length - k ∧ iv = .int .i64 (k : Int) ∧ OwnB wr N1 (.slice (some ⟨g3, 0, none⟩) 19 19) U ∧ U.length = 19 ∧ (∀ p ∈ R.take k, U.getD p.1 false = true) ∧ Frm (fun b _ => b = g3) w8 wr
def DyUsed (w7 : World) (g3 : Nat) (R : List (Nat × Nat)) (wq : World) : Prop :=
 ∃ U : List Bool, OwnB wq w7.heap.size (.slice (some ⟨g3, 0, none⟩) 19 19) U ∧ U.length = 19 ∧ (∀ p ∈ R, U.getD p.1 false = true) ∧ Frm (fun _ _ => False) w7 wq
def DyLen (w9 : World) (U : List Bool) (s : Value) (wq : World) : Prop :=
 ∃ (cg ccap : Nat) (CL : List Nat), s = .slice (some ⟨cg, 0, none⟩) 19 ccap ∧ Nt wq (some ⟨cg, 0, none⟩) CL ∧ TreeOK U 7 CL ∧ CL.length = 19 ∧ w9.heap.size ≤ cg ∧ cg < wq.heap.size ∧ 19 ≤ ccap ∧ Frm (fun _ _ => False) w9 wq
theorem chs_new (w : World) (M : Nat) : Chs (w.alloc (.cells #[.slice none 0 0, .int .i64 0] 95)) M w.heap.size [] 0 := by
 have hc : ∀ o, (w.alloc (.cells #[.slice none 0 0, .int .i64 0] 95)).cell? ⟨w.heap.size, o, none⟩ = (#[.slice none 0 0, .int .i64 0] : Array Value)[o]? := fun o => cells_at (heap_alloc_new w _)
 exact ⟨⟨none, 0, (hc 0).trans rfl, ⟨fun j hj => absurd hj (by simp), fun a h => by simp at h, Nat.le_refl _, fun a h => by simp at h, fun _ => rfl, fun x hx => absurd hx (by simp)⟩, fun a h => by simp at h⟩, (hc 1).trans rfl, fun o => World.frozen?_alloc_new (w := w) .., by simp⟩
def DyNc (w11 : World) (CL : List Nat) (g : Nat) (s : Value) (wq : World) : Prop :=
 ∃ nc : Nat, nc ≤ g ∧ s = .int .i64 (nc : Int) ∧ 4 ≤ nc ∧ nc ≤ 19 ∧ (∀ i, nc ≤ i → i < 19 → CL.getD (clOrder.getD i 0) 0 = 0) ∧ Frm (fun _ _ => False) w11 wq
theorem order_lt (m : Nat) : clOrder.getD m 0 < 19 := by
 rcases Nat.lt_or_ge m 19 with h | h
 · have : ∀ i : Fin 19, clOrder.getD i.1 0 < 19 := by decide +kernel
   exact this ⟨m, h⟩
 · rw [List.getD_eq_getElem?_getD, List.getElem?_eq_none (by show 19 ≤ m; exact h)]; decide
theorem Rns.keep {S : Nat → Nat → Prop} {w w' : World} {b : Option Addr} {l : List (Nat × Nat)} (h : Rns w b l) (hf : Frm S w w') (hS : ∀ g, b = some ⟨g, 0, none⟩ → ∀ o, ¬ S g o) : Rns w' b l :=
 ⟨fun j hj => by
  obtain ⟨g, h1, h2, h3, h4⟩ := h.cells j hj; exact ⟨g, h1, hf.keep h2 (hS g h1 _), hf.keep h3 (hS g h1 _), hf.keep h4 (hS g h1 _)⟩⟩
theorem Rns.keepW {w w' : World} {N0 W : Nat} {b : Option Addr} {l : List (Nat × Nat)} (h : Rns w b l) (hf : Frm (SWr w N0 W) w w') (hb : ∀ a, b = some a → a.block ≠ W) : Rns w' b l :=
 ⟨fun j hj => by
  obtain ⟨g, h1, h2, h3, h4⟩ := h.cells j hj; exact ⟨g, h1, hf.kept h2 (hb _ h1) (.inr (by simp)), hf.kept h3 (hb _ h1) (.inr (by simp)), hf.kept h4 (hb _ h1) (.inr (by simp))⟩⟩
theorem flat3_len (cl : List Nat) : ∀ l : List Nat, (l.flatMap fun s => enc (cl.getD s 0) 3).length = 3 * l.length
 | [] => rfl
 | s :: l => by rw [List.flatMap_cons, List.length_append, flat3_len cl l, enc_len, List.length_cons]; omega
theorem rows_flat {cl : List Nat} (h7 : ∀ s, cl.getD s 0 ≤ 7) : ∀ {l : List (Nat × Nat)}, (∀ p ∈ l, rowX p.1 ≤ 7) → (l.flatMap (rowBits cl)).length ≤ 14 * l.length
 | [], _ => Nat.le_refl _
 | p :: l, h => by
  have h1 := rows_flat h7 (l := l) (fun q hq => h q (List.mem_cons_of_mem _ hq))
  have h2 := h p (List.mem_cons_self ..); have h3 := h7 p.1; rw [List.flatMap_cons, List.length_append, List.length_cons]; unfold rowBits at h1 ⊢; rw [List.length_append, code_len, enc_len]; omega
def DyCl (w16 : World) (N0 W : Nat) (L3 : List Bool) (CL : List Nat) (nc g : Nat) (iv : Value) (wr : World) : Prop :=
 ∃ k : Nat, k ≤ nc ∧ g = nc - k ∧ iv = .int .i64 (k : Int) ∧ Wt wr N0 W (L3 ++ (clOrder.take k).flatMap (fun s => enc (CL.getD s 0) 3)) ∧ Frm (SWr w16 N0 W) w16 wr
def DyNums (w18 : World) (CL : List Nat) (s : Value) (wq : World) : Prop :=
 ∃ (ng ncap : Nat) (out : List Nat), s = .slice (some ⟨ng, 0, none⟩) 19 ncap ∧ Nt wq (some ⟨ng, 0, none⟩) out ∧ w18.heap.size ≤ ng ∧ (∀ s, CL.getD s 0 ≠ 0 → out.getD s 0 = codeOf CL s) ∧ (∀ s, out.getD s 0 ≤ 1073741824) ∧ out.length = 19 ∧ 19 ≤ ncap ∧ Frm (fun _ _ => False) w18 wq
def DyRw (w19 : World) (N0 W : Nat) (L4 : List Bool) (CL : List Nat) (R : List (Nat × Nat)) (g : Nat) (iv : Value) (wr : World) : Prop :=
 ∃ k : Nat, k ≤ R.length ∧ g = R.length - k ∧ iv = .int .i64 (k : Int) ∧ Wt wr N0 W (L4 ++ (R.take k).flatMap (rowBits CL)) ∧ Frm (SWr w19 N0 W) w19 wr
def DyMade (w : World) (v1 v2 : Value) (wq : World) : Prop :=
 ∃ g1 g2, v1 = .slice (some ⟨g1, 0, none⟩) 286 286 ∧ v2 = .slice (some ⟨g2, 0, none⟩) 30 30 ∧ g1 ≠ g2 ∧ OwnB wq w.heap.size v1 (List.replicate 286 false) ∧ OwnB wq w.heap.size v2 (List.replicate 30 false) ∧ Frm (fun _ _ => False) w wq
theorem dy_made (w : World) : DyMade w (.slice (some ⟨w.heap.size, 0, none⟩) 286 286) (.slice (some ⟨w.heap.size + 1, 0, none⟩) 30 30) ((w.alloc (.cells (madeCells #[.bool false] 286) 4)).alloc (.cells (madeCells #[.bool false] 30) 4)).drew ∧
 DyMade w (.slice (some ⟨w.heap.size + 1, 0, none⟩) 286 286) (.slice (some ⟨w.heap.size, 0, none⟩) 30 30) ((w.alloc (.cells (madeCells #[.bool false] 30) 4)).alloc (.cells (madeCells #[.bool false] 286) 4)).drew := by
 have sz : ∀ (o : Obj), (w.alloc o).heap.size = w.heap.size + 1 := fun o => by simp
 constructor
 · have h1 := ownB_made w 286 (by simp only [maxLen]; omega)
   have h2 := ownB_made (w.alloc (.cells (madeCells #[.bool false] 286) 4)) 30 (by simp only [maxLen]; omega)
   rw [sz] at h2; refine ⟨_, _, rfl, rfl, by omega, ?_, ?_, (((Frm.refl _ _).alloc _).trans ((Frm.refl _ _).alloc _)).trans ((Frm.refl _ _).drew)⟩
   · exact (h1.keep ((Frm.refl (fun _ _ => False) _).alloc _) (fun _ _ _ e => e)).keep ((Frm.refl (fun _ _ => False) _).drew) (fun _ _ _ e => e)
   · exact Row.lower (h2.keep ((Frm.refl (fun _ _ => False) _).drew) (fun _ _ _ e => e)) (by omega)
 · have h1 := ownB_made w 30 (by simp only [maxLen]; omega)
   have h2 := ownB_made (w.alloc (.cells (madeCells #[.bool false] 30) 4)) 286 (by simp only [maxLen]; omega)
   rw [sz] at h2; refine ⟨_, _, rfl, rfl, by omega, ?_, ?_, (((Frm.refl _ _).alloc _).trans ((Frm.refl _ _).alloc _)).trans ((Frm.refl _ _).drew)⟩
   · exact Row.lower (h2.keep ((Frm.refl (fun _ _ => False) _).drew) (fun _ _ _ e => e)) (by omega)
   · exact (h1.keep ((Frm.refl (fun _ _ => False) _).alloc _) (fun _ _ _ e => e)).keep ((Frm.refl (fun _ _ => False) _).drew) (fun _ _ _ e => e)
set_option maxHeartbeats 4000000 in
theorem dynamic_any (w : World) (N0 W : Nat) (L : List Bool) (h : Wt w N0 W L) (hW : W < N0) (hN : N0 ≤ w.heap.size) (hL : L.length ≤ 4398046511104)
 (tb : Option Addr) (toks : List Tk) (tc : Nat) (ht : Tks w tb toks) (M C : Nat) (htW : ∀ a, tb = some a → a.block ≠ W ∧ a.block ≠ C ∧ a.block < w.heap.size) (htl : toks.length ≤ 65535) {n0 : Nat} (hok : toksOk n0 toks)
 (l : List Int) (k0 : Nat) (hC : Chs w M C l k0) (hk0 : k0 ≤ 68719476736) (hCW : C ≠ W) (hMW : M ≤ W) :
 Calls Tryz.prog 48 #[.pointer (some ⟨W, 0, none⟩), .slice tb toks.length tc, .pointer (some ⟨C, 0, none⟩)] w fun e w' => ∃ B k, e = .returned (.tuple #[]) ∧ DynBits B toks ∧ B.length ≤ 5000 + 48 * toks.length ∧ Wt w' N0 W (L ++ B) ∧ Chs w' M C l k ∧ k0 ≤ k ∧ k ≤ k0 + 1000 ∧ Frm (fun b o => b = C ∨ SWr w N0 W b o) w w' := by
 have HW := zHi (zAi h (zAi hW (zAi hN (zAi hL (zAi hCW hMW)))))
 have HT := zHi (zAi ht (zAi htW (zAi htl hok)))
 have HC := zHi (zAi hC hk0)
 obtain ⟨n, hn⟩ : ∃ n, n = toks.length := ⟨_, rfl⟩
 have c1 : (n : Int) ≤ 65535 := by omega
 rw [← hn]
 have HN := zHi hn
 have hmk1 : ∀ w : World, (Instr.makeSlice 134 (.int .i64 286) (.int .i64 286)).run Tryz.prog w = .ok (.slice (some ⟨w.heap.size, 0, none⟩) 286 286) (w.alloc (.cells (madeCells #[.bool false] 286) 4)) := run_make_row' (P := Tryz.prog) 134 4 (.bool false) 1 Tryz.underlying134 infoBools rfl .i64 .i64 286 (by omega) (by omega)
 have hmk2 : ∀ w : World, (Instr.makeSlice 134 (.int .i64 30) (.int .i64 30)).run Tryz.prog w = .ok (.slice (some ⟨w.heap.size, 0, none⟩) 30 30) (w.alloc (.cells (madeCells #[.bool false] 30) 4)) := run_make_row' (P := Tryz.prog) 134 4 (.bool false) 1 Tryz.underlying134 infoBools rfl .i64 .i64 30 (by omega) (by omega)
 clear h hW hN hL ht htW htl hC hk0 hCW hMW hn hok
 go_enter Tryz.func48, Tryz.ntmps48
 go_upto_region 0 with (fail)
 go_cut [6, 7] (fun v1 v2 wq => DyMade w v1 v2 wq)
 case first =>
  as_aux_lemma =>
  have hd := dy_made w
  go_region_with (fail)
  all_goals
   go_wp2_with fail
   go_meet
   case rel => first | exact hd.1 | exact hd.2
 obtain ⟨g1, g2, rfl, rfl, hg12, hA0, hD0, hf1⟩ := hcut
 apply_assumption
 have HX := zHi (zAi hg12 hf1)
 obtain ⟨w1, rfl⟩ : ∃ w1, w1 = wc := ⟨_, rfl⟩
 have hbnd := hA0.lt g1 rfl
 have hbnd2 := hD0.lt g2 rfl
 obtain ⟨hs1, hsf1⟩ := hA0.set (g := g1) rfl (show 256 < (List.replicate 286 false).length by simp) true
 obtain ⟨gg, cp, hv, _, _, _, hoc, hofz⟩ := Row.at hA0 (show 256 < (List.replicate 286 false).length by simp)
 have hgg : g1 = gg := Option.some.inj (congrArg Value.ownBlock hv)
 subst hgg
 replace hoc : ∃ ov, w1.cell? ⟨g1, 256, none⟩ = some ov := ⟨_, hoc⟩
 obtain ⟨ov, hoc⟩ := hoc
 obtain ⟨w2, hw2⟩ : ∃ w2, w2 = w1.setCell ⟨g1, 256, none⟩ (.bool true) := ⟨_, rfl⟩
 rw [← hw2] at hs1 hsf1
 have hD1 : OwnB w2 w.heap.size (.slice (some ⟨g2, 0, none⟩) 30 30) (List.replicate 30 false) := hD0.keep hsf1 (fun g o hg e => by obtain rfl := Option.some.inj hg; exact hg12 e.1.symm)
 have hst : DyT w1 w.heap.size g1 g2 toks n (.int .i64 0) w2 := ⟨0, _, _, Nat.zero_le _, by rw [HN.out, Nat.sub_zero], rfl, hs1, hD1, by simp, by simp, mark_set (by simp), fun t ht => absurd ht (by simp), hsf1.mono fun _ _ e => .inl e.1⟩
 have HS := zHi hst
 have HB := zHi (zAi hbnd hbnd2)
 clear hg12 hA0 hD0 hf1 hbnd hbnd2 hs1 hsf1 hv hD1 hst hmk1 hmk2
 go_upto_region 1 with (fail)
 go_cut [31] (fun s wq => wq = w2)
 case first =>
  as_aux_lemma =>
  go_wp2_with fail
  go_meet
  case rel => exact hw2.symm
 obtain rfl := hcut
 clear hw2 hoc hofz
 apply_assumption
 refine wp_seq_k ?_
 intro K1 hK1
 go_cut [10] (fun s wq => DyEnd w g1 g2 toks wq)
 case first =>
  as_aux_lemma =>
  go_wp2_with fail
  go_loopg [34] n (fun g iv wr => DyT w1 w.heap.size g1 g2 toks g iv wr)
  case atStart => exact HS.out
  case round =>
   obtain ⟨k, A, D, hk, hg, rfl, hA, hD, hAl, hDl, h256, hm, hf⟩ := hrel; obtain ⟨hg12, hf1⟩ := HX.out
   by_cases hlt : k < n
   · have hkl : k < toks.length := by rw [← HN.out]; exact hlt
     obtain ⟨g', htb, t0, t1, t2⟩ := HT.out.1.cells k hkl; have hgl := (HT.out.2.1 _ htb).2.2; simp only at hgl; have hgn : ∀ o : Nat, ¬ (g' = g1 ∨ g' = g2) := fun _ q => by have := HB.out; omega
     replace t0 := hf.keep (hf1.keep t0 (fun e => e)) (hgn 0)
     replace t1 := hf.keep (hf1.keep t1 (fun e => e)) (hgn 0)
     replace t2 := hf.keep (hf1.keep t2 (fun e => e)) (hgn 0)
     subst htb; obtain ⟨t, htt⟩ : ∃ t, t = toks[k] := ⟨_, rfl⟩; rw [← htt] at t0 t1 t2; have htok := tok_at HT.out.2.2.2 hkl; rw [← htt] at htok; have hts : toks.take (k + 1) = toks.take k ++ [t] := by rw [List.take_add_one, List.getElem?_eq_getElem hkl, htt]; rfl
     have HR := zHi (zAi hg (zAi hA (zAi hD (zAi hAl (zAi hDl (zAi h256 (zAi hm (zAi hf (zAi hts hkl))))))))); clear hk hg hA hD hAl hDl h256 hm hf hkl hg12 hf1 hgl hgn htt hts
     cases t with
     | lit c =>
      obtain ⟨cn, hcn⟩ : ∃ cn, cn = c.toNat := ⟨_, rfl⟩; have u0 : wr.cell? ⟨g', k * 3, none⟩ = some (.int .i64 (cn : Int)) := by rw [hcn]; exact t0
      have u1 : wr.cell? ⟨g', k * 3 + 1, none⟩ = some (.int .i64 0) := t1; have u2 : wr.cell? ⟨g', k * 3 + 2, none⟩ = some (.int .i64 0) := t2; have hcl := c.toNat_lt; have d1 : cn < 286 := by omega
      have d2 : (cn : Int) ≤ 255 := by omega
      obtain ⟨W3, hW3⟩ : ∃ W3, W3 = wr.alloc (.cells #[.int .i64 (cn : Int), .int .i64 0, .int .i64 0] 131) := ⟨_, rfl⟩; have hf3 : Frm (fun _ _ => False) wr W3 := by rw [hW3]; exact (Frm.refl _ _).alloc _
      have r0 : W3.cell? ⟨wr.heap.size, 0, none⟩ = some (.int .i64 (cn : Int)) := by rw [hW3]; exact (cells_at (heap_alloc_new wr _)).trans rfl
      have r1 : W3.cell? ⟨wr.heap.size, 1, none⟩ = some (.int .i64 0) := by rw [hW3]; exact (cells_at (heap_alloc_new wr _)).trans rfl
      have hA3 := HR.out.2.1.keep hf3 (fun _ _ _ e => e)
      have hD3 := HR.out.2.2.1.keep hf3 (fun _ _ _ e => e)
      have hcA : cn < A.length := by rw [HR.out.2.2.2.1]; exact d1
      obtain ⟨hs3, hsf3⟩ := OwnB.set hA3 (g := g1) rfl hcA true; obtain ⟨gg, cp, hv, _, _, _, hoc, hofz⟩ := Row.at hA3 hcA; have hgg : g1 = gg := Option.some.inj (congrArg Value.ownBlock hv); subst hgg; replace hoc : ∃ ov, W3.cell? ⟨g1, cn, none⟩ = some ov := ⟨_, hoc⟩; obtain ⟨ov, hoc⟩ := hoc; have hD4 := hD3.keep hsf3 (fun g o hg e => by obtain rfl := Option.some.inj hg; exact HX.out.1 e.1.symm)
      have HC1 := zHi (zAi hcn (zAi hf3 (zAi hs3 (zAi hsf3 (zAi hD4 hcA))))); clear t0 t1 t2 hcl hf3 hA3 hD3 hcA hs3 hsf3 hv hD4 hcn htok; go_upto_region 5 with (fail)
      rw [← hW3]; clear hW3; go_wp2_with fail
      go_roundg (n - (k + 1))
      case measure => have := HR.out.1; have := HN.out; omega
      case rel =>
       obtain ⟨hg, hA, hD, hAl, hDl, h256, hm, hf, hts, hkl⟩ := HR.out; obtain ⟨hcn, hf3, hs3, hsf3, hD4, hcA⟩ := HC1.out; refine ⟨k + 1, A.set cn true, D, hkl, by rw [HN.out], by go_num, hs3, hD4, by rw [List.length_set, hAl], hDl, (marks_set A cn).2 _ h256, fun t ht => ?_, (hf.trans (hf3.mono fun _ _ e => e.elim)).trans (hsf3.mono fun _ _ e => .inl e.1)⟩
       rw [hts] at ht; rcases List.mem_append.1 ht with q | q
       · exact (hm t q).more (marks_set A cn) (Marks.refl _)
       · obtain rfl := List.mem_singleton.1 q
         show (A.set cn true).getD c.toNat false = true
         rw [← hcn]; exact mark_set hcA
     | cpy f m =>
      have u0 : wr.cell? ⟨g', k * 3, none⟩ = some (.int .i64 0) := t0; have u1 : wr.cell? ⟨g', k * 3 + 1, none⟩ = some (.int .i64 (f : Int)) := t1; have u2 : wr.cell? ⟨g', k * 3 + 2, none⟩ = some (.int .i64 (m : Int)) := t2; obtain ⟨f1, f2, m1, m2⟩ : 1 ≤ f ∧ f ≤ 32768 ∧ 3 ≤ m ∧ m ≤ 258 := htok; have d0 : ((f : Int) == 0) = false := by simp; omega
      have hl1 := fun W => lengthSymbol_any W m m1 m2
      have hl2 := fun W => distanceSymbol_any W f f1 f2
      obtain ⟨k1, k2, k3, k4, _, _, _⟩ := lenSymbol_ok m1 m2; obtain ⟨k5, k6, k7, _, _, _⟩ := distSymbol_ok f1 f2; obtain ⟨s1, hs1⟩ : ∃ s, s = (lenSymbol m).1 := ⟨_, rfl⟩; obtain ⟨o1, ho1⟩ : ∃ s, s = (lenSymbol m).2.1 := ⟨_, rfl⟩; obtain ⟨e1, he1⟩ : ∃ s, s = (lenSymbol m).2.2 := ⟨_, rfl⟩; obtain ⟨s2, hs2⟩ : ∃ s, s = (distSymbol f).1 := ⟨_, rfl⟩; obtain ⟨o2, ho2⟩ : ∃ s, s = (distSymbol f).2.1 := ⟨_, rfl⟩; obtain ⟨e2, he2⟩ : ∃ s, s = (distSymbol f).2.2 := ⟨_, rfl⟩; rw [← hs1, ← ho1, ← he1] at hl1; rw [← hs2, ← ho2, ← he2] at hl2; rw [← hs1] at k1 k2; rw [← hs2] at k5; have d1 : s1 < 286 := by omega
      have d2 : s2 < 30 := by omega
      have d3 : (s1 : Int) ≤ 285 := by omega
      have d4 : (s2 : Int) ≤ 29 := by omega
      obtain ⟨W3, hW3⟩ : ∃ W3, W3 = wr.alloc (.cells #[.int .i64 0, .int .i64 (f : Int), .int .i64 (m : Int)] 131) := ⟨_, rfl⟩; have hf3 : Frm (fun _ _ => False) wr W3 := by rw [hW3]; exact (Frm.refl _ _).alloc _
      obtain ⟨B, hB⟩ : ∃ B, B = wr.heap.size := ⟨_, rfl⟩; have v0 : W3.cell? ⟨B, 1, none⟩ = some (.int .i64 (f : Int)) := by rw [hW3, hB]; exact (cells_at (heap_alloc_new wr _)).trans rfl
      have v1 : W3.cell? ⟨B, 2, none⟩ = some (.int .i64 (m : Int)) := by rw [hW3, hB]; exact (cells_at (heap_alloc_new wr _)).trans rfl
      have hA3 := HR.out.2.1.keep hf3 (fun _ _ _ e => e)
      have hD3 := HR.out.2.2.1.keep hf3 (fun _ _ _ e => e)
      have hcA : s1 < A.length := by rw [HR.out.2.2.2.1]; exact d1
      have hcD : s2 < D.length := by rw [HR.out.2.2.2.2.1]; exact d2
      have hBg1 : B ≠ g1 := by have := (HR.out.2.1.lt g1 rfl).2; omega
      have hBg2 : B ≠ g2 := by have := (HR.out.2.2.1.lt g2 rfl).2; omega
      obtain ⟨hs3, hsf3⟩ := OwnB.set hA3 (g := g1) rfl hcA true; obtain ⟨gg, cp, hv, _, _, _, hoc, hofz⟩ := Row.at hA3 hcA; have hgg : g1 = gg := Option.some.inj (congrArg Value.ownBlock hv); subst hgg; replace hoc : ∃ ov, W3.cell? ⟨g1, s1, none⟩ = some ov := ⟨_, hoc⟩; obtain ⟨ov, hoc⟩ := hoc; obtain ⟨W4, hW4⟩ : ∃ W4, W4 = W3.setCell ⟨g1, s1, none⟩ (.bool true) := ⟨_, rfl⟩; rw [← hW4] at hs3 hsf3; have v04 : W4.cell? ⟨B, 1, none⟩ = some (.int .i64 (f : Int)) := hsf3.keep v0 (fun e => hBg1 e.1)
      have hD4 := hD3.keep hsf3 (fun g o hg e => by obtain rfl := Option.some.inj hg; exact HX.out.1 e.1.symm)
      obtain ⟨hs4, hsf4⟩ := OwnB.set hD4 (g := g2) rfl hcD true; obtain ⟨gg, cp2, hv2, _, _, _, hoc2, hofz2⟩ := Row.at hD4 hcD; have hgg : g2 = gg := Option.some.inj (congrArg Value.ownBlock hv2); subst hgg; replace hoc2 : ∃ ov, W4.cell? ⟨g2, s2, none⟩ = some ov := ⟨_, hoc2⟩; obtain ⟨ov2, hoc2⟩ := hoc2; have hs3' := hs3.keep hsf4 (fun g o hg e => by obtain rfl := Option.some.inj hg; exact HX.out.1 e.1)
      have HC1 := zHi (zAi hs1 (zAi hs2 (zAi hf3 (zAi hs3' (zAi hsf3 (zAi hs4 (zAi hsf4 (zAi hcA (zAi hcD (zAi f1 (zAi f2 (zAi m1 m2)))))))))))); have HL1 := zHi (hl1 W3); have HL2 := zHi (hl2 W4); clear t0 t1 t2 f1 f2 m1 m2 hl1 hl2 k1 k2 k3 k4 k5 k6 k7 hs1 ho1 he1 hs2 ho2 he2 hf3 hA3 hD3 hcA hcD hBg1 hBg2 hs3 hsf3 hv hD4 hs4 hsf4 hv2 hs3'; go_upto_region 7 with (fail)
      rw [← hW3, ← hB]; clear hW3 hB; go_wp2_with fail
      refine HL1.out.mono ?_; rintro e w4 ⟨rfl, rfl⟩; go_upto_region 9 with (fail)
      rw [← hW4]; clear hW4 hoc hofz; go_wp2_with fail
      refine HL2.out.mono ?_; rintro e w4 ⟨rfl, rfl⟩; go_wp2_with fail
      go_roundg (n - (k + 1))
      case measure => have := HR.out.1; have := HN.out; omega
      case rel =>
       obtain ⟨hg, hA, hD, hAl, hDl, h256, hm, hf, hts, hkl⟩ := HR.out; obtain ⟨hs1, hs2, hf3, hs3, hsf3, hs4, hsf4, hcA, hcD, f1, f2, m1, m2⟩ := HC1.out; refine ⟨k + 1, A.set s1 true, D.set s2 true, hkl, by rw [HN.out], by go_num, hs3, hs4, by rw [List.length_set, hAl], by rw [List.length_set, hDl], (marks_set A s1).2 _ h256, fun t ht => ?_, ((hf.trans (hf3.mono fun _ _ e => e.elim)).trans (hsf3.mono fun _ _ e => .inl e.1)).trans (hsf4.mono fun _ _ e => .inr e.1)⟩
       rw [hts] at ht; rcases List.mem_append.1 ht with q | q
       · exact (hm t q).more (marks_set A s1) (marks_set D s2)
       · obtain rfl := List.mem_singleton.1 q; exact ⟨f1, f2, m1, m2, by rw [← hs1]; exact mark_set hcA, by rw [← hs2]; exact mark_set hcD⟩
   · obtain rfl : k = n := by have := HN.out; omega
     have hd : decide (k < k) = false := by simp
     have hall : ∀ t ∈ toks, TkMark A D t := by
      intro t ht; refine hm t ?_; rw [HN.out, List.take_length]; exact ht
     have hfw : Frm (fun _ _ => False) w wr := hf1.trans' hf (fun x o hx q => by have := HB.out; omega)
     have HR := zHi (show DyEnd w g1 g2 toks wr from ⟨A, D, hA, hD, hAl, hDl, h256, hall, hfw⟩)
     clear hk hg hA hD hAl hDl h256 hm hf hg12 hf1 hall hfw hlt; go_wp2_with fail
     go_meet
     case rel => exact HR.out
 obtain ⟨A, D, hA, hD, hAl, hDl, h256, hall, hfw⟩ := hcut
 refine hK1 _ _ ?_
 refine wp_seq_k ?_
 intro K2 hK2
 have HR := zHi (zAi hA (zAi hD (zAi hAl (zAi hDl (zAi h256 (zAi hall hfw))))))
 obtain ⟨w3, rfl⟩ : ∃ w3, w3 = wc := ⟨_, rfl⟩
 clear hA hD hAl hDl h256 hall hfw HS
 go_cut [71] (fun s wq => DyMore w3 w.heap.size g1 g2 M C l k0 A D wq)
 case first =>
  as_aux_lemma =>
  have hn2 : Calls Tryz.prog 42 #[.pointer (some ⟨C, 0, none⟩), .int .i64 2] w3 fun e w' => ∃ v : Nat, e = .returned (natV v) ∧ v < 2 ∧ (l = [] → v = k0 % 2) ∧ Chs w' M C l (k0 + 1) ∧ Frm (fun b _ => b = C) w3 w' := next_any w3 M C l k0 (HC.out.1.keep0 HR.out.2.2.2.2.2.2) 2 (by omega) (by omega) (by have := HC.out.2; omega)
  have HN2 := zHi hn2; clear hn2; go_wp2_with fail
  refine HN2.out.mono ?_; rintro e w4 ⟨v4, rfl, hv4, _, hC4, hf4⟩; have c6 : (v4 : Int) ≤ 1 := by omega
  obtain ⟨hA, hD, hAl, hDl, h256, hall, hfw⟩ := HR.out; have hCl := HC.out.1.lt; have hA4 : OwnB w4 w.heap.size (.slice (some ⟨g1, 0, none⟩) 286 286) A := hA.keep hf4 (fun g o hg e => by have := (hA.lt g hg).1; omega)
  have hD4 : OwnB w4 w.heap.size (.slice (some ⟨g2, 0, none⟩) 30 30) D := hD.keep hf4 (fun g o hg e => by have := (hD.lt g hg).1; omega)
  by_cases hv : v4 = 0
  · subst hv; have hn3 : Calls Tryz.prog 42 #[.pointer (some ⟨C, 0, none⟩), .int .i64 286] w4 fun e w' => ∃ v : Nat, e = .returned (natV v) ∧ v < 286 ∧ (l = [] → v = (k0 + 1) % 286) ∧ Chs w' M C l (k0 + 1 + 1) ∧ Frm (fun b _ => b = C) w4 w' := next_any w4 M C l (k0 + 1) hC4 286 (by omega) (by omega) (by have := HC.out.2; omega)
    have HN3 := zHi hn3; have H4 := zHi (zAi hA4 (zAi hD4 hf4)); clear hn3 hA hD hAl hDl h256 hall hfw hA4 hD4 hf4 hC4 hv4; go_wp2_with fail
    refine HN3.out.mono ?_; rintro e w5 ⟨v5, rfl, hv5, _, hC5, hf5⟩; obtain ⟨hA4, hD4, hf4⟩ := H4.out; have c7 : (v5 : Int) ≤ 285 := by omega
    have hA5 : OwnB w5 w.heap.size (.slice (some ⟨g1, 0, none⟩) 286 286) A := hA4.keep hf5 (fun g o hg e => by have := (hA4.lt g hg).1; omega)
    have hD5 : OwnB w5 w.heap.size (.slice (some ⟨g2, 0, none⟩) 30 30) D := hD4.keep hf5 (fun g o hg e => by have := (hD4.lt g hg).1; omega)
    have hcA : v5 < A.length := by rw [HR.out.2.2.1]; exact hv5
    obtain ⟨hs5, hsf5⟩ := OwnB.set hA5 (g := g1) rfl hcA true; obtain ⟨gg, cp, hvv, _, _, _, hoc, hofz⟩ := Row.at hA5 hcA; have hgg : g1 = gg := Option.some.inj (congrArg Value.ownBlock hvv); subst hgg; replace hoc : ∃ ov, w5.cell? ⟨g1, v5, none⟩ = some ov := ⟨_, hoc⟩; obtain ⟨ov, hoc⟩ := hoc; have hD6 := hD5.keep hsf5 (fun g o hg e => by obtain rfl := Option.some.inj hg; exact HX.out.1 e.1.symm)
    have hg1C : w.heap.size ≤ g1 := (hA4.lt g1 rfl).1; have hC6 := hC5.keep hsf5 (fun b o q => ⟨by have := q.1; omega, .inl (by have := q.1; have := HW.out; omega)⟩)
    have hmore : DyMore w3 w.heap.size g1 g2 M C l k0 A D (w5.setCell ⟨g1, v5, none⟩ (.bool true)) := ⟨A.set v5 true, k0 + 2, hs5, hD6, marks_set A v5, hC6, by omega, by omega, ((hf4.mono fun _ _ e => .inl e).trans (hf5.mono fun _ _ e => .inl e)).trans (hsf5.mono fun _ _ e => .inr e.1)⟩
    have HM := zHi hmore; have d9 : v5 < 286 := hv5; clear hA4 hD4 hf4 hA5 hD5 hcA hs5 hsf5 hvv hD6 hg1C hC6 hmore hC5 hf5 hCl hv5; go_wp2_with fail
    go_meet
    case rel => exact HM.out
  · have t1 : ((v4 : Int) == 0) = false := by simp; omega
    have HM := zHi (show DyMore w3 w.heap.size g1 g2 M C l k0 A D w4 from ⟨A, k0 + 1, hA4, hD4, Marks.refl _, hC4, by omega, by omega, hf4.mono fun _ _ e => .inl e⟩)
    clear hA hD hAl hDl h256 hall hfw hA4 hD4 hf4 hC4 hv4 hv hCl; go_wp2_with fail
    go_meet
    case rel => exact HM.out
 obtain ⟨A', k1, hA', hD', hmk, hC1, hk1, hk2, hf3⟩ := hcut
 refine hK2 _ _ ?_
 obtain ⟨w4, rfl⟩ : ∃ w4, w4 = wc := ⟨_, rfl⟩
 obtain ⟨hA, hD, hAl, hDl, h256, hall, hfw⟩ := HR.out
 have hA'l : A'.length = 286 := by rw [← hmk.1]; exact hAl
 have h256' := hmk.2 _ h256
 have hall' : ∀ t ∈ toks, TkMark A' D t := fun t ht => (hall t ht).more hmk (Marks.refl _)
 have hsz4 : w.heap.size ≤ w4.heap.size := Nat.le_trans hfw.size hf3.size
 obtain ⟨ub1, uc1, hv1, _, hbs1⟩ := OwnB.bs hA'
 rw [hA'l] at hv1
 have hub1 : ub1 = some ⟨g1, 0, none⟩ := by injection hv1 with e1 e2 e3; exact e1.symm
 have huc1 : uc1 = 286 := by injection hv1 with e1 e2 e3; exact e3.symm
 subst hub1
 subst huc1
 clear hv1
 have htr1 := tree_any w4 (some ⟨g1, 0, none⟩) A' 286 hbs1 (by omega) M C (by have := HW.out; omega) l k1 hC1 (by have := HC.out.2; omega) 15 (by omega) (by omega) (by omega)
 rw [hA'l] at htr1
 have htr1' : Calls Tryz.prog 68 #[.slice (some ⟨g1, 0, none⟩) 286 286, .pointer (some ⟨C, 0, none⟩), .int .i64 15] w4 fun e w' => ∃ v out k, e = .returned v ∧ OwnN w' w4.heap.size v out ∧ TreeOK A' 15 out ∧ Chs w' M C l k ∧ k1 ≤ k ∧ k ≤ k1 + 5 ∧ Frm (fun b _ => b = C) w4 w' := htr1
 have HT1 := zHi htr1'
 have HR4 := zHi (zAi hD' (zAi hA'l (zAi hDl (zAi h256' (zAi hall' (zAi hk1 (zAi hk2 (zAi hfw (zAi hf3 hsz4)))))))))
 clear hA hD hAl hDl h256 hall hfw hA' hD' hmk hC1 hk1 hk2 hf3 hA'l h256' hall' hsz4 hbs1 htr1 htr1' HR
 go_wp2_with fail
 refine HT1.out.mono ?_
 rintro e w5 ⟨v5, LL, k2, rfl, hLL, hT1, hC2, hk3, hk4, hf5⟩
 obtain ⟨hD', hA'l, hDl, h256', hall', hk1, hk2, hfw, hf3, hsz4⟩ := HR4.out
 have hCl := HC.out.1.lt
 have hD5 : OwnB w5 w.heap.size (.slice (some ⟨g2, 0, none⟩) 30 30) D := hD'.keep hf5 (fun g o hg e => by have := (hD'.lt g hg).1; omega)
 obtain ⟨ub2, uc2, hv2, _, hbs2⟩ := OwnB.bs hD5
 rw [hDl] at hv2
 have hub2 : ub2 = some ⟨g2, 0, none⟩ := by injection hv2 with e1 e2 e3; exact e1.symm
 have huc2 : uc2 = 30 := by injection hv2 with e1 e2 e3; exact e3.symm
 subst hub2
 subst huc2
 clear hv2
 have htr2 := tree_any w5 (some ⟨g2, 0, none⟩) D 30 hbs2 (by omega) M C (by have := HW.out; have := hf5.size; omega) l k2 hC2 (by have := HC.out.2; omega) 15 (by omega) (by omega) (by omega)
 rw [hDl] at htr2
 have htr2' : Calls Tryz.prog 68 #[.slice (some ⟨g2, 0, none⟩) 30 30, .pointer (some ⟨C, 0, none⟩), .int .i64 15] w5 fun e w' => ∃ v out k, e = .returned v ∧ OwnN w' w5.heap.size v out ∧ TreeOK D 15 out ∧ Chs w' M C l k ∧ k2 ≤ k ∧ k ≤ k2 + 5 ∧ Frm (fun b _ => b = C) w5 w' := htr2
 have HT2 := zHi htr2'
 have HR5 := zHi (zAi hLL (zAi hT1 (zAi hk3 (zAi hk4 hf5))))
 clear hD' hA'l hDl h256' hall' hk1 hk2 hfw hf3 hsz4 hD5 hbs2 htr2 htr2' hLL hT1 hC2 hk3 hk4 hf5 HT1
 go_wp2_with fail
 refine HT2.out.mono ?_
 rintro e w6 ⟨v6, DL, k3, rfl, hDL, hT2, hC3, hk5, hk6, hf6⟩
 obtain ⟨hD', hA'l, hDl, h256', hall', hk1, hk2, hfw, hf3, hsz4⟩ := HR4.out
 obtain ⟨hLL, hT1, hk3, hk4, hf5⟩ := HR5.out
 have hf46 : Frm (fun b _ => b = C) w4 w6 := hf5.trans hf6
 have hLL6 : OwnN w6 w4.heap.size v5 LL := hLL.keep hf6 (fun g o hg e => by have := (hLL.lt g hg).1; omega)
 have hLLl : LL.length = 286 := by rw [hT1.len]; exact hA'l
 have hDLl : DL.length = 30 := by rw [hT2.len]; exact hDl
 have HP := zHi (zAi hT1 (zAi hT2 (zAi hA'l (zAi hDl (zAi h256' hall')))))
 have hf06 : Frm (fun b _ => b = C) w w6 := (hfw.mono fun _ _ e => e.elim).trans' (hf3.trans (hf46.mono fun _ _ e => .inl e)) (fun x o hx q => by
  rcases q with q | q
  · exact q
  · have := HB.out.1; omega)
 obtain ⟨lg, lcap, hv5, hlg1, hlg2, hlc⟩ := Row.val hLL6 (by omega)
 obtain ⟨dg, dcap, hv6, hdg1, hdg2, hdc⟩ := Row.val hDL (by omega)
 rw [hLLl] at hv5 hlc
 rw [hDLl] at hv6 hdc
 subst hv5
 subst hv6
 have hntL : Nt w6 (some ⟨lg, 0, none⟩) LL := by
  obtain ⟨b, cap, q1, _, q2⟩ := OwnN.nt hLL6; have : b = some ⟨lg, 0, none⟩ := by injection q1 with e1 e2 e3; exact e1.symm
  subst this; exact q2
 have hntD : Nt w6 (some ⟨dg, 0, none⟩) DL := by
  obtain ⟨b, cap, q1, _, q2⟩ := OwnN.nt hDL; have : b = some ⟨dg, 0, none⟩ := by injection q1 with e1 e2 e3; exact e1.symm
  subst this; exact q2
 have HG := zHi (zAi (show w.heap.size ≤ lg by omega) (zAi (show w.heap.size ≤ dg by have := hf5.size; omega) (zAi hlg2 hdg2)))
 have HL := zHi (zAi hntL (zAi hLLl (zAi hntD hDLl)))
 have HC6 := zHi (zAi hC3 (zAi (show k0 ≤ k3 by omega) (zAi (show k3 ≤ k0 + 12 by omega) hf06)))
 have k3b : k3 ≤ 68719476748 := by have := HC.out.2; omega
 clear hD' hA'l hDl h256' hall' hk1 hk2 hfw hf3 hsz4 hLL hT1 hk3 hk4 hf5 hDL hT2 hC3 hk5 hk6 hf6 hf46 hLL6 hLLl hDLl hf06 hlg1 hlg2 hdg1 hdg2 hntL hntD HT2 HR5 hCl
 go_upto_region 15 with (fail)
 go_cut [15, 16] (fun s t wq => s = .int .i64 286 ∧ t = .int .i64 30 ∧ w6 = wq)
 case first =>
  as_aux_lemma =>
  go_wp2_with fail
  go_meet
  case rel => exact ⟨rfl, rfl, rfl⟩
 obtain ⟨rfl, rfl, rfl⟩ := hcut
 apply_assumption
 refine wp_seq_k ?_
 intro K3 hK3
 go_cut [15] (fun s wq => w6 = wq ∧ ∃ nl : Nat, s = .int .i64 (nl : Int) ∧ 257 ≤ nl ∧ nl ≤ 286 ∧ ∀ j, nl ≤ j → LL.getD j 0 = 0)
 case first =>
  as_aux_lemma =>
  go_wp2_with fail
  go_loopg [15] 286 (fun g s wq => w6 = wq ∧ ∃ nl : Nat, g = nl ∧ s = .int .i64 (nl : Int) ∧ 257 ≤ nl ∧ nl ≤ 286 ∧ ∀ j, nl ≤ j → LL.getD j 0 = 0)
  case atStart => exact ⟨rfl, 286, rfl, rfl, by omega, by omega, fun j hj => by rw [List.getD_eq_getElem?_getD, List.getElem?_eq_none (by rw [HL.out.2.1]; exact hj)]; rfl⟩
  case round =>
   obtain ⟨rfl, nl, hgk, rfl, n1, n2, hz⟩ := hrel; have HGK := zHi hgk; clear hgk; obtain ⟨wr, rfl⟩ : ∃ wr, wr = w6 := ⟨_, rfl⟩; have c7 : (nl : Int) ≤ 286 := by omega
   have c8 : (257 : Int) ≤ (nl : Int) := by omega
   have HZ := zHi (zAi n1 hz); clear hz n1
   by_cases hlt : 257 < nl
   · have d0 : decide ((257 : Int) < (nl : Int)) = true := by simp; omega
     obtain ⟨m, hm⟩ : ∃ m, m = nl - 1 := ⟨_, rfl⟩; have e1 : (nl : Int) - 1 = (m : Int) := by omega
     have d1 : m < 286 := by omega
     obtain ⟨x, hx⟩ : ∃ x, x = LL.getD m 0 := ⟨_, rfl⟩; obtain ⟨gq, hgq, hcx⟩ := HL.out.1.getS (show m < LL.length by rw [HL.out.2.1]; exact d1) x hx
     have hgq' : lg = gq := by injection hgq with e; injection e
     subst hgq'; have HMx := zHi (zAi hm hx); clear hm hx hgq
     by_cases h0 : x = 0
     · subst h0; go_wp2_with fail
       go_roundg m
       case measure => have := HMx.out.1; have := HGK.out; omega
       case rel =>
        obtain ⟨hm, hx⟩ := HMx.out; refine ⟨rfl, m, rfl, rfl, by omega, by omega, fun j hj => ?_⟩
        by_cases e : j = m
        · subst e; exact hx.symm
        · exact HZ.out.2 j (by omega)
     · have t1 : ((x : Int) == 0) = false := by simp; omega
       clear h0; go_wp2_with fail
       go_meet
       case rel => exact ⟨rfl, nl, rfl, HZ.out.1, n2, HZ.out.2⟩
   · have d0 : decide ((257 : Int) < (nl : Int)) = false := by simp; omega
     clear hlt; go_wp2_with fail
     go_meet
     case rel => exact ⟨rfl, nl, rfl, HZ.out.1, n2, HZ.out.2⟩
 obtain ⟨rfl, nl, rfl, nl1, nl2, hzl⟩ := hcut
 obtain ⟨w6, rfl⟩ : ∃ wr, wr = w6 := ⟨_, rfl⟩
 refine hK3 _ _ ?_
 refine wp_seq_k ?_
 intro K4 hK4
 have HZL := zHi (zAi nl1 hzl)
 have c7 : (nl : Int) ≤ 286 := by omega
 have c8 : (257 : Int) ≤ (nl : Int) := by omega
 clear hzl nl1
 go_cut [16] (fun s wq => w6 = wq ∧ ∃ nd : Nat, s = .int .i64 (nd : Int) ∧ 1 ≤ nd ∧ nd ≤ 30 ∧ ∀ j, nd ≤ j → DL.getD j 0 = 0)
 case first =>
  as_aux_lemma =>
  go_wp2_with fail
  go_loopg [16] 30 (fun g s wq => w6 = wq ∧ ∃ nl : Nat, g = nl ∧ s = .int .i64 (nl : Int) ∧ 1 ≤ nl ∧ nl ≤ 30 ∧ ∀ j, nl ≤ j → DL.getD j 0 = 0)
  case atStart => exact ⟨rfl, 30, rfl, rfl, by omega, by omega, fun j hj => by rw [List.getD_eq_getElem?_getD, List.getElem?_eq_none (by rw [HL.out.2.2.2]; exact hj)]; rfl⟩
  case round =>
   obtain ⟨rfl, nd, hgk, rfl, n1, n2, hz⟩ := hrel; have HGK := zHi hgk; clear hgk; obtain ⟨wr, rfl⟩ : ∃ wr, wr = w6 := ⟨_, rfl⟩; have c9 : (nd : Int) ≤ 30 := by omega
   have c10 : (1 : Int) ≤ (nd : Int) := by omega
   have HZ := zHi (zAi n1 hz); clear hz n1
   by_cases hlt : 1 < nd
   · have d0 : decide ((1 : Int) < (nd : Int)) = true := by simp; omega
     obtain ⟨m, hm⟩ : ∃ m, m = nd - 1 := ⟨_, rfl⟩; have e1 : (nd : Int) - 1 = (m : Int) := by omega
     have d1 : m < 30 := by omega
     obtain ⟨x, hx⟩ : ∃ x, x = DL.getD m 0 := ⟨_, rfl⟩; obtain ⟨gq, hgq, hcx⟩ := HL.out.2.2.1.getS (show m < DL.length by rw [HL.out.2.2.2]; exact d1) x hx
     have hgq' : dg = gq := by injection hgq with e; injection e
     subst hgq'; have HMx := zHi (zAi hm hx); clear hm hx hgq
     by_cases h0 : x = 0
     · subst h0; go_wp2_with fail
       go_roundg m
       case measure => have := HMx.out.1; have := HGK.out; omega
       case rel =>
        obtain ⟨hm, hx⟩ := HMx.out; refine ⟨rfl, m, rfl, rfl, by omega, by omega, fun j hj => ?_⟩
        by_cases e : j = m
        · subst e; exact hx.symm
        · exact HZ.out.2 j (by omega)
     · have t1 : ((x : Int) == 0) = false := by simp; omega
       clear h0; go_wp2_with fail
       go_meet
       case rel => exact ⟨rfl, nd, rfl, HZ.out.1, n2, HZ.out.2⟩
   · have d0 : decide ((1 : Int) < (nd : Int)) = false := by simp; omega
     clear hlt; go_wp2_with fail
     go_meet
     case rel => exact ⟨rfl, nd, rfl, HZ.out.1, n2, HZ.out.2⟩
 obtain ⟨rfl, nd, rfl, nd1, nd2, hzd⟩ := hcut
 obtain ⟨w6, rfl⟩ : ∃ wr, wr = w6 := ⟨_, rfl⟩
 refine hK4 _ _ ?_
 have HZD := zHi (zAi nd1 hzd)
 have c9 : (nd : Int) ≤ 30 := by omega
 have c10 : (1 : Int) ≤ (nd : Int) := by omega
 clear hzd nd1
 obtain ⟨AA, hAA⟩ : ∃ A, A = LL.take nl ++ DL.take nd := ⟨_, rfl⟩
 obtain ⟨X, hX⟩ : ∃ X, X = (w6.alloc (.cells #[] 3)).drew := ⟨_, rfl⟩
 have hfX : Frm (fun _ _ => False) w6 X := by rw [hX]; exact ((Frm.refl _ _).alloc _).drew
 have ho0 : OwnN X w6.heap.size (.slice (some ⟨w6.heap.size, 0, none⟩) 0 0) [] := by
  rw [hX]; have := ownN_new w6 [] (by simp)
  exact this.keep (S := fun _ _ => False) ((Frm.refl _ _).drew) (fun _ _ _ e => e)
 have hlt1 : (LL.take nl).length = nl := by rw [List.length_take, HL.out.2.1]; omega
 have hlt2 : (DL.take nd).length = nd := by rw [List.length_take, HL.out.2.2.2]; omega
 obtain ⟨v1, x1, hr1, ho1, hfr1⟩ := append_nats X w6.heap.size _ [] ho0 lg (LL.take nl) lcap (nt_take HL.out.1 hfX (fun _ e => e) nl) (by rw [hlt1]; simp; omega) hfX.size
 have hfx1 := ho0.fresh hfX (Nat.le_refl _) hfr1
 rw [List.nil_append] at ho1
 obtain ⟨v2, x2, hr2, ho2, hfr2⟩ := append_nats x1 w6.heap.size v1 (LL.take nl) ho1 dg (DL.take nd) dcap (nt_take HL.out.2.2.1 hfx1 (fun _ e => e) nd) (by rw [hlt1, hlt2]; omega) hfx1.size
 have hfx2 := ho1.fresh hfx1 (Nat.le_refl _) hfr2
 rw [← hAA] at ho2
 rw [hlt1, hX] at hr1
 rw [hlt2] at hr2
 obtain ⟨ab, ac, rfl, hac, hnt2⟩ := OwnN.nt ho2
 have hAl : AA.length = nl + nd := by rw [hAA, List.length_append, hlt1, hlt2]
 have hA15 : ∀ n ∈ AA, n ≤ 15 := fun n hn => by
  rw [hAA] at hn; rcases List.mem_append.1 hn with q | q
  · exact tree_le15 HP.out.1 n (List.mem_of_mem_take q)
  · exact tree_le15 HP.out.2.1 n (List.mem_of_mem_take q)
 have hCl6 : C < w6.heap.size := HC6.out.1.lt
 have hMw6 : M ≤ w6.heap.size := by have := HW.out; have := HC6.out.2.2.2.size; omega
 have hru := runs_any x2 ab AA ac hnt2 (by omega) (fun j => getD_le hA15) M C l k3 (HC6.out.1.keep0 hfx2) (by omega) (fun a ha e => by subst ha; have := (ho2.lt a.block rfl).1; omega) (by have := hfx2.size; omega)
 have hru' : Calls Tryz.prog 69 #[.slice ab AA.length ac, .pointer (some ⟨C, 0, none⟩)] x2 (fun e w' => ∃ v, e = .returned v ∧ DyRows w6 M C l k3 AA v w') := by
  refine hru.mono ?_; rintro e w' ⟨v, R, k, rfl, q1, q2, q3, q4, q5, q6, q7⟩; exact ⟨v, rfl, R, k, Row.lower q1 hfx2.size, q2, q3, q4, q5, by rw [hAl] at q6; omega, (hfx2.mono fun _ _ e => e.elim).trans q7⟩
 have HRU := zHi hru'
 have HR1 := zHi hr1
 have HR2 := zHi hr2
 have HAA := zHi (zAi hAA (zAi hAl hMw6))
 have c11 : (nl : Int) ≤ (lcap : Int) := by have := HL.out.2; omega
 have c12 : (nd : Int) ≤ (dcap : Int) := by omega
 have s1 : ∀ W, (Instr.sliceAt 33 (.slice (some ⟨lg, 0, none⟩) 286 lcap) none (some (.int .i64 (nl : Int))) none).run Tryz.prog W = .ok (.slice (some ⟨lg, 0, none⟩) nl lcap) W := fun W => by
  rw [run_sliceAt_slice W _ _ _ _ _ under_ints, run_slice_h W _ _ _ _ under_ints _ _ (by omega) (by omega), size_int]
  simp only [Result.andThen, sliced, Int.toNat_natCast, Nat.sub_zero]
  by_cases h : lcap = 0 <;> simp [h, Addr.add]
 have s2 : ∀ W, (Instr.sliceAt 33 (.slice (some ⟨dg, 0, none⟩) 30 dcap) none (some (.int .i64 (nd : Int))) none).run Tryz.prog W = .ok (.slice (some ⟨dg, 0, none⟩) nd dcap) W := fun W => by
  rw [run_sliceAt_slice W _ _ _ _ _ under_ints, run_slice_h W _ _ _ _ under_ints _ _ (by omega) (by omega), size_int]
  simp only [Result.andThen, sliced, Int.toNat_natCast, Nat.sub_zero]
  by_cases h : dcap = 0 <;> simp [h, Addr.add]
 clear hAA hX hfX ho0 hlt1 hlt2 hr1 ho1 hfr1 hfx1 hr2 ho2 hfr2 hfx2 hac hnt2 hAl hA15 hCl6 hMw6 hru hru'
 refine wp_seq_k ?_
 intro K5 hK5
 go_cut [17] (fun s wq => DyRows w6 M C l k3 AA s wq)
 case first =>
  as_aux_lemma =>
  go_region_held3 (fun w' => True) (first | exact trivial | go_keep) (first | (refine step_append_run (by rfl) _ _ _ (by rfl) (by rfl) (by rfl) HR1.out ?_) | (refine step_append_run (by rfl) _ _ _ (by rfl) (by rfl) (by rfl) HR2.out ?_) | (go_at_call 69; refine HRU.out.mono ?_; rintro e w7 ⟨v7, rfl, h7⟩))
  go_wp2_with fail
  go_meet
  case rel => exact h7
 obtain ⟨R, k4, hR, hrr, hro, hC7, hk7, hk8, hf67⟩ := hcut
 obtain ⟨w7, rfl⟩ : ∃ wr, wr = wc := ⟨_, rfl⟩
 refine hK5 _ _ ?_
 obtain ⟨rb, rcap, rfl, hrc, hrns, hrlt⟩ := OwnR.rns hR
 obtain ⟨nr, hnr⟩ : ∃ n, n = R.length := ⟨_, rfl⟩
 have hnr2 : nr ≤ 316 := by
  have h1 := rowsRun_le [] R; rw [hrr, HAA.out.2.1] at h1; have h0 : ([] : List Nat).length = 0 := rfl; omega
 have c13 : (nr : Int) ≤ 316 := by omega
 rw [← hnr]
 obtain ⟨w8, hw8⟩ : ∃ w8, w8 = w7.alloc (.cells (madeCells #[.bool false] 19) 4) := ⟨_, rfl⟩
 obtain ⟨g3, hg3⟩ : ∃ g, g = w7.heap.size := ⟨_, rfl⟩
 have hU0 : OwnB w8 w7.heap.size (.slice (some ⟨g3, 0, none⟩) 19 19) (List.replicate 19 false) := by rw [hw8, hg3]; exact ownB_made w7 19 (by simp only [maxLen]; omega)
 have hf78 : Frm (fun _ _ => False) w7 w8 := by rw [hw8]; exact (Frm.refl _ _).alloc _
 have hmk3 : ∀ w : World, (Instr.makeSlice 134 (.int .i64 19) (.int .i64 19)).run Tryz.prog w = .ok (.slice (some ⟨w.heap.size, 0, none⟩) 19 19) (w.alloc (.cells (madeCells #[.bool false] 19) 4)) := run_make_row' (P := Tryz.prog) 134 4 (.bool false) 1 Tryz.underlying134 infoBools rfl .i64 .i64 19 (by omega) (by omega)
 have HRO := zHi (zAi hnr (zAi hnr2 (zAi hrns (zAi hrlt (zAi hrr hro)))))
 have HC7 := zHi (zAi hC7 (zAi hk7 (zAi hk8 hf67)))
 have HU := zHi (zAi hU0 (zAi hf78 (zAi hw8 hg3)))
 clear hR hrr hro hC7 hk7 hk8 hf67 hrc hrns hrlt hnr hnr2 hw8 hg3 hU0 hf78 s1 s2 HR1 HR2 HRU
 refine wp_seq_k ?_
 intro K6 hK6
 go_cut [18] (fun s wq => s = .slice (some ⟨g3, 0, none⟩) 19 19 ∧ w8 = wq)
 case first =>
  as_aux_lemma =>
  go_wp2_with fail
  go_meet
  case rel => exact ⟨by rw [HU.out.2.2.2], HU.out.2.2.1⟩
 obtain ⟨rfl, rfl⟩ := hcut
 obtain ⟨w8, rfl⟩ : ∃ wr, wr = w8 := ⟨_, rfl⟩
 clear hmk3
 refine hK6 _ _ ?_
 refine wp_seq_k ?_
 intro K7 hK7
 go_cut [20] (fun s wq => DyUsed w7 g3 R wq)
 case first =>
  as_aux_lemma =>
  go_wp2_with fail
  go_loopg [117] nr (fun g iv wr => DyU w8 w7.heap.size g3 R g iv wr)
  case atStart => exact ⟨0, _, Nat.zero_le _, by rw [HRO.out.1, Nat.sub_zero], rfl, HU.out.1, by simp, fun p hp => absurd hp (by simp), Frm.refl _ _⟩
  case round =>
   obtain ⟨k, U, hk, hg, rfl, hU, hUl, hm, hf⟩ := hrel
   by_cases hlt : k < nr
   · have hkl : k < R.length := by rw [← HRO.out.1]; exact hlt
     obtain ⟨g', htb, t0, t1, t2⟩ := HRO.out.2.2.1.cells k hkl; have hgl : g' < w7.heap.size := (HRO.out.2.2.2.1 _ htb).2; have hgn : ¬ g' = g3 := by have := HU.out.2.2.2; omega
     replace t0 := hf.keep (HU.out.2.1.keep t0 (fun e => e)) hgn
     replace t1 := hf.keep (HU.out.2.1.keep t1 (fun e => e)) hgn
     replace t2 := hf.keep (HU.out.2.1.keep t2 (fun e => e)) hgn
     subst htb; obtain ⟨p, hp⟩ : ∃ p, p = R[k] := ⟨_, rfl⟩; rw [← hp] at t0 t1 t2; obtain ⟨o1, o2, o3⟩ := rows_all HRO.out.2.2.2.2.2 p (by rw [hp]; exact List.getElem_mem _)
     have hts : R.take (k + 1) = R.take k ++ [p] := by rw [List.take_add_one, List.getElem?_eq_getElem hkl, hp]; rfl
     obtain ⟨p0, hp0⟩ : ∃ q, q = p.1 := ⟨_, rfl⟩; obtain ⟨p1, hp1⟩ : ∃ q, q = p.2 := ⟨_, rfl⟩; obtain ⟨p2, hp2⟩ : ∃ q, q = rowX p.1 := ⟨_, rfl⟩; have u0 : wr.cell? ⟨g', k * 3, none⟩ = some (.int .i64 (p0 : Int)) := by rw [hp0]; exact t0
     have u1 : wr.cell? ⟨g', k * 3 + 1, none⟩ = some (.int .i64 (p1 : Int)) := by rw [hp1]; exact t1
     have u2 : wr.cell? ⟨g', k * 3 + 2, none⟩ = some (.int .i64 (p2 : Int)) := by rw [hp2]; exact t2
     have d1 : p0 < 19 := by omega
     have d2 : (p0 : Int) ≤ 18 := by omega
     obtain ⟨W3, hW3⟩ : ∃ W3, W3 = wr.alloc (.cells #[.int .i64 (p0 : Int), .int .i64 (p1 : Int), .int .i64 (p2 : Int)] 139) := ⟨_, rfl⟩; have hf3 : Frm (fun _ _ => False) wr W3 := by rw [hW3]; exact (Frm.refl _ _).alloc _
     obtain ⟨B, hB⟩ : ∃ B, B = wr.heap.size := ⟨_, rfl⟩; have r0 : W3.cell? ⟨B, 0, none⟩ = some (.int .i64 (p0 : Int)) := by rw [hW3, hB]; exact (cells_at (heap_alloc_new wr _)).trans rfl
     have hU3 := hU.keep hf3 (fun _ _ _ e => e)
     have hcU : p0 < U.length := by rw [hUl]; exact d1
     obtain ⟨hs3, hsf3⟩ := OwnB.set hU3 (g := g3) rfl hcU true; obtain ⟨gg, cp, hv, _, _, _, hoc, hofz⟩ := Row.at hU3 hcU; have hgg : g3 = gg := Option.some.inj (congrArg Value.ownBlock hv); subst hgg; replace hoc : ∃ ov, W3.cell? ⟨g3, p0, none⟩ = some ov := ⟨_, hoc⟩; obtain ⟨ov, hoc⟩ := hoc; have HC1 := zHi (zAi hp0 (zAi hf3 (zAi hs3 (zAi hsf3 (zAi hcU hts))))); have HRR := zHi (zAi hg (zAi hUl (zAi hm (zAi hf hkl)))); clear t0 t1 t2 hg hU hUl hm hf hkl hgl hgn hp o1 o2 o3 hts hp0 hp1 hp2 hf3 hU3 hcU hs3 hsf3 hv hk; go_upto_region 25 with (fail)
     rw [← hW3, ← hB]; clear hW3 hB; go_wp2_with fail
     go_roundg (nr - (k + 1))
     case measure => have := HRR.out.1; have := HRO.out.1; omega
     case rel =>
      obtain ⟨hg, hUl, hm, hf, hkl⟩ := HRR.out; obtain ⟨hp0, hf3, hs3, hsf3, hcU, hts⟩ := HC1.out; refine ⟨k + 1, U.set p0 true, hkl, by rw [HRO.out.1], by go_num, hs3, by rw [List.length_set, hUl], fun q hq => ?_, (hf.trans (hf3.mono fun _ _ e => e.elim)).trans (hsf3.mono fun _ _ e => e.1)⟩
      rw [hts] at hq; rcases List.mem_append.1 hq with q1 | q1
      · exact (marks_set U p0).2 _ (hm q q1)
      · obtain rfl := List.mem_singleton.1 q1; rw [← hp0]; exact mark_set hcU
   · obtain rfl : k = nr := by have := HRO.out.1; omega
     have hd : decide (k < k) = false := by simp
     have hall : ∀ p ∈ R, U.getD p.1 false = true := by
      intro p hp; refine hm p ?_; rw [HRO.out.1, List.take_length]; exact hp
     have hfw : Frm (fun _ _ => False) w7 wr := HU.out.2.1.trans' hf (fun x o hx q => by have := HU.out.2.2.2; omega)
     have HRR := zHi (show DyUsed w7 g3 R wr from ⟨U, hU, hUl, hall, hfw⟩)
     clear hk hg hU hUl hm hf hlt hall hfw; go_wp2_with fail
     go_meet
     case rel => exact HRR.out
 obtain ⟨U, hU, hUl, hUm, hf79⟩ := hcut
 obtain ⟨w9, rfl⟩ : ∃ wr, wr = wc := ⟨_, rfl⟩
 refine hK7 _ _ ?_
 obtain ⟨w10, hw10⟩ : ∃ x, x = w9.alloc (.cells #[.slice none 0 0, .int .i64 0] 95) := ⟨_, rfl⟩
 obtain ⟨C2, hC2⟩ : ∃ x, x = w9.heap.size := ⟨_, rfl⟩
 have hch : Chs w10 0 C2 [] 0 := by rw [hw10, hC2]; exact chs_new w9 0
 have hf910 : Frm (fun _ _ => False) w9 w10 := by rw [hw10]; exact (Frm.refl _ _).alloc _
 have hU10 := hU.keep hf910 (fun _ _ _ e => e)
 obtain ⟨ub3, uc3, hv3, _, hbs3⟩ := OwnB.bs hU10
 rw [hUl] at hv3
 have hub3 : ub3 = some ⟨g3, 0, none⟩ := by injection hv3 with e1 e2 e3; exact e1.symm
 have huc3 : uc3 = 19 := by injection hv3 with e1 e2 e3; exact e3.symm
 subst hub3
 subst huc3
 have htr3 := tree_any w10 (some ⟨g3, 0, none⟩) U 19 hbs3 (by omega) 0 C2 (Nat.zero_le _) [] 0 hch (by omega) 7 (by omega) (by omega) (fun _ => by rw [hUl]; omega)
 rw [hUl] at htr3
 have htr3' : Calls Tryz.prog 68 #[.slice (some ⟨g3, 0, none⟩) 19 19, .pointer (some ⟨C2, 0, none⟩), .int .i64 7] w10 fun e w' => ∃ v out k, e = .returned v ∧ OwnN w' w10.heap.size v out ∧ TreeOK U 7 out ∧ Chs w' 0 C2 [] k ∧ 0 ≤ k ∧ k ≤ 0 + 5 ∧ Frm (fun b _ => b = C2) w10 w' := htr3
 have HT3 := zHi htr3'
 have H9 := zHi (zAi hUl (zAi hUm (zAi hf79 (zAi hf910 (zAi hw10 hC2)))))
 clear hU hUl hUm hf79 hch hf910 hU10 hv3 hbs3 htr3 htr3'
 go_upto_region 27 with (fail)
 go_cut [21] (fun s wq => DyLen w9 U s wq)
 case first =>
  as_aux_lemma =>
  go_wp2_with fail
  rw [← hw10, ← hC2]; clear hw10 hC2; refine HT3.out.mono ?_; rintro e w11 ⟨v11, CL, k5, rfl, hCL, hT, _, _, _, hf11⟩; have hcl : CL.length = 19 := by rw [hT.len]; exact H9.out.1
  obtain ⟨cg, ccap, hv11, hc1, hc2, hc3⟩ := Row.val hCL (by omega)
  obtain ⟨cb, ccp, hv12, _, hntc⟩ := OwnN.nt hCL; have hrel : DyLen w9 U v11 w11 := by
   refine ⟨cg, ccap, CL, by rw [hv11, hcl], ?_, hT, hcl, Nat.le_trans H9.out.2.2.2.1.size hc1, hc2, by omega, H9.out.2.2.2.1.trans' hf11 (fun x o hx e => by have := H9.out.2.2.2.2.2; omega)⟩
   rw [hv11] at hv12; injection hv12 with e1 e2 e3; rw [e1]; exact hntc
  have HRR := zHi hrel; clear hCL hT hf11 hcl hv11 hc1 hc2 hc3 hv12 hntc hrel; go_wp2_with fail
  go_meet
  case rel => exact HRR.out
 obtain ⟨cg, ccap, CL, rfl, hntC, hTC, hCl, hcg1, hcg2, hcc, hf911⟩ := hcut
 obtain ⟨w11, rfl⟩ : ∃ wr, wr = wc := ⟨_, rfl⟩
 clear hw10 hC2 HT3
 have HCL := zHi (zAi hntC (zAi hTC (zAi hCl (zAi hcg1 (zAi hcg2 hf911)))))
 have c14 : (19 : Int) ≤ (ccap : Int) := by omega
 clear hntC hTC hCl hcg1 hcg2 hf911
 apply_assumption
 go_upto_region 28 with (fail)
 go_cut [22] (fun s wq => s = .int .i64 19 ∧ w11 = wq)
 case first =>
  as_aux_lemma =>
  go_wp2_with fail
  go_meet
  case rel => exact ⟨rfl, rfl⟩
 obtain ⟨rfl, rfl⟩ := hcut
 obtain ⟨w11, rfl⟩ : ∃ wr, wr = w11 := ⟨_, rfl⟩
 apply_assumption
 refine wp_seq_k ?_
 intro K8 hK8
 go_cut [22] (fun s wq => DyNc w11 CL 19 s wq)
 case first =>
  as_aux_lemma =>
  go_wp2_with fail
  go_loopg [22] 19 (fun g s wq => DyNc w11 CL g s wq)
  case atStart => exact ⟨19, by omega, rfl, by omega, by omega, fun i h1 h2 => absurd h1 (by omega), Frm.refl _ _⟩
  case round =>
   obtain ⟨nc, hg, rfl, n1, n2, hz, hf⟩ := hrel; have c15 : (nc : Int) ≤ 19 := by omega
   have c16 : (4 : Int) ≤ (nc : Int) := by omega
   have HZ := zHi (zAi hg (zAi n1 (zAi hz hf))); clear hg hz n1 hf
   by_cases hlt : 4 < nc
   · have d0 : decide ((4 : Int) < (nc : Int)) = true := by simp; omega
     obtain ⟨m, hm⟩ : ∃ m, m = nc - 1 := ⟨_, rfl⟩; have e1 : (nc : Int) - 1 = (m : Int) := by omega
     have d1 : m < 19 := by omega
     have d2 : (m : Int) ≤ 18 := by omega
     have HMx := zHi hm; have hlt' := zHi hlt; clear hm hlt; go_wp2_with fail
     refine (order_any _).mono ?_; rintro e w12 ⟨rfl, hor, hf12⟩; obtain ⟨ob, ocp, hvo, _, hnto⟩ := OwnN.nt hor; have hob : ob = some ⟨wr.heap.size, 0, none⟩ := by injection hvo with q1 q2 q3; exact q1.symm
     subst hob; have hol : clOrder.length = 19 := by decide
     obtain ⟨x, hx⟩ : ∃ x, x = clOrder.getD m 0 := ⟨_, rfl⟩; obtain ⟨og, hog, hcx⟩ := hnto.getS (show m < clOrder.length by rw [hol]; exact d1) x hx
     have hogg : og = wr.heap.size := by injection hog with q1; injection q1 with q2; exact q2.symm
     subst hogg; have hx19 : x < 19 := by rw [hx]; exact order_lt m
     have d3 : (x : Int) ≤ 18 := by omega
     obtain ⟨y, hy⟩ : ∃ y, y = CL.getD x 0 := ⟨_, rfl⟩; have hff : Frm (fun _ _ => False) w11 w12 := HZ.out.2.2.2.trans hf12
     have hntc : Nt w12 (some ⟨cg, 0, none⟩) CL := HCL.out.1.keep hff (fun _ _ e => e.elim)
     obtain ⟨cg', hcg', hcy⟩ := hntc.getS (show x < CL.length by rw [HCL.out.2.2.1]; exact hx19) y hy
     have hcgg : cg' = cg := by injection hcg' with q1; injection q1 with q2; exact q2.symm
     subst hcgg; have HX12 := zHi (zAi hx (zAi hy hff)); clear hor hf12 hvo hnto hol hx hog hx19 hy hff hntc hcg'
     by_cases h0 : y = 0
     · subst h0; go_wp2_with fail
       go_roundg m
       case measure => have := HMx.out; have := HZ.out.1; have := hlt'.out; omega
       case rel =>
        obtain ⟨hx, hy, hff⟩ := HX12.out; have := HMx.out; have := hlt'.out; refine ⟨m, by omega, rfl, by omega, by omega, fun i h1 h2 => ?_, hff⟩
        by_cases e : i = m
        · subst e; rw [← hx]; exact hy.symm
        · exact HZ.out.2.2.1 i (by omega) h2
     · have t1 : ((y : Int) == 0) = false := by simp; omega
       clear h0; go_wp2_with fail
       go_meet
       case rel => exact ⟨nc, by omega, rfl, HZ.out.2.1, n2, HZ.out.2.2.1, HX12.out.2.2⟩
   · have d0 : decide ((4 : Int) < (nc : Int)) = false := by simp; omega
     clear hlt; go_wp2_with fail
     go_meet
     case rel => exact ⟨nc, by omega, rfl, HZ.out.2.1, n2, HZ.out.2.2.1, HZ.out.2.2.2⟩
 obtain ⟨nc, _, rfl, nc1, nc2, hzc, hf1112⟩ := hcut
 obtain ⟨w12, rfl⟩ : ∃ wr, wr = wc := ⟨_, rfl⟩
 refine hK8 _ _ ?_
 have c17 : (nc : Int) ≤ 19 := by omega
 have c18 : (4 : Int) ≤ (nc : Int) := by omega
 have hf712 : Frm (fun _ _ => False) w7 w12 := (H9.out.2.2.1.trans HCL.out.2.2.2.2.2).trans hf1112
 have hf612 : Frm (fun b _ => b = C) w6 w12 := HC7.out.2.2.2.trans (hf712.mono fun _ _ e => e.elim)
 have hf012 : Frm (fun b _ => b = C) w w12 := HC6.out.2.2.2.trans hf612
 have hwt12 : Wt w12 N0 W L := HW.out.1.keepC HC.out.1 HW.out.2.2.2.2.1 hf012
 have hC12 : Chs w12 M C l k4 := HC7.out.1.keep0 hf712
 have hCw : C < w.heap.size := HC.out.1.lt
 have hN12 : N0 ≤ w12.heap.size := Nat.le_trans HW.out.2.2.1 hf012.size
 have hL12 : Nt w12 (some ⟨lg, 0, none⟩) LL := ⟨fun j hj => by
  obtain ⟨g, h1, h2⟩ := HL.out.1.cells j hj; injection h1 with h1; injection h1 with h1; subst h1; exact ⟨lg, rfl, hf612.keep h2 (fun e => by have := HG.out.1; omega)⟩⟩
 have hD12 : Nt w12 (some ⟨dg, 0, none⟩) DL := ⟨fun j hj => by
  obtain ⟨g, h1, h2⟩ := HL.out.2.2.1.cells j hj; injection h1 with h1; injection h1 with h1; subst h1; exact ⟨dg, rfl, hf612.keep h2 (fun e => by have := HG.out.2.1; omega)⟩⟩
 have hT12 : Tks w12 tb toks := ⟨fun j hj => by
  obtain ⟨g, h1, h2, h3, h4⟩ := HT.out.1.cells j hj; have hn := (HT.out.2.1 _ h1).2.1; exact ⟨g, h1, hf012.keep h2 hn, hf012.keep h3 hn, hf012.keep h4 hn⟩⟩
 have hR12 : Rns w12 rb R := HRO.out.2.2.1.keep hf712 (fun _ _ _ e => e)
 have hK12 : Nt w12 (some ⟨cg, 0, none⟩) CL := HCL.out.1.keep hf1112 (fun _ _ e => e.elim)
 have hlgW : lg ≠ W := by have := HG.out.1; have := HW.out; omega
 have hdgW : dg ≠ W := by have := HG.out.2.1; have := HW.out; omega
 have hcgW : cg ≠ W := by have := HCL.out.2.2.2.1; have := HW.out; have := hf012.size; have := (HC6.out.2.2.2.trans HC7.out.2.2.2).size; have := H9.out.2.2.1.size; omega
 have hrbW : ∀ a, rb = some a → a.block ≠ W := fun a ha e => by
  have h1 := (HRO.out.2.2.2.1 a ha).1; have := HW.out; have := HC6.out.2.2.2.size; omega
 have H12 := zHi (zAi hwt12 (zAi hC12 (zAi hN12 (zAi hL12 (zAi hD12 (zAi hT12 (zAi hR12 (zAi hK12 (zAi hlgW (zAi hdgW (zAi hcgW (zAi hrbW (zAi hf012 (zAi hzc (zAi nc1 hCw)))))))))))))))
 clear hzc hf1112 hf712 hf612 hf012 hwt12 hC12 hCw hN12 hL12 hD12 hT12 hR12 hK12 hlgW hdgW hcgW hrbW nc1
 obtain ⟨a1, ha1⟩ : ∃ a, a = nl - 257 := ⟨_, rfl⟩
 obtain ⟨a2, ha2⟩ : ∃ a, a = nd - 1 := ⟨_, rfl⟩
 obtain ⟨a3, ha3⟩ : ∃ a, a = nc - 4 := ⟨_, rfl⟩
 have hb1 : Calls Tryz.prog 44 #[.pointer (some ⟨W, 0, none⟩), .int .i64 (a1 : Int), .int .i64 5] w12 fun e w' => e = .returned (.tuple #[]) ∧ Wt w' N0 W (L ++ enc a1 5) ∧ Frm (SWr w12 N0 W) w12 w' := bits_any w12 N0 W L H12.out.1 HW.out.2.1 H12.out.2.2.1 a1 5 (by omega) (by have := HW.out.2.2.2.1; omega) (by omega)
 have e1 : (nl : Int) - 257 = (a1 : Int) := by omega
 have HB1 := zHi hb1
 have HE := zHi (zAi ha1 (zAi ha2 ha3))
 have e2 : (nd : Int) - 1 = (a2 : Int) := by omega
 have e3 : (nc : Int) - 4 = (a3 : Int) := by omega
 have d15 : (a2 : Int) ≤ 29 := by omega
 have d16 : (a3 : Int) ≤ 15 := by omega
 clear hb1 ha1 ha2 ha3
 go_wp2_with fail
 refine HB1.out.mono ?_
 rintro e w13 ⟨rfl, hw13, hf13⟩
 have hb2 : Calls Tryz.prog 44 #[.pointer (some ⟨W, 0, none⟩), .int .i64 (a2 : Int), .int .i64 5] w13 fun e w' => e = .returned (.tuple #[]) ∧ Wt w' N0 W (L ++ enc a1 5 ++ enc a2 5) ∧ Frm (SWr w13 N0 W) w13 w' := bits_any w13 N0 W _ hw13 HW.out.2.1 (Nat.le_trans H12.out.2.2.1 hf13.size) a2 5 (by omega) (by rw [List.length_append, enc_len]; have := HW.out.2.2.2.1; omega) (by omega)
 have HB2 := zHi hb2
 have HF13 := zHi hf13
 clear hb2 hw13 hf13 HB1
 go_wp2_with fail
 refine HB2.out.mono ?_
 rintro e w14 ⟨rfl, hw14, hf14⟩
 have hf14 := frm_SWr_trans HF13.out hf14
 have hb3 : Calls Tryz.prog 44 #[.pointer (some ⟨W, 0, none⟩), .int .i64 (a3 : Int), .int .i64 4] w14 fun e w' => e = .returned (.tuple #[]) ∧ Wt w' N0 W (L ++ enc a1 5 ++ enc a2 5 ++ enc a3 4) ∧ Frm (SWr w14 N0 W) w14 w' := bits_any w14 N0 W _ hw14 HW.out.2.1 (Nat.le_trans H12.out.2.2.1 hf14.size) a3 4 (by omega) (by rw [List.length_append, List.length_append, enc_len, enc_len]; have := HW.out.2.2.2.1; omega) (by omega)
 have HB3 := zHi hb3
 have HF14 := zHi hf14
 clear hb3 hw14 hf14 HB2 HF13
 go_upto_region 33 with (fail)
 go_cut [156] (fun _ wq => Wt wq N0 W (L ++ enc a1 5 ++ enc a2 5 ++ enc a3 4) ∧ Frm (SWr w12 N0 W) w12 wq)
 case first =>
  as_aux_lemma =>
  go_wp2_with fail
  refine HB3.out.mono ?_; rintro e w15 ⟨rfl, hw15, hf15⟩; have HH := zHi (zAi hw15 (frm_SWr_trans HF14.out hf15)); clear hw15 hf15; go_wp2_with fail
  go_meet
  case rel => exact HH.out
 obtain ⟨hw15, hf15⟩ := hcut
 obtain ⟨w15, rfl⟩ : ∃ wr, wr = wc := ⟨_, rfl⟩
 clear HB3 HF14 e1 e2 e3
 obtain ⟨L3, hL3⟩ : ∃ L3, L3 = L ++ enc a1 5 ++ enc a2 5 ++ enc a3 4 := ⟨_, rfl⟩
 rw [← hL3] at hw15
 have hL3l : L3.length = L.length + 14 := by rw [hL3]; simp [enc_len]
 have H15 := zHi (zAi hw15 (zAi hf15 (zAi hL3 hL3l)))
 clear hw15 hf15 hL3 hL3l
 apply_assumption
 refine wp_seq_k ?_
 intro K9 hK9
 go_cut [24] (fun s wq => Wt wq N0 W (L3 ++ (clOrder.take nc).flatMap (fun s => enc (CL.getD s 0) 3)) ∧ Frm (SWr w12 N0 W) w12 wq)
 case first =>
  as_aux_lemma =>
  have hor := order_any w15; have HOR := zHi hor; clear hor; go_wp2_with fail
  refine HOR.out.mono ?_; rintro e w16 ⟨rfl, hor, hf16⟩; obtain ⟨og, hog⟩ : ∃ og, og = w15.heap.size := ⟨_, rfl⟩; rw [← hog] at hor ⊢; obtain ⟨ob, ocp, hvo, _, hnto⟩ := OwnN.nt hor; have hob : ob = some ⟨og, 0, none⟩ := by injection hvo with q1 q2 q3; exact q1.symm
  subst hob; have hol : clOrder.length = 19 := by decide
  have hogW : og ≠ W := by have := H15.out.1.lt; omega
  have hwt16 : Wt w16 N0 W L3 := H15.out.1.keep hf16 (fun _ e => e) (fun _ _ _ e => e)
  have hf1216 : Frm (SWr w12 N0 W) w12 w16 := frm_SWr_trans H15.out.2.1 (frm_SWr_none hf16); have hK16 : Nt w16 (some ⟨cg, 0, none⟩) CL := H12.out.2.2.2.2.2.2.2.1.keepW hf1216 (fun a ha e => by obtain rfl := Option.some.inj ha; exact H12.out.2.2.2.2.2.2.2.2.2.2.1 e)
  have s3 : ∀ W', (Instr.sliceAt 33 (.slice (some ⟨og, 0, none⟩) 19 19) none (some (.int .i64 (nc : Int))) none).run Tryz.prog W' = .ok (.slice (some ⟨og, 0, none⟩) nc 19) W' := fun W' => by
   rw [run_sliceAt_slice W' _ _ _ _ _ under_ints, run_slice_h W' _ _ _ _ under_ints _ _ (by omega) (by omega), size_int]
   simp only [Result.andThen, sliced, Int.toNat_natCast, Nat.sub_zero]; simp [Addr.add]
  have HO := zHi (zAi hnto (zAi hol (zAi hogW (zAi hwt16 (zAi hf1216 (zAi hK16 hog)))))); clear hor hvo hnto hol hogW hwt16 hf1216 hK16 hog hf16 HOR; go_wp2_with fail
  go_loopg [161] (nc - 0) (fun g iv wr => DyCl w16 N0 W L3 CL nc g iv wr)
  case atStart => exact ⟨0, Nat.zero_le _, rfl, rfl, by simpa using HO.out.2.2.2.1, Frm.refl _ _⟩
  case round =>
   obtain ⟨k, hk, hg, rfl, hwr, hf⟩ := hrel
   by_cases hlt : k < nc
   · have hk19 : k < 19 := by omega
     obtain ⟨x, hx⟩ : ∃ x, x = clOrder.getD k 0 := ⟨_, rfl⟩; obtain ⟨og', hog', hcx⟩ := (HO.out.1.keepW hf (fun a ha e => by obtain rfl := Option.some.inj ha; exact HO.out.2.2.1 e)).getS (show k < clOrder.length by rw [HO.out.2.1]; exact hk19) x hx
     have hogg : og' = og := by injection hog' with q1; injection q1 with q2; exact q2.symm
     subst hogg; have hx19 : x < 19 := by rw [hx]; exact order_lt k
     have d3 : (x : Int) ≤ 18 := by omega
     obtain ⟨y, hy⟩ : ∃ y, y = CL.getD x 0 := ⟨_, rfl⟩; obtain ⟨cg', hcg', hcy⟩ := (HO.out.2.2.2.2.2.1.keepW hf (fun a ha e => by obtain rfl := Option.some.inj ha; exact H12.out.2.2.2.2.2.2.2.2.2.2.1 e)).getS (show x < CL.length by rw [HCL.out.2.2.1]; exact hx19) y hy
     have hcgg : cg' = cg := by injection hcg' with q1; injection q1 with q2; exact q2.symm
     subst hcgg; have hy7 : y ≤ 7 := by rw [hy]; exact HCL.out.2.1.le x
     have hsz : N0 ≤ wr.heap.size := Nat.le_trans H12.out.2.2.1 (Nat.le_trans HO.out.2.2.2.2.1.size hf.size); have hbt := bits_any wr N0 W _ hwr HW.out.2.1 hsz y 3 (by omega) (by rw [List.length_append, flat3_len, H15.out.2.2.2, List.length_take]; have := HW.out.2.2.2.1; have := HO.out.2.1; omega) (by omega)
     have hbt' : Calls Tryz.prog 44 #[.pointer (some ⟨W, 0, none⟩), .int .i64 (y : Int), .int .i64 3] wr fun e w' => e = .returned (.tuple #[]) ∧ Wt w' N0 W (L3 ++ (clOrder.take k).flatMap (fun s => enc (CL.getD s 0) 3) ++ enc y 3) ∧ Frm (SWr wr N0 W) wr w' := hbt
     have htk : clOrder.take (k + 1) = clOrder.take k ++ [x] := by
      rw [List.take_add_one, List.getElem?_eq_getElem (by rw [HO.out.2.1]; exact hk19), hx, List.getD_eq_getElem?_getD, List.getElem?_eq_getElem (by rw [HO.out.2.1]; exact hk19)]; rfl
     have HBT := zHi hbt'; have HRR := zHi (zAi hk (zAi hg (zAi hf (zAi htk hy)))); clear hk hg hwr hf hx hog' hy hcg' hy7 hsz hbt hbt' htk; go_wp2_with fail
     refine HBT.out.mono ?_; rintro e w17 ⟨rfl, hw17, hf17⟩; have H17 := zHi (zAi hw17 hf17); clear hw17 hf17; go_wp2_with fail
     go_roundg (nc - (k + 1))
     case measure => have := HRR.out.2.1; omega
     case rel =>
      obtain ⟨hk, hg, hf, htk, hy⟩ := HRR.out; refine ⟨k + 1, hlt, rfl, by go_num, ?_, frm_SWr_trans hf H17.out.2⟩
      rw [htk, List.flatMap_append, ← List.append_assoc]; have := H17.out.1; rw [hy] at this
      simpa using this
   · obtain rfl : k = nc := by omega
     have hd : decide (k < k) = false := by simp
     have HRR := zHi (zAi hwr (frm_SWr_trans HO.out.2.2.2.2.1 hf)); clear hk hg hwr hf hlt; go_wp2_with fail
     go_meet
     case rel => exact HRR.out
 obtain ⟨hw18, hf18⟩ := hcut
 obtain ⟨w18, rfl⟩ : ∃ wr, wr = wc := ⟨_, rfl⟩
 refine hK9 _ _ ?_
 obtain ⟨L4, hL4⟩ : ∃ L4, L4 = L3 ++ (clOrder.take nc).flatMap (fun s => enc (CL.getD s 0) 3) := ⟨_, rfl⟩
 rw [← hL4] at hw18
 have hol : clOrder.length = 19 := by decide
 have hL4l : L4.length = L.length + 14 + 3 * nc := by rw [hL4, List.length_append, flat3_len, H15.out.2.2.2, List.length_take, hol]; omega
 have hK18 : Nt w18 (some ⟨cg, 0, none⟩) CL := H12.out.2.2.2.2.2.2.2.1.keepW hf18 (fun a ha e => by obtain rfl := Option.some.inj ha; exact H12.out.2.2.2.2.2.2.2.2.2.2.1 e)
 have hCL7 : ∀ n ∈ CL, n ≤ 7 := getD_le_all HCL.out.2.1.le
 have hcd := codes_any w18 (some ⟨cg, 0, none⟩) CL ccap hK18 (fun n hn => by have := hCL7 n hn; omega) (by rw [HCL.out.2.2.1]; omega)
 rw [HCL.out.2.2.1] at hcd
 have HCD := zHi hcd
 have H18 := zHi (zAi hw18 (zAi hf18 (zAi hL4 (zAi hL4l hCL7))))
 clear hw18 hf18 hL4 hL4l hK18 hCL7 hcd hol
 refine wp_seq_k ?_
 intro K10 hK10
 go_cut [25] (fun s wq => DyNums w18 CL s wq)
 case first =>
  as_aux_lemma =>
  go_wp2_with fail
  refine HCD.out.mono ?_; rintro e w19 ⟨v19, NO, rfl, hno, hnl, hnc, hnb, hf19⟩; have hl19 : NO.length = 19 := by rw [hnl]; exact HCL.out.2.2.1
  obtain ⟨ng, ncap, hv19, hn1, hn2, hn3⟩ := Row.val hno (by omega)
  obtain ⟨nb, ncp, hv20, _, hntn⟩ := OwnN.nt hno; have hrel : DyNums w18 CL v19 w19 := by
   refine ⟨ng, ncap, NO, by rw [hv19, hl19], ?_, hn1, hnc, hnb, hl19, by omega, hf19⟩
   rw [hv19] at hv20; injection hv20 with e1 e2 e3; rw [e1]; exact hntn
  have HRR := zHi hrel; clear hno hnl hnc hnb hf19 hl19 hv19 hn1 hn2 hn3 hv20 hntn hrel; go_wp2_with fail
  go_meet
  case rel => exact HRR.out
 obtain ⟨ng, ncap, NO, rfl, hntN, hngl, hNc, hNb, hNl, hncc, hf19⟩ := hcut
 obtain ⟨w19, rfl⟩ : ∃ wr, wr = wc := ⟨_, rfl⟩
 clear HCD
 have c19 : (19 : Int) ≤ (ncap : Int) := by omega
 have hf1219 : Frm (SWr w12 N0 W) w12 w19 := frm_SWr_trans H18.out.2.1 (frm_SWr_none hf19)
 have hwt19 : Wt w19 N0 W L4 := H18.out.1.keep hf19 (fun _ e => e) (fun _ _ _ e => e)
 have hngW : ng ≠ W := by have := H18.out.1.lt; omega
 have hK19 : Nt w19 (some ⟨cg, 0, none⟩) CL := H12.out.2.2.2.2.2.2.2.1.keepW hf1219 (fun a ha e => by obtain rfl := Option.some.inj ha; exact H12.out.2.2.2.2.2.2.2.2.2.2.1 e)
 have hR19 : Rns w19 rb R := H12.out.2.2.2.2.2.2.1.keepW hf1219 H12.out.2.2.2.2.2.2.2.2.2.2.2.1
 have H19 := zHi (zAi hntN (zAi hNc (zAi hNb (zAi hNl (zAi hf1219 (zAi hwt19 (zAi hngW (zAi hK19 hR19))))))))
 clear hntN hngl hNc hNb hNl hncc hf19 hf1219 hwt19 hngW hK19 hR19
 refine hK10 _ _ ?_
 refine wp_seq_k ?_
 intro K11 hK11
 go_cut [27] (fun s wq => Wt wq N0 W (L4 ++ R.flatMap (rowBits CL)) ∧ Frm (SWr w19 N0 W) w19 wq)
 case first =>
  as_aux_lemma =>
  go_wp2_with fail
  go_loopg [176] (nr - 0) (fun g iv wr => DyRw w19 N0 W L4 CL R g iv wr)
  case atStart => exact ⟨0, Nat.zero_le _, by rw [HRO.out.1], rfl, by simpa using H19.out.2.2.2.2.2.1, Frm.refl _ _⟩
  case round =>
   obtain ⟨k, hk, hg, rfl, hwr, hf⟩ := hrel
   by_cases hlt : k < nr
   · have hkl : k < R.length := by rw [← HRO.out.1]; exact hlt
     have hRr := H19.out.2.2.2.2.2.2.2.2.keepW hf H12.out.2.2.2.2.2.2.2.2.2.2.2.1; have hKr := H19.out.2.2.2.2.2.2.2.1.keepW hf (fun a ha e => by obtain rfl := Option.some.inj ha; exact H12.out.2.2.2.2.2.2.2.2.2.2.1 e)
     have hNr := H19.out.1.keepW hf (fun a ha e => by obtain rfl := Option.some.inj ha; exact H19.out.2.2.2.2.2.2.1 e)
     obtain ⟨g', htb, t0, t1, t2⟩ := hRr.cells k hkl; subst htb; obtain ⟨p, hp⟩ : ∃ p, p = R[k] := ⟨_, rfl⟩; rw [← hp] at t0 t1 t2; obtain ⟨o1, o2, o3⟩ := rows_all HRO.out.2.2.2.2.2 p (by rw [hp]; exact List.getElem_mem _)
     have hts : R.take (k + 1) = R.take k ++ [p] := by rw [List.take_add_one, List.getElem?_eq_getElem hkl, hp]; rfl
     obtain ⟨p0, hp0⟩ : ∃ q, q = p.1 := ⟨_, rfl⟩; obtain ⟨p1, hp1⟩ : ∃ q, q = p.2 := ⟨_, rfl⟩; obtain ⟨p2, hp2⟩ : ∃ q, q = rowX p.1 := ⟨_, rfl⟩; have u0 : wr.cell? ⟨g', k * 3, none⟩ = some (.int .i64 (p0 : Int)) := by rw [hp0]; exact t0
     have u1 : wr.cell? ⟨g', k * 3 + 1, none⟩ = some (.int .i64 (p1 : Int)) := by rw [hp1]; exact t1
     have u2 : wr.cell? ⟨g', k * 3 + 2, none⟩ = some (.int .i64 (p2 : Int)) := by rw [hp2]; exact t2
     have d1 : p0 < 19 := by omega
     have d2 : (p0 : Int) < 19 := by omega
     have hpw := pow_le_Int (P := 2 ^ rowX p.1) rfl o3; have hp1b : p1 ≤ 127 := by omega
     have hp2b : p2 ≤ 7 := by omega
     obtain ⟨x, hx⟩ : ∃ x, x = CL.getD p0 0 := ⟨_, rfl⟩; obtain ⟨y, hy⟩ : ∃ y, y = NO.getD p0 0 := ⟨_, rfl⟩; have hx7 : x ≤ 7 := by rw [hx]; exact HCL.out.2.1.le p0
     have hyb : y ≤ 1073741824 := by rw [hy]; exact H19.out.2.2.1 p0
     obtain ⟨W3, hW3⟩ : ∃ W3, W3 = wr.alloc (.cells #[.int .i64 (p0 : Int), .int .i64 (p1 : Int), .int .i64 (p2 : Int)] 139) := ⟨_, rfl⟩; have hf3 : Frm (fun _ _ => False) wr W3 := by rw [hW3]; exact (Frm.refl _ _).alloc _
     obtain ⟨B, hB⟩ : ∃ B, B = wr.heap.size := ⟨_, rfl⟩; have r0 : W3.cell? ⟨B, 0, none⟩ = some (.int .i64 (p0 : Int)) := by rw [hW3, hB]; exact (cells_at (heap_alloc_new wr _)).trans rfl
     have r1 : W3.cell? ⟨B, 1, none⟩ = some (.int .i64 (p1 : Int)) := by rw [hW3, hB]; exact (cells_at (heap_alloc_new wr _)).trans rfl
     have r2 : W3.cell? ⟨B, 2, none⟩ = some (.int .i64 (p2 : Int)) := by rw [hW3, hB]; exact (cells_at (heap_alloc_new wr _)).trans rfl
     have hBW : B ≠ W := by have := hwr.lt; omega
     obtain ⟨cg', hcg', hcy⟩ := (hKr.keep hf3 (fun _ _ e => e.elim)).getS (show p0 < CL.length by rw [HCL.out.2.2.1]; exact d1) x hx
     have hcgg : cg' = cg := by injection hcg' with q1; injection q1 with q2; exact q2.symm
     subst hcgg; obtain ⟨ng', hng', hny⟩ := (hNr.keep hf3 (fun _ _ e => e.elim)).getS (show p0 < NO.length by rw [H19.out.2.2.2.1]; exact d1) y hy
     have hngg : ng' = ng := by injection hng' with q1; injection q1 with q2; exact q2.symm
     subst hngg; have hsz : N0 ≤ wr.heap.size := Nat.le_trans H12.out.2.2.1 (Nat.le_trans H19.out.2.2.2.2.1.size hf.size); have hLk : (L4 ++ (R.take k).flatMap (rowBits CL)).length ≤ L.length + 14 + 57 + 14 * 316 := by
      have h1 := rows_flat HCL.out.2.1.le (l := R.take k) (fun q hq => (rows_all HRO.out.2.2.2.2.2 q (List.mem_of_mem_take hq)).2.2)
      rw [List.length_take] at h1; rw [List.length_append, H18.out.2.2.2.1]; have := HRO.out.1; have := HRO.out.2.1; omega
     have hcd := code_any W3.drew N0 W (L4 ++ (R.take k).flatMap (rowBits CL)) (hwr.keep (hf3.drew) (fun _ e => e) (fun _ _ _ e => e)) HW.out.2.1 (Nat.le_trans hsz hf3.size) y x (by omega) (by have := HW.out.2.2.2.1; omega) (by omega)
     have HCDD := zHi hcd; have hyc : x ≠ 0 → y = codeOf CL p0 := fun h => by rw [hy]; exact H19.out.2.1 p0 (by rw [← hx]; exact h)
     have hx0 : x ≠ 0 := by
      obtain ⟨U', hU', hUq⟩ : ∃ U' : List Bool, TreeOK U' 7 CL ∧ ∀ p ∈ R, U'.getD p.1 false = true := ⟨_, HCL.out.2.1, H9.out.2.1⟩; rw [hx, hp0]; exact (hU'.iff_ _).2 (hUq p (by rw [hp]; exact List.getElem_mem _))
     have HRR := zHi (zAi hk (zAi hg (zAi hf (zAi hts (zAi hf3 (zAi hsz (zAi hLk (zAi hp0 (zAi hp1 (zAi hp2 (zAi hx (zAi (hyc hx0) (zAi hx7 hBW))))))))))))); have HBB := zHi (zAi hp1b hp2b); clear hk hg hwr hf hkl hRr hKr hNr t0 t1 t2 hp o1 o2 o3 hts hp0 hp1 hp2 hpw hp1b hp2b hx hy hx7 hyb hf3 hBW hcg' hng' hsz hLk hcd hyc hx0; go_upto_region 43 with (fail)
     rw [← hW3, ← hB]; clear hW3 hB
     (refine region_tail 11 (by kernel_rfl) (by kernel_rfl) ?_; simp only [List.take_succ_cons, List.take_zero, List.drop_succ_cons, List.drop_zero]; (repeat still_step); refine wpStill_nil ?_)
     go_wp2_with fail
     refine HCDD.out.mono ?_; rintro e w4 ⟨rfl, hw4, hf4⟩; have hBW := HRR.out.2.2.2.2.2.2.2.2.2.2.2.2.2; have r14 : w4.cell? ⟨B, 1, none⟩ = some (.int .i64 (p1 : Int)) := hf4.kept (w := W3.drew) r1 hBW (.inr (by simp))
     have r24 : w4.cell? ⟨B, 2, none⟩ = some (.int .i64 (p2 : Int)) := hf4.kept (w := W3.drew) r2 hBW (.inr (by simp))
     have hb4 := bits_any w4 N0 W _ hw4 HW.out.2.1 (Nat.le_trans (Nat.le_trans HRR.out.2.2.2.2.2.1 HRR.out.2.2.2.2.1.size) hf4.size) p1 p2 (by have := HBB.out; omega) (by rw [List.length_append, encC_len]; have := HRR.out.2.2.2.2.2.2.1; have := HRR.out.2.2.2.2.2.2.2.2.2.2.2.2.1; have := HW.out.2.2.2.1; omega) (by have := HBB.out; omega)
     have HB4 := zHi hb4; have H4 := zHi hf4; clear hb4 hw4 hf4 hBW r0 r1 r2 hcy hny; go_wp2_with fail
     refine HB4.out.mono ?_; rintro e w5 ⟨rfl, hw5, hf5⟩; have H5 := zHi (zAi hw5 hf5); clear hw5 hf5; go_wp2_with fail
     go_roundg (nr - (k + 1))
     case measure => have := HRR.out.2.1; have := HRO.out.1; omega
     case rel =>
      obtain ⟨hk, hg, hf, hts, hf3, hsz, hLk, hp0, hp1, hp2, hx, hyc, hx7, hBW⟩ := HRR.out; refine ⟨k + 1, by have := HRO.out.1; omega, by rw [HRO.out.1], by go_num, ?_, frm_SWr_trans hf (frm_SWr_trans (frm_SWr_none hf3.drew) (frm_SWr_trans H4.out H5.out.2))⟩
      rw [hts, List.flatMap_append, ← List.append_assoc]; have h5 := H5.out.1; rw [hyc, hx, hp0, hp1, hp2, List.append_assoc] at h5
      simpa [rowBits, code] using h5
   · obtain rfl : k = nr := by have := HRO.out.1; omega
     have hd : decide (k < k) = false := by simp
     have hw' : Wt wr N0 W (L4 ++ R.flatMap (rowBits CL)) := by
      have := hwr; rw [HRO.out.1, List.take_length] at this; exact this
     have HRR := zHi (zAi hw' hf); clear hk hg hwr hf hlt hw'; go_wp2_with fail
     go_meet
     case rel => exact HRR.out
 obtain ⟨hw20, hf20⟩ := hcut
 obtain ⟨w20, rfl⟩ : ∃ wr, wr = wc := ⟨_, rfl⟩
 refine hK11 _ _ ?_
 have hf1220 : Frm (SWr w12 N0 W) w12 w20 := frm_SWr_trans H19.out.2.2.2.2.1 hf20
 obtain ⟨hwt12, hC12, hN12, hL12, hD12, hT12, hR12, hK12, hlgW, hdgW, hcgW, hrbW, hf012, hzc, nc1, hCw⟩ := H12.out
 obtain ⟨hT1, hT2, hA'l, hDl, h256', hall'⟩ := HP.out
 have hR14 := rows_flat HCL.out.2.1.le (l := R) (fun q hq => (rows_all HRO.out.2.2.2.2.2 q hq).2.2)
 have hin : ∀ t ∈ toks, TokIn LL DL t := fun t ht => tokIn_tree hT1 hT2 (hall' t ht)
 have hbd := body_any w20 N0 W _ hw20 HW.out.2.1 (Nat.le_trans hN12 hf1220.size) (by rw [List.length_append, H18.out.2.2.2.1]; have := HRO.out.1; have := HRO.out.2.1; have := HW.out.2.2.2.1; omega)
  tb toks tc (hT12.keepW hf1220 (fun a ha => (HT.out.2.1 a ha).1)) (fun a ha => (HT.out.2.1 a ha).1) (by have := HT.out.2.2.1; omega)
  (some ⟨lg, 0, none⟩) LL lcap (hL12.keepW hf1220 (fun a ha e => by obtain rfl := Option.some.inj ha; exact hlgW e)) (fun a ha e => by obtain rfl := Option.some.inj ha; exact hlgW e) (tree_le15 hT1) (by rw [HL.out.2.1]; omega) (by rw [HL.out.2.1]; omega)
  (some ⟨dg, 0, none⟩) DL dcap (hD12.keepW hf1220 (fun a ha e => by obtain rfl := Option.some.inj ha; exact hdgW e)) (fun a ha e => by obtain rfl := Option.some.inj ha; exact hdgW e) (tree_le15 hT2) (by rw [HL.out.2.2.2]; omega) (by rw [HL.out.2.2.2]; omega) hin ((hT1.iff_ 256).2 h256')
 rw [← HN.out, HL.out.2.1, HL.out.2.2.2] at hbd
 have HBD := zHi hbd
 have HFF := zHi (zAi hf1220 (zAi hR14 hin))
 clear hw20 hf20 hf1220 hwt12 hC12 hN12 hL12 hD12 hT12 hR12 hK12 hlgW hdgW hcgW hrbW hf012 hzc nc1 hCw hT1 hT2 hA'l hDl h256' hall' hR14 hin hbd
 go_wp2_with fail
 refine HBD.out.mono ?_
 rintro e w21 ⟨rfl, hw21, hf21⟩
 have H21 := zHi (zAi hw21 hf21)
 clear hw21 hf21
 go_wp2_with fail
 obtain ⟨hw21, hf21⟩ := H21.out
 obtain ⟨hf1220, hR14, hin⟩ := HFF.out
 obtain ⟨hwt12, hC12, hN12, hL12, hD12, hT12, hR12, hK12, hlgW, hdgW, hcgW, hrbW, hf012, hzc, nc1, hCw⟩ := H12.out
 obtain ⟨hT1, hT2, hA'l, hDl, h256', hall'⟩ := HP.out
 obtain ⟨ha1, ha2, ha3⟩ := HE.out
 have hf1221 : Frm (SWr w12 N0 W) w12 w21 := frm_SWr_trans hf1220 hf21
 have hdy := dyn_head (lits := A') (dists := D) (used := U) (toks := toks) hT1 hA'l hT2 hDl HCL.out.2.1 H9.out.1 HZL.out.1 nl2 HZL.out.2 HZD.out.1 nd2 HZD.out.2 nc1 nc2 hzc (HRO.out.2.2.2.2.1.trans HAA.out.1) HRO.out.2.2.2.2.2 H9.out.2.1 h256' hall'
 refine bodyPost_end (results_none rfl _ _ _) rfl ⟨_, k4, rfl, hdy, ?_, ?_, hC12.keepW hf1221 HW.out.2.2.2.2.1 HW.out.2.2.2.2.2, ?_, ?_, ?_⟩
 · have hb1 := flat_len (tree_le15 hT1) (tree_le15 hT2) hin; have hb2 : (code LL 256).length ≤ 15 := by rw [code_len]; exact hT1.le 256
   have h3 := flat3_len CL (clOrder.take nc); have hol : clOrder.length = 19 := by decide
   rw [List.length_take, hol] at h3; unfold Head.bits bodyBits; simp only [List.length_append, enc_len, h3]; have := HRO.out.1; have := HRO.out.2.1; have := HN.out; omega
 · have : L ++ ((Head.mk nl nd nc CL R).bits ++ bodyBits LL DL toks) = L4 ++ R.flatMap (rowBits CL) ++ bodyBits LL DL toks := by
    rw [H18.out.2.2.1, H15.out.2.2.1]; unfold Head.bits; simp only [List.append_assoc, ha1, ha2, ha3]
   rw [this]; exact hw21
 · have := HC7.out; have := HC6.out; omega
 · have := HC7.out; have := HC6.out; omega
 · refine (hf012.mono fun b o e => .inl e).trans' hf1221 (fun x o hx q => ?_)
   by_cases hxC : x = C
   · exact .inl hxC
   · rcases q with q | ⟨q1, q2⟩
     · exact .inr (.inl q)
     · exact .inr (.inr ⟨q1, fun o' u hu => q2 o' u (hf012.keep hu hxC)⟩)
end Go.Proofs.YthfncdfcklbigaaGreatDoor
