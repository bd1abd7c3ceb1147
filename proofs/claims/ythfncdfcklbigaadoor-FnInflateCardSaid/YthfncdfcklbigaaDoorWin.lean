/-
  THE WALKS OF THE WINDOW: the methods of 'dictDecoder'.
-/
import Derived.Test.YthfncdfcklbigaaDoorSym
import Derived.Laws.IdiomCopy
import Derived.Deep.RegionHeld3
set_option linter.unusedVariables false
set_option linter.unusedSimpArgs false
namespace Go.Proofs.YthfncdfcklbigaaDoor
open Go.RowKit Flate
set_option maxRecDepth 100000

theorem setCells_drewN (b : Nat) : ∀ (vs : List Value) (o : Nat) (w : World) (m : Nat), (w.drewN m).setCells b o vs = (w.setCells b o vs).drewN m
  | [], _, _, _ => rfl
  | v :: r, o, w, m => by rw [World.setCells, World.setCells, ← setCells_drewN b r (o + 1) (w.setCell ⟨b, o, none⟩ v) m]; rfl

theorem Frm.setCells {S : Nat → Nat → Prop} {a : World} (b : Nat) : ∀ (vs : List Value) (o : Nat) (w : World), Frm S a w → (∀ j, j < vs.length → S b (o + j) ∨ a.heap.size ≤ b) → Frm S a (w.setCells b o vs)
  | [], _, _, h, _ => h
  | v :: r, o, w, h, hs => by
    rw [World.setCells]
    exact Frm.setCells b r (o + 1) _ (h.setCell (hs 0 (by simp)) v) (fun j hj => by have := hs (j + 1) (by simp; omega); rwa [show o + (j + 1) = o + 1 + j by omega] at this)

/-- 'copy' of bytes from memory to memory: what stood there is laid here. -/
theorem copy_bytes (w : World) (b o dLen dCap : Nat) (a : Addr) (sLen sCap n : Nat) (v : Nat → UInt8) (hn : n = Nat.min sLen dLen)
    (hsrc : ∀ j, j < n → w.cell? (a.add j) = some (.int .u8 ((v j).toNat : Int))) (hc : ∀ j, j < n → (w.cell? ⟨b, o + j, none⟩).isSome = true) (hf : ∀ j, j < n → w.frozen? ⟨b, o + j, none⟩ = false) :
    ∃ w', (∀ m ty, (Builtin.copy_ #[22, 22] ty #[.slice (some ⟨b, o, none⟩) dLen dCap, .slice (some a) sLen sCap]).run Tryd.prog (w.drewN m) = .ok (goInt n) (w'.drewN m)) ∧
      Frm (fun x y => x = b ∧ o ≤ y ∧ y < o + n) w w' ∧ ∀ j, j < n → w'.cell? ⟨b, o + j, none⟩ = some (.int .u8 ((v j).toNat : Int)) := by
  have hl : ((List.range n).map fun j => Value.int .u8 ((v j).toNat : Int)).length = n := by simp
  refine ⟨w.setCells b o ((List.range n).map fun j => Value.int .u8 ((v j).toNat : Int)), fun m ty => ?_, ?_, fun j hj => ?_⟩
  · have := run_copy_cells (P := Tryd.prog) (w.drewN m) 22 22 ty 5 b o dLen dCap a sLen sCap ((List.range n).map fun j => Value.int .u8 ((v j).toNat : Int)) Tryd.underlying22 (by kernel_rfl) (by rw [hl]; exact hn)
      (fun j x hx => by
        obtain ⟨hj, rfl⟩ := List.getElem?_eq_some_iff.1 hx
        simp at hj ⊢
        exact hsrc j hj) (by rw [hl]; exact hc) (by rw [hl]; exact hf) (fun x hx => by obtain ⟨j, _, rfl⟩ := List.mem_map.1 hx; rfl)
    rw [hl, setCells_drewN] at this
    exact this
  · exact Frm.setCells b _ o w (Frm.refl _ _) (fun j hj => .inl ⟨rfl, by omega, by rw [hl] at hj; omega⟩)
  · have := World.cell?_setCells_in b ((List.range n).map fun j => Value.int .u8 ((v j).toNat : Int)) o w (by rw [hl]; exact hc) j (by rw [hl]; exact hj)
    rw [this]; simp

/-- A copy whose run is known, as one step of a region that draws its order. -/
theorem step_copy_run {P : Program} {ops : Array Oper} {o : Oper} {a : Act} {w : World} {K : Act → World → Prop} {Q : Exit → Act → World → Prop} {E : Prop} (hgd : o.guard = none) (x y : Operand) (dT sT : TypeId)
    (ho : o.op = .call { callee := .builtin .copy, args := #[x, y], argTypes := #[dT, sT] }) {dv sv v : Value} {w' : World} (hd : a.eval x = dv) (hs : a.eval y = sv)
    (hrun : ∀ ty, (Builtin.copy_ #[dT, sT] ty #[dv, sv]).run P w = .ok v w') (h : K (a.put o.dst v) w') :
    if Region.wanted o (yielded ops a.tmps) = true then Oper.wp P o a w K Q else E := by
  have hw : Region.wanted o (yielded ops a.tmps) = true := by simp [Region.wanted, hgd]
  rw [if_pos hw]
  have hrun := hrun o.type
  unfold Oper.wp
  simp [execOp, ho, resolve, invoke, builtin, hd, hs, hrun, Result.andThen]
  exact h

/-- The same outside such a region. -/
theorem wpList_copy_run {P : Program} {ops : Array Oper} {rest : List Oper} {o : Oper} {a : Act} {w : World} {Q : Exit → Act → World → Prop} (hgd : o.guard = none) (x y : Operand) (dT sT : TypeId)
    (ho : o.op = .call { callee := .builtin .copy, args := #[x, y], argTypes := #[dT, sT] }) {dv sv v : Value} {w' : World} (hd : a.eval x = dv) (hs : a.eval y = sv)
    (hrun : ∀ ty, (Builtin.copy_ #[dT, sT] ty #[dv, sv]).run P w = .ok v w') (h : wpList P ops Q rest (a.put o.dst v) w') : wpList P ops Q (o :: rest) a w := by
  refine wpList_plain hgd fun K hK => ?_
  have hrun := hrun o.type
  unfold Oper.wp
  simp [execOp, ho, resolve, invoke, builtin, hd, hs, hrun, Result.andThen]
  exact hK _ _ h

section
variable (w : World) (F : Nat) (d : DS)

set_option maxHeartbeats 400000 in
theorem availWrite_any (hD : Dec w F d) (hw : d.wr ≤ 32768) :
    Calls Tryd.prog 94 #[.pointer (some ⟨F, 1037, none⟩)] w fun e w' => e = .returned (.int .i64 (32768 - (d.wr : Int))) ∧ ∃ n, w' = w.drewN n := by
  have h0 := hD.hist
  have h1 := hD.wr
  have b1 : (d.wr : Int) ≤ 32768 := by omega
  go_enter Tryd.func94, Tryd.ntmps94
  go_wp2
  (go_quiet (fail))
  go_wp2
  go_ret
  exact ⟨rfl, nq, rfl⟩

set_option maxHeartbeats 400000 in
theorem availRead_any (hD : Dec w F d) (hw : d.wr ≤ 32768) (hr : d.rd ≤ d.wr) :
    Calls Tryd.prog 102 #[.pointer (some ⟨F, 1037, none⟩)] w fun e w' => e = .returned (.int .i64 ((d.wr : Int) - (d.rd : Int))) ∧ ∃ n, w' = w.drewN n := by
  have h0 := hD.rd
  have h1 := hD.wr
  have b1 : (d.wr : Int) ≤ 32768 := by omega
  have b2 : (d.rd : Int) ≤ (d.wr : Int) := by omega
  go_enter Tryd.func102, Tryd.ntmps102
  go_wp2
  (go_quiet (fail))
  go_wp2
  go_ret
  exact ⟨rfl, nq, rfl⟩

set_option maxHeartbeats 400000 in
theorem writeSlice_any (hD : Dec w F d) (hw : d.wr < 32768) :
    Calls Tryd.prog 103 #[.pointer (some ⟨F, 1037, none⟩)] w fun e w' => e = .returned (.slice (some ⟨d.HB, d.wr, none⟩) (32768 - d.wr) (32768 - d.wr)) ∧ ∃ n, w' = w.drewN n := by
  have h0 := hD.hist
  have h1 := hD.wr
  have b1 : (d.wr : Int) ≤ 32768 := by omega
  have b2 : d.wr ≤ 32768 := by omega
  have b3 : ¬ 32768 = d.wr := by omega
  go_enter Tryd.func103, Tryd.ntmps103
  go_wp2
  (go_quiet (fail))
  go_wp2
  go_ret
  exact ⟨rfl, nq, rfl⟩

set_option maxHeartbeats 400000 in
theorem histSize_any (hD : Dec w F d) :
    Calls Tryd.prog 96 #[.pointer (some ⟨F, 1037, none⟩)] w fun e w' => e = .returned (.int .i64 (if d.full then 32768 else (d.wr : Int))) ∧ w = w' := by
  have h0 := hD.hist
  have h1 := hD.wr
  have h2 := hD.full
  cases hf : d.full <;> rw [hf] at h2
  · go_enter Tryd.func96, Tryd.ntmps96
    clear hf
    go_wp2
    go_ret
    exact ⟨rfl, rfl⟩
  · go_enter Tryd.func96, Tryd.ntmps96
    clear hf
    go_wp2
    go_ret
    exact ⟨rfl, rfl⟩

set_option maxHeartbeats 400000 in
theorem writeMark_any (hD : Dec w F d) (hw : d.wr ≤ 32768) (c : Nat) (hc : c ≤ 32768) :
    Calls Tryd.prog 104 #[.pointer (some ⟨F, 1037, none⟩), .int .i64 (c : Int)] w fun e w' =>
      e = .returned (.tuple #[]) ∧ Dec w' F { d with wr := d.wr + c } ∧ Frm (fun b o => b = F ∧ o = 1038) w w' := by
  have h1 := hD.wr
  have f1 := hD.fr 1038
  have b1 : (d.wr : Int) ≤ 32768 := by omega
  have b2 : (c : Int) ≤ 32768 := by omega
  go_enter Tryd.func104, Tryd.ntmps104
  go_wp2
  go_end0
  refine ⟨rfl, ?_, by (repeat (first | exact Frm.refl _ _ | refine Frm.drewN ?_ _ | refine Frm.drew ?_ | refine Frm.alloc ?_ _ | refine Frm.setCell ?_ (by simp) _))⟩
  exact hD.set_wr (d.wr + c)

set_option maxHeartbeats 400000 in
theorem writeByte_any (hD : Dec w F d) (hw : d.wr < 32768) (c : UInt8) :
    Calls Tryd.prog 93 #[.pointer (some ⟨F, 1037, none⟩), .int .u8 (c.toNat : Int)] w fun e w' =>
      e = .returned (.tuple #[]) ∧ Dec w' F { d with wr := d.wr + 1, g := upd d.g d.wr c } ∧ Frm (fun b o => b = F ∧ o = 1038 ∨ b = d.HB) w w' := by
  obtain ⟨L, hL, h0⟩ : ∃ L : Nat, (d.wr : Int) < (L : Int) ∧ w.cell? ⟨F, 1037, none⟩ = some (.slice (some ⟨d.HB, 0, none⟩) L 32768) := ⟨32768, by omega, hD.hist⟩
  have h1 := hD.wr
  have h2 := hD.win d.wr hw
  have f1 := hD.fr 1038
  have f2 := hD.frH d.wr
  have hne := hD.neHF
  have b1 : (d.wr : Int) < 32768 := by omega
  go_enter Tryd.func93, Tryd.ntmps93
  go_wp2
  (refine region_tail 10 (by kernel_rfl) (by kernel_rfl) ?_; simp only [List.take_succ_cons, List.take_zero, List.drop_succ_cons, List.drop_zero]; (repeat still_step); refine wpStill_nil ?_)
  go_wp2
  go_end0
  refine ⟨rfl, ?_, by (repeat (first | exact Frm.refl _ _ | refine Frm.drewN ?_ _ | refine Frm.drew ?_ | refine Frm.alloc ?_ _ | refine Frm.setCell ?_ (by simp) _))⟩
  have hF : Frm (fun b _ => b = d.HB) w (w.setCell ⟨d.HB, d.wr, none⟩ (.int .u8 (c.toNat : Int))) := by (repeat (first | exact Frm.refl _ _ | refine Frm.drewN ?_ _ | refine Frm.drew ?_ | refine Frm.alloc ?_ _ | refine Frm.setCell ?_ (by simp) _))
  have hW : ∀ i, i < 32768 → (w.setCell ⟨d.HB, d.wr, none⟩ (.int .u8 (c.toNat : Int))).cell? ⟨d.HB, i, none⟩ = some (.int .u8 ((upd d.g d.wr c i).toNat : Int)) := by
    intro i hi
    by_cases e : i = d.wr
    · rw [e, upd_same]; exact set_get h2
    · rw [upd_other _ _ e, cell_set_off e]; exact hD.win i hi
  exact ((hD.set_win hF _ hW).set_wr (d.wr + 1)).drew

set_option maxHeartbeats 1000000 in
theorem readFlush_any (hD : Dec w F d) (hw : d.wr ≤ 32768) (hr : d.rd ≤ d.wr) (hr2 : d.rd < 32768) :
    Calls Tryd.prog 88 #[.pointer (some ⟨F, 1037, none⟩)] w fun e w' =>
      e = .returned (.slice (some ⟨d.HB, d.rd, none⟩) (d.wr - d.rd) (32768 - d.rd)) ∧
      Dec w' F (if d.wr = 32768 then { d with wr := 0, rd := 0, full := true } else { d with rd := d.wr }) ∧ Frm (fun b o => b = F ∧ (o = 1038 ∨ o = 1039 ∨ o = 1040)) w w' := by
  have h0 := hD.hist
  have h1 := hD.wr
  have h2 := hD.rd
  have h3 := hD.full
  have f1 := hD.fr 1038
  have f2 := hD.fr 1039
  have f3 := hD.fr 1040
  have b1 : (d.wr : Int) ≤ 32768 := by omega
  have b2 : (d.rd : Int) ≤ (d.wr : Int) := by omega
  have b3 : d.wr ≤ 32768 := hw
  have b4 : ¬ 32768 = d.rd := by omega
  go_enter Tryd.func88, Tryd.ntmps88
  by_cases hq : d.wr = 32768
  · rw [if_pos hq]
    rw [hq] at h1
    have e1 : d.wr - d.rd = 32768 - d.rd := by omega
    rw [e1]
    clear hq b1 b2 b3 e1
    have b5 : (d.rd : Int) ≤ 32768 := by omega
    have b6 : d.rd ≤ 32768 := by omega
    go_wp2
    (go_quiet (fail))
    go_wp2
    (go_quiet (fail))
    go_wp2
    go_ret
    refine ⟨rfl, ?_, by (repeat (first | exact Frm.refl _ _ | refine Frm.drewN ?_ _ | refine Frm.drew ?_ | refine Frm.alloc ?_ _ | refine Frm.setCell ?_ (by simp) _))⟩
    exact ((((((hD.drewN _).set_rd 32768).drewN _).set_wr 0).set_rd 0).set_full true)
  · rw [if_neg hq]
    have hq' : ((d.wr : Int) == 32768) = false := by simp; omega
    have hq := Lib.hid hq
    go_wp2
    (go_quiet (fail))
    go_wp2
    (go_quiet (fail))
    go_wp2
    go_ret
    refine ⟨rfl, ?_, by (repeat (first | exact Frm.refl _ _ | refine Frm.drewN ?_ _ | refine Frm.drew ?_ | refine Frm.alloc ?_ _ | refine Frm.setCell ?_ (by simp) _))⟩
    exact ((hD.drewN _).set_rd _).drewN _

end
end Go.Proofs.YthfncdfcklbigaaDoor
