/-
  ROWS OF THE PROGRAM'S OWN MAKING that grow by append: the kit's 'ownsRow', with a frame, and with what kind of values the row's cells are.
-/
import Derived.Test.YthfncdfcklbigaaDoorLay
import Derived.Laws.AppendOwn
import Derived.Laws.OwnMore
set_option linter.unusedVariables false
set_option linter.unusedSimpArgs false
namespace Go.Proofs.YthfncdfcklbigaaDoor
open Go.RowKit Flate
set_option maxRecDepth 100000

theorem frm_setRow {w : World} {g : Nat} {cur cs : Array Value} {e : TypeId} (hg : w.heap[g]? = some (.cells cur e (0, 0))) (hs : cs.size = cur.size) : Frm (fun b _ => b = g) w (w.setRow g cs) := by
  have hh := setRow_heap w g cur cs e (0, 0) hg
  refine ⟨rfl, rfl, rfl, by simp [World.setRow], fun b o hb hn => World.cell?_of_block (setRow_other w g b cs hn), fun b o hb => ?_, fun b o hb => ?_, fun b hb hn => setRow_other w g b cs (hn 0)⟩
  · by_cases h : b = g
    · subst h; simp [World.frozen?, hg, hh]
    · exact World.frozen?_of_block (setRow_other w g b cs h)
  · by_cases h : b = g
    · subst h
      simp only [World.cell?, hg, hh]
      by_cases ho : o < cur.size
      · rw [Array.getElem?_eq_getElem ho, Array.getElem?_eq_getElem (by omega)]; rfl
      · rw [Array.getElem?_eq_none (by omega), Array.getElem?_eq_none (by omega)]
    · rw [World.cell?_of_block (a := ⟨b, o, none⟩) (setRow_other w g b cs h)]

/-- A row of n elements, its cells' values xs; all cells of its block are of the kind K. -/
structure Row (K : Value → Prop) (w : World) (base : Nat) (e : TypeId) (size : Nat) (v : Value) (n : Nat) (xs : List Value) : Prop where
  own : w.ownsRow base e size v n xs
  kind : ∀ g, v.ownBlock = some g → ∀ o u, w.cell? ⟨g, o, none⟩ = some u → K u
  froz : ∀ g, v.ownBlock = some g → ∀ o, w.frozen? ⟨g, o, none⟩ = false

theorem Row.nil (K : Value → Prop) (w : World) (base : Nat) (e : TypeId) (size : Nat) : Row K w base e size (.slice none 0 0) 0 [] :=
  ⟨World.ownsRow_nil w base e size, fun g h => by simp [Value.ownBlock] at h, fun g h => by simp [Value.ownBlock] at h⟩

theorem Row.len {K : Value → Prop} {w : World} {base : Nat} {e : TypeId} {size : Nat} {v : Value} {n : Nat} {xs : List Value} (h : Row K w base e size v n xs) : xs.length = n * size := h.own.1

theorem Row.lt {K : Value → Prop} {w : World} {base : Nat} {e : TypeId} {size : Nat} {v : Value} {n : Nat} {xs : List Value} (h : Row K w base e size v n xs) : ∀ g, v.ownBlock = some g → base ≤ g ∧ g < w.heap.size := h.own.lt

/-- What does not touch the row's block leaves it. -/
theorem Row.keep {K : Value → Prop} {w w' : World} {base : Nat} {e : TypeId} {size : Nat} {v : Value} {n : Nat} {xs : List Value} {S : Nat → Nat → Prop} (h : Row K w base e size v n xs) (hf : Frm S w w') (hS : ∀ g o, v.ownBlock = some g → ¬ S g o) : Row K w' base e size v n xs := by
  have hobj : ∀ g, v.ownBlock = some g → w'.heap[g]? = w.heap[g]? := fun g hg => hf.obj g (h.lt g hg).2 (fun o => hS g o hg)
  refine ⟨⟨h.own.1, ?_⟩, fun g hg o u hu => ?_, fun g hg o => ?_⟩
  · rcases h.own.2 with q | ⟨g, cap, cur, q1, q2, q3, q4, q5, q6, q7⟩
    · exact .inl q
    · exact .inr ⟨g, cap, cur, q1, q2, (hobj g (by rw [q1]; rfl)).trans q3, q4, q5, q6, q7⟩
  · exact h.kind g hg o u ((World.cell?_of_block (hobj g hg)).symm.trans hu)
  · exact (World.frozen?_of_block (hobj g hg)).trans (h.froz g hg o)

theorem Row.lower {K : Value → Prop} {w : World} {base b' : Nat} {e : TypeId} {size : Nat} {v : Value} {n : Nat} {xs : List Value} (h : Row K w base e size v n xs) (hb : b' ≤ base) : Row K w b' e size v n xs := by
  refine ⟨⟨h.own.1, ?_⟩, h.kind, h.froz⟩
  rcases h.own.2 with q | ⟨g, cap, cur, q1, q2, q3⟩
  · exact .inl q
  · exact .inr ⟨g, cap, cur, q1, Nat.le_trans hb q2, q3⟩

theorem Row.drewN {K : Value → Prop} {w : World} {base : Nat} {e : TypeId} {size : Nat} {v : Value} {n : Nat} {xs : List Value} (h : Row K w base e size v n xs) (q : Nat) : Row K (w.drewN q) base e size v n xs := ⟨h.own, h.kind, h.froz⟩

/-- The slice, and its cells. -/
theorem Row.cells {K : Value → Prop} {w : World} {base : Nat} {e : TypeId} {size : Nat} {v : Value} {n : Nat} {xs : List Value} (h : Row K w base e size v n xs) :
    (v = .slice none 0 0 ∧ n = 0) ∨ ∃ g cap, v = .slice (some ⟨g, 0, none⟩) n cap ∧ base ≤ g ∧ g < w.heap.size ∧ n ≤ cap ∧ ∀ j u, xs[j]? = some u → w.cell? ⟨g, j, none⟩ = some u := by
  rcases h.own.2 with q | ⟨g, cap, cur, q1, q2, q3, q4, q5, q6, q7⟩
  · exact .inl q
  · refine .inr ⟨g, cap, q1, q2, (h.lt g (by rw [q1]; rfl)).2, q4, fun j u hu => ?_⟩
    have := h.own.cells (g := g) (by rw [q1]; rfl) j u hu
    rw [Addr.add_lit] at this
    simpa using this

theorem cells_at {w : World} {g o : Nat} {cs : Array Value} {t : TypeId} {f : Nat × Nat} (h : w.heap[g]? = some (.cells cs t f)) : w.cell? ⟨g, o, none⟩ = cs[o]? := by
  simp [World.cell?, h]

/-- What append onto such a row gives. -/
theorem append_row {P : Program} (K : Value → Prop) (w : World) (base : Nat) (t e : TypeId) (i : TypeInfo) (z : Value) (size bytes : Nat) (ht : P.underlying t = some (.slice e)) (hi : P.info? e = some i) (hz : i.zero = some z)
    (hsize : i.size = size) (hby : i.bytes = bytes) (hzs : z.cells.size = size) (hzK : ∀ u ∈ z.cells.toList, K u)
    (v : Value) (n : Nat) (xs : List Value) (hrow : Row K w base e size v n xs)
    (a : Addr) (m c : Nat) (news : List Value) (hl : news.length = m * size) (hnews : ∀ j u, news[j]? = some u → w.cell? (a.add j) = some u) (h1 : ∀ u ∈ news, u.oneCell' = true) (hK : ∀ u ∈ news, K u)
    (h63 : n + m ≤ maxLen) (hbytes : (n + m) * bytes ≤ 140737488355328) (hbase : base ≤ w.heap.size) :
    ∃ v' w', (∀ ty, (Builtin.append_ #[t, t] ty #[v, .slice (some a) m c]).run P w = .ok v' w') ∧ Row K w' base e size v' (n + m) (xs ++ news) ∧ Frm (fun b _ => v.ownBlock = some b) w w' ∧ (v'.ownBlock = v.ownBlock ∨ v'.ownBlock = some w.heap.size) := by
  subst hsize
  subst hby
  have hsmall : n + m ≤ 9223372036854775807 := by simp only [maxLen] at h63; omega
  have hlen : (xs ++ news).length = (n + m) * i.size := by rw [List.length_append, hrow.len, hl, Nat.add_mul]
  have hzc : ∀ k, ∀ u ∈ (Builtin.zeroCells z.cells k).toList, K u := fun k u hu => by
    unfold Builtin.zeroCells at hu
    rw [Array.mem_toList_iff, Array.mem_map] at hu
    obtain ⟨j, hj, rfl⟩ := hu
    have hpos : 0 < z.cells.size := by
      rcases Nat.eq_zero_or_pos z.cells.size with h0 | h0
      · rw [h0] at hj; simp at hj
      · exact h0
    have hlt := Nat.mod_lt j hpos
    rw [getElem!_pos z.cells _ hlt]
    exact hzK _ (by simp)
  have kindOf : ∀ {W : World} {g : Nat} {cs : Array Value} {t : TypeId} {f : Nat × Nat}, W.heap[g]? = some (.cells cs t f) → (∀ u ∈ cs.toList, K u) → ∀ o u, W.cell? ⟨g, o, none⟩ = some u → K u := fun hg hk o u hu => by
    rw [cells_at hg] at hu
    exact hk u (Array.mem_toList_iff.2 (Array.mem_of_getElem? hu))
  have grown : ∀ (old : Nat), old < n + m → ∀ S : Nat → Nat → Prop, (∀ u ∈ xs, K u) →
      Row K (w.drew.alloc (.cells (xs.toArray ++ news.toArray ++ Builtin.zeroCells z.cells (grownCap w (n + m) old e - (n + m))) e)) base e i.size
        (.slice (some ⟨w.heap.size, 0, none⟩) (n + m) (grownCap w (n + m) old e)) (n + m) (xs ++ news) ∧
      Frm S w (w.drew.alloc (.cells (xs.toArray ++ news.toArray ++ Builtin.zeroCells z.cells (grownCap w (n + m) old e - (n + m))) e)) := by
    intro old ho S hxK
    have hge := grownCap_ge w (n + m) old e
    have hcm : grownCap w (n + m) old e ≤ maxLen := grownCap_le_maxLen w (n + m) old e h63
    refine ⟨⟨⟨hlen, .inr ⟨w.heap.size, _, _, rfl, hbase, heap_alloc_new w.drew _, hge, hcm, ?_, ?_⟩⟩, fun g hg => ?_, fun g hg o => ?_⟩, ((Frm.refl _ _).drew).alloc _⟩
    · simp only [Array.size_append, List.size_toArray, size_zeroCells, hzs, hrow.len, hl, ← Nat.add_mul]
      congr 1
      omega
    · simp only [Array.toList_append, List.append_assoc]
      rw [← List.append_assoc, ← hlen]
      exact List.take_left
    · have hg : w.heap.size = g := Option.some.inj hg
      subst hg
      refine kindOf (heap_alloc_new w.drew _) fun u hu => ?_
      simp only [Array.toList_append, List.mem_append] at hu
      rcases hu with (hu | hu) | hu
      · exact hxK u hu
      · exact hK u hu
      · exact hzc _ u hu
    · have hg : w.heap.size = g := Option.some.inj hg
      subst hg
      exact World.frozen?_alloc_new (w := w.drew) ..
  rcases hrow.own.2 with ⟨rfl, rfl⟩ | ⟨g, cap, cur, rfl, hbg, hg, hnc, hcm, hcs, htake⟩
  · have hx : xs = [] := List.eq_nil_of_length_eq_zero (by simpa using hrow.len)
    subst hx
    by_cases hm : m = 0
    · subst hm
      have hn : news = [] := List.eq_nil_of_length_eq_zero (by simpa using hl)
      subst hn
      refine ⟨.slice none 0 0, w, fun ty => ?_, Row.nil K w base e i.size, Frm.refl _ _, .inl rfl⟩
      simp [Builtin.append_, run_underlying ht, sizeOf, typeInfo, hi, Builtin.lenOf, Builtin.firstCells, loadCells, loadCellsFrom]
    · have hr := fun ty => run_append_nil (P := P) w t ty e i z ht hi hz a m c news hl hnews (by omega) (by omega) (by have hb := hbytes; simp only [Nat.zero_add] at hb; omega)
      have hgr := grown 0 (by omega) (fun b _ => (Value.slice none 0 0).ownBlock = some b) (by simp)
      simp only [Nat.zero_add, List.nil_append, Array.empty_append] at hgr ⊢
      exact ⟨_, _, hr, hgr.1, hgr.2, .inr rfl⟩
  · have hxK : ∀ u ∈ xs, K u := fun u hu => by
      obtain ⟨j, hj⟩ := List.mem_iff_getElem?.1 hu
      refine hrow.kind g rfl j u ?_
      rw [cells_at hg]
      have hj2 : j < n * i.size := by rw [← hrow.len]; exact (List.getElem?_eq_some_iff.1 hj).1
      rw [← htake, List.getElem?_take_of_lt hj2] at hj
      simpa using hj
    by_cases hroom : n + m ≤ cap
    · have hfit : n * i.size + news.length ≤ cur.size := by rw [hl, hcs, ← Nat.add_mul]; exact Nat.mul_le_mul_right _ hroom
      have hr := fun ty => run_append_room (P := P) w t ty e i ht hi g n cap cur hg a m c news hl hnews h1 hroom hfit
      have hsz : (cur.toList.take (n * i.size) ++ news ++ cur.toList.drop (n * i.size + news.length)).toArray.size = cur.size := by
        simp only [List.size_toArray, List.length_append, List.length_take, List.length_drop, Array.length_toList]
        omega
      have hf := frm_setRow hg hsz
      have hnew := setRow_heap w g cur (cur.toList.take (n * i.size) ++ news ++ cur.toList.drop (n * i.size + news.length)).toArray e (0, 0) hg
      refine ⟨_, _, hr, ⟨⟨hlen, .inr ⟨g, cap, _, rfl, hbg, hnew, hroom, hcm, by rw [hsz, hcs], ?_⟩⟩, fun g' hg' => ?_, fun g' hg' o => ?_⟩, hf.mono fun b o h => by rw [h]; rfl, .inl rfl⟩
      · rw [htake, ← hlen]
        exact List.take_left
      · have hg' : g = g' := Option.some.inj hg'
        subst hg'
        refine kindOf hnew fun u hu => ?_
        simp only [List.mem_append] at hu
        have hcur : ∀ u ∈ cur.toList, K u := fun u hu => by
          obtain ⟨j, hj⟩ := List.mem_iff_getElem?.1 hu
          exact hrow.kind g rfl j u (by rw [cells_at hg]; simpa using hj)
        rcases hu with (hu | hu) | hu
        · exact hcur u (List.mem_of_mem_take hu)
        · exact hK u hu
        · exact hcur u (List.mem_of_mem_drop hu)
      · have hg' : g = g' := Option.some.inj hg'
        subst hg'
        rw [hf.froz g o (Array.getElem?_eq_some_iff.1 hg).1]
        exact hrow.froz g rfl o
    · have holds : ∀ j u, xs[j]? = some u → w.cell? ((⟨g, 0, none⟩ : Addr).add j) = some u := hrow.own.cells (g := g) rfl
      have hr := fun ty => run_append_grow (P := P) w t ty e i z ht hi hz ⟨g, 0, none⟩ n cap xs hrow.len holds a m c news hl hnews (by omega) (by omega) (growslice_fits (by omega) hbytes)
      have hgr := grown cap (by omega) (fun b _ => (Value.slice (some ⟨g, 0, none⟩) n cap).ownBlock = some b) hxK
      exact ⟨_, _, hr, hgr.1, hgr.2, .inr rfl⟩

/-- An append whose run is known. -/
theorem wpList_append_by {P : Program} {ops : Array Oper} {rest : List Oper} {o : Oper} {a : Act} {w w' : World} {v : Value} {Q : Exit → Act → World → Prop} (hgd : o.guard = none) (s x : Operand) (t : TypeId)
    (ho : o.op = .call { callee := .builtin .append, args := #[s, x], argTypes := #[t, t] }) (vs vx : Value) (hs : a.eval s = vs) (hx : a.eval x = vx)
    (hrun : (Builtin.append_ #[t, t] o.type #[vs, vx]).run P w = .ok v w') (h : wpList P ops Q rest (a.put o.dst v) w') : wpList P ops Q (o :: rest) a w := by
  refine wpList_plain hgd fun K hK => ?_
  unfold Oper.wp execOp
  simp only [ho, resolve, invoke, builtin, Sem.run_bind, Sem.run_pure, Result.andThen_ok, List.map_toArray, List.map_cons, List.map_nil, hs, hx, hrun]
  exact hK _ _ h

/-- The same where the operation is a guarded one that is carried out. -/
theorem wpList_append_byG {P : Program} {ops : Array Oper} {rest : List Oper} {o : Oper} {a : Act} {w w' : World} {v : Value} {Q : Exit → Act → World → Prop} (hgd : Region.wanted o (yielded ops a.tmps) = true) (s x : Operand) (t : TypeId)
    (ho : o.op = .call { callee := .builtin .append, args := #[s, x], argTypes := #[t, t] }) (vs vx : Value) (hs : a.eval s = vs) (hx : a.eval x = vx)
    (hrun : (Builtin.append_ #[t, t] o.type #[vs, vx]).run P w = .ok v w') (h : wpList P ops Q rest (a.put o.dst v) w') : wpList P ops Q (o :: rest) a w := by
  refine wpList_step fun K hK => ?_
  rw [if_pos hgd]
  unfold Oper.wp execOp
  simp only [ho, resolve, invoke, builtin, Sem.run_bind, Sem.run_pure, Result.andThen_ok, List.map_toArray, List.map_cons, List.map_nil, hs, hx, hrun]
  exact hK _ _ h

/-! ### Rows of bytes -/

abbrev byteV (c : UInt8) : Value := .int .u8 (c.toNat : Int)

/-- All cells of a block are bytes. -/
def ByteBlock (w : World) (b : Nat) : Prop := ∀ o v, w.cell? ⟨b, o, none⟩ = some v → ∃ u : Int, v = .int .u8 u

/-- A row of bytes. -/
abbrev Own (w : World) (base : Nat) (v : Value) (l : List UInt8) : Prop := Row (fun v => ∃ u : Int, v = .int .u8 u) w base 5 1 v l.length (l.map byteV)

theorem infoBytes : ((Tryd.prog.info? 5).map fun i => (i.zero, i.size, i.bytes)) = some (some (.int .u8 0), 1, 1) := by kernel_rfl

theorem append_bytes (w : World) (base : Nat) (v : Value) (l : List UInt8) (hrow : Own w base v l) (a : Addr) (hspot : a.spot = none) (c : Nat) (news : List UInt8) (hnews : ∀ j (h : j < news.length), w.cell? ⟨a.block, a.off + j, none⟩ = some (byteV news[j]))
    (hle : l.length + news.length ≤ 140737488355328) (hbase : base ≤ w.heap.size) :
    ∃ v' w', (∀ ty, (Builtin.append_ #[22, 22] ty #[v, .slice (some a) news.length c]).run Tryd.prog w = .ok v' w') ∧ Own w' base v' (l ++ news) ∧ Frm (fun b _ => v.ownBlock = some b) w w' ∧ (v'.ownBlock = v.ownBlock ∨ v'.ownBlock = some w.heap.size) := by
  obtain ⟨i, hi, hiq⟩ := Option.map_eq_some_iff.1 infoBytes
  simp only [Prod.mk.injEq] at hiq
  obtain ⟨h1, h2, h3⟩ := hiq
  have := append_row (P := Tryd.prog) (fun v => ∃ u : Int, v = .int .u8 u) w base 22 5 i _ 1 1 Tryd.underlying22 hi h1 h2 h3 (by rfl) (by intro u hu; simp [Value.cells] at hu; exact ⟨0, hu⟩) v l.length _ hrow a news.length c (news.map byteV) (by simp) (fun j u hu => by
      obtain ⟨ab, ao, asp⟩ := a
      simp only at hspot
      subst hspot
      rw [List.getElem?_map] at hu
      obtain ⟨x, hx, rfl⟩ := Option.map_eq_some_iff.1 hu
      obtain ⟨hj, rfl⟩ := List.getElem?_eq_some_iff.1 hx
      rw [Addr.add_lit]
      exact hnews j hj) (fun u hu => by obtain ⟨x, _, rfl⟩ := List.mem_map.1 hu; rfl) (fun u hu => by obtain ⟨x, _, rfl⟩ := List.mem_map.1 hu; exact ⟨_, rfl⟩) (by simp only [maxLen]; omega) (by omega) hbase
  rw [← List.map_append, ← List.length_append] at this
  exact this

theorem Own.bytes {w : World} {base : Nat} {v : Value} {l : List UInt8} (h : Own w base v l) : ∃ b cap, v = .slice b l.length cap ∧ l.length ≤ cap ∧ Bytes w b l ∧ (∀ a, b = some a → a.spot = none ∧ a.off = 0 ∧ base ≤ a.block ∧ a.block < w.heap.size) := by
  rcases h.cells with ⟨rfl, h0⟩ | ⟨g, cap, rfl, h1, h2, h3, h4⟩
  · refine ⟨none, 0, by rw [h0], by omega, List.eq_nil_of_length_eq_zero h0, fun a ha => by simp at ha⟩
  · refine ⟨_, cap, rfl, h3, ⟨rfl, fun j hj => ?_⟩, fun a ha => by obtain rfl := Option.some.inj ha; exact ⟨rfl, rfl, h1, h2⟩⟩
    have := h4 j (byteV l[j]) (by rw [List.getElem?_map, List.getElem?_eq_getElem hj]; rfl)
    simpa using this

/-- A row of bytes that came in. -/
structure Bt (w : World) (base : Option Addr) (l : List UInt8) (cap : Nat) : Prop where
  bytes : Bytes w base l
  hcap : l.length ≤ cap
  lt : ∀ a, base = some a → a.block < w.heap.size
  nilc : base = none → cap = 0

theorem Bt.keep {w w' : World} {base : Option Addr} {l : List UInt8} {cap : Nat} (h : Bt w base l cap) (hf : Frm (fun _ _ => False) w w') : Bt w' base l cap :=
  ⟨h.bytes.keep hf (fun a _ j _ e => e), h.hcap, fun a ha => Nat.lt_of_lt_of_le (h.lt a ha) hf.size, h.nilc⟩

theorem Bt.drewN {w : World} {base : Option Addr} {l : List UInt8} {cap : Nat} (h : Bt w base l cap) (q : Nat) : Bt (w.drewN q) base l cap := h.keep ((Frm.refl _ _).drewN q)

theorem bt_nil (w : World) : Bt w none [] 0 := ⟨rfl, Nat.le_refl _, fun a ha => by simp at ha, fun _ => rfl⟩

theorem Own.bt {w : World} {base : Nat} {v : Value} {l : List UInt8} (h : Own w base v l) : ∃ b cap, v = .slice b l.length cap ∧ Bt w b l cap := by
  rcases h.cells with ⟨rfl, h0⟩ | ⟨g, cap, rfl, _, _, _, _⟩
  · have hl : l = [] := List.eq_nil_of_length_eq_zero h0
    subst hl
    exact ⟨none, 0, rfl, bt_nil w⟩
  · obtain ⟨b, cap', h1, h2, h3, h4⟩ := h.bytes
    exact ⟨b, cap', h1, h3, h2, fun a ha => (h4 a ha).2.2.2, fun hb => by subst hb; simp at h1⟩

/-- A row of bytes, of the program's own or not, appended to one of its own. -/
theorem append_bw (w : World) (base : Nat) (v : Value) (l : List UInt8) (hrow : Own w base v l) (b : Option Addr) (news : List UInt8) (cap : Nat) (hn : news = [] ∨ Bytes w b news) (hnil : b = none → cap = 0)
    (hle : l.length + news.length ≤ 140737488355328) (hbase : base ≤ w.heap.size) :
    ∃ v' w', (∀ ty, (Builtin.append_ #[22, 22] ty #[v, .slice b news.length cap]).run Tryd.prog w = .ok v' w') ∧ Own w' base v' (l ++ news) ∧ Frm (fun b _ => v.ownBlock = some b) w w' ∧ (v'.ownBlock = v.ownBlock ∨ v'.ownBlock = some w.heap.size) := by
  cases b with
  | some a =>
    rcases hn with rfl | hn
    · obtain ⟨i, hi, hiq⟩ := Option.map_eq_some_iff.1 infoBytes
      simp only [Prod.mk.injEq] at hiq
      obtain ⟨h1, h2, h3⟩ := hiq
      have := append_row (P := Tryd.prog) (fun v => ∃ u : Int, v = .int .u8 u) w base 22 5 i _ 1 1 Tryd.underlying22 hi h1 h2 h3 (by rfl) (by intro u hu; simp [Value.cells] at hu; exact ⟨0, hu⟩) v l.length _ hrow a 0 cap [] (by simp) (fun j u hu => by simp at hu) (fun u hu => by simp at hu) (fun u hu => by simp at hu) (by simp only [maxLen]; omega) (by omega) hbase
      rw [List.append_nil] at this ⊢
      exact this
    · obtain ⟨hs, hc⟩ := hn
      exact append_bytes w base v l hrow a hs cap news hc hle hbase
  | none =>
    have hl : news = [] := by
      rcases hn with h | h
      · exact h
      · exact h
    subst hl
    obtain rfl := hnil rfl
    obtain ⟨i, hi, _⟩ := Option.map_eq_some_iff.1 infoBytes
    refine ⟨v, w, fun ty => ?_, by rw [List.append_nil]; exact hrow, Frm.refl _ _, .inl rfl⟩
    exact run_append_owned_none (P := Tryd.prog) (w := w) base 22 ty 5 i 1 Tryd.underlying22 hi v l.length _ hrow.own

theorem append_bt (w : World) (base : Nat) (v : Value) (l : List UInt8) (hrow : Own w base v l) (b : Option Addr) (news : List UInt8) (cap : Nat) (hn : Bt w b news cap)
    (hle : l.length + news.length ≤ 140737488355328) (hbase : base ≤ w.heap.size) :
    ∃ v' w', (∀ ty, (Builtin.append_ #[22, 22] ty #[v, .slice b news.length cap]).run Tryd.prog w = .ok v' w') ∧ Own w' base v' (l ++ news) ∧ Frm (fun b _ => v.ownBlock = some b) w w' ∧ (v'.ownBlock = v.ownBlock ∨ v'.ownBlock = some w.heap.size) :=
  append_bw w base v l hrow b news cap (.inr hn.bytes) hn.nilc hle hbase

/-- A new row of bytes. -/
theorem own_new (w : World) (l : List UInt8) (hm : l.length ≤ maxLen) : Own (w.alloc (.cells (l.map byteV).toArray 5)) w.heap.size (.slice (some ⟨w.heap.size, 0, none⟩) l.length l.length) l := by
  have hh := heap_alloc_new w (.cells (l.map byteV).toArray 5)
  refine ⟨⟨by simp, .inr ⟨w.heap.size, l.length, _, rfl, Nat.le_refl _, hh, Nat.le_refl _, hm, by simp, ?_⟩⟩, fun g hg o u hu => ?_, fun g hg o => ?_⟩
  · rw [List.take_of_length_le (by simp)]
  · obtain rfl := Option.some.inj hg
    rw [cells_at hh] at hu
    obtain ⟨x, _, rfl⟩ := List.mem_map.1 (List.mem_of_getElem? (by simpa using hu : (l.map byteV)[o]? = some u))
    exact ⟨_, rfl⟩
  · obtain rfl := Option.some.inj hg
    exact World.frozen?_alloc_new (w := w) ..

theorem Own.fresh {w w' : World} {base : Nat} {v : Value} {l : List UInt8} (h : Own w base v l) {w0 : World} (h0 : Frm (fun _ _ => False) w0 w) (hb : w0.heap.size ≤ base) (hf : Frm (fun b _ => v.ownBlock = some b) w w') : Frm (fun _ _ => False) w0 w' :=
  h0.trans' hf (fun x o hx q => by have := (h.lt x q).1; omega)

end Go.Proofs.YthfncdfcklbigaaDoor
