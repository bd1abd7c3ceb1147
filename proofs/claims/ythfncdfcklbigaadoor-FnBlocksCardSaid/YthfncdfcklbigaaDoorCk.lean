/-
  Several texts in one: what the writer and the reader of bits do.
-/
import Derived.Test.YthfncdfcklbigaaDoorSrc
import Derived.Test.YthfncdfcklbigaaDoorRows
import Derived.Stop.LaidErr
import Derived.LaidMore
import Derived.OpenShut
import Derived.Test.YthfncdfcklbigaaDoorOwn
import Derived.Test.YthfncdfcklbigaaDoorLaw
import Derived.IntWalk
import Derived.Test.YthfncdfcklbigaaDoorTie
import Derived.Test.YthfncdfcklbigaaDoorCards
import Derived.ChangeSame
import Derived.ChangeSlices
import Derived.Deep.Slices
import Derived.WideKeyArgs
import Derived.ProofKit
import Derived.Stop.Joined
import Derived.SevenTiedAt
set_option linter.unusedVariables false
set_option linter.unusedSimpArgs false

/-
  WHAT THE LISTED PACKAGE-LEVEL VARIABLES GIVE A WALK: 'Env'.
-/
namespace Go.Proofs.YthfncdfcklbigaaDoor
open Go.RowKit Flate
set_option maxRecDepth 100000

theorem starErr : "*" ++ "errors.errorString" = "*errors.errorString" := by decide
theorem rowErr (u : TypeId) (h : Tryd.prog.typeName? 3 u = some "*errors.errorString") : u = 197 :=
  typeName_ptr_named (nm := "errors.errorString") (by rw [starErr]; kernel_rfl) (by kernel_rfl) (by decide) u (by rw [starErr]; exact h)

theorem cellsErr : Tryd.prog.cellsOf 223 = 1 := by kernel_rfl
theorem cellsStr : Tryd.prog.cellsOf 9 = 1 := by kernel_rfl
theorem cellsInt : Tryd.prog.cellsOf 3 = 1 := by kernel_rfl
theorem cellsOrd : Tryd.prog.cellsOf 120 = 19 := by kernel_rfl

/-- The head of the list, a sentinel. -/
theorem laid_one {n : String} {text : List UInt8} {r : List (String × DataW Unit)} {W : World} {g : Nat} {ps : List MemPlace}
    (h : DataW.LaidVars Tryd.prog W ((n, .iface "*errors.errorString" (.ptr (.agg [.lit (.string text)]))) :: r) ps)
    (hrows : ∀ b off, MemPlace.cell b off ∈ ps → (∃ c t, W.heap[b]? = some (.cells c t (0, 0))) ∧ ∀ u v, W.cell? ⟨b, off, none⟩ = some (.iface u v) → Value.okWide Tryd.prog W .any 0 u v)
    (hg : Tryd.prog.globalNamed n = some g) (ht : (Tryd.prog.globals[g]?).map (·.type) = some 62) :
    ∃ (a : Addr) (q : List MemPlace), W.cell? ⟨g, 0, none⟩ = some (errAt a) ∧ (∃ c t, W.heap[a.block]? = some (.cells c t (0, 0))) ∧ a.spot = none ∧ DataW.LaidVars Tryd.prog W r q ∧ ps = .cell g 0 :: .cell a.block a.off :: q := by
  obtain ⟨ms, hi⟩ := underlyingError
  obtain ⟨g0, t0, cs0, f0, p0, q0, hg0, ht0, hv0, hd0, hr, e0⟩ := h
  obtain rfl := Option.some.inj (hg.symm.trans hg0)
  obtain rfl := Option.some.inj (ht.symm.trans ht0)
  subst e0
  obtain ⟨l0⟩ := cs0
  have ok0 : ∀ u v, l0 = [.iface u v] → Value.okWide Tryd.prog W .any 0 u v := fun u v e => by
    subst e
    exact (hrows g 0 (by simp [MemPlace.row])).2 u v (by simpa using World.var?_cell hg0 hv0 0)
  obtain ⟨a0, s0, rfl, hc0, hs0, hz0, rfl⟩ := errorString_of_trod hi rowErr Tryd.underlying197 Tryd.underlying223 rfl rfl Tryd.underlying9 cellsErr cellsStr hd0 ok0
  refine ⟨a0, q0, by simpa using World.var?_cell hg0 hv0 0, (hrows a0.block a0.off (by simp [MemPlace.row])).1, World.cell?_spot hc0, hr, by simp [MemPlace.row]⟩

def ordLits : List (DataW Unit) := [.lit (.int .i64 16), .lit (.int .i64 17), .lit (.int .i64 18), .lit (.int .i64 0), .lit (.int .i64 8), .lit (.int .i64 7), .lit (.int .i64 9), .lit (.int .i64 6), .lit (.int .i64 10), .lit (.int .i64 5), .lit (.int .i64 11), .lit (.int .i64 4), .lit (.int .i64 12), .lit (.int .i64 3), .lit (.int .i64 13), .lit (.int .i64 2), .lit (.int .i64 14), .lit (.int .i64 1), .lit (.int .i64 15)]
theorem ordLits_at (i : Nat) (hi : i < 19) : ordLits[i]? = some (.lit (.int .i64 (codeOrder.getD i 0 : Nat))) := by
  have h : i = 0 ∨ i = 1 ∨ i = 2 ∨ i = 3 ∨ i = 4 ∨ i = 5 ∨ i = 6 ∨ i = 7 ∨ i = 8 ∨ i = 9 ∨ i = 10 ∨ i = 11 ∨ i = 12 ∨ i = 13 ∨ i = 14 ∨ i = 15 ∨ i = 16 ∨ i = 17 ∨ i = 18 := by omega
  rcases h with rfl | rfl | rfl | rfl | rfl | rfl | rfl | rfl | rfl | rfl | rfl | rfl | rfl | rfl | rfl | rfl | rfl | rfl | rfl <;> rfl

theorem env_of_laid {W : World} (h : laidMetH Tryd.prog Rows.fnAheadRow.laid W) : ∃ p, Env W W.heap.size p := by
  have h0 : laidMetH Tryd.prog [("io.ErrShortBuffer", Rows.laid_io_ErrShortBuffer), ("io.EOF", Rows.laid_io_EOF), ("io.ErrUnexpectedEOF", Rows.laid_io_ErrUnexpectedEOF), ("crowbar/pub/inflate.codeOrder", Rows.laid_crowbar_pub_inflate_codeOrder), ("crowbar/pub/zlibread.ErrChecksum", Rows.laid_crowbar_pub_zlibread_ErrChecksum), ("crowbar/pub/zlibread.ErrDictionary", Rows.laid_crowbar_pub_zlibread_ErrDictionary), ("crowbar/pub/zlibread.ErrHeader", Rows.laid_crowbar_pub_zlibread_ErrHeader)] W := h
  rw [MakeChecks.laidMetH_plain _ _ _ (by kernel_rfl)] at h0
  obtain ⟨ps, hv0, hnd, hrows0⟩ := h0
  obtain ⟨a1, q1, c1, b1, s1, hv1, rfl⟩ := laid_one (g := 7) hv0 hrows0 (by kernel_rfl) (by kernel_rfl)
  have hrows1 := fun b off hm => hrows0 b off (List.mem_cons_of_mem _ (List.mem_cons_of_mem _ hm))
  obtain ⟨aE, q2, cE, bE, sE, hv2, rfl⟩ := laid_one (g := 0) hv1 hrows1 (by kernel_rfl) (by kernel_rfl)
  have hrows2 := fun b off hm => hrows1 b off (List.mem_cons_of_mem _ (List.mem_cons_of_mem _ hm))
  obtain ⟨aU, q3, cU, bU, sU, hv3, rfl⟩ := laid_one (g := 4) hv2 hrows2 (by kernel_rfl) (by kernel_rfl)
  have hrows3 := fun b off hm => hrows2 b off (List.mem_cons_of_mem _ (List.mem_cons_of_mem _ hm))
  obtain ⟨g0, t0, cs0, f0, p0, q0, hg0, ht0, hvO, hdO, hv4, rfl⟩ := hv3
  obtain rfl := Option.some.inj ((show Tryd.prog.globalNamed "crowbar/pub/inflate.codeOrder" = some 6 by kernel_rfl).symm.trans hg0)
  obtain rfl := Option.some.inj ((show (Tryd.prog.globals[6]?).map (·.type) = some 120 by kernel_rfl).symm.trans ht0)
  have hrows4 := fun b off hm => hrows3 b off (List.mem_append_right _ hm)
  obtain ⟨aC, q4, cC, bC, sC, hv5, rfl⟩ := laid_one (g := 3) hv4 hrows4 (by kernel_rfl) (by kernel_rfl)
  have hrows5 := fun b off hm => hrows4 b off (List.mem_cons_of_mem _ (List.mem_cons_of_mem _ hm))
  obtain ⟨aD, q5, cD, bD, sD, hv6, rfl⟩ := laid_one (g := 2) hv5 hrows5 (by kernel_rfl) (by kernel_rfl)
  have hrows6 := fun b off hm => hrows5 b off (List.mem_cons_of_mem _ (List.mem_cons_of_mem _ hm))
  obtain ⟨aH, q6, cH, bH, sH, hv7, rfl⟩ := laid_one (g := 1) hv6 hrows6 (by kernel_rfl) (by kernel_rfl)
  have hlt : ∀ {a : Addr}, (∃ c t, W.heap[a.block]? = some (.cells c t (0, 0))) → a.block < W.heap.size := fun ⟨c, t, h⟩ => (Array.getElem?_eq_some_iff.1 h).1
  have hne : ∀ {a b : Addr}, a.spot = none → b.spot = none → (MemPlace.cell a.block a.off ≠ MemPlace.cell b.block b.off) → a ≠ b := fun _ _ h e => h (by rw [e])
  have hord : ∀ i, i < 19 → W.cell? ⟨6, i, none⟩ = some (.int .i64 (codeOrder.getD i 0 : Nat)) := fun i hi => by
    obtain ⟨xs, m1, rfl, hx1, hlen, hn3, hel⟩ := DataW.trod_array Tryd.underlying120 hdO
    rw [cellsOrd] at hlen
    have h1 := hel i hi
    rw [cellsInt, Nat.mul_one] at h1
    have hxl : xs.map (·.1) = ordLits := by
      have := congrArg Prod.fst hx1
      simp only [Rows.laid_crowbar_pub_inflate_codeOrder, DataW.agg.injEq] at this
      exact this.symm
    have hy : xs[i]? = some (xs[i]'(by omega)) := List.getElem?_eq_getElem (by omega)
    have hy1 : (xs[i]'(by omega)).1 = .lit (.int .i64 (codeOrder.getD i 0 : Nat)) := by
      have h2 : (xs.map (·.1))[i]? = some (xs[i]'(by omega)).1 := by rw [List.getElem?_map, hy]; rfl
      rw [hxl, ordLits_at i hi] at h2
      exact (Option.some.inj h2).symm
    rw [hy] at h1
    obtain ⟨k, e1, e2, _⟩ := DataW.trod_int Tryd.underlying3 h1
    rw [e2] at hy1
    have hk : k = (codeOrder.getD i 0 : Nat) := by simpa using hy1
    have h3 := World.var?_cell hg0 hvO i
    have h4 : cs0[i]? = some (.int .i64 k) := by
      have h5 : cs0.toList[i]? = some (.int .i64 k) := by
        have h6 := congrArg (fun l => l[0]?) e1
        simpa [List.getElem?_drop] using h6
      simpa using h5
    rw [h3, h4, hk]
  refine ⟨⟨aE, aU, aH, aD, aC⟩, Nat.le_refl _, ?_, cE, cU, cH, cD, cC, hord, ?_, ?_, ?_⟩
  · have h1 := cell_lt c1
    have h2 := cell_lt cE
    have h3 := cell_lt cU
    have h4 := cell_lt (hord 0 (by omega))
    omega
  · intro x hx
    simp only [Ps.all, List.mem_cons, List.not_mem_nil, or_false] at hx
    rcases hx with rfl | rfl | rfl | rfl | rfl
    · exact hlt bE
    · exact hlt bU
    · exact hlt bH
    · exact hlt bD
    · exact hlt bC
  · intro x hx
    simp only [Ps.all, List.mem_cons, List.not_mem_nil, or_false] at hx
    rcases hx with rfl | rfl | rfl | rfl | rfl
    · exact bE
    · exact bU
    · exact bH
    · exact bD
    · exact bC
  · simp only [Ps.all, List.nodup_cons, List.mem_cons, List.not_mem_nil, or_false, not_or, List.nodup_nil, and_true, not_false_eq_true]
    refine ⟨⟨?_, ?_, ?_, ?_⟩, ⟨?_, ?_, ?_⟩, ⟨?_, ?_⟩, ?_⟩ <;> (intro e; subst e; exact absurd hnd (by simp [List.nodup_append]))

end Go.Proofs.YthfncdfcklbigaaDoor

/-
  ROWS OF INTS: of the program's own, and such as came in.
-/
namespace Go.Proofs.YthfncdfcklbigaaDoor
open Go.RowKit Flate
set_option maxRecDepth 100000

abbrev intV (x : Int) : Value := .int .i64 x

/-- A row of ints of the program's own making. -/
abbrev OwnI (w : World) (base : Nat) (v : Value) (l : List Int) : Prop := Row (fun v => ∃ u : Int, v = .int .i64 u) w base 3 1 v l.length (l.map intV)

/-- A row of ints that came in. -/
structure It (w : World) (base : Option Addr) (l : List Int) (cap : Nat) : Prop where
  cells : ∀ j (h : j < l.length), ∃ a, base = some a ∧ w.cell? ⟨a.block, a.off + j, none⟩ = some (intV l[j])
  spot : ∀ a, base = some a → a.spot = none
  hcap : l.length ≤ cap
  lt : ∀ a, base = some a → a.block < w.heap.size
  nilc : base = none → cap = 0
  wf : ∀ x ∈ l, -9223372036854775808 ≤ x ∧ x ≤ 9223372036854775807

theorem It.keep {w w' : World} {base : Option Addr} {l : List Int} {cap : Nat} (h : It w base l cap) (hf : Frm (fun _ _ => False) w w') : It w' base l cap :=
  ⟨fun j hj => by obtain ⟨a, h1, h2⟩ := h.cells j hj; exact ⟨a, h1, hf.keep h2 (fun e => e)⟩, h.spot, h.hcap, fun a ha => Nat.lt_of_lt_of_le (h.lt a ha) hf.size, h.nilc, h.wf⟩

theorem infoInts : ((Tryd.prog.info? 3).map fun i => (i.zero, i.size, i.bytes)) = some (some (.int .i64 0), 1, 8) := by kernel_rfl

/-- One int more: out of a new block of its own. -/
theorem append_int (w : World) (base : Nat) (v : Value) (l : List Int) (hrow : OwnI w base v l) (x : Int) (hle : l.length + 1 ≤ 1099511627776) (hbase : base ≤ w.heap.size) :
    ∃ v' w', (∀ ty, (Builtin.append_ #[27, 27] ty #[v, .slice (some ⟨w.heap.size, 0, none⟩) 1 1]).run Tryd.prog (w.alloc (.cells #[.int .i64 x] 3)) = .ok v' w') ∧ OwnI w' base v' (l ++ [x]) ∧ Frm (fun b _ => v.ownBlock = some b) w w' := by
  obtain ⟨i, hi, hiq⟩ := Option.map_eq_some_iff.1 infoInts
  simp only [Prod.mk.injEq] at hiq
  obtain ⟨h1, h2, h3⟩ := hiq
  have hf1 : Frm (fun b _ => v.ownBlock = some b) w (w.alloc (.cells #[.int .i64 x] 3)) := (Frm.refl _ _).alloc _
  have hrow1 := hrow.keep (S := fun _ _ => False) ((Frm.refl _ w).alloc (.cells #[.int .i64 x] 3)) (fun _ _ _ e => e)
  obtain ⟨v', w', hrun, hr, hf, _⟩ := append_row (P := Tryd.prog) (fun v => ∃ u : Int, v = .int .i64 u) _ base 27 3 i _ 1 8 Tryd.underlying27 hi h1 h2 h3 (by rfl) (by intro u hu; simp [Value.cells] at hu; exact ⟨0, hu⟩) v l.length _ hrow1 ⟨w.heap.size, 0, none⟩ 1 1 [intV x] (by simp) (fun j u hu => by
      match j, hu with
      | 0, hu =>
        obtain rfl := Option.some.inj hu
        rw [Addr.add_lit]
        exact (cells_at (heap_alloc_new w _)).trans rfl
      | j + 1, hu => simp at hu) (fun u hu => by obtain rfl := List.mem_singleton.1 hu; rfl) (fun u hu => by obtain rfl := List.mem_singleton.1 hu; exact ⟨_, rfl⟩) (by simp only [maxLen]; omega) (by omega) (Nat.le_trans hbase hf1.size)
  refine ⟨v', w', hrun, ?_, hf1.trans' hf (fun _ _ _ e => e)⟩
  have e : (l ++ [x]).map intV = l.map intV ++ [intV x] := by simp
  unfold OwnI
  rw [e, List.length_append]
  exact hr

theorem OwnI.nil (w : World) (base : Nat) : OwnI w base (.slice none 0 0) [] := Row.nil _ _ _ _ _

theorem OwnI.it {w : World} {base : Nat} {v : Value} {l : List Int} (h : OwnI w base v l) (hw : ∀ x ∈ l, -9223372036854775808 ≤ x ∧ x ≤ 9223372036854775807) : ∃ b cap, v = .slice b l.length cap ∧ It w b l cap := by
  rcases h.cells with ⟨rfl, h0⟩ | ⟨g, cap, rfl, h1, h2, h3, h4⟩
  · have hl : l = [] := List.eq_nil_of_length_eq_zero h0
    subst hl
    exact ⟨none, 0, rfl, ⟨fun j hj => absurd hj (by simp), fun a ha => by simp at ha, Nat.le_refl _, fun a ha => by simp at ha, fun _ => rfl, hw⟩⟩
  · refine ⟨some ⟨g, 0, none⟩, cap, rfl, ⟨fun j hj => ⟨_, rfl, ?_⟩, fun a ha => by obtain rfl := Option.some.inj ha; rfl, h3, fun a ha => by obtain rfl := Option.some.inj ha; exact h2, fun hb => by simp at hb, hw⟩⟩
    have := h4 j (intV l[j]) (by rw [List.getElem?_map, List.getElem?_eq_getElem hj]; rfl)
    simpa using this

theorem OwnI.fresh {w w' : World} {base : Nat} {v : Value} {l : List Int} (h : OwnI w base v l) {w0 : World} (h0 : Frm (fun _ _ => False) w0 w) (hb : w0.heap.size ≤ base) (hf : Frm (fun b _ => v.ownBlock = some b) w w') : Frm (fun _ _ => False) w0 w' :=
  h0.trans' hf (fun x o hx q => by have := (h.lt x q).1; omega)

end Go.Proofs.YthfncdfcklbigaaDoor

/-
  'spec.Stored', walked.
-/
namespace Go.Proofs.YthfncdfcklbigaaDoor
open Go.RowKit Go.IntWalk Flate
set_option maxRecDepth 100000

theorem u8_not (x : Nat) (hx : x < 256) : bits .xor .u8 IntKind.u8.max (x : Int) = 255 - (x : Int) := by
  have : ∀ k : Fin 256, bits .xor .u8 IntKind.u8.max (k.1 : Int) = 255 - (k.1 : Int) := by decide +kernel
  exact this ⟨x, hx⟩

theorem head_cells (n : Nat) (hn : n ≤ 65535) (last : Bool) :
    ((stHead last n).map byteV).toArray = #[.int .u8 (if last then 1 else 0), .int .u8 ((n : Int) % 256), .int .u8 ((n : Int) / 256), .int .u8 (bits .xor .u8 IntKind.u8.max ((n : Int) % 256)), .int .u8 (bits .xor .u8 IntKind.u8.max ((n : Int) / 256))] := by
  have h1 : bits .xor .u8 IntKind.u8.max ((n : Int) % 256) = 255 - (n : Int) % 256 := by
    have := u8_not (n % 256) (Nat.mod_lt _ (by omega))
    rw [Int.natCast_emod] at this
    exact this
  have h2 : bits .xor .u8 IntKind.u8.max ((n : Int) / 256) = 255 - (n : Int) / 256 := by
    have := u8_not (n / 256) (by omega)
    rw [Int.natCast_ediv] at this
    exact this
  rw [h1, h2]
  have e1 : (UInt8.ofNat n).toNat = n % 256 := by simp
  have e2 : (UInt8.ofNat (n / 256)).toNat = n / 256 := by simp; omega
  have e3 : (~~~ UInt8.ofNat n).toNat = 255 - n % 256 := by
    have := not_byte (n % 256) (Nat.mod_lt _ (by omega))
    rw [show UInt8.ofNat (n % 256) = UInt8.ofNat n from by apply UInt8.toNat_inj.1; simp] at this
    exact this
  have e4 := not_byte (n / 256) (by omega)
  unfold stHead
  simp only [List.map_cons, List.map_nil, byteV, e1, e2, e3, e4]
  cases last
  · simp; omega
  · simp; omega

theorem stored_bw (w : World) (base : Option Addr) (data : List UInt8) (cap : Nat) (hd : data = [] ∨ Bytes w base data) (hnil : base = none → cap = 0) (hl : data.length ≤ 65535) (last : Bool) :
    Calls Tryd.prog 22 #[.slice base data.length cap, .bool last] w fun e w' => ∃ v, e = .returned v ∧ Own w' w.heap.size v (stHead last data.length ++ data) ∧ Frm (fun _ _ => False) w w' := by
  have hc := head_cells data.length hl last
  have hsl : (stHead last data.length).length = 5 := rfl
  have ho := own_new w (stHead last data.length) (by rw [hsl]; simp [maxLen])
  rw [hc, hsl] at ho
  have hf1 := (Frm.refl (fun _ _ => False) w).alloc (.cells #[.int .u8 (if last then 1 else 0), .int .u8 ((data.length : Int) % 256), .int .u8 ((data.length : Int) / 256), .int .u8 (bits .xor .u8 IntKind.u8.max ((data.length : Int) % 256)), .int .u8 (bits .xor .u8 IntKind.u8.max ((data.length : Int) / 256))] 5)
  obtain ⟨v', w2, hrun, hown, hf2, _⟩ := append_bw _ w.heap.size _ _ ho base data cap (hd.imp id fun h => h.keep hf1 (fun a _ j _ e => e)) hnil (by rw [hsl]; omega) hf1.size
  have hf := ho.fresh hf1 (Nat.le_refl _) hf2
  obtain ⟨n, hn⟩ : ∃ n, n = data.length := ⟨_, rfl⟩
  rw [← hn] at hl hrun ⊢
  rw [← hn] at hown
  have c1 : (n : Int) ≤ 65535 := by omega
  have HE := Lib.hid (And.intro hown hf)
  have hr := fun ty => hrun ty
  clear hl hc hsl ho hf1 hrun hown hf2 hf hn hd hnil
  cases last
  all_goals
    go_enter Tryd.func22, Tryd.ntmps22
    go_wp2_with (at_builtin; refine wpList_append_by (by rfl) (.tmp 23) (.tmp 24) 22 (by rfl) _ _ (by rfl) (by rfl) (hr _) ?_)
    go_ret
    exact ⟨_, rfl, HE.out.1, HE.out.2⟩

theorem stored_any (w : World) (base : Option Addr) (data : List UInt8) (cap : Nat) (hd : Bt w base data cap) (hl : data.length ≤ 65535) (last : Bool) :
    Calls Tryd.prog 22 #[.slice base data.length cap, .bool last] w fun e w' => ∃ v, e = .returned v ∧ Own w' w.heap.size v (stHead last data.length ++ data) ∧ Frm (fun _ _ => False) w w' :=
  stored_bw w base data cap (.inr hd.bytes) hd.nilc hl last

end Go.Proofs.YthfncdfcklbigaaDoor

/-
  ROWS OF ROWS OF BYTES: such as came in, and of the program's own; 'zzFits1'.
-/
namespace Go.Proofs.YthfncdfcklbigaaDoor
open Go.RowKit Flate
set_option maxRecDepth 100000

/-- A row of bytes as a value. -/
structure Sl where
  b : Option Addr
  l : List UInt8
  c : Nat

abbrev Sl.val (s : Sl) : Value := .slice s.b s.l.length s.c

structure Sl.ok (w : World) (s : Sl) : Prop where
  bytes : s.l = [] ∨ Bytes w s.b s.l
  nilc : s.b = none → s.c = 0
  cap : s.l.length ≤ s.c

theorem Sl.ok.keep {w w' : World} {s : Sl} (h : s.ok w) (hf : Frm (fun _ _ => False) w w') : s.ok w' := ⟨h.bytes.imp id fun q => q.keep hf (fun a _ j _ e => e), h.nilc, h.cap⟩

/-- Rows that came in. -/
structure Rws (w : World) (base : Option Addr) (rs : List Sl) (cap : Nat) : Prop where
  cells : ∀ j (h : j < rs.length), ∃ a, base = some a ∧ w.cell? ⟨a.block, a.off + j, none⟩ = some rs[j].val
  spot : ∀ a, base = some a → a.spot = none
  ok : ∀ s ∈ rs, s.ok w
  hcap : rs.length ≤ cap
  nilc : base = none → cap = 0

theorem Rws.keep {w w' : World} {base : Option Addr} {rs : List Sl} {cap : Nat} (h : Rws w base rs cap) (hf : Frm (fun _ _ => False) w w') : Rws w' base rs cap :=
  ⟨fun j hj => by obtain ⟨a, h1, h2⟩ := h.cells j hj; exact ⟨a, h1, hf.keep h2 (fun e => e)⟩, h.spot, fun s hs => (h.ok s hs).keep hf, h.hcap, h.nilc⟩

/-- Rows of the program's own. -/
abbrev OwnS (w : World) (base : Nat) (v : Value) (rs : List Sl) : Prop := Row (fun v => ∃ b n c, v = .slice b n c) w base 22 1 v rs.length (rs.map Sl.val)

theorem infoRows : ((Tryd.prog.info? 22).map fun i => (i.zero, i.size, i.bytes)) = some (some (.slice none 0 0), 1, 24) := by kernel_rfl

theorem append_rows (w : World) (base : Nat) (v : Value) (rs : List Sl) (hrow : OwnS w base v rs) (b : Option Addr) (ns : List Sl) (cap : Nat) (hcells : ∀ j (h : j < ns.length), ∃ a, b = some a ∧ w.cell? ⟨a.block, a.off + j, none⟩ = some ns[j].val) (hspot : ∀ a, b = some a → a.spot = none) (hnil : b = none → cap = 0)
    (hle : rs.length + ns.length ≤ 4294967296) (hbase : base ≤ w.heap.size) :
    ∃ v' w', (∀ ty, (Builtin.append_ #[48, 48] ty #[v, .slice b ns.length cap]).run Tryd.prog w = .ok v' w') ∧ OwnS w' base v' (rs ++ ns) ∧ Frm (fun b _ => v.ownBlock = some b) w w' := by
  obtain ⟨i, hi, hiq⟩ := Option.map_eq_some_iff.1 infoRows
  simp only [Prod.mk.injEq] at hiq
  obtain ⟨h1, h2, h3⟩ := hiq
  cases b with
  | none =>
    have hl : ns = [] := by
      cases ns with
      | nil => rfl
      | cons s r => obtain ⟨a, ha, _⟩ := hcells 0 (by simp); simp at ha
    subst hl
    obtain rfl := hnil rfl
    refine ⟨v, w, fun ty => ?_, by rw [List.append_nil]; exact hrow, Frm.refl _ _⟩
    exact run_append_owned_none (P := Tryd.prog) (w := w) base 48 ty 22 i 1 Tryd.underlying48 hi v rs.length _ hrow.own
  | some a =>
    obtain ⟨ab, ao, asp⟩ := a
    have hs := hspot _ rfl
    simp only at hs
    subst hs
    obtain ⟨v', w', hrun, hr, hf, _⟩ := append_row (P := Tryd.prog) (fun v => ∃ b n c, v = .slice b n c) w base 48 22 i _ 1 24 Tryd.underlying48 hi h1 h2 h3 (by rfl) (by intro u hu; simp [Value.cells] at hu; exact ⟨_, _, _, hu⟩) v rs.length _ hrow ⟨ab, ao, none⟩ ns.length cap (ns.map Sl.val) (by simp) (fun j u hu => by
      rw [List.getElem?_map] at hu
      obtain ⟨x, hx, rfl⟩ := Option.map_eq_some_iff.1 hu
      obtain ⟨hj, rfl⟩ := List.getElem?_eq_some_iff.1 hx
      rw [Addr.add_lit]
      obtain ⟨a, ha, hc⟩ := hcells j hj
      obtain rfl := Option.some.inj ha
      exact hc) (fun u hu => by obtain ⟨x, _, rfl⟩ := List.mem_map.1 hu; rfl) (fun u hu => by obtain ⟨x, _, rfl⟩ := List.mem_map.1 hu; exact ⟨_, _, _, rfl⟩) (by simp only [maxLen]; omega) (by omega) hbase
    rw [← List.map_append, ← List.length_append] at hr
    exact ⟨v', w', hrun, hr, hf⟩

theorem ownS_new (w : World) (rs : List Sl) (hm : rs.length ≤ maxLen) : OwnS (w.alloc (.cells (rs.map Sl.val).toArray 22)) w.heap.size (.slice (some ⟨w.heap.size, 0, none⟩) rs.length rs.length) rs := by
  have hh := heap_alloc_new w (.cells (rs.map Sl.val).toArray 22)
  refine ⟨⟨by simp, .inr ⟨w.heap.size, rs.length, _, rfl, Nat.le_refl _, hh, Nat.le_refl _, hm, by simp, ?_⟩⟩, fun g hg o u hu => ?_, fun g hg o => ?_⟩
  · rw [List.take_of_length_le (by simp)]
  · obtain rfl := Option.some.inj hg
    rw [cells_at hh] at hu
    obtain ⟨x, _, rfl⟩ := List.mem_map.1 (List.mem_of_getElem? (by simpa using hu : (rs.map Sl.val)[o]? = some u))
    exact ⟨_, _, _, rfl⟩
  · obtain rfl := Option.some.inj hg
    exact World.frozen?_alloc_new (w := w) ..

theorem OwnS.fresh {w w' : World} {base : Nat} {v : Value} {l : List Sl} (h : OwnS w base v l) {w0 : World} (h0 : Frm (fun _ _ => False) w0 w) (hb : w0.heap.size ≤ base) (hf : Frm (fun b _ => v.ownBlock = some b) w w') : Frm (fun _ _ => False) w0 w' :=
  h0.trans' hf (fun x o hx q => by have := (h.lt x q).1; omega)

/-- Are all of them short enough? -/
def fitsB (rs : List Sl) : Bool := rs.all fun s => decide (s.l.length ≤ 2147483647)

def FzInv (w : World) (rs : List Sl) (n : Nat) (g : Nat) (i : Value) (wr : World) : Prop :=
  ∃ k : Nat, k ≤ n ∧ g = n - k ∧ i = .int .i64 (k : Int) ∧ fitsB (rs.take k) = true ∧ w = wr

theorem zzFits1_any (w : World) (base : Option Addr) (rs : List Sl) (cap : Nat) (hs : Rws w base rs cap) :
    Calls Tryd.prog 31 #[.slice base rs.length cap] w fun e w' => e = .returned (.bool (decide (rs.length ≤ 2147483647) && fitsB rs)) ∧ w = w' := by
  have HS := Lib.hid hs
  clear hs
  obtain ⟨n, hn⟩ : ∃ n, n = rs.length := ⟨_, rfl⟩
  rw [← hn]
  have HN := Lib.hid hn
  clear hn
  go_enter Tryd.func31, Tryd.ntmps31
  by_cases h1 : 2147483647 < n
  · have t1 : decide ((2147483647 : Int) < (n : Int)) = true := by simp; omega
    have e1 : decide (n ≤ 2147483647) = false := by simp; omega
    rw [e1, Bool.false_and]
    clear h1 e1
    go_wp2_with fail
    go_ret
    exact ⟨rfl, rfl⟩
  · have t1 : decide ((2147483647 : Int) < (n : Int)) = false := by simp; omega
    have e1 : decide (n ≤ 2147483647) = true := by simp; omega
    have c1 : (n : Int) ≤ 2147483647 := by omega
    rw [e1, Bool.true_and]
    clear h1 e1
    obtain ⟨fb, hfb⟩ : ∃ fb, fb = fitsB rs := ⟨_, rfl⟩
    rw [← hfb]
    have HFB := Lib.hid hfb
    clear hfb
    go_wp2_with fail
    go_loopg [10] (n - 0) (fun g i wr => FzInv w rs n g i wr)
    case atStart => exact ⟨0, Nat.zero_le _, rfl, rfl, rfl, rfl⟩
    case round =>
      obtain ⟨k, hk, hg, rfl, hf, rfl⟩ := hrel
      have HR := Lib.hid (And.intro hg hf)
      clear hg hf
      by_cases hlt : k < n
      · have hkl : k < rs.length := by have := HN.out; omega
        obtain ⟨a, ha, hcell⟩ := HS.out.cells k hkl
        have hsp := HS.out.spot a ha
        obtain ⟨ab, ao, sp⟩ := a
        simp only at hsp
        subst hsp
        subst ha
        obtain ⟨s, hsx⟩ : ∃ s, s = rs[k] := ⟨_, rfl⟩
        rw [← hsx] at hcell
        obtain ⟨m, hm⟩ : ∃ m, m = s.l.length := ⟨_, rfl⟩
        replace hcell : w.cell? ⟨ab, ao + k, none⟩ = some (.slice s.b m s.c) := by rw [hm]; exact hcell
        have HSX := Lib.hid (And.intro hsx hm)
        clear hsx hm
        by_cases h2 : 2147483647 < m
        · have t2 : decide ((2147483647 : Int) < (m : Int)) = true := by simp; omega
          have H2 := Lib.hid h2
          clear h2
          go_wp2_with fail
          go_ret
          refine ⟨?_, rfl⟩

          have : fb = false := by
            rw [HFB.out]
            cases hq : fitsB rs with
            | false => rfl
            | true =>
              have := List.all_eq_true.1 hq rs[k] (List.getElem_mem hkl)
              have h3 := HSX.out
              simp only [decide_eq_true_eq] at this
              rw [← h3.1, ← h3.2] at this
              have := H2.out; omega
          rw [this]; rfl
        · have t2 : decide ((2147483647 : Int) < (m : Int)) = false := by simp; omega
          have H2 := Lib.hid h2
          clear h2
          go_wp2_with fail
          go_roundg (n - (k + 1))
          case measure => have := HR.out.1; omega
          case rel =>

            refine ⟨k + 1, by omega, rfl, by go_num, ?_, rfl⟩
            rw [List.take_succ_eq_append_getElem hkl]
            unfold fitsB
            rw [List.all_append]
            have h3 := HSX.out
            have h4 : decide (rs[k].l.length ≤ 2147483647) = true := by rw [← h3.1, ← h3.2]; have := H2.out; simp; omega
            simp only [List.all_cons, List.all_nil, Bool.and_true, h4]
            exact HR.out.2
      · obtain rfl : k = n := by omega
        clear hlt
        have hd : decide (k < k) = false := by simp
        go_wp2_with fail
        go_ret
        refine ⟨?_, rfl⟩
        have : fb = true := by rw [HFB.out, ← HR.out.2, HN.out, List.take_length]
        rw [this]; rfl

end Go.Proofs.YthfncdfcklbigaaDoor

/-
  FROM A WALK TO A ROW, AND FROM A ROW TO ITS CARD: what is the same for every law.
-/
namespace Go.Proofs.YthfncdfcklbigaaDoor
open Go.RowKit Go.ChangeShapes Go.WideShapes Go.ChangeAt Flate
set_option maxRecDepth 100000

theorem own : ownKnob Tryd.prog.godebug = none := by kernel_rfl
theorem laidOut : laidOutB Tryd.prog = true := by kernel_rfl

abbrev laidL : List (String × DataW Unit) := [("io.ErrShortBuffer", Rows.laid_io_ErrShortBuffer), ("io.EOF", Rows.laid_io_EOF), ("io.ErrUnexpectedEOF", Rows.laid_io_ErrUnexpectedEOF), ("crowbar/pub/inflate.codeOrder", Rows.laid_crowbar_pub_inflate_codeOrder), ("crowbar/pub/zlibread.ErrChecksum", Rows.laid_crowbar_pub_zlibread_ErrChecksum), ("crowbar/pub/zlibread.ErrDictionary", Rows.laid_crowbar_pub_zlibread_ErrDictionary), ("crowbar/pub/zlibread.ErrHeader", Rows.laid_crowbar_pub_zlibread_ErrHeader)]

/-- The door's own heap meets the condition. -/
theorem door_met (os : Os) (args : Array Value) : laidMetH Tryd.prog laidL ((World.doorLaid Tryd.prog 400 os).forCall (fun _ _ => 0) ⟨#[], args, []⟩).memory :=
  laidMetH_of_parts3 (fuel := 20) (laidMet_of_run' 20 (by kernel_rfl) (by kernel_rfl)) (by kernel_rfl) (by kernel_rfl)

theorem door_shaped (os : Os) (args : Array Value) : ((World.doorLaid Tryd.prog 400 os).forCall (fun _ _ => 0) ⟨#[], args, []⟩).Shaped Tryd.prog :=
  World.shaped_of_RefB (by kernel_rfl) (by kernel_rfl)

section
variable {H : Type} {enc : TypeId × Value → H}

theorem bytes_zs {W : World} {a : Addr} {len cap : Nat} {zs : List Int} (hz : zs.length = cap) (hl : len ≤ cap) (hspot : a.spot = none) (hcell : ∀ i, i < zs.length → W.cell? (a.add i) = some (.int .u8 (zs.getD i 0))) (hw : ∀ n ∈ zs, (Lit.int .u8 n).wf = true) :
    ((zs.take len).map fun n => UInt8.ofNat n.toNat).length = len ∧ Bytes W (some a) ((zs.take len).map fun n => UInt8.ofNat n.toNat) := by
  have hlen : ((zs.take len).map fun n => UInt8.ofNat n.toNat).length = len := by simp; omega
  refine ⟨hlen, hspot, fun j hj => ?_⟩
  rw [hlen] at hj
  have hcj := hcell j (by omega)
  obtain ⟨ab, ao, sp⟩ := a
  simp only at hspot
  subst hspot
  rw [Addr.add_lit] at hcj
  simp only
  rw [hcj]
  have e : zs.getD j 0 = zs[j]'(by omega) := by simp [List.getD, List.getElem?_eq_getElem (show j < zs.length by omega)]
  have hb := range_u8 hw j
  rw [← List.getD_eq_getElem?_getD, e] at hb
  rw [e]
  simp only [List.getElem_map, List.getElem_take]
  congr 2
  simp only [UInt8.toNat_ofNat']
  omega

/-- A slice of bytes that came in. -/
theorem open_bt {W : World} {b0 : Nat} {v : Value} {d : DataW H} {p : List MemPlace} (hval : Value.okWide Tryd.prog W .any b0 22 v) (h : DataW.Trod enc Tryd.prog W 0 (fun _ => true) true 22 v d p) :
    ∃ (b : Option Addr) (l : List UInt8) (cap : Nat), v = .slice b l.length cap ∧ Bt W b l cap ∧ l.length ≤ maxLen := by
  obtain ⟨a1, len, cap, rfl⟩ := okWide_slice Tryd.underlying22 hval
  obtain ⟨fuel, hf⟩ := h
  rcases open_ints Tryd.underlying22 Tryd.underlying5 (by kernel_rfl) hf with ⟨hcs, _⟩ | ⟨a, len', cap', zs, hcs, _, hl, hm, hz, _, hcell, hw⟩
  · simp [Value.cells] at hcs
    obtain ⟨rfl, rfl, rfl⟩ := hcs
    exact ⟨none, [], 0, rfl, bt_nil W, Nat.zero_le _⟩
  · simp [Value.cells] at hcs
    obtain ⟨rfl, rfl, rfl⟩ := hcs
    simp only [if_true] at hz
    have hlen : ((zs.take len).map fun n => UInt8.ofNat n.toNat).length = len := by simp; omega
    simp only [Value.okWide, Tryd.underlying22, Cell.okWide, Cell.ok] at hval
    obtain ⟨_, _, _, hspot, row, cells, hsh, _⟩ := hval
    have hlt : a.block < W.heap.size := by
      unfold World.shape? at hsh
      rcases Nat.lt_or_ge a.block W.heap.size with q | q
      · exact q
      · rw [Array.getElem?_eq_none q] at hsh; simp at hsh
    refine ⟨some a, (zs.take len).map fun n => UInt8.ofNat n.toNat, cap, by rw [hlen], ⟨⟨hspot, fun j hj => ?_⟩, by rw [hlen]; exact hl, fun x hx => by obtain rfl := Option.some.inj hx; exact hlt, fun h => by simp at h⟩, by rw [hlen]; omega⟩
    rw [hlen] at hj
    have hcj := hcell j (by omega)
    obtain ⟨ab, ao, sp⟩ := a
    simp only at hspot
    subst hspot
    rw [Addr.add_lit] at hcj
    simp only
    rw [hcj]
    have e : zs.getD j 0 = zs[j]'(by omega) := by simp [List.getD, List.getElem?_eq_getElem (show j < zs.length by omega)]
    have hb := range_u8 hw j
    rw [← List.getD_eq_getElem?_getD, e] at hb
    rw [e]
    simp only [List.getElem_map, List.getElem_take]
    congr 2
    simp only [UInt8.toNat_ofNat']
    omega

/-- A slice of ints that came in. -/
theorem open_ints64 {W : World} {b0 : Nat} {v : Value} {d : DataW H} {p : List MemPlace} (hval : Value.okWide Tryd.prog W .any b0 27 v) (h : DataW.Trod enc Tryd.prog W 0 (fun _ => true) true 27 v d p) :
    ∃ (b : Option Addr) (l : List Int) (cap : Nat), v = .slice b l.length cap ∧ It W b l cap ∧ l.length ≤ maxLen := by
  obtain ⟨a1, len, cap, rfl⟩ := okWide_slice Tryd.underlying27 hval
  obtain ⟨fuel, hf⟩ := h
  rcases open_ints Tryd.underlying27 Tryd.underlying3 (by kernel_rfl) hf with ⟨hcs, _⟩ | ⟨a, len', cap', zs, hcs, _, hl, hm, hz, _, hcell, hw⟩
  · simp [Value.cells] at hcs
    obtain ⟨rfl, rfl, rfl⟩ := hcs
    exact ⟨none, [], 0, rfl, ⟨fun j hj => absurd hj (by simp), fun a ha => by simp at ha, Nat.le_refl _, fun a ha => by simp at ha, fun _ => rfl, fun x hx => absurd hx (by simp)⟩, Nat.zero_le _⟩
  · simp [Value.cells] at hcs
    obtain ⟨rfl, rfl, rfl⟩ := hcs
    simp only [if_true] at hz
    have hlen : (zs.take len).length = len := by rw [List.length_take]; omega
    simp only [Value.okWide, Tryd.underlying27, Cell.okWide, Cell.ok] at hval
    obtain ⟨_, _, _, hspot, row, cells, hsh, _⟩ := hval
    have hlt : a.block < W.heap.size := by
      unfold World.shape? at hsh
      rcases Nat.lt_or_ge a.block W.heap.size with q | q
      · exact q
      · rw [Array.getElem?_eq_none q] at hsh; simp at hsh
    refine ⟨some a, zs.take len, cap, by rw [hlen], ⟨fun j hj => ⟨a, rfl, ?_⟩, fun x hx => by obtain rfl := Option.some.inj hx; exact hspot, by rw [hlen]; exact hl, fun x hx => by obtain rfl := Option.some.inj hx; exact hlt, fun h => by simp at h, fun x hx => bounds_i64 (hw x (List.mem_of_mem_take hx))⟩, by rw [hlen]; omega⟩
    rw [hlen] at hj
    have hcj := hcell j (by omega)
    obtain ⟨ab, ao, sp⟩ := a
    simp only at hspot
    subst hspot
    rw [Addr.add_lit] at hcj
    simp only
    rw [hcj]
    simp only [List.getElem_take]
    congr 2
    simp [List.getD, List.getElem?_eq_getElem (show j < zs.length by omega)]

/-- A slice of slices of bytes that came in. -/
theorem open_rows {W : World} {b0 : Nat} {v : Value} {d : DataW H} {p : List MemPlace} (hval : Value.okWide Tryd.prog W .any b0 48 v) (h : DataW.Trod enc Tryd.prog W 0 (fun _ => true) true 48 v d p) :
    ∃ (b : Option Addr) (l : List Sl) (cap : Nat), v = .slice b l.length cap ∧ Rws W b l cap ∧ l.length ≤ maxLen := by
  obtain ⟨a1, len, cap, rfl⟩ := okWide_slice Tryd.underlying48 hval
  obtain ⟨fuel, hf⟩ := h
  rcases Deep.open_slice1 Tryd.underlying48 (by kernel_rfl) hf with ⟨hcs, _⟩ | ⟨a, len', cap', m, n, V, D, Pl, hcs, _, hl, hm, hmm, _, hx⟩
  · simp [Value.cells] at hcs
    obtain ⟨rfl, rfl, rfl⟩ := hcs
    exact ⟨none, [], 0, rfl, ⟨fun j hj => absurd hj (by simp), fun a ha => by simp at ha, fun s hs => absurd hs (by simp), Nat.le_refl _, fun _ => rfl⟩, Nat.zero_le _⟩
  · simp [Value.cells] at hcs
    obtain ⟨rfl, rfl, rfl⟩ := hcs
    simp only [if_true] at hmm
    simp only [Value.okWide, Tryd.underlying48, Cell.okWide, Cell.ok] at hval
    obtain ⟨_, _, _, hspot, _⟩ := hval
    have each : ∀ i, i < len → ∃ s : Sl, V i = s.val ∧ s.ok W := fun i hi => by
      obtain ⟨hcell, htr⟩ := hx i (by omega)
      rcases open_ints Tryd.underlying22 Tryd.underlying5 (by kernel_rfl) htr with ⟨hcs, _⟩ | ⟨a', len', cap', zs, hcs, _, hl', hm', hz', _, hcell', hw'⟩
      · have e : V i = .slice none 0 0 := by simpa using hcs
        exact ⟨⟨none, [], 0⟩, e, ⟨.inl rfl, fun _ => rfl, Nat.le_refl _⟩⟩
      · have e : V i = .slice (some a') len' cap' := by simpa using hcs
        simp only [if_true] at hz'
        by_cases h0 : cap' = 0
        · have hl0 : len' = 0 := by omega
          exact ⟨⟨some a', [], cap'⟩, by rw [e, hl0]; rfl, ⟨.inl rfl, fun h => by simp at h, Nat.zero_le _⟩⟩
        · have hsp : a'.spot = none := by
            have := World.cell?_spot (hcell' 0 (by omega))
            simpa [Addr.add] using this
          obtain ⟨q1, q2⟩ := bytes_zs hz' hl' hsp hcell' hw'
          exact ⟨⟨some a', _, cap'⟩, by rw [e]; simp only [Sl.val, q1], ⟨.inr q2, fun h => by simp at h, by simp only [q1]; exact hl'⟩⟩
    obtain ⟨S, hS⟩ := @Deep.choose_lt Sl ⟨⟨none, [], 0⟩⟩ len (fun i s => V i = s.val ∧ s.ok W) each
    have hlen : ((List.range len).map S).length = len := by simp
    refine ⟨some a, (List.range len).map S, cap, by rw [hlen], ⟨fun j hj => ⟨a, rfl, ?_⟩, fun x hx => by obtain rfl := Option.some.inj hx; exact hspot, fun s hs => ?_, by rw [hlen]; exact hl, fun h => by simp at h⟩, by rw [hlen]; omega⟩
    · rw [hlen] at hj
      have hcj := (hx j (by omega)).1
      rw [(hS j hj).1] at hcj
      obtain ⟨ab, ao, sp⟩ := a
      simp only at hspot
      subst hspot
      rw [Addr.add_lit] at hcj
      simpa using hcj
    · obtain ⟨j, hj, rfl⟩ := List.mem_map.1 hs
      exact (hS j (List.mem_range.1 hj)).2

/-- What reads so in a world, reads so behind a walk that only makes blocks. -/
theorem trodAll_keep {P : Program} (hl : laidOutB P = true) {W W' : World} (hf : Frm (fun _ _ => False) W W') {sp : Nat → Bool} :
    ∀ {ts : List TypeId} {vs : List Value} {ds : List (DataW H)} {ps : List MemPlace}, (ts.all fun t => P.readableRec t && decide (t < P.types.size)) = true →
      DataW.TrodAll enc P W 0 (fun _ => true) true ts vs ds ps → (∀ x ∈ ps, x.block < W.heap.size) → (∀ x ∈ ps, sp x.block = true) → DataW.TrodAll enc P W' 0 sp true ts vs ds ps
  | [], _, _, _, _, h, _, _ => by
    obtain ⟨rfl, rfl, rfl⟩ := trodAll_nil h
    exact rfl
  | t :: ts, _, _, _, ht, h, hlt, hs => by
    obtain ⟨v, vs, d, ds, p, q, rfl, rfl, rfl, h1, h2⟩ := trodAll_cons h
    simp only [List.all_cons, Bool.and_eq_true, decide_eq_true_eq] at ht
    refine trodAll_cons_mk (WideElems.Trod_stays hl ht.1.1 ht.1.2 h1 (fun x hx => ?_) (fun x hx => hs x (List.mem_append_left _ hx))) (trodAll_keep hl hf ht.2 h2 (fun x hx => hlt x (List.mem_append_right _ hx)) (fun x hx => hs x (List.mem_append_right _ hx)))
    have hb := hlt x (List.mem_append_left _ hx)
    have hobj := hf.obj x.block hb (fun o => id)
    cases x with
    | cell b o => exact World.cell?_of_block (a := ⟨b, o, none⟩) hobj
    | map b => exact hobj

/-- The row's last step, where new blocks alone were made. -/
theorem post_frm {P : Program} {f : Func} {s : ChangeSpec} {apart fresh handsOn again : Bool} {W W' : World} {args : Array Value} {v : Value} {ds gs : List (DataW H)} {before pa pv : List MemPlace}
    (hW : DataW.Whole enc P f.params.toList s.vars apart W args.toList ds gs before)
    (hres : ∀ (b : Nat) (sp : Nat → Bool) (hd : Bool), DataW.TrodAll enc P W' b sp hd f.resultTypes.toList (v.resultList f.resultTypes.size) (s.fn H (ds ++ gs)).results [])
    (hargs : ∀ sp : Nat → Bool, (∀ p ∈ before, sp p.block = true) → DataW.TrodAll enc P W' 0 sp true f.params.toList args.toList (s.fn H (ds ++ gs)).args pa)
    (hvars : ∀ sp : Nat → Bool, (∀ p ∈ before, sp p.block = true) → DataW.TrodVars enc P W' sp s.vars (s.fn H (ds ++ gs)).vars pv)
    (hps : before = pa ++ pv) (hf : Frm (fun _ _ => False) W W')
    (hok : ∀ (j : Nat) (t : TypeId) (r : Value), f.resultTypes[j]? = some t → (v.resultList f.resultTypes.size)[j]? = some r → Value.okWide P W' .any 0 t r) :
    s.post enc P f apart fresh handsOn again W args v W' := by
  have hb : Below W.heap.size W W' := hf.below (Nat.le_refl _) (fun _ _ e => e.elim)
  have hlt : ∀ p ∈ before, p.block < W.heap.size := fun p hp => hW.lt p hp
  have hold : ∀ p ∈ before, (fun b => decide (b < W.heap.size)) p.block = true := fun p hp => by simpa using hlt p hp
  refine ⟨ds, gs, before, [], pa, pv, hW, hres _ _ _, hargs _ hold, hvars _ hold, World.keptBut_mono (fun p hp => ⟨hp, ?_⟩) (hb.frame (· ∈ before)), fun _ => ?_⟩
  · rw [hps, List.mem_append] at hp
    exact Or.inr hp
  · obtain ⟨_, _, _, _, _, hz, hn⟩ := hW
    refine ⟨hok, _, _, ([] ++ pa) ++ pv, ⟨[] ++ pa, pv, trodAll_append (hargs _ (fun _ _ => rfl)) (hres _ _ _), hvars _ (fun _ _ => rfl), rfl, ?_, ?_⟩, ?_⟩
    · intro b off hp
      have hin : MemPlace.cell b off ∈ before := by rw [hps]; simpa using hp
      rw [hb.frozen (hlt _ hin)]
      exact hz b off hin
    · intro ha
      have := hn ha
      rw [hps] at this
      simpa using this
    · intro p hp _
      rw [hps]
      simpa using hp

theorem law_post {P : Program} (hl : laidOutB P = true) {T : TypeId} (hT : P.underlying T = some .bool) {f : Func} {s : ChangeSpec} {W W' : World} {args : Array Value} {ds gs : List (DataW H)} {before : List MemPlace}
    (hW : DataW.Whole enc P f.params.toList s.vars false W args.toList ds gs before) (hv : s.vars = []) (hp : (f.params.toList.all fun t => P.readableRec t && decide (t < P.types.size)) = true)
    (hr : f.resultTypes = #[T]) (hfn : s.fn H ds = { results := [.lit (.bool true)], args := ds }) (hf : Frm (fun _ _ => False) W W') :
    s.post enc P f false true false false W args (.bool true) W' := by
  have hW' := hW
  obtain ⟨p, q, hA, hV, rfl, hz, hn⟩ := hW
  rw [hv] at hV
  obtain ⟨rfl, rfl⟩ := trodVars_none hV
  have hlt : ∀ x ∈ p, x.block < W.heap.size := fun x hx => hW'.lt x (by simpa using hx)
  have hfn' : s.fn H (ds ++ []) = { results := [.lit (.bool true)], args := ds } := by rw [List.append_nil]; exact hfn
  refine post_frm (pa := p) (pv := []) hW' (fun b sp hd => ?_) (fun sp hs => ?_) (fun sp hs => ?_) rfl hf ?_
  · rw [hr, hfn']; exact trodAll_mk1 (shut_bool hT true)
  · rw [hfn']; exact trodAll_keep hl hf hp hA hlt (fun x hx => hs x (by simpa using hx))
  · rw [hv, hfn']; exact rfl
  · exact ok_one hr rfl (okWide_bool_mk hT _)

end

end Go.Proofs.YthfncdfcklbigaaDoor
