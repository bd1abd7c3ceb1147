/-
  FROM A WALK TO A ROW, AND FROM A ROW TO ITS CARD: what is the same for every law.
-/
import Derived.Test.YthfncdfcklbigaaDoorEnv
import Derived.Test.YthfncdfcklbigaaDoorOwn
import Derived.Test.YthfncdfcklbigaaDoorInts
import Derived.Test.YthfncdfcklbigaaDoorSlices
import Derived.Test.YthfncdfcklbigaaDoorTie
import Derived.Test.YthfncdfcklbigaaDoorCards
import Derived.ChangeSame
import Derived.ChangeSlices
import Derived.Deep.Slices
import Derived.WideKeyArgs
import Derived.ProofKit
import Derived.LaidMore
import Derived.OpenShut
import Derived.Stop.Joined
import Derived.SevenTiedAt
set_option linter.unusedVariables false
set_option linter.unusedSimpArgs false
namespace Go.Proofs.YthfncdfcklbigaaDoor
open Go.RowKit Go.ChangeShapes Go.WideShapes Go.ChangeAt Flate
set_option maxRecDepth 100000

theorem own : ownKnob Tryd.prog.godebug = none := by kernel_rfl
theorem laidOut : laidOutB Tryd.prog = true := by kernel_rfl

abbrev laidL : List (String × DataW Unit) := [("io.ErrShortBuffer", Rows.laid_io_ErrShortBuffer), ("io.EOF", Rows.laid_io_EOF), ("io.ErrUnexpectedEOF", Rows.laid_io_ErrUnexpectedEOF), ("crowbar/pub/inflate.codeOrder", Rows.laid_crowbar_pub_inflate_codeOrder), ("crowbar/pub/zlibread.ErrChecksum", Rows.laid_crowbar_pub_zlibread_ErrChecksum), ("crowbar/pub/zlibread.ErrDictionary", Rows.laid_crowbar_pub_zlibread_ErrDictionary), ("crowbar/pub/zlibread.ErrHeader", Rows.laid_crowbar_pub_zlibread_ErrHeader)]

/-- The door's own heap meets the condition. -/
theorem door_met (os : Os) (args : Array Value) : laidMetH Tryd.prog laidL ((World.doorLaid Tryd.prog 400 os).forCall (fun _ _ => 0) ⟨#[], args, []⟩).memory :=
  laidMetH_of_parts3 (fuel := 20) (laidMet_of_run' 20 (by kernel_rfl) (by kernel_rfl)) (by kernel_rfl) (by kernel_rfl)

theorem door_shaped (os : Os) (args : Array Value) : ((World.doorLaid Tryd.prog 400 os).forCall (fun _ _ => 0) ⟨#[], args, []⟩).Shaped Tryd.prog :=
  World.shaped_of_RefB (by kernel_rfl) (by kernel_rfl)

section
variable {H : Type} {enc : TypeId × Value → H}

theorem bytes_zs {W : World} {a : Addr} {len cap : Nat} {zs : List Int} (hz : zs.length = cap) (hl : len ≤ cap) (hspot : a.spot = none) (hcell : ∀ i, i < zs.length → W.cell? (a.add i) = some (.int .u8 (zs.getD i 0))) (hw : ∀ n ∈ zs, (Lit.int .u8 n).wf = true) :
    ((zs.take len).map fun n => UInt8.ofNat n.toNat).length = len ∧ Bytes W (some a) ((zs.take len).map fun n => UInt8.ofNat n.toNat) := by
  have hlen : ((zs.take len).map fun n => UInt8.ofNat n.toNat).length = len := by simp; omega
  refine ⟨hlen, hspot, fun j hj => ?_⟩
  rw [hlen] at hj
  have hcj := hcell j (by omega)
  obtain ⟨ab, ao, sp⟩ := a
  simp only at hspot
  subst hspot
  rw [Addr.add_lit] at hcj
  simp only
  rw [hcj]
  have e : zs.getD j 0 = zs[j]'(by omega) := by simp [List.getD, List.getElem?_eq_getElem (show j < zs.length by omega)]
  have hb := range_u8 hw j
  rw [← List.getD_eq_getElem?_getD, e] at hb
  rw [e]
  simp only [List.getElem_map, List.getElem_take]
  congr 2
  simp only [UInt8.toNat_ofNat']
  omega

/-- A slice of bytes that came in. -/
theorem open_bt {W : World} {b0 : Nat} {v : Value} {d : DataW H} {p : List MemPlace} (hval : Value.okWide Tryd.prog W .any b0 22 v) (h : DataW.Trod enc Tryd.prog W 0 (fun _ => true) true 22 v d p) :
    ∃ (b : Option Addr) (l : List UInt8) (cap : Nat), v = .slice b l.length cap ∧ Bt W b l cap ∧ l.length ≤ maxLen := by
  obtain ⟨a1, len, cap, rfl⟩ := okWide_slice Tryd.underlying22 hval
  obtain ⟨fuel, hf⟩ := h
  rcases open_ints Tryd.underlying22 Tryd.underlying5 (by kernel_rfl) hf with ⟨hcs, _⟩ | ⟨a, len', cap', zs, hcs, _, hl, hm, hz, _, hcell, hw⟩
  · simp [Value.cells] at hcs
    obtain ⟨rfl, rfl, rfl⟩ := hcs
    exact ⟨none, [], 0, rfl, bt_nil W, Nat.zero_le _⟩
  · simp [Value.cells] at hcs
    obtain ⟨rfl, rfl, rfl⟩ := hcs
    simp only [if_true] at hz
    have hlen : ((zs.take len).map fun n => UInt8.ofNat n.toNat).length = len := by simp; omega
    simp only [Value.okWide, Tryd.underlying22, Cell.okWide, Cell.ok] at hval
    obtain ⟨_, _, _, hspot, row, cells, hsh, _⟩ := hval
    have hlt : a.block < W.heap.size := by
      unfold World.shape? at hsh
      rcases Nat.lt_or_ge a.block W.heap.size with q | q
      · exact q
      · rw [Array.getElem?_eq_none q] at hsh; simp at hsh
    refine ⟨some a, (zs.take len).map fun n => UInt8.ofNat n.toNat, cap, by rw [hlen], ⟨⟨hspot, fun j hj => ?_⟩, by rw [hlen]; exact hl, fun x hx => by obtain rfl := Option.some.inj hx; exact hlt, fun h => by simp at h⟩, by rw [hlen]; omega⟩
    rw [hlen] at hj
    have hcj := hcell j (by omega)
    obtain ⟨ab, ao, sp⟩ := a
    simp only at hspot
    subst hspot
    rw [Addr.add_lit] at hcj
    simp only
    rw [hcj]
    have e : zs.getD j 0 = zs[j]'(by omega) := by simp [List.getD, List.getElem?_eq_getElem (show j < zs.length by omega)]
    have hb := range_u8 hw j
    rw [← List.getD_eq_getElem?_getD, e] at hb
    rw [e]
    simp only [List.getElem_map, List.getElem_take]
    congr 2
    simp only [UInt8.toNat_ofNat']
    omega

/-- A slice of ints that came in. -/
theorem open_ints64 {W : World} {b0 : Nat} {v : Value} {d : DataW H} {p : List MemPlace} (hval : Value.okWide Tryd.prog W .any b0 27 v) (h : DataW.Trod enc Tryd.prog W 0 (fun _ => true) true 27 v d p) :
    ∃ (b : Option Addr) (l : List Int) (cap : Nat), v = .slice b l.length cap ∧ It W b l cap ∧ l.length ≤ maxLen := by
  obtain ⟨a1, len, cap, rfl⟩ := okWide_slice Tryd.underlying27 hval
  obtain ⟨fuel, hf⟩ := h
  rcases open_ints Tryd.underlying27 Tryd.underlying3 (by kernel_rfl) hf with ⟨hcs, _⟩ | ⟨a, len', cap', zs, hcs, _, hl, hm, hz, _, hcell, hw⟩
  · simp [Value.cells] at hcs
    obtain ⟨rfl, rfl, rfl⟩ := hcs
    exact ⟨none, [], 0, rfl, ⟨fun j hj => absurd hj (by simp), fun a ha => by simp at ha, Nat.le_refl _, fun a ha => by simp at ha, fun _ => rfl, fun x hx => absurd hx (by simp)⟩, Nat.zero_le _⟩
  · simp [Value.cells] at hcs
    obtain ⟨rfl, rfl, rfl⟩ := hcs
    simp only [if_true] at hz
    have hlen : (zs.take len).length = len := by rw [List.length_take]; omega
    simp only [Value.okWide, Tryd.underlying27, Cell.okWide, Cell.ok] at hval
    obtain ⟨_, _, _, hspot, row, cells, hsh, _⟩ := hval
    have hlt : a.block < W.heap.size := by
      unfold World.shape? at hsh
      rcases Nat.lt_or_ge a.block W.heap.size with q | q
      · exact q
      · rw [Array.getElem?_eq_none q] at hsh; simp at hsh
    refine ⟨some a, zs.take len, cap, by rw [hlen], ⟨fun j hj => ⟨a, rfl, ?_⟩, fun x hx => by obtain rfl := Option.some.inj hx; exact hspot, by rw [hlen]; exact hl, fun x hx => by obtain rfl := Option.some.inj hx; exact hlt, fun h => by simp at h, fun x hx => bounds_i64 (hw x (List.mem_of_mem_take hx))⟩, by rw [hlen]; omega⟩
    rw [hlen] at hj
    have hcj := hcell j (by omega)
    obtain ⟨ab, ao, sp⟩ := a
    simp only at hspot
    subst hspot
    rw [Addr.add_lit] at hcj
    simp only
    rw [hcj]
    simp only [List.getElem_take]
    congr 2
    simp [List.getD, List.getElem?_eq_getElem (show j < zs.length by omega)]

/-- A slice of slices of bytes that came in. -/
theorem open_rows {W : World} {b0 : Nat} {v : Value} {d : DataW H} {p : List MemPlace} (hval : Value.okWide Tryd.prog W .any b0 48 v) (h : DataW.Trod enc Tryd.prog W 0 (fun _ => true) true 48 v d p) :
    ∃ (b : Option Addr) (l : List Sl) (cap : Nat), v = .slice b l.length cap ∧ Rws W b l cap ∧ l.length ≤ maxLen := by
  obtain ⟨a1, len, cap, rfl⟩ := okWide_slice Tryd.underlying48 hval
  obtain ⟨fuel, hf⟩ := h
  rcases Deep.open_slice1 Tryd.underlying48 (by kernel_rfl) hf with ⟨hcs, _⟩ | ⟨a, len', cap', m, n, V, D, Pl, hcs, _, hl, hm, hmm, _, hx⟩
  · simp [Value.cells] at hcs
    obtain ⟨rfl, rfl, rfl⟩ := hcs
    exact ⟨none, [], 0, rfl, ⟨fun j hj => absurd hj (by simp), fun a ha => by simp at ha, fun s hs => absurd hs (by simp), Nat.le_refl _, fun _ => rfl⟩, Nat.zero_le _⟩
  · simp [Value.cells] at hcs
    obtain ⟨rfl, rfl, rfl⟩ := hcs
    simp only [if_true] at hmm
    simp only [Value.okWide, Tryd.underlying48, Cell.okWide, Cell.ok] at hval
    obtain ⟨_, _, _, hspot, _⟩ := hval
    have each : ∀ i, i < len → ∃ s : Sl, V i = s.val ∧ s.ok W := fun i hi => by
      obtain ⟨hcell, htr⟩ := hx i (by omega)
      rcases open_ints Tryd.underlying22 Tryd.underlying5 (by kernel_rfl) htr with ⟨hcs, _⟩ | ⟨a', len', cap', zs, hcs, _, hl', hm', hz', _, hcell', hw'⟩
      · have e : V i = .slice none 0 0 := by simpa using hcs
        exact ⟨⟨none, [], 0⟩, e, ⟨.inl rfl, fun _ => rfl, Nat.le_refl _⟩⟩
      · have e : V i = .slice (some a') len' cap' := by simpa using hcs
        simp only [if_true] at hz'
        by_cases h0 : cap' = 0
        · have hl0 : len' = 0 := by omega
          exact ⟨⟨some a', [], cap'⟩, by rw [e, hl0]; rfl, ⟨.inl rfl, fun h => by simp at h, Nat.zero_le _⟩⟩
        · have hsp : a'.spot = none := by
            have := World.cell?_spot (hcell' 0 (by omega))
            simpa [Addr.add] using this
          obtain ⟨q1, q2⟩ := bytes_zs hz' hl' hsp hcell' hw'
          exact ⟨⟨some a', _, cap'⟩, by rw [e]; simp only [Sl.val, q1], ⟨.inr q2, fun h => by simp at h, by simp only [q1]; exact hl'⟩⟩
    obtain ⟨S, hS⟩ := @Deep.choose_lt Sl ⟨⟨none, [], 0⟩⟩ len (fun i s => V i = s.val ∧ s.ok W) each
    have hlen : ((List.range len).map S).length = len := by simp
    refine ⟨some a, (List.range len).map S, cap, by rw [hlen], ⟨fun j hj => ⟨a, rfl, ?_⟩, fun x hx => by obtain rfl := Option.some.inj hx; exact hspot, fun s hs => ?_, by rw [hlen]; exact hl, fun h => by simp at h⟩, by rw [hlen]; omega⟩
    · rw [hlen] at hj
      have hcj := (hx j (by omega)).1
      rw [(hS j hj).1] at hcj
      obtain ⟨ab, ao, sp⟩ := a
      simp only at hspot
      subst hspot
      rw [Addr.add_lit] at hcj
      simpa using hcj
    · obtain ⟨j, hj, rfl⟩ := List.mem_map.1 hs
      exact (hS j (List.mem_range.1 hj)).2

/-- What reads so in a world, reads so behind a walk that only makes blocks. -/
theorem trodAll_keep {P : Program} (hl : laidOutB P = true) {W W' : World} (hf : Frm (fun _ _ => False) W W') {sp : Nat → Bool} :
    ∀ {ts : List TypeId} {vs : List Value} {ds : List (DataW H)} {ps : List MemPlace}, (ts.all fun t => P.readableRec t && decide (t < P.types.size)) = true →
      DataW.TrodAll enc P W 0 (fun _ => true) true ts vs ds ps → (∀ x ∈ ps, x.block < W.heap.size) → (∀ x ∈ ps, sp x.block = true) → DataW.TrodAll enc P W' 0 sp true ts vs ds ps
  | [], _, _, _, _, h, _, _ => by
    obtain ⟨rfl, rfl, rfl⟩ := trodAll_nil h
    exact rfl
  | t :: ts, _, _, _, ht, h, hlt, hs => by
    obtain ⟨v, vs, d, ds, p, q, rfl, rfl, rfl, h1, h2⟩ := trodAll_cons h
    simp only [List.all_cons, Bool.and_eq_true, decide_eq_true_eq] at ht
    refine trodAll_cons_mk (WideElems.Trod_stays hl ht.1.1 ht.1.2 h1 (fun x hx => ?_) (fun x hx => hs x (List.mem_append_left _ hx))) (trodAll_keep hl hf ht.2 h2 (fun x hx => hlt x (List.mem_append_right _ hx)) (fun x hx => hs x (List.mem_append_right _ hx)))
    have hb := hlt x (List.mem_append_left _ hx)
    have hobj := hf.obj x.block hb (fun o => id)
    cases x with
    | cell b o => exact World.cell?_of_block (a := ⟨b, o, none⟩) hobj
    | map b => exact hobj

/-- The row's last step, where new blocks alone were made. -/
theorem post_frm {P : Program} {f : Func} {s : ChangeSpec} {apart fresh handsOn again : Bool} {W W' : World} {args : Array Value} {v : Value} {ds gs : List (DataW H)} {before pa pv : List MemPlace}
    (hW : DataW.Whole enc P f.params.toList s.vars apart W args.toList ds gs before)
    (hres : ∀ (b : Nat) (sp : Nat → Bool) (hd : Bool), DataW.TrodAll enc P W' b sp hd f.resultTypes.toList (v.resultList f.resultTypes.size) (s.fn H (ds ++ gs)).results [])
    (hargs : ∀ sp : Nat → Bool, (∀ p ∈ before, sp p.block = true) → DataW.TrodAll enc P W' 0 sp true f.params.toList args.toList (s.fn H (ds ++ gs)).args pa)
    (hvars : ∀ sp : Nat → Bool, (∀ p ∈ before, sp p.block = true) → DataW.TrodVars enc P W' sp s.vars (s.fn H (ds ++ gs)).vars pv)
    (hps : before = pa ++ pv) (hf : Frm (fun _ _ => False) W W')
    (hok : ∀ (j : Nat) (t : TypeId) (r : Value), f.resultTypes[j]? = some t → (v.resultList f.resultTypes.size)[j]? = some r → Value.okWide P W' .any 0 t r) :
    s.post enc P f apart fresh handsOn again W args v W' := by
  have hb : Below W.heap.size W W' := hf.below (Nat.le_refl _) (fun _ _ e => e.elim)
  have hlt : ∀ p ∈ before, p.block < W.heap.size := fun p hp => hW.lt p hp
  have hold : ∀ p ∈ before, (fun b => decide (b < W.heap.size)) p.block = true := fun p hp => by simpa using hlt p hp
  refine ⟨ds, gs, before, [], pa, pv, hW, hres _ _ _, hargs _ hold, hvars _ hold, World.keptBut_mono (fun p hp => ⟨hp, ?_⟩) (hb.frame (· ∈ before)), fun _ => ?_⟩
  · rw [hps, List.mem_append] at hp
    exact Or.inr hp
  · obtain ⟨_, _, _, _, _, hz, hn⟩ := hW
    refine ⟨hok, _, _, ([] ++ pa) ++ pv, ⟨[] ++ pa, pv, trodAll_append (hargs _ (fun _ _ => rfl)) (hres _ _ _), hvars _ (fun _ _ => rfl), rfl, ?_, ?_⟩, ?_⟩
    · intro b off hp
      have hin : MemPlace.cell b off ∈ before := by rw [hps]; simpa using hp
      rw [hb.frozen (hlt _ hin)]
      exact hz b off hin
    · intro ha
      have := hn ha
      rw [hps] at this
      simpa using this
    · intro p hp _
      rw [hps]
      simpa using hp

theorem law_post {P : Program} (hl : laidOutB P = true) {T : TypeId} (hT : P.underlying T = some .bool) {f : Func} {s : ChangeSpec} {W W' : World} {args : Array Value} {ds gs : List (DataW H)} {before : List MemPlace}
    (hW : DataW.Whole enc P f.params.toList s.vars false W args.toList ds gs before) (hv : s.vars = []) (hp : (f.params.toList.all fun t => P.readableRec t && decide (t < P.types.size)) = true)
    (hr : f.resultTypes = #[T]) (hfn : s.fn H ds = { results := [.lit (.bool true)], args := ds }) (hf : Frm (fun _ _ => False) W W') :
    s.post enc P f false true false false W args (.bool true) W' := by
  have hW' := hW
  obtain ⟨p, q, hA, hV, rfl, hz, hn⟩ := hW
  rw [hv] at hV
  obtain ⟨rfl, rfl⟩ := trodVars_none hV
  have hlt : ∀ x ∈ p, x.block < W.heap.size := fun x hx => hW'.lt x (by simpa using hx)
  have hfn' : s.fn H (ds ++ []) = { results := [.lit (.bool true)], args := ds } := by rw [List.append_nil]; exact hfn
  refine post_frm (pa := p) (pv := []) hW' (fun b sp hd => ?_) (fun sp hs => ?_) (fun sp hs => ?_) rfl hf ?_
  · rw [hr, hfn']; exact trodAll_mk1 (shut_bool hT true)
  · rw [hfn']; exact trodAll_keep hl hf hp hA hlt (fun x hx => hs x (by simpa using hx))
  · rw [hv, hfn']; exact rfl
  · exact ok_one hr rfl (okWide_bool_mk hT _)

end

end Go.Proofs.YthfncdfcklbigaaDoor
