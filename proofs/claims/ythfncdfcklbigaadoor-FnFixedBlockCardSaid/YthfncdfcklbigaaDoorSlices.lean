/-
  ROWS OF ROWS OF BYTES: such as came in, and of the program's own; 'zzFits1'.
-/
import Derived.Test.YthfncdfcklbigaaDoorSto
set_option linter.unusedVariables false
set_option linter.unusedSimpArgs false
namespace Go.Proofs.YthfncdfcklbigaaDoor
open Go.RowKit Flate
set_option maxRecDepth 100000

/-- A row of bytes as a value. -/
structure Sl where
  b : Option Addr
  l : List UInt8
  c : Nat

abbrev Sl.val (s : Sl) : Value := .slice s.b s.l.length s.c

structure Sl.ok (w : World) (s : Sl) : Prop where
  bytes : s.l = [] ∨ Bytes w s.b s.l
  nilc : s.b = none → s.c = 0
  cap : s.l.length ≤ s.c

theorem Sl.ok.keep {w w' : World} {s : Sl} (h : s.ok w) (hf : Frm (fun _ _ => False) w w') : s.ok w' := ⟨h.bytes.imp id fun q => q.keep hf (fun a _ j _ e => e), h.nilc, h.cap⟩

/-- Rows that came in. -/
structure Rws (w : World) (base : Option Addr) (rs : List Sl) (cap : Nat) : Prop where
  cells : ∀ j (h : j < rs.length), ∃ a, base = some a ∧ w.cell? ⟨a.block, a.off + j, none⟩ = some rs[j].val
  spot : ∀ a, base = some a → a.spot = none
  ok : ∀ s ∈ rs, s.ok w
  hcap : rs.length ≤ cap
  nilc : base = none → cap = 0

theorem Rws.keep {w w' : World} {base : Option Addr} {rs : List Sl} {cap : Nat} (h : Rws w base rs cap) (hf : Frm (fun _ _ => False) w w') : Rws w' base rs cap :=
  ⟨fun j hj => by obtain ⟨a, h1, h2⟩ := h.cells j hj; exact ⟨a, h1, hf.keep h2 (fun e => e)⟩, h.spot, fun s hs => (h.ok s hs).keep hf, h.hcap, h.nilc⟩

/-- Rows of the program's own. -/
abbrev OwnS (w : World) (base : Nat) (v : Value) (rs : List Sl) : Prop := Row (fun v => ∃ b n c, v = .slice b n c) w base 22 1 v rs.length (rs.map Sl.val)

theorem infoRows : ((Tryd.prog.info? 22).map fun i => (i.zero, i.size, i.bytes)) = some (some (.slice none 0 0), 1, 24) := by kernel_rfl

theorem append_rows (w : World) (base : Nat) (v : Value) (rs : List Sl) (hrow : OwnS w base v rs) (b : Option Addr) (ns : List Sl) (cap : Nat) (hcells : ∀ j (h : j < ns.length), ∃ a, b = some a ∧ w.cell? ⟨a.block, a.off + j, none⟩ = some ns[j].val) (hspot : ∀ a, b = some a → a.spot = none) (hnil : b = none → cap = 0)
    (hle : rs.length + ns.length ≤ 4294967296) (hbase : base ≤ w.heap.size) :
    ∃ v' w', (∀ ty, (Builtin.append_ #[48, 48] ty #[v, .slice b ns.length cap]).run Tryd.prog w = .ok v' w') ∧ OwnS w' base v' (rs ++ ns) ∧ Frm (fun b _ => v.ownBlock = some b) w w' := by
  obtain ⟨i, hi, hiq⟩ := Option.map_eq_some_iff.1 infoRows
  simp only [Prod.mk.injEq] at hiq
  obtain ⟨h1, h2, h3⟩ := hiq
  cases b with
  | none =>
    have hl : ns = [] := by
      cases ns with
      | nil => rfl
      | cons s r => obtain ⟨a, ha, _⟩ := hcells 0 (by simp); simp at ha
    subst hl
    obtain rfl := hnil rfl
    refine ⟨v, w, fun ty => ?_, by rw [List.append_nil]; exact hrow, Frm.refl _ _⟩
    exact run_append_owned_none (P := Tryd.prog) (w := w) base 48 ty 22 i 1 Tryd.underlying48 hi v rs.length _ hrow.own
  | some a =>
    obtain ⟨ab, ao, asp⟩ := a
    have hs := hspot _ rfl
    simp only at hs
    subst hs
    obtain ⟨v', w', hrun, hr, hf, _⟩ := append_row (P := Tryd.prog) (fun v => ∃ b n c, v = .slice b n c) w base 48 22 i _ 1 24 Tryd.underlying48 hi h1 h2 h3 (by rfl) (by intro u hu; simp [Value.cells] at hu; exact ⟨_, _, _, hu⟩) v rs.length _ hrow ⟨ab, ao, none⟩ ns.length cap (ns.map Sl.val) (by simp) (fun j u hu => by
      rw [List.getElem?_map] at hu
      obtain ⟨x, hx, rfl⟩ := Option.map_eq_some_iff.1 hu
      obtain ⟨hj, rfl⟩ := List.getElem?_eq_some_iff.1 hx
      rw [Addr.add_lit]
      obtain ⟨a, ha, hc⟩ := hcells j hj
      obtain rfl := Option.some.inj ha
      exact hc) (fun u hu => by obtain ⟨x, _, rfl⟩ := List.mem_map.1 hu; rfl) (fun u hu => by obtain ⟨x, _, rfl⟩ := List.mem_map.1 hu; exact ⟨_, _, _, rfl⟩) (by simp only [maxLen]; omega) (by omega) hbase
    rw [← List.map_append, ← List.length_append] at hr
    exact ⟨v', w', hrun, hr, hf⟩

theorem ownS_new (w : World) (rs : List Sl) (hm : rs.length ≤ maxLen) : OwnS (w.alloc (.cells (rs.map Sl.val).toArray 22)) w.heap.size (.slice (some ⟨w.heap.size, 0, none⟩) rs.length rs.length) rs := by
  have hh := heap_alloc_new w (.cells (rs.map Sl.val).toArray 22)
  refine ⟨⟨by simp, .inr ⟨w.heap.size, rs.length, _, rfl, Nat.le_refl _, hh, Nat.le_refl _, hm, by simp, ?_⟩⟩, fun g hg o u hu => ?_, fun g hg o => ?_⟩
  · rw [List.take_of_length_le (by simp)]
  · obtain rfl := Option.some.inj hg
    rw [cells_at hh] at hu
    obtain ⟨x, _, rfl⟩ := List.mem_map.1 (List.mem_of_getElem? (by simpa using hu : (rs.map Sl.val)[o]? = some u))
    exact ⟨_, _, _, rfl⟩
  · obtain rfl := Option.some.inj hg
    exact World.frozen?_alloc_new (w := w) ..

theorem OwnS.fresh {w w' : World} {base : Nat} {v : Value} {l : List Sl} (h : OwnS w base v l) {w0 : World} (h0 : Frm (fun _ _ => False) w0 w) (hb : w0.heap.size ≤ base) (hf : Frm (fun b _ => v.ownBlock = some b) w w') : Frm (fun _ _ => False) w0 w' :=
  h0.trans' hf (fun x o hx q => by have := (h.lt x q).1; omega)

/-- Are all of them short enough? -/
def fitsB (rs : List Sl) : Bool := rs.all fun s => decide (s.l.length ≤ 2147483647)

def FzInv (w : World) (rs : List Sl) (n : Nat) (g : Nat) (i : Value) (wr : World) : Prop :=
  ∃ k : Nat, k ≤ n ∧ g = n - k ∧ i = .int .i64 (k : Int) ∧ fitsB (rs.take k) = true ∧ w = wr

theorem zzFits1_any (w : World) (base : Option Addr) (rs : List Sl) (cap : Nat) (hs : Rws w base rs cap) :
    Calls Tryd.prog 31 #[.slice base rs.length cap] w fun e w' => e = .returned (.bool (decide (rs.length ≤ 2147483647) && fitsB rs)) ∧ w = w' := by
  have HS := Lib.hid hs
  clear hs
  obtain ⟨n, hn⟩ : ∃ n, n = rs.length := ⟨_, rfl⟩
  rw [← hn]
  have HN := Lib.hid hn
  clear hn
  go_enter Tryd.func31, Tryd.ntmps31
  by_cases h1 : 2147483647 < n
  · have t1 : decide ((2147483647 : Int) < (n : Int)) = true := by simp; omega
    have e1 : decide (n ≤ 2147483647) = false := by simp; omega
    rw [e1, Bool.false_and]
    clear h1 e1
    go_wp2_with fail
    go_ret
    exact ⟨rfl, rfl⟩
  · have t1 : decide ((2147483647 : Int) < (n : Int)) = false := by simp; omega
    have e1 : decide (n ≤ 2147483647) = true := by simp; omega
    have c1 : (n : Int) ≤ 2147483647 := by omega
    rw [e1, Bool.true_and]
    clear h1 e1
    obtain ⟨fb, hfb⟩ : ∃ fb, fb = fitsB rs := ⟨_, rfl⟩
    rw [← hfb]
    have HFB := Lib.hid hfb
    clear hfb
    go_wp2_with fail
    go_loopg [10] (n - 0) (fun g i wr => FzInv w rs n g i wr)
    case atStart => exact ⟨0, Nat.zero_le _, rfl, rfl, rfl, rfl⟩
    case round =>
      obtain ⟨k, hk, hg, rfl, hf, rfl⟩ := hrel
      have HR := Lib.hid (And.intro hg hf)
      clear hg hf
      by_cases hlt : k < n
      · have hkl : k < rs.length := by have := HN.out; omega
        obtain ⟨a, ha, hcell⟩ := HS.out.cells k hkl
        have hsp := HS.out.spot a ha
        obtain ⟨ab, ao, sp⟩ := a
        simp only at hsp
        subst hsp
        subst ha
        obtain ⟨s, hsx⟩ : ∃ s, s = rs[k] := ⟨_, rfl⟩
        rw [← hsx] at hcell
        obtain ⟨m, hm⟩ : ∃ m, m = s.l.length := ⟨_, rfl⟩
        replace hcell : w.cell? ⟨ab, ao + k, none⟩ = some (.slice s.b m s.c) := by rw [hm]; exact hcell
        have HSX := Lib.hid (And.intro hsx hm)
        clear hsx hm
        by_cases h2 : 2147483647 < m
        · have t2 : decide ((2147483647 : Int) < (m : Int)) = true := by simp; omega
          have H2 := Lib.hid h2
          clear h2
          go_wp2_with fail
          go_ret
          refine ⟨?_, rfl⟩

          have : fb = false := by
            rw [HFB.out]
            cases hq : fitsB rs with
            | false => rfl
            | true =>
              have := List.all_eq_true.1 hq rs[k] (List.getElem_mem hkl)
              have h3 := HSX.out
              simp only [decide_eq_true_eq] at this
              rw [← h3.1, ← h3.2] at this
              have := H2.out; omega
          rw [this]; rfl
        · have t2 : decide ((2147483647 : Int) < (m : Int)) = false := by simp; omega
          have H2 := Lib.hid h2
          clear h2
          go_wp2_with fail
          go_roundg (n - (k + 1))
          case measure => have := HR.out.1; omega
          case rel =>

            refine ⟨k + 1, by omega, rfl, by go_num, ?_, rfl⟩
            rw [List.take_succ_eq_append_getElem hkl]
            unfold fitsB
            rw [List.all_append]
            have h3 := HSX.out
            have h4 : decide (rs[k].l.length ≤ 2147483647) = true := by rw [← h3.1, ← h3.2]; have := H2.out; simp; omega
            simp only [List.all_cons, List.all_nil, Bool.and_true, h4]
            exact HR.out.2
      · obtain rfl : k = n := by omega
        clear hlt
        have hd : decide (k < k) = false := by simp
        go_wp2_with fail
        go_ret
        refine ⟨?_, rfl⟩
        have : fb = true := by rw [HFB.out, ← HR.out.2, HN.out, List.take_length]
        rw [this]; rfl

end Go.Proofs.YthfncdfcklbigaaDoor
