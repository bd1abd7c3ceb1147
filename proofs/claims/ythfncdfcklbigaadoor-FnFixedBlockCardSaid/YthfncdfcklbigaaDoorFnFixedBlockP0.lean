/-
  Several texts in one: what the writer and the reader of bits do.
-/
import Derived.Test.YthfncdfcklbigaaDoorWa
import Derived.Test.YthfncdfcklbigaaDoorLaw
import Derived.Test.YthfncdfcklbigaaDoorCardKit
set_option linter.unusedVariables false
set_option linter.unusedSimpArgs false

/-
  ROWS OF TOKENS of the program's own; the plain laws of their sums.
-/
namespace Flate

theorem toksOk_snoc {n : Nat} {l : List Tk} {t : Tk} : toksOk n (l ++ [t]) ↔ toksOk n l ∧ t.ok (n + toksSize l) := by
  induction l generalizing n with
  | nil => simp [toksOk, toksSize]
  | cons a l ih =>
    simp only [List.cons_append, toksOk, ih]
    have : n + toksSize (a :: l) = n + a.size + toksSize l := by simp [toksSize]; omega
    rw [this, and_assoc]

theorem toksSize_snoc (l : List Tk) (t : Tk) : toksSize (l ++ [t]) = toksSize l + t.size := by simp [toksSize]

theorem toksRun_snoc (H : List UInt8) (l : List Tk) (t : Tk) : toksRun H (l ++ [t]) = t.run (toksRun H l) := by simp [toksRun]

theorem toksOk_far {l : List Tk} : ∀ {n m : Nat}, toksOk n l → 32768 ≤ m → toksOk m l := by
  induction l with
  | nil => intro _ _ _ _; exact trivial
  | cons t l ih =>
    intro n m h hm
    refine ⟨?_, ih h.2 (by omega)⟩
    cases t with
    | lit c => exact trivial
    | cpy f k => obtain ⟨a, b, c, d⟩ := h.1; exact ⟨a, by omega, c, d⟩

theorem toksOk_last {l : List Tk} {dict : List UInt8} (h : toksOk dict.length l) : toksOk (lastOf dict).length l := by
  by_cases hd : dict.length ≤ 32768
  · have : lastOf dict = dict := by unfold lastOf; rw [show dict.length - 32768 = 0 by omega, List.drop_zero]
    rw [this]; exact h
  · exact toksOk_far h (by unfold lastOf; rw [List.length_drop]; omega)

theorem toksRun_far (Z : List UInt8) : ∀ {l : List Tk} {H : List UInt8}, toksOk H.length l → toksRun (Z ++ H) l = Z ++ toksRun H l
  | [], _, _ => rfl
  | t :: l, H, h => by
    have e : t.run (Z ++ H) = Z ++ t.run H := by
      cases t with
      | lit c => simp [Tk.run]
      | cpy f m =>
        obtain ⟨a, b, _⟩ := h.1
        show lz (Z ++ H) f m = Z ++ lz H f m
        unfold lz
        rw [lzBytes_far Z H f m a b, List.append_assoc]
    show toksRun (t.run (Z ++ H)) l = Z ++ toksRun (t.run H) l
    rw [e]
    exact toksRun_far Z (by rw [Tk.run_len]; exact h.2)

/-- What tokens stand for behind the last bytes of a dictionary, and behind all of it. -/
theorem toksRun_last {l : List Tk} {dict X : List UInt8} (h : toksOk dict.length l) (hX : toksRun dict l = dict ++ X) : toksRun (lastOf dict) l = lastOf dict ++ X := by
  have h1 := toksRun_far (dict.take (dict.length - 32768)) (toksOk_last h)
  rw [lastOf_all, hX] at h1
  have h2 : dict ++ X = dict.take (dict.length - 32768) ++ (lastOf dict ++ X) := by rw [← List.append_assoc, lastOf_all]
  rw [h2] at h1
  exact (List.append_cancel_left h1).symm

theorem lz_succ (H : List UInt8) (f m : Nat) (hf : 1 ≤ f) (hH : f ≤ H.length) : lz H f (m + 1) = lz H f m ++ [(lz H f m).getD (H.length + m - f) 0] := by
  rw [← lz_add H f m 1 hf hH]
  have : lz (lz H f m) f 1 = lz H f m ++ [(lz H f m).getD ((lz H f m).length - f + 0 % f) 0] := rfl
  rw [this, lz_length, Nat.zero_mod, Nat.add_zero]

theorem toksSize_le {l : List Tk} {n : Nat} (h : toksOk n l) : toksSize l ≤ 258 * l.length := by
  induction l generalizing n with
  | nil => simp [toksSize]
  | cons t l ih =>
    have h1 := ih h.2
    have h2 : t.size ≤ 258 := by
      cases t with
      | lit c => simp [Tk.size]
      | cpy f m => exact h.1.2.2.2.2
    unfold toksSize at h1 ⊢
    rw [List.map_cons, List.sum_cons, List.length_cons]; omega

end Flate
namespace Go.Proofs.YthfncdfcklbigaaDoor
open Go.RowKit Go.IntWalk Flate
set_option maxRecDepth 100000

/-- A token's cells. -/
abbrev tokV (t : Tk) : List Value := [natV (tokC0 t), natV (tokC1 t), natV (tokC2 t)]

/-- A row of tokens, of the type e. -/
abbrev OwnT (e : TypeId) (w : World) (base : Nat) (v : Value) (l : List Tk) : Prop := Row KI w base e 3 v l.length (l.flatMap tokV)

theorem flat3 (l : List Tk) (j i : Nat) (hj : j < l.length) (hi : i < 3) : (l.flatMap tokV)[j * 3 + i]? = (tokV l[j])[i]? := by
  induction l generalizing j with
  | nil => simp at hj
  | cons t l ih =>
    rw [List.flatMap_cons]
    cases j with
    | zero => rw [List.getElem?_append_left (by simp; omega)]; simp
    | succ j =>
      rw [List.getElem?_append_right (by simp; omega)]
      have := ih j (by simpa using hj)
      simp only [List.length_cons, List.length_nil, List.getElem_cons_succ]
      rw [show (j + 1) * 3 + i - (0 + 1 + 1 + 1) = j * 3 + i by omega]
      exact this

theorem OwnT.tks {e : TypeId} {w : World} {base : Nat} {v : Value} {l : List Tk} (h : OwnT e w base v l) : ∃ b cap, v = .slice b l.length cap ∧ l.length ≤ cap ∧ Tks w b l ∧ (∀ a, b = some a → base ≤ a.block ∧ a.block < w.heap.size) := by
  rcases h.cells with ⟨q, q0⟩ | ⟨g, cap, q1, q2, q3, q4, q5⟩
  · have hl : l = [] := List.eq_nil_of_length_eq_zero q0
    subst hl
    exact ⟨none, 0, q, Nat.le_refl _, ⟨fun j hj => absurd hj (by simp)⟩, fun a ha => by simp at ha⟩
  · refine ⟨_, cap, q1, q4, ⟨fun j hj => ⟨g, rfl, ?_, ?_, ?_⟩⟩, fun a ha => by obtain rfl := Option.some.inj ha; exact ⟨q2, q3⟩⟩
    · have := q5 (j * 3 + 0) _ ((flat3 l j 0 hj (by omega)).trans rfl)
      exact this
    · exact q5 (j * 3 + 1) _ ((flat3 l j 1 hj (by omega)).trans rfl)
    · exact q5 (j * 3 + 2) _ ((flat3 l j 2 hj (by omega)).trans rfl)

theorem infoToken : ((Tryd.prog.info? 89).map fun i => (i.zero, i.size, i.bytes)) = some (some (.agg #[.int .i64 0, .int .i64 0, .int .i64 0]), 3, 24) := by kernel_rfl
theorem infoTokenX : ((Tryd.prog.info? 87).map fun i => (i.zero, i.size, i.bytes)) = some (some (.agg #[.int .i64 0, .int .i64 0, .int .i64 0]), 3, 24) := by kernel_rfl

/-- One token more. -/
theorem append_tokG (t e : TypeId) (ht : Tryd.prog.underlying t = some (.slice e)) (hinfo : ((Tryd.prog.info? e).map fun i => (i.zero, i.size, i.bytes)) = some (some (.agg #[.int .i64 0, .int .i64 0, .int .i64 0]), 3, 24))
    (w : World) (base : Nat) (v : Value) (l : List Tk) (hrow : OwnT e w base v l) (x : Tk) (hle : l.length + 1 ≤ 1099511627776) (hbase : base ≤ w.heap.size) :
    ∃ v' w', (∀ ty, (Builtin.append_ #[t, t] ty #[v, .slice (some ⟨w.heap.size, 0, none⟩) 1 1]).run Tryd.prog (w.alloc (.cells #[natV (tokC0 x), natV (tokC1 x), natV (tokC2 x)] e)) = .ok v' w') ∧ OwnT e w' base v' (l ++ [x]) ∧ Frm (fun b _ => v.ownBlock = some b) w w' := by
  obtain ⟨i, hi, hiq⟩ := Option.map_eq_some_iff.1 hinfo
  simp only [Prod.mk.injEq] at hiq
  obtain ⟨h1, h2, h3⟩ := hiq
  have hf1 : Frm (fun b _ => v.ownBlock = some b) w (w.alloc (.cells #[natV (tokC0 x), natV (tokC1 x), natV (tokC2 x)] e)) := (Frm.refl _ _).alloc _
  have hrow1 := hrow.keep (S := fun _ _ => False) ((Frm.refl _ w).alloc (.cells #[natV (tokC0 x), natV (tokC1 x), natV (tokC2 x)] e)) (fun _ _ _ e => e)
  obtain ⟨v', w', hrun, hr, hf, _⟩ := append_row (P := Tryd.prog) KI _ base t e i _ 3 24 ht hi h1 h2 h3 (by rfl) (by
      intro u hu
      have hu' : u ∈ [Value.int .i64 0, Value.int .i64 0, Value.int .i64 0] := hu
      simp only [List.mem_cons, List.not_mem_nil, or_false, or_self] at hu'
      exact ⟨0, hu'⟩) v l.length _ hrow1 ⟨w.heap.size, 0, none⟩ 1 1 (tokV x) (by simp) (fun j u hu => by
      rw [Addr.add_lit]
      refine (cells_at (heap_alloc_new w _)).trans ?_
      rw [Nat.zero_add]
      match j, hu with
      | 0, hu => exact hu
      | 1, hu => exact hu
      | 2, hu => exact hu
      | j + 3, hu => simp at hu) (fun u hu => by
        simp only [tokV, List.mem_cons, List.not_mem_nil, or_false] at hu
        rcases hu with rfl | rfl | rfl <;> rfl) (fun u hu => by
        simp only [tokV, List.mem_cons, List.not_mem_nil, or_false] at hu
        rcases hu with rfl | rfl | rfl <;> exact ⟨_, rfl⟩) (by simp only [maxLen]; omega) (by omega) (Nat.le_trans hbase hf1.size)
  refine ⟨v', w', hrun, ?_, hf1.trans' hf (fun _ _ _ e => e)⟩
  unfold OwnT
  rw [List.flatMap_append, List.length_append]
  simp only [List.flatMap_cons, List.flatMap_nil, List.append_nil]
  exact hr

theorem append_token (w : World) (base : Nat) (v : Value) (l : List Tk) (hrow : OwnT 89 w base v l) (x : Tk) (hle : l.length + 1 ≤ 1099511627776) (hbase : base ≤ w.heap.size) :
    ∃ v' w', (∀ ty, (Builtin.append_ #[77, 77] ty #[v, .slice (some ⟨w.heap.size, 0, none⟩) 1 1]).run Tryd.prog (w.alloc (.cells #[natV (tokC0 x), natV (tokC1 x), natV (tokC2 x)] 89)) = .ok v' w') ∧ OwnT 89 w' base v' (l ++ [x]) ∧ Frm (fun b _ => v.ownBlock = some b) w w' :=
  append_tokG _ _ Tryd.underlying77 infoToken w base v l hrow x hle hbase

theorem append_tokenX (w : World) (base : Nat) (v : Value) (l : List Tk) (hrow : OwnT 87 w base v l) (x : Tk) (hle : l.length + 1 ≤ 1099511627776) (hbase : base ≤ w.heap.size) :
    ∃ v' w', (∀ ty, (Builtin.append_ #[38, 38] ty #[v, .slice (some ⟨w.heap.size, 0, none⟩) 1 1]).run Tryd.prog (w.alloc (.cells #[natV (tokC0 x), natV (tokC1 x), natV (tokC2 x)] 87)) = .ok v' w') ∧ OwnT 87 w' base v' (l ++ [x]) ∧ Frm (fun b _ => v.ownBlock = some b) w w' :=
  append_tokG _ _ Tryd.underlying38 infoTokenX w base v l hrow x hle hbase

theorem OwnT.fresh {e : TypeId} {w w' : World} {base : Nat} {v : Value} {l : List Tk} (h : OwnT e w base v l) {w0 : World} (h0 : Frm (fun _ _ => False) w0 w) (hb : w0.heap.size ≤ base) (hf : Frm (fun b _ => v.ownBlock = some b) w w') : Frm (fun _ _ => False) w0 w' :=
  h0.trans' hf (fun x o hx q => by have := (h.lt x q).1; omega)

theorem Tks.keep {S : Nat → Nat → Prop} {w w' : World} {b : Option Addr} {l : List Tk} (h : Tks w b l) (hf : Frm S w w') (hS : ∀ g o, ¬ S g o) : Tks w' b l :=
  ⟨fun j hj => by
    obtain ⟨g, h1, h2, h3, h4⟩ := h.cells j hj
    exact ⟨g, h1, hf.keep h2 (hS _ _), hf.keep h3 (hS _ _), hf.keep h4 (hS _ _)⟩⟩

end Go.Proofs.YthfncdfcklbigaaDoor

/-
  THE WALKS OF 'spec.Fit', 'spec.Fixed', 'spec.Expand'.
-/
namespace Go.Proofs.YthfncdfcklbigaaDoor
open Go.RowKit Go.IntWalk Flate
set_option maxRecDepth 100000

/-- Tokens that came in: any numbers. -/
structure Tin (w : World) (base : Option Addr) (l : List (Int × Int × Int)) (cap : Nat) : Prop where
  cells : ∀ j (h : j < l.length), ∃ b o, base = some ⟨b, o, none⟩ ∧ w.cell? ⟨b, o + j * 3, none⟩ = some (.int .i64 l[j].1) ∧ w.cell? ⟨b, o + j * 3 + 1, none⟩ = some (.int .i64 l[j].2.1) ∧ w.cell? ⟨b, o + j * 3 + 2, none⟩ = some (.int .i64 l[j].2.2)
  hcap : l.length ≤ cap
  nilc : base = none → cap = 0

theorem Tin.keep {w w' : World} {b : Option Addr} {l : List (Int × Int × Int)} {cap : Nat} (h : Tin w b l cap) (hf : Frm (fun _ _ => False) w w') : Tin w' b l cap :=
  ⟨fun j hj => by
    obtain ⟨b', o, h1, h2, h3, h4⟩ := h.cells j hj
    exact ⟨b', o, h1, hf.keep h2 (fun e => e), hf.keep h3 (fun e => e), hf.keep h4 (fun e => e)⟩, h.hcap, h.nilc⟩

theorem i64_and_255 (x : Int) : bits .and .i64 x 255 = (((x % 256).toNat : Nat) : Int) := by
  show IntKind.i64.wrap ((BitVec.ofInt 64 x &&& BitVec.ofInt 64 255).toNat : Int) = _
  have e1 : (BitVec.ofInt 64 255).toNat = 2 ^ 8 - 1 := by rw [BitVec.toNat_ofInt]; decide
  have e2 : (BitVec.ofInt 64 x).toNat % 2 ^ 8 = (x % 256).toNat := by rw [BitVec.toNat_ofInt]; omega
  rw [BitVec.toNat_and, e1, Nat.and_two_pow_sub_one_eq_mod, e2]
  exact i64_in _ (by omega)

def FtInv (w : World) (N0 N : Nat) (behind : Nat) (g : Nat) (out nv i : Value) (wr : World) : Prop :=
  ∃ (k n : Nat) (toks : List Tk), k ≤ N ∧ g = N - k ∧ i = .int .i64 (k : Int) ∧ nv = .int .i64 (n : Int) ∧ n = behind + toksSize toks ∧ toks.length = k ∧ toksOk behind toks ∧ OwnT 87 wr N0 out toks ∧ Frm (fun _ _ => False) w wr

set_option maxHeartbeats 2000000 in
theorem fit_any (w : World) (base : Option Addr) (l : List (Int × Int × Int)) (cap : Nat) (h : Tin w base l cap) (hl : l.length ≤ 2147483647) (behind : Nat) (hb : behind ≤ 2147483647) :
    Calls Tryd.prog 26 #[.slice base l.length cap, .int .i64 (behind : Int)] w fun e w' => ∃ v toks, e = .returned v ∧ OwnT 87 w' w.heap.size v toks ∧ toksOk behind toks ∧ toks.length ≤ 300 ∧ Frm (fun _ _ => False) w w' := by
  have HH := Lib.hid h
  obtain ⟨n, hn⟩ : ∃ n, n = l.length := ⟨_, rfl⟩
  obtain ⟨N, hN⟩ : ∃ N, N = min n 300 := ⟨_, rfl⟩
  rw [← hn] at hl ⊢
  have e1 : min (n : Int) 300 = (N : Int) := by omega
  have c1 : (n : Int) ≤ 2147483647 := by omega
  have c2 : (N : Int) ≤ (n : Int) := by omega
  have c3 : (N : Int) ≤ 300 := by omega
  have c4 : (behind : Int) ≤ 2147483647 := by omega
  have hcap : n ≤ cap := by rw [hn]; exact h.hcap
  have HN := Lib.hid (And.intro hn (And.intro hN (And.intro hl hb)))
  clear h hn hN hl hb
  go_enter Tryd.func26, Tryd.ntmps26
  go_upto_region 3 with (fail)
  go_cut [16, 17, 18] (fun a b c wq => a = .slice base N cap ∧ b = .int .i64 (N : Int) ∧ c = .int .i64 0 ∧ w = wq)
  case first =>
    by_cases h3 : n ≤ 300
    · have t1 : decide ((n : Int) ≤ 300) = true := by simp; omega
      have hNn : N = n := by have := HN.out.2.1; omega
      clear h3
      go_wp2_with fail
      all_goals
        go_meet
        case rel => first | exact ⟨by rw [hNn], by rw [hNn], rfl, rfl⟩ | (exfalso; omega)
    · have t1 : decide ((n : Int) ≤ 300) = false := by simp; omega
      have hNn : N = 300 := by have := HN.out.2.1; omega
      have c5 : (300 : Int) ≤ (n : Int) := by omega
      have c6 : (n : Int) ≤ (cap : Int) := by omega
      go_wp2_with fail
      go_meet
      case rel => exact ⟨by rw [hNn], by rw [hNn]; rfl, rfl, rfl⟩
  case rest =>
    obtain ⟨rfl, rfl, rfl, rfl⟩ := hcut
    go_wp2_with fail
    go_loopg [5, 6, 18] (N - 0) (fun g out nv i wr => FtInv w w.heap.size N behind g out nv i wr)
    case atStart => exact ⟨0, behind, [], Nat.zero_le _, rfl, rfl, rfl, by simp [toksSize], rfl, trivial, Row.nil _ _ _ _ _, Frm.refl _ _⟩
    case round =>
      obtain ⟨k, nn, toks, hk, hg, rfl, rfl, hnn, hlen, hok, hown, hf⟩ := hrel
      by_cases hlt : k < N
      · have hkl : k < l.length := by have := HN.out; omega
        obtain ⟨b', o, hb', t0, t1, t2⟩ := (HH.out.keep hf).cells k hkl
        subst hb'
        obtain ⟨x, hx⟩ : ∃ x, x = l[k] := ⟨_, rfl⟩
        rw [← hx] at t0 t1 t2
        obtain ⟨lt, ft, gt⟩ := x
        simp only at t0 t1 t2
        obtain ⟨fa, hfa⟩ : ∃ fa, fa = min nn 32768 := ⟨_, rfl⟩
        have hnle : nn ≤ 2147483647 + 77400 := by
          have := toksSize_le hok
          have := HN.out
          omega
        have c5 : (nn : Int) ≤ 2147561047 := by omega
        have c6 : (fa : Int) ≤ 32768 := by omega
        have HR := Lib.hid (And.intro hk (And.intro hg (And.intro hnn (And.intro hlen (And.intro hok (And.intro hown hf))))))
        have HFA := Lib.hid hfa
        obtain ⟨W3, hW3⟩ : ∃ W3, W3 = wr.alloc (.cells #[.int .i64 lt, .int .i64 ft, .int .i64 gt] 87) := ⟨_, rfl⟩
        have hf3 : Frm (fun _ _ => False) wr W3 := by rw [hW3]; exact (Frm.refl _ _).alloc _
        obtain ⟨B, hB⟩ : ∃ B, B = wr.heap.size := ⟨_, rfl⟩
        have v0 : W3.cell? ⟨B, 0, none⟩ = some (.int .i64 lt) := by rw [hW3, hB]; exact (cells_at (heap_alloc_new wr _)).trans rfl
        have v1 : W3.cell? ⟨B, 1, none⟩ = some (.int .i64 ft) := by rw [hW3, hB]; exact (cells_at (heap_alloc_new wr _)).trans rfl
        have v2 : W3.cell? ⟨B, 2, none⟩ = some (.int .i64 gt) := by rw [hW3, hB]; exact (cells_at (heap_alloc_new wr _)).trans rfl
        have HW3 := Lib.hid hf3
        clear hk hg hnn hlen hok hown hf hx hkl hfa hnle hf3
        go_upto_region 6 with (fail)
        rw [← hW3, ← hB]
        clear hW3 hB t0 t1 t2
        go_cut [9] (fun f wq => f = .int .i64 (fa : Int) ∧ W3 = wq)
        case first =>
          have hfa := HFA.out
          by_cases h3 : nn ≤ 32768
          · have e3 : decide ((nn : Int) ≤ 32768) = true := by simp; omega
            have hNn : fa = nn := by omega
            clear h3 hfa
            go_wp2_with fail
            all_goals
              go_meet
              case rel => first | exact ⟨by rw [hNn], rfl⟩ | (exfalso; omega)
          · have e3 : decide ((nn : Int) ≤ 32768) = false := by simp; omega
            have hNn : fa = 32768 := by omega
            have c7 : (32768 : Int) ≤ (nn : Int) := by omega
            clear hfa
            go_wp2_with fail
            go_meet
            case rel => exact ⟨by rw [hNn]; rfl, rfl⟩
        case rest =>
          obtain ⟨rfl, rfl⟩ := hcut
          apply_assumption
          by_cases hft : ft = 0
          · subst hft
            have hand := i64_and_255 lt
            obtain ⟨c, hc⟩ : ∃ c, c = (lt % 256).toNat := ⟨_, rfl⟩
            rw [← hc] at hand
            have hc256 : c < 256 := by omega
            have hcn : (UInt8.ofNat c).toNat = c := by rw [UInt8.toNat_ofNat']; exact Nat.mod_eq_of_lt hc256
            obtain ⟨hk, hg, hnn, hlen, hok, hown, hf⟩ := HR.out
            have hf3 := HW3.out
            obtain ⟨v', w', hrun, hown', hfr⟩ := append_tokenX W3 w.heap.size _ _ (hown.keep hf3 (fun _ _ _ e => e)) (.lit (UInt8.ofNat c)) (by omega) (hf.trans hf3).size
            have hf' := OwnT.fresh (hown.keep hf3 (fun _ _ _ e => e)) (hf.trans hf3) (Nat.le_refl _) hfr
            have hr : ∀ ty, (Builtin.append_ #[38, 38] ty #[u5, .slice (some ⟨W3.heap.size, 0, none⟩) 1 1]).run Tryd.prog (W3.alloc (.cells #[.int .i64 (c : Int), .int .i64 0, .int .i64 0] 87)) = .ok v' w' := by
              have := hrun
              simp only [tokC0, tokC1, tokC2, hcn] at this
              exact this
            have HX := Lib.hid (And.intro hown' hf')
            clear hc hc256 hcn hk hg hnn hlen hok hown hf hf3 hrun hown' hfr hf'
            go_wp2_with (at_builtin; refine wpList_append_by (by rfl) (.tmp 54) (.tmp 59) 38 (by rfl) _ _ (by rfl) (by rfl) (hr _) ?_)
            clear hr
            go_roundg (N - (k + 1))
            case measure => have := HR.out.2.1; omega
            case rel =>
              obtain ⟨hk, hg, hnn, hlen, hok, hown, hf⟩ := HR.out
              exact ⟨k + 1, nn + 1, toks ++ [.lit (UInt8.ofNat c)], hlt, rfl, by go_num, by go_num, by rw [toksSize_snoc, hnn]; simp only [Tk.size]; omega, by rw [List.length_append, hlen]; rfl, (toksOk_snoc (t := .lit (UInt8.ofNat c))).2 ⟨hok, trivial⟩, HX.out.1, HX.out.2⟩
          · have e1 : (ft != 0) = true := by simp [hft]
            by_cases hf0 : fa = 0
            · subst hf0
              have HFT := Lib.hid hft
              clear hft
              have hand := i64_and_255 lt
              obtain ⟨c, hc⟩ : ∃ c, c = (lt % 256).toNat := ⟨_, rfl⟩
              rw [← hc] at hand
              have hc256 : c < 256 := by omega
              have hcn : (UInt8.ofNat c).toNat = c := by rw [UInt8.toNat_ofNat']; exact Nat.mod_eq_of_lt hc256
              obtain ⟨hk, hg, hnn, hlen, hok, hown, hf⟩ := HR.out
              have hf3 := HW3.out
              obtain ⟨v', w', hrun, hown', hfr⟩ := append_tokenX W3 w.heap.size _ _ (hown.keep hf3 (fun _ _ _ e => e)) (.lit (UInt8.ofNat c)) (by omega) (hf.trans hf3).size
              have hf' := OwnT.fresh (hown.keep hf3 (fun _ _ _ e => e)) (hf.trans hf3) (Nat.le_refl _) hfr
              have hr : ∀ ty, (Builtin.append_ #[38, 38] ty #[u5, .slice (some ⟨W3.heap.size, 0, none⟩) 1 1]).run Tryd.prog (W3.alloc (.cells #[.int .i64 (c : Int), .int .i64 0, .int .i64 0] 87)) = .ok v' w' := by
                have := hrun
                simp only [tokC0, tokC1, tokC2, hcn] at this
                exact this
              have HX := Lib.hid (And.intro hown' hf')
              clear hc hc256 hcn hk hg hnn hlen hok hown hf hf3 hrun hown' hfr hf'
              go_wp2_with (at_builtin; refine wpList_append_by (by rfl) (.tmp 54) (.tmp 59) 38 (by rfl) _ _ (by rfl) (by rfl) (hr _) ?_)
              clear hr
              go_roundg (N - (k + 1))
              case measure => have := HR.out.2.1; omega
              case rel =>
                obtain ⟨hk, hg, hnn, hlen, hok, hown, hf⟩ := HR.out
                exact ⟨k + 1, nn + 1, toks ++ [.lit (UInt8.ofNat c)], hlt, rfl, by go_num, by go_num, by rw [toksSize_snoc, hnn]; simp only [Tk.size]; omega, by rw [List.length_append, hlen]; rfl, (toksOk_snoc (t := .lit (UInt8.ofNat c))).2 ⟨hok, trivial⟩, HX.out.1, HX.out.2⟩
            · have e2 : decide ((0 : Int) < (fa : Int)) = true := by simp; omega
              have e20 : 0 < fa := by omega
              obtain ⟨y, hy⟩ : ∃ y, y = gt.tmod 256 := ⟨_, rfl⟩
              obtain ⟨g1, g2⟩ := tmod_range gt 256 (by omega)
              obtain ⟨z, hz⟩ : ∃ z : Nat, (z : Int) = (y + 256) % 256 := ⟨((y + 256) % 256).toNat, by omega⟩
              obtain ⟨m, hm⟩ : ∃ m : Nat, m = 3 + z := ⟨_, rfl⟩
              obtain ⟨y2, hy2⟩ : ∃ y2, y2 = ft.tmod (fa : Int) := ⟨_, rfl⟩
              obtain ⟨g3, g4⟩ := tmod_range ft fa e20
              rw [← hy2] at g3 g4
              have g1' : (-256 : Int) < y := by rw [hy]; exact g1
              have g2' : y < 256 := by rw [hy]; exact g2
              obtain ⟨z2, hz2⟩ : ∃ z2 : Nat, (z2 : Int) = (y2 + (fa : Int)) % (fa : Int) := ⟨((y2 + (fa : Int)) % (fa : Int)).toNat, Int.toNat_of_nonneg (Int.emod_nonneg _ (by omega))⟩
              have hz2l : z2 < fa := by
                have := Int.emod_lt_of_pos (y2 + (fa : Int)) (show (0 : Int) < (fa : Int) by omega)
                omega
              obtain ⟨f, hf⟩ : ∃ f : Nat, f = 1 + z2 := ⟨_, rfl⟩
              have hzl : z < 256 := by omega
              have a1 := hy.symm
              have a2 := hz.symm
              have a3 : 3 + (z : Int) = (m : Int) := by omega
              have a4 := hy2.symm
              have a5 := hz2.symm
              have a6 : 1 + (z2 : Int) = (f : Int) := by omega
              have c8 : (m : Int) ≤ 258 := by omega
              have c9 : (f : Int) ≤ 32768 := by omega
              have c10 : (z : Int) ≤ 255 := by omega
              have c11 : (z2 : Int) < (fa : Int) := by omega
              have hfn : f ≤ nn ∧ f ≤ 32768 ∧ 1 ≤ f ∧ 3 ≤ m ∧ m ≤ 258 := by have := HFA.out; omega
              obtain ⟨hk, hg, hnn, hlen, hok, hown, hfr0⟩ := HR.out
              have hf3 := HW3.out
              obtain ⟨v', w', hrun, hown', hfr⟩ := append_tokenX W3 w.heap.size _ _ (hown.keep hf3 (fun _ _ _ e => e)) (.cpy f m) (by omega) (hfr0.trans hf3).size
              have hf' := OwnT.fresh (hown.keep hf3 (fun _ _ _ e => e)) (hfr0.trans hf3) (Nat.le_refl _) hfr
              have hr : ∀ ty, (Builtin.append_ #[38, 38] ty #[u5, .slice (some ⟨W3.heap.size, 0, none⟩) 1 1]).run Tryd.prog (W3.alloc (.cells #[.int .i64 0, .int .i64 (f : Int), .int .i64 (m : Int)] 87)) = .ok v' w' := hrun
              have HX := Lib.hid (And.intro hown' (And.intro hf' hfn))
              have HFT := Lib.hid hft
              clear hft hy hz hm hy2 hz2 hf hzl hz2l hfn hk hg hnn hlen hok hown hfr0 hf3 hrun hown' hfr hf' hf0
              go_wp2_with (at_builtin; refine wpList_append_by (by rfl) (.tmp 37) (.tmp 49) 38 (by rfl) _ _ (by rfl) (by rfl) (hr _) ?_)
              clear hr
              go_roundg (N - (k + 1))
              case measure => have := HR.out.2.1; omega
              case rel =>
                obtain ⟨hk, hg, hnn, hlen, hok, hown, hf⟩ := HR.out
                obtain ⟨hown', hf', q1, q2, q3, q4, q5⟩ := HX.out
                exact ⟨k + 1, nn + m, toks ++ [.cpy f m], hlt, rfl, by go_num, by go_num, by rw [toksSize_snoc, hnn]; simp only [Tk.size]; omega, by rw [List.length_append, hlen]; rfl, (toksOk_snoc (t := .cpy f m)).2 ⟨hok, ⟨q3, by rw [← hnn]; exact q1, q2, q4, q5⟩⟩, hown', hf'⟩
      · obtain rfl : k = N := by omega
        have HR := Lib.hid (And.intro hlen (And.intro hok (And.intro hown hf)))
        have hd : decide (k < k) = false := by simp
        clear hlen hok hown hf hg hnn hlt hk
        go_wp2_with fail
        go_ret
        exact ⟨_, toks, rfl, HR.out.2.2.1, HR.out.2.1, by have := HR.out.1; omega, HR.out.2.2.2⟩

end Go.Proofs.YthfncdfcklbigaaDoor

/-
  THE WALKS OF 'spec.Fixed' and 'spec.Expand'.
-/
namespace Go.Proofs.YthfncdfcklbigaaDoor
open Go.RowKit Go.IntWalk Flate
set_option maxRecDepth 100000

theorem tokIn_fixed {l : List Tk} : ∀ {n : Nat}, toksOk n l → ∀ t ∈ l, TokIn fixedLens fixedDist t := by
  induction l with
  | nil => intro n _ t ht; simp at ht
  | cons a l ih =>
    intro n h t ht
    rcases List.mem_cons.1 ht with rfl | q
    · cases t with
      | lit c => have := c.toNat_lt; exact fixedLens_ne0 _ (by omega)
      | cpy f m =>
        obtain ⟨a1, a2, a3, a4, a5⟩ := h.1
        have q1 := lenSymbol_ok a4 a5
        have q2 := distSymbol_ok a1 a3
        refine ⟨a1, a3, a4, a5, fixedLens_ne0 _ (by omega), ?_⟩
        rw [fixedDist_getD, if_pos (by omega)]; omega
    · exact ih h.2 t q

theorem fixedDist15 : ∀ n ∈ fixedDist, n ≤ 15 := fun n hn => by unfold fixedDist at hn; have := (List.mem_replicate.1 hn).2; omega

/-- A new writer. -/
theorem wt_new (w : World) : Wt (w.alloc (.cells #[.slice none 0 0, .int .i64 0] 73)) (w.heap.size + 1) w.heap.size [] := by
  have hc : ∀ o, (w.alloc (.cells #[.slice none 0 0, .int .i64 0] 73)).cell? ⟨w.heap.size, o, none⟩ = (#[.slice none 0 0, .int .i64 0] : Array Value)[o]? := fun o => cells_at (heap_alloc_new w _)
  exact ⟨⟨_, (hc 0).trans rfl, Row.nil _ _ _ _ _⟩, (hc 1).trans rfl, fun o => World.frozen?_alloc_new (w := w) ..⟩

/-- The frame of a writer that is new. -/
theorem frm_new {w w1 w2 : World} {N0 W : Nat} (h : Frm (fun _ _ => False) w w1) (hW : w.heap.size ≤ W) (hN : w.heap.size ≤ N0) (k : Frm (SWr w1 N0 W) w1 w2) : Frm (fun _ _ => False) w w2 :=
  h.trans' k fun x o hx q => by
    rcases q with q | ⟨q, _⟩ <;> omega

def FxdInv (w3 : World) (N : Nat) (toks : List Tk) (g : Nat) (m i : Value) (wr : World) : Prop :=
  ∃ k : Nat, k ≤ toks.length ∧ g = toks.length - k ∧ i = .int .i64 (k : Int) ∧ OwnT 89 wr N m (toks.take k) ∧ Frm (fun _ _ => False) w3 wr

set_option maxHeartbeats 2000000 in
theorem fixedB_any (w : World) (tb : Option Addr) (toks : List Tk) (tc : Nat) (ht : Tks w tb toks) (htl : toks.length ≤ 300) {n0 : Nat} (hok : toksOk n0 toks) :
    Calls Tryd.prog 27 #[.slice tb toks.length tc] w fun e w' => ∃ v, e = .returned v ∧ Own w' w.heap.size v (pack ([true] ++ enc 1 2 ++ bodyBits fixedLens fixedDist toks)) ∧ Frm (fun _ _ => False) w w' := by
  have HT := Lib.hid (And.intro ht (And.intro htl hok))
  obtain ⟨n, hn⟩ : ∃ n, n = toks.length := ⟨_, rfl⟩
  rw [← hn] at htl ⊢
  have c1 : (n : Int) ≤ 300 := by omega
  have hwt := wt_new w
  obtain ⟨W, hW⟩ : ∃ W, W = w.heap.size := ⟨_, rfl⟩
  obtain ⟨w1, hw1⟩ : ∃ w1, w1 = w.alloc (.cells #[.slice none 0 0, .int .i64 0] 73) := ⟨_, rfl⟩
  have hf1 : Frm (fun _ _ => False) w w1 := by rw [hw1]; exact (Frm.refl _ _).alloc _
  rw [← hW, ← hw1] at hwt
  have hN1 : W + 1 ≤ w1.heap.size := by rw [hw1, hW]; simp
  have hb1 : Calls Tryd.prog 41 #[.pointer (some ⟨W, 0, none⟩), .int .i64 1, .int .i64 1] w1 fun e w' => e = .returned (.tuple #[]) ∧ Wt w' (W + 1) W [true] ∧ Frm (SWr w1 (W + 1) W) w1 w' := bits_any w1 (W + 1) W [] hwt (by omega) hN1 1 1 (by omega) (by simp) (by omega)
  have HB1 := Lib.hid hb1
  have HA := Lib.hid (And.intro hn (And.intro hW (And.intro hf1 hN1)))
  clear ht htl hok hn hwt hf1 hN1 hb1
  go_enter Tryd.func27, Tryd.ntmps27
  go_upto_region 2 with (fail)
  rw [← hw1, ← hW]
  clear hw1 hW
  go_wp2_with fail
  refine HB1.out.mono ?_
  rintro e w2 ⟨rfl, hw2, hf2⟩
  have hb2 : Calls Tryd.prog 41 #[.pointer (some ⟨W, 0, none⟩), .int .i64 1, .int .i64 2] w2 fun e w' => e = .returned (.tuple #[]) ∧ Wt w' (W + 1) W ([true] ++ enc 1 2) ∧ Frm (SWr w2 (W + 1) W) w2 w' := bits_any w2 (W + 1) W [true] hw2 (by omega) (Nat.le_trans HA.out.2.2.2 hf2.size) 1 2 (by omega) (by simp) (by omega)
  have HB2 := Lib.hid hb2
  have HF2 := Lib.hid hf2
  clear hb2 hf2 hw2
  go_wp2_with fail
  refine HB2.out.mono ?_
  rintro e w3 ⟨rfl, hw3, hf3⟩
  have hf13 : Frm (SWr w1 (W + 1) W) w1 w3 := frm_SWr_trans HF2.out hf3
  have hf03 : Frm (fun _ _ => False) w w3 := frm_new HA.out.2.2.1 (by rw [HA.out.2.1]; exact Nat.le_refl _) (by rw [HA.out.2.1]; omega) hf13
  have H3 := Lib.hid (And.intro hw3 hf03)
  clear hw3 hf3 hf13 hf03 HB1 HB2 HF2
  go_wp2_with fail
  go_loopg [4, 17] (n - 0) (fun g m i wr => FxdInv w3 w3.heap.size toks g m i wr)
  case atStart => exact ⟨0, Nat.zero_le _, by rw [HA.out.1], rfl, Row.nil _ _ _ _ _, Frm.refl _ _⟩
  case round =>
    obtain ⟨k, hk, hg, rfl, hown, hf⟩ := hrel
    by_cases hlt : k < n
    · have hkl : k < toks.length := by rw [← HA.out.1]; exact hlt
      obtain ⟨g', htb, t0, t1, t2⟩ := ((HT.out.1.keep H3.out.2 (fun _ _ e => e)).keep hf (fun _ _ e => e)).cells k hkl
      subst htb
      obtain ⟨t, htt⟩ : ∃ t, t = toks[k] := ⟨_, rfl⟩
      rw [← htt] at t0 t1 t2
      have hts : toks[k]? = some t := by rw [htt]; exact List.getElem?_eq_getElem hkl
      obtain ⟨q0, hq0⟩ : ∃ q, q = tokC0 t := ⟨_, rfl⟩
      obtain ⟨q1, hq1⟩ : ∃ q, q = tokC1 t := ⟨_, rfl⟩
      obtain ⟨q2, hq2⟩ : ∃ q, q = tokC2 t := ⟨_, rfl⟩
      have u0 : wr.cell? ⟨g', k * 3, none⟩ = some (.int .i64 (q0 : Int)) := by rw [hq0]; exact t0
      have u1 : wr.cell? ⟨g', k * 3 + 1, none⟩ = some (.int .i64 (q1 : Int)) := by rw [hq1]; exact t1
      have u2 : wr.cell? ⟨g', k * 3 + 2, none⟩ = some (.int .i64 (q2 : Int)) := by rw [hq2]; exact t2
      obtain ⟨W4, hW4⟩ : ∃ W4, W4 = wr.alloc (.cells #[.int .i64 (q0 : Int), .int .i64 (q1 : Int), .int .i64 (q2 : Int)] 87) := ⟨_, rfl⟩
      have hf4 : Frm (fun _ _ => False) wr W4 := by rw [hW4]; exact (Frm.refl _ _).alloc _
      obtain ⟨B, hB⟩ : ∃ B, B = wr.heap.size := ⟨_, rfl⟩
      have v0 : W4.cell? ⟨B, 0, none⟩ = some (.int .i64 (q0 : Int)) := by rw [hW4, hB]; exact (cells_at (heap_alloc_new wr _)).trans rfl
      have v1 : W4.cell? ⟨B, 1, none⟩ = some (.int .i64 (q1 : Int)) := by rw [hW4, hB]; exact (cells_at (heap_alloc_new wr _)).trans rfl
      have v2 : W4.cell? ⟨B, 2, none⟩ = some (.int .i64 (q2 : Int)) := by rw [hW4, hB]; exact (cells_at (heap_alloc_new wr _)).trans rfl
      obtain ⟨v', w', hrun, hown', hfr⟩ := append_token W4 w3.heap.size _ _ (hown.keep hf4 (fun _ _ _ e => e)) t (by rw [List.length_take]; have := HT.out.2.1; omega) (hf.trans hf4).size
      have hf' := OwnT.fresh (hown.keep hf4 (fun _ _ _ e => e)) (hf.trans hf4) (Nat.le_refl _) hfr
      have hr : ∀ ty, (Builtin.append_ #[77, 77] ty #[u4, .slice (some ⟨W4.heap.size, 0, none⟩) 1 1]).run Tryd.prog (W4.alloc (.cells #[.int .i64 (q0 : Int), .int .i64 (q1 : Int), .int .i64 (q2 : Int)] 89)) = .ok v' w' := by
        rw [hq0, hq1, hq2]; exact hrun
      have htake : toks.take (k + 1) = toks.take k ++ [t] := by rw [List.take_add_one, hts]; rfl
      have hown2 : OwnT 89 w' w3.heap.size v' (toks.take (k + 1)) := by rw [htake]; exact hown'
      have HR := Lib.hid (And.intro hg (And.intro hown2 hf'))
      clear hk hg hown hf hkl htt t0 t1 t2 hts hq0 hq1 hq2 hf4 hrun hown' hfr hf' htake hown2
      go_upto_region 8 with (fail)
      rw [← hW4, ← hB]
      clear hW4 hB
      go_wp2_with (at_builtin; refine wpList_append_by (by rfl) (.tmp 21) (.tmp 29) 77 (by rfl) _ _ (by rfl) (by rfl) (hr _) ?_)
      clear hr
      go_roundg (n - (k + 1))
      case measure => have := HR.out.1; have := HA.out.1; omega
      case rel => exact ⟨k + 1, by have := HA.out.1; omega, by rw [HA.out.1], by go_num, HR.out.2.1, HR.out.2.2⟩
    · obtain rfl : k = n := by have := HA.out.1; omega
      have hown2 : OwnT 89 wr w3.heap.size u4 toks := by
        have := hown
        rw [HA.out.1, List.take_length] at this
        exact this
      have HR := Lib.hid (And.intro hown2 hf)
      clear hlt hown hf hg hk hown2
      have hd : decide (k < k) = false := by simp
      go_wp2_with fail
      refine (fixed_any wr).mono ?_
      rintro e w5 ⟨v1, v2, rfl, h1, h2, hf5⟩
      obtain ⟨hown2, hf⟩ := HR.out
      have hown5 := hown2.keep hf5 (fun _ _ _ e => e)
      obtain ⟨b3, cp3, hv3, _, hnt3, hlt3⟩ := OwnT.tks hown5
      obtain ⟨b1, cp1, hv1, _, hnt1⟩ := OwnN.nt h1
      obtain ⟨b2, cp2, hv2, _, hnt2⟩ := OwnN.nt h2
      subst hv1 hv2
      have e1 : fixedLens.length = 288 := fixedLens_length
      have e2 : fixedDist.length = 32 := by unfold fixedDist; rw [List.length_replicate]
      have hWlt : W < w3.heap.size := H3.out.1.lt
      have hwt5 : Wt w5 (W + 1) W ([true] ++ enc 1 2) := H3.out.1.keep (hf.trans hf5) (fun _ e => e) (fun _ _ _ e => e)
      have hbd := body_any w5 (W + 1) W _ hwt5 (by omega) (Nat.le_trans (Nat.le_trans (by omega) hf.size) hf5.size) (by simp [enc_len]) b3 toks cp3 hnt3 (fun a ha e => by have := (hlt3 a ha).1; omega) (by have := HT.out.2.1; omega)
        b1 fixedLens cp1 hnt1 (fun a ha e => by subst ha; have := (h1.lt a.block rfl).1; have := hf.size; omega) fixedLens_le (by omega) (by omega)
        b2 fixedDist cp2 hnt2 (fun a ha e => by subst ha; have := (h2.lt a.block rfl).1; have := hf.size; omega) fixedDist15 (by omega) (by omega) (tokIn_fixed HT.out.2.2) (fixedLens_ne0 256 (by omega))
      rw [← HA.out.1] at hv3 hbd
      rw [e1, e2] at hbd
      have HBD := Lib.hid hbd
      have HF5 := Lib.hid (And.intro hf hf5)
      have HV3 := Lib.hid hv3
      clear hown2 hf hown5 hnt3 hlt3 h1 h2 hf5 hnt1 hnt2 hWlt hwt5 hbd HR
      rw [e1, e2]
      clear e1 e2
      subst hv3
      go_wp2_with fail
      refine HBD.out.mono ?_
      rintro e w6 ⟨rfl, hw6, hf6⟩
      obtain ⟨⟨v6, hv6, ho6⟩, hat6, hfr6⟩ := hw6
      have HO6 := Lib.hid (And.intro ho6 hf6)
      clear ho6 hat6 hfr6 hf6
      go_wp2_with fail
      go_ret
      obtain ⟨ho6, hf6⟩ := HO6.out
      have hall : Frm (fun _ _ => False) w w6 := frm_new ((H3.out.2.trans HF5.out.1).trans HF5.out.2) (by rw [HA.out.2.1]; exact Nat.le_refl _) (by rw [HA.out.2.1]; omega) hf6
      exact ⟨v6, rfl, ho6.lower (by rw [HA.out.2.1]; omega), hall⟩

end Go.Proofs.YthfncdfcklbigaaDoor

/-
  THE WALK OF 'spec.Expand'.
-/
namespace Go.Proofs.YthfncdfcklbigaaDoor
open Go.RowKit Go.IntWalk Flate
set_option maxRecDepth 100000

/-- One byte more: out of a new block of its own. -/
theorem append_one (w : World) (base : Nat) (v : Value) (l : List UInt8) (hrow : Own w base v l) (x : UInt8) (hle : l.length ≤ 70368744177664) (hbase : base ≤ w.heap.size) :
    ∃ b c w', (∀ ty, (Builtin.append_ #[22, 22] ty #[v, .slice (some ⟨w.heap.size, 0, none⟩) 1 1]).run Tryd.prog (w.alloc (.cells #[.int .u8 (x.toNat : Int)] 5)) = .ok (.slice b (l.length + 1) c) w') ∧ Own w' base (.slice b (l.length + 1) c) (l ++ [x]) ∧ Frm (fun b _ => v.ownBlock = some b) w w' := by
  have hf1 : Frm (fun _ _ => False) w (w.alloc (.cells #[.int .u8 (x.toNat : Int)] 5)) := (Frm.refl _ _).alloc _
  have hrow1 := hrow.keep hf1 (fun _ _ _ e => e)
  obtain ⟨v', w2, hrun, hown2, hfr2, _⟩ := append_bytes (w.alloc (.cells #[.int .u8 (x.toNat : Int)] 5)) base v l hrow1 ⟨w.heap.size, 0, none⟩ rfl 1 [x] (fun j hj => by
    have : j = 0 := by simp at hj; omega
    subst this
    exact (cells_at (heap_alloc_new w _)).trans rfl) (by simp only [List.length_cons, List.length_nil]; omega) (Nat.le_trans hbase hf1.size)
  obtain ⟨b', cap', rfl, _⟩ := hown2.bytes
  rw [List.length_append] at hrun hown2
  refine ⟨b', cap', w2, hrun, ?_, (hf1.mono fun _ _ e => e.elim).trans' hfr2 (fun _ _ _ q => q)⟩
  exact hown2

def ExA (w : World) (N : Nat) (toks : List Tk) (dict : List UInt8) (g : Nat) (out i : Value) (wr : World) : Prop :=
  ∃ (k m c : Nat) (b : Option Addr), k ≤ toks.length ∧ g = toks.length - k ∧ i = .int .i64 (k : Int) ∧ out = .slice b m c ∧ m = (toksRun dict (toks.take k)).length ∧ Own wr N out (toksRun dict (toks.take k)) ∧ Frm (fun _ _ => False) w wr

def ExB (w : World) (N B : Nat) (H : List UInt8) (f mm : Nat) (g : Nat) (out i : Value) (wr : World) : Prop :=
  ∃ (j m c : Nat) (b : Option Addr), j ≤ mm ∧ g = mm - j ∧ i = .int .i64 (j : Int) ∧ out = .slice b m c ∧ m = H.length + j ∧ Own wr N out (lz H f j) ∧ wr.cell? ⟨B, 1, none⟩ = some (.int .i64 (f : Int)) ∧ Frm (fun _ _ => False) w wr

theorem toksOk_at {l : List Tk} : ∀ {n k : Nat} {t : Tk}, toksOk n l → l[k]? = some t → t.ok (n + toksSize (l.take k)) := by
  induction l with
  | nil => intro n k t _ h; simp at h
  | cons a l ih =>
    intro n k t h ht
    cases k with
    | zero => simp at ht; subst ht; simpa [toksSize] using h.1
    | succ k =>
      have := ih h.2 (k := k) (by simpa using ht)
      have e : n + toksSize ((a :: l).take (k + 1)) = n + a.size + toksSize (l.take k) := by simp [toksSize]; omega
      rw [e]; exact this

theorem toksSize_take {l : List Tk} (k : Nat) : toksSize (l.take k) ≤ toksSize l := by
  induction l generalizing k with
  | nil => simp [toksSize]
  | cons a l ih =>
    cases k with
    | zero => simp [toksSize]
    | succ k => have := ih k; simp [toksSize] at this ⊢; omega

set_option maxHeartbeats 2000000 in
theorem expand_any (w : World) (tb : Option Addr) (toks : List Tk) (tc : Nat) (ht : Tks w tb toks) (htl : toks.length ≤ 300) (db : Option Addr) (dict : List UInt8) (dc : Nat) (hd : Bt w db dict dc) (hdl : dict.length ≤ 2147483647) (hok : toksOk dict.length toks) :
    Calls Tryd.prog 28 #[.slice tb toks.length tc, .slice db dict.length dc] w fun e w' => ∃ X b c, e = .returned (.slice b X.length c) ∧ Bt w' b X c ∧ toksRun dict toks = dict ++ X ∧ X.length ≤ 77400 ∧ Frm (fun _ _ => False) w w' := by
  have hsz := toksSize_le hok
  have hlen0 := toksRun_len dict toks
  obtain ⟨n, hn⟩ : ∃ n, n = toks.length := ⟨_, rfl⟩
  obtain ⟨nd, hnd⟩ : ∃ n, n = dict.length := ⟨_, rfl⟩
  have ho := own_new w [] (by simp [maxLen])
  simp only [List.map_nil, List.length_nil] at ho
  obtain ⟨W1, hW1⟩ : ∃ W1, W1 = w.alloc (.cells #[] 5) := ⟨_, rfl⟩
  have ho : Own W1 w.heap.size (.slice (some ⟨w.heap.size, 0, none⟩) 0 0) [] := by rw [hW1]; exact ho
  have hf1 : Frm (fun _ _ => False) w W1 := by rw [hW1]; exact (Frm.refl _ _).alloc _
  obtain ⟨v2, w2, hrun2, hown2, hfr2, _⟩ := append_bt W1 w.heap.size _ [] ho db dict dc (hd.keep hf1) (by simp only [List.length_nil]; omega) hf1.size
  have hf2 := ho.fresh hf1 (Nat.le_refl _) hfr2
  rw [List.nil_append] at hown2
  obtain ⟨b2, c2', hv2, _⟩ := hown2.bytes
  rw [← hnd] at hv2 hrun2
  subst hv2
  have hr2 : ∀ ty, (Builtin.append_ #[22, 22] ty #[.slice (some ⟨w.heap.size, 0, none⟩) 0 0, .slice db nd dc]).run Tryd.prog (w.alloc (.cells #[] 5)) = .ok (.slice b2 nd c2') w2 := by rw [← hW1]; exact hrun2
  rw [← hn, ← hnd]
  have c1 : (n : Int) ≤ 300 := by omega
  have c2 : (nd : Int) ≤ 2147483647 := by omega
  have HA := Lib.hid (And.intro hn (And.intro hnd (And.intro ht (And.intro htl (And.intro hok (And.intro hd (And.intro hdl (And.intro hown2 (And.intro hf2 hsz)))))))))
  clear ht htl hd hdl hok hsz hlen0 hn hnd ho hW1 hf1 hrun2 hown2 hfr2 hf2
  go_enter Tryd.func28, Tryd.ntmps28
  go_wp2_with (at_builtin; refine wpList_append_by (by rfl) (.tmp 8) (.tmp 9) 22 (by rfl) _ _ (by rfl) (by rfl) (hr2 _) ?_)
  clear hr2
  go_loopg [5, 13] (n - 0) (fun g out i wr => ExA w w.heap.size toks dict g out i wr)
  case atStart =>
    refine ⟨0, nd, c2', b2, Nat.zero_le _, by rw [HA.out.1], rfl, rfl, ?_, HA.out.2.2.2.2.2.2.2.1, HA.out.2.2.2.2.2.2.2.2.1⟩
    exact HA.out.2.1
  case round =>
    obtain ⟨k, m, c, b, hk, hg, rfl, rfl, hm, hown, hf⟩ := hrel
    obtain ⟨hn, hnd, ht, htl, hok, hd, hdl, _, _, hsz⟩ := HA.out
    have hml : m = nd + toksSize (toks.take k) := by rw [hm, toksRun_len, hnd]
    have hmle : m ≤ 2147561047 := by have := toksSize_take (l := toks) k; omega
    have c3 : (m : Int) ≤ 2147561047 := by omega
    by_cases hlt : k < n
    · have hkl : k < toks.length := by rw [← hn]; exact hlt
      obtain ⟨g', htb, t0, t1, t2⟩ := (ht.keep hf (fun _ _ e => e)).cells k hkl
      subst htb
      obtain ⟨t, htt⟩ : ∃ t, t = toks[k] := ⟨_, rfl⟩
      rw [← htt] at t0 t1 t2
      have hts : toks[k]? = some t := by rw [htt]; exact List.getElem?_eq_getElem hkl
      have htok := toksOk_at hok hts
      rw [← hnd, ← hml] at htok
      have htake : toksRun dict (toks.take (k + 1)) = t.run (toksRun dict (toks.take k)) := by rw [List.take_add_one, hts]; exact toksRun_snoc _ _ _
      obtain ⟨H, hH⟩ : ∃ H, H = toksRun dict (toks.take k) := ⟨_, rfl⟩
      rw [← hH] at hm hown htake
      have HR := Lib.hid (And.intro hg (And.intro hm (And.intro hown (And.intro hf (And.intro htok (And.intro htake hkl))))))
      clear hn hnd ht htl hok hd hdl hsz hg hm hown hf htok htake hkl htt hts hk hml hmle hH
      cases t with
      | lit cc =>
        obtain ⟨hg, hm, hown, hf, htok, htake, hkl⟩ := HR.out
        obtain ⟨cn, hcn⟩ : ∃ cn, cn = cc.toNat := ⟨_, rfl⟩
        have u0 : wr.cell? ⟨g', k * 3, none⟩ = some (.int .i64 (cn : Int)) := by rw [hcn]; exact t0
        have u1 : wr.cell? ⟨g', k * 3 + 1, none⟩ = some (.int .i64 0) := t1
        have u2 : wr.cell? ⟨g', k * 3 + 2, none⟩ = some (.int .i64 0) := t2
        have hcl := cc.toNat_lt
        have c4 : (cn : Int) ≤ 255 := by omega
        obtain ⟨W3, hW3⟩ : ∃ W3, W3 = wr.alloc (.cells #[.int .i64 (cn : Int), .int .i64 0, .int .i64 0] 87) := ⟨_, rfl⟩
        have hf3 : Frm (fun _ _ => False) wr W3 := by rw [hW3]; exact (Frm.refl _ _).alloc _
        obtain ⟨B, hB⟩ : ∃ B, B = wr.heap.size := ⟨_, rfl⟩
        have v0 : W3.cell? ⟨B, 0, none⟩ = some (.int .i64 (cn : Int)) := by rw [hW3, hB]; exact (cells_at (heap_alloc_new wr _)).trans rfl
        have v1 : W3.cell? ⟨B, 1, none⟩ = some (.int .i64 0) := by rw [hW3, hB]; exact (cells_at (heap_alloc_new wr _)).trans rfl
        have hown3 := hown.keep hf3 (fun _ _ _ e => e)
        obtain ⟨b', c', w4, hrun, hown4, hfr4⟩ := append_one W3 w.heap.size _ _ hown3 cc (by omega) (hf.trans hf3).size
        have hf' := Own.fresh hown3 (hf.trans hf3) (Nat.le_refl _) hfr4
        rw [← hm, ← hcn] at hrun
        have hr : ∀ ty, (Builtin.append_ #[22, 22] ty #[.slice b m c, .slice (some ⟨W3.heap.size, 0, none⟩) 1 1]).run Tryd.prog (W3.alloc (.cells #[.int .u8 (cn : Int)] 5)) = .ok (.slice b' (m + 1) c') w4 := hrun
        obtain ⟨m', hm'⟩ : ∃ m', m' = m + 1 := ⟨_, rfl⟩
        rw [← hm'] at hr
        have hown5 : Own w4 w.heap.size (.slice b' m' c') (H ++ [cc]) := by rw [hm', hm]; exact hown4
        have HX := Lib.hid (And.intro hown5 (And.intro hf' hm'))
        clear hg hm hown hf htok htake hkl t0 t1 t2 hcn hcl hf3 hown3 hrun hown4 hfr4 hf' hown5 hm'
        go_upto_region 5 with (fail)
        rw [← hW3, ← hB]
        clear hW3 hB
        go_wp2_with (at_builtin; refine wpList_append_by (by rfl) (.tmp 20) (.tmp 24) 22 (by rfl) _ _ (by rfl) (by rfl) (hr _) ?_)
        clear hr
        go_roundg (n - (k + 1))
        case measure => have := HR.out.1; have := HA.out.1; omega
        case rel =>
          obtain ⟨hg, hm, hown, hf, htok, htake, hkl⟩ := HR.out
          refine ⟨k + 1, m', c', b', hkl, by rw [HA.out.1], by go_num, rfl, ?_, ?_, HX.out.2.1⟩
          · rw [htake, HX.out.2.2, hm]; simp [Tk.run]
          · rw [htake]; exact HX.out.1
      | cpy f mm =>
        obtain ⟨hg, hm, hown, hf, htok, htake, hkl⟩ := HR.out
        have u0 : wr.cell? ⟨g', k * 3, none⟩ = some (.int .i64 0) := t0
        have u1 : wr.cell? ⟨g', k * 3 + 1, none⟩ = some (.int .i64 (f : Int)) := t1
        have u2 : wr.cell? ⟨g', k * 3 + 2, none⟩ = some (.int .i64 (mm : Int)) := t2
        obtain ⟨f1, f2, f3, m1, m2⟩ := htok
        have d0 : ((f : Int) == 0) = false := by simp; omega
        have c4 : (mm : Int) ≤ 258 := by omega
        have c5 : (f : Int) ≤ 32768 := by omega
        obtain ⟨W3, hW3⟩ : ∃ W3, W3 = wr.alloc (.cells #[.int .i64 0, .int .i64 (f : Int), .int .i64 (mm : Int)] 87) := ⟨_, rfl⟩
        have hf3 : Frm (fun _ _ => False) wr W3 := by rw [hW3]; exact (Frm.refl _ _).alloc _
        obtain ⟨B, hB⟩ : ∃ B, B = wr.heap.size := ⟨_, rfl⟩
        have v1 : W3.cell? ⟨B, 1, none⟩ = some (.int .i64 (f : Int)) := by rw [hW3, hB]; exact (cells_at (heap_alloc_new wr _)).trans rfl
        have v2 : W3.cell? ⟨B, 2, none⟩ = some (.int .i64 (mm : Int)) := by rw [hW3, hB]; exact (cells_at (heap_alloc_new wr _)).trans rfl
        have hown3 := hown.keep hf3 (fun _ _ _ e => e)
        have HX := Lib.hid (And.intro hown3 (And.intro (hf.trans hf3) v1))
        have HFF := Lib.hid (And.intro f1 (And.intro f2 (And.intro f3 (And.intro m1 m2))))
        clear hg hm hown hf htake hkl t0 t1 t2 hf3 hown3 f1 f2 f3 m1 m2
        go_upto_region 7 with (fail)
        rw [← hW3, ← hB]
        clear hW3 hB
        go_wp2_with fail
        go_loopg [5, 28] mm (fun g out i wq => ExB w w.heap.size B H f mm g out i wq)
        case atStart => exact ⟨0, m, c, b, Nat.zero_le _, rfl, rfl, rfl, by rw [HR.out.2.1]; rfl, by rw [lz_zero]; exact HX.out.1, HX.out.2.2, HX.out.2.1⟩
        case round =>
          obtain ⟨j, m', c', b', hj, hgj, rfl, rfl, hm', hownj, v1j, hfj⟩ := hrel
          by_cases hltj : j < mm
          · obtain ⟨f1, f2, f3, m1, m2⟩ := HFF.out
            have hmH := HR.out.2.1
            obtain ⟨ix, hix⟩ : ∃ ix, ix = m' - f := ⟨_, rfl⟩
            have e1 : (m' : Int) - (f : Int) = (ix : Int) := by omega
            have hll : (lz H f j).length = m' := by rw [lz_length, hm']
            have hixl : ix < (lz H f j).length := by omega
            obtain ⟨gg, cp, hv, _, _, _, hcell, _⟩ := Row.at hownj hixl
            have hb' : b' = some ⟨gg, 0, none⟩ := by injection hv
            subst hb'
            simp only [List.getElem_map] at hcell
            obtain ⟨x, hx⟩ : ∃ x, x = (lz H f j)[ix] := ⟨_, rfl⟩
            rw [← hx] at hcell
            obtain ⟨xn, hxn⟩ : ∃ xn, xn = x.toNat := ⟨_, rfl⟩
            replace hcell : wr.cell? ⟨gg, ix, none⟩ = some (.int .u8 (xn : Int)) := by rw [hxn]; exact hcell
            have hidx : ix < m' := by omega
            have c6 : (m' : Int) ≤ 2147561047 + 258 := by omega
            obtain ⟨b2', c2'', w4, hrun, hown4, hfr4⟩ := append_one wr w.heap.size _ _ hownj x (by omega) hfj.size
            have hf' := Own.fresh hownj hfj (Nat.le_refl _) hfr4
            have v14 : w4.cell? ⟨B, 1, none⟩ = some (.int .i64 (f : Int)) := hfr4.keep v1j (fun q => by
              obtain ⟨u, hu⟩ := hownj.kind B q 1 _ v1j
              simp at hu)
            rw [hll, ← hxn] at hrun
            obtain ⟨m'', hm''⟩ : ∃ m'', m'' = m' + 1 := ⟨_, rfl⟩
            rw [← hm''] at hrun
            have hr := fun ty => hrun ty
            have hown5 : Own w4 w.heap.size (.slice b2' m'' c2'') (lz H f (j + 1)) := by
              have e : lz H f (j + 1) = lz H f j ++ [x] := by
                rw [lz_succ H f j f1 (by omega), hx]
                congr 2
                rw [List.getD_eq_getElem?_getD, show H.length + j - f = ix by omega, List.getElem?_eq_getElem hixl]; rfl
              rw [e, hm'', ← hll]; exact hown4
            have HY := Lib.hid (And.intro hown5 (And.intro hf' (And.intro v14 (And.intro hm'' (And.intro hm' hgj)))))
            clear f1 f2 f3 m1 m2 hmH hix hll hixl hv hx hxn hrun hown4 hfr4 hf' v14 hm'' hown5 hm' hgj hownj hfj hj
            go_wp2_with (at_builtin; refine wpList_append_by (by rfl) (.tmp 30) (.tmp 39) 22 (by rfl) _ _ (by rfl) (by rfl) (hr _) ?_)
            clear hr
            go_roundg (mm - (j + 1))
            case measure => have := HY.out.2.2.2.2.2; omega
            case rel =>
              obtain ⟨hown5, hf', v14, hm'', hm', hgj⟩ := HY.out
              exact ⟨j + 1, m'', c2'', b2', hltj, rfl, by go_num, rfl, by omega, hown5, v14, hf'⟩
          · obtain rfl : j = mm := by omega
            have HY := Lib.hid (And.intro hm' (And.intro hownj hfj))
            have hd : decide (j < j) = false := by simp
            clear hm' hownj hfj hgj hltj v1j hj
            go_wp2_with fail
            go_roundg (n - (k + 1))
            case measure => have := HR.out.1; have := HA.out.1; omega
            case rel =>
              obtain ⟨hg, hm, hown, hf, htok, htake, hkl⟩ := HR.out
              obtain ⟨hm', hownj, hfj⟩ := HY.out
              refine ⟨k + 1, m', c', b', hkl, by rw [HA.out.1], by go_num, rfl, ?_, ?_, hfj⟩
              · rw [htake, hm']; simp [Tk.run, lz_length]
              · rw [htake]; exact hownj
    · obtain rfl : k = n := by omega
      have hall : toksRun dict (toks.take k) = toksRun dict toks := by rw [hn, List.take_length]
      rw [hall] at hm hown
      obtain ⟨X, hX⟩ := toksRun_pre dict toks
      obtain ⟨b1, c1', hv1, hbt⟩ := hown.bt
      have hbb : b1 = b := by injection hv1 with q1 q2 q3; exact q1.symm
      have hcc : c1' = c := by injection hv1 with q1 q2 q3; exact q3.symm
      subst hbb hcc
      obtain ⟨b3, hsl, hb3⟩ := run_tailB hbt nd (by rw [← hm]; omega)
      rw [← hm] at hsl
      have hdr : (toksRun dict toks).drop nd = X := by rw [hX, hnd, List.drop_left]
      rw [hdr] at hb3
      have hXl : X.length = m - nd := by rw [hm, hX, List.length_append, hnd]; omega
      obtain ⟨mx, hmx⟩ : ∃ mx, mx = m - nd := ⟨_, rfl⟩
      rw [← hmx] at hsl hXl
      have hX77 : X.length ≤ 77400 := by have := toksSize_take (l := toks) k; omega
      have HR := Lib.hid (And.intro hX (And.intro hb3 (And.intro hXl (And.intro hX77 hf))))
      have hd2 : decide (k < k) = false := by simp
      clear hn hnd ht htl hok hd hdl hsz hm hown hf hg hk hml hmle hlt hall hX hbt hdr hXl hX77 hmx hb3 hv1
      go_wp2_with fail
      go_ret
      obtain ⟨hX, hb3, hXl, hX77, hf⟩ := HR.out
      subst hXl
      exact ⟨X, b3, _, rfl, hb3, hX, hX77, hf⟩

end Go.Proofs.YthfncdfcklbigaaDoor

/-
  'laws.FnFixedBlock', walked: a block with the fixed codes is read as what its tokens stand for.
-/
namespace Go.Proofs.YthfncdfcklbigaaDoor
open Go.RowKit Go.IntWalk Flate
set_option maxRecDepth 100000

theorem infl_fixed {dict X : List UInt8} {toks : List Tk} (hok : toksOk dict.length toks) (hX : toksRun dict toks = dict ++ X) :
    Infl (pack ([true] ++ enc 1 2 ++ bodyBits fixedLens fixedDist toks)) dict .eof (pack ([true] ++ enc 1 2 ++ bodyBits fixedLens fixedDist toks)).length X := by
  have hd : Flate.Data (lastOf dict) ([true] ++ enc 1 2 ++ bodyBits fixedLens fixedDist toks) (lastOf dict ++ X) := by
    refine ⟨[], lastOf dict, _, rfl, .nil, ?_⟩
    rw [← toksRun_last hok hX]
    exact Blk.fixed (toksOk_last hok)
  have := data_infl hd []
  rwa [List.append_nil] at this

theorem body_len {ll dl : List Nat} (h1 : ∀ n ∈ ll, n ≤ 15) (h2 : ∀ n ∈ dl, n ≤ 15) {l : List Tk} (h : ∀ t ∈ l, TokIn ll dl t) : (bodyBits ll dl l).length ≤ 48 * l.length + 15 := by
  have a := flat_len h1 h2 h
  have b := getD_le (i := 256) h1
  unfold bodyBits
  rw [List.length_append, code_len]; omega

set_option maxHeartbeats 1000000 in
theorem fnFixedBlock_any (w : World) (C : Nat) (p : Ps) (he : Env w C p) (tb : Option Addr) (l : List (Int × Int × Int)) (tc : Nat) (ht : Tin w tb l tc) (db : Option Addr) (dict : List UInt8) (dc : Nat) (hd : Bt w db dict dc) :
    Calls Tryd.prog 9 #[.slice tb l.length tc, .slice db dict.length dc] w fun e w' => e = .returned (.bool true) ∧ Frm (fun _ _ => False) w w' := by
  have HE := Lib.hid he
  have HT := Lib.hid ht
  have HD := Lib.hid hd
  have hfit := fit_any w tb l tc ht
  clear he ht hd
  obtain ⟨n1, hn1⟩ : ∃ n1, n1 = l.length := ⟨_, rfl⟩
  obtain ⟨n2, hn2⟩ : ∃ n2, n2 = dict.length := ⟨_, rfl⟩
  rw [← hn1] at hfit
  rw [← hn1, ← hn2]
  have HN := Lib.hid (And.intro hn1 hn2)
  clear hn1 hn2
  go_enter Tryd.func9, Tryd.ntmps9
  by_cases h1 : 2147483647 < n1
  · have t1 : decide ((2147483647 : Int) < (n1 : Int)) = true := by simp; omega
    clear h1 hfit
    go_wp2_with fail
    go_ret
    exact ⟨rfl, Frm.refl _ _⟩
  · have t1 : decide ((2147483647 : Int) < (n1 : Int)) = false := by simp; omega
    by_cases h2 : 2147483647 < n2
    · have t2 : decide ((2147483647 : Int) < (n2 : Int)) = true := by simp; omega
      clear h1 h2 hfit
      go_wp2_with fail
      go_ret
      exact ⟨rfl, Frm.refl _ _⟩
    · have t2 : decide ((2147483647 : Int) < (n2 : Int)) = false := by simp; omega
      have HF := Lib.hid (hfit (by omega) n2 (by omega))
      have H2 := Lib.hid h2
      clear h1 h2 hfit
      go_wp2_with fail
      refine HF.out.mono ?_
      rintro e w1 ⟨v1, toks, rfl, hown1, hok, htl, hf1⟩
      have hdl : dict.length ≤ 2147483647 := by have := H2.out; have := HN.out.2; omega
      rw [HN.out.2] at hok
      obtain ⟨b1, cp1, rfl, _, htk, _⟩ := OwnT.tks hown1
      have HFX := Lib.hid (fixedB_any w1 b1 toks cp1 htk htl hok)
      have H1 := Lib.hid (And.intro hf1 (And.intro htk (And.intro htl (And.intro hok hdl))))
      obtain ⟨nt, hnt⟩ : ∃ nt, nt = toks.length := ⟨_, rfl⟩
      rw [← hnt] at HFX ⊢
      have HNT := Lib.hid hnt
      clear hown1 hok htl hf1 htk hdl HF hnt
      go_wp2_with fail
      refine HFX.out.mono ?_
      rintro e w2 ⟨v2, rfl, hown2, hf2⟩
      obtain ⟨hf1, htk, htl, hok, hdl⟩ := H1.out
      have hex := expand_any w2 b1 toks cp1 (htk.keep hf2 (fun _ _ e => e)) htl db dict dc ((HD.out.keep hf1).keep hf2) hdl hok
      rw [← HNT.out, ← HN.out.2] at hex
      have HEX := Lib.hid hex
      have HO2 := Lib.hid (And.intro hown2 hf2)
      clear hex hown2 hf2 hf1 htk htl hok hdl
      go_wp2_with fail
      refine HEX.out.mono ?_
      rintro e w3 ⟨X, b3, c3, rfl, hbt3, hX, hX77, hf3⟩
      obtain ⟨hf1, htk, htl, hok, hdl⟩ := H1.out
      obtain ⟨hown2, hf2⟩ := HO2.out
      obtain ⟨b2, c2, rfl, hbt2⟩ := Own.bt (hown2.keep hf3 (fun _ _ _ e => e))
      have hpl : (pack ([true] ++ enc 1 2 ++ bodyBits fixedLens fixedDist toks)).length ≤ 17179869184 ∧ 0 < (pack ([true] ++ enc 1 2 ++ bodyBits fixedLens fixedDist toks)).length := by
        have := body_len fixedLens_le fixedDist15 (tokIn_fixed hok)
        rw [pack_len]
        simp only [List.length_append, List.length_cons, List.length_nil, enc_len]
        omega
      have hf03 : Frm (fun _ _ => False) w w3 := (hf1.trans hf2).trans hf3
      have hin := inflates_true w3 C p (HE.out.keep hf03 (fun _ _ e => e.elim)) b2 _ c2 hbt2 hpl.1 db dict dc (HD.out.keep hf03) (by omega) true b3 X c3 hbt3 (infl_fixed hok hX) hpl.2
      obtain ⟨np, hnp⟩ : ∃ np, np = (pack ([true] ++ enc 1 2 ++ bodyBits fixedLens fixedDist toks)).length := ⟨_, rfl⟩
      obtain ⟨nx, hnx⟩ : ∃ nx, nx = X.length := ⟨_, rfl⟩
      rw [← hnp, ← hnx, ← HN.out.2] at hin
      rw [← hnp, ← hnx]
      have HIN := Lib.hid hin
      have HF3 := Lib.hid hf03
      clear hf1 htk htl hok hdl hown2 hf2 hbt3 hX hX77 hf3 hbt2 hpl hf03 hin hnp hnx
      go_wp2_with fail
      refine HIN.out.mono ?_
      rintro e w4 ⟨rfl, hf4⟩
      have HF4 := Lib.hid hf4
      clear hf4
      go_wp2_with fail
      go_ret
      exact ⟨rfl, HF3.out.trans HF4.out⟩

end Go.Proofs.YthfncdfcklbigaaDoor

/-
  A SLICE OF TOKENS THAT CAME IN, OPENED.
-/
namespace Go.Proofs.YthfncdfcklbigaaDoor
open Go.RowKit Go.ChangeShapes Go.WideShapes Go.ChangeAt Flate
set_option maxRecDepth 100000

theorem open_tokens {H : Type} {enc : TypeId × Value → H} {W : World} {b0 : Nat} {v : Value} {d : DataW H} {p : List MemPlace} (hval : Value.okWide Tryd.prog W .any b0 38 v) (h : DataW.Trod enc Tryd.prog W 0 (fun _ => true) true 38 v d p) :
    ∃ (b : Option Addr) (l : List (Int × Int × Int)) (cap : Nat), v = .slice b l.length cap ∧ Tin W b l cap ∧ l.length ≤ maxLen := by
  obtain ⟨a1, len, cap, rfl⟩ := okWide_slice Tryd.underlying38 hval
  obtain ⟨fuel, hf⟩ := h
  have ce : Tryd.prog.cellsOf 87 = 3 := by kernel_rfl
  have ci : Tryd.prog.cellsOf 3 = 1 := by kernel_rfl
  rcases Deep.open_slice Tryd.underlying38 hf with ⟨hcs, _⟩ | ⟨a, len', cap', m, n, D, Pl, hcs, _, hl, hm, hmm, _, hx⟩
  · simp [Value.cells] at hcs
    obtain ⟨rfl, rfl, rfl⟩ := hcs
    exact ⟨none, [], 0, rfl, ⟨fun j hj => absurd hj (by simp), Nat.le_refl _, fun _ => rfl⟩, Nat.zero_le _⟩
  · simp [Value.cells] at hcs
    obtain ⟨rfl, rfl, rfl⟩ := hcs
    simp only [if_true] at hmm
    simp only [Value.okWide, Tryd.underlying38, Cell.okWide, Cell.ok] at hval
    obtain ⟨_, _, _, hspot, _⟩ := hval
    have each : ∀ i, i < len → ∃ q : Int × Int × Int, W.cell? (a.add (i * 3)) = some (.int .i64 q.1) ∧ W.cell? (a.add (i * 3 + 1)) = some (.int .i64 q.2.1) ∧ W.cell? (a.add (i * 3 + 2)) = some (.int .i64 q.2.2) := by
      intro i hi
      obtain ⟨cs', h1, h2⟩ := hx i (by omega)
      rw [ce] at h1
      obtain ⟨_, hlen, hcell⟩ := World.cells?_some h1
      obtain ⟨xs, k, hk, hxy, _, hxl, hf'⟩ := DataW.trod_struct Tryd.underlying87 h2
      match xs, hxl, cs', hlen with
      | [y0, y1, y2], _, [v0, v1, v2], _ =>
        have g0 := hf' 0 _ rfl
        have g1 := hf' 1 _ rfl
        have g2 := hf' 2 _ rfl
        simp [ci] at g0 g1 g2
        obtain ⟨n0, q0, _, _⟩ := DataW.trod_int Tryd.underlying3 g0
        obtain ⟨n1, q1, _, _⟩ := DataW.trod_int Tryd.underlying3 g1
        obtain ⟨n2, q2, _, _⟩ := DataW.trod_int Tryd.underlying3 g2
        have e0 := hcell 0 (by omega)
        have e1 := hcell 1 (by omega)
        have e2 := hcell 2 (by omega)
        rw [Deep.add_add] at e0 e1 e2
        simp at e0 e1 e2 q0 q1 q2
        subst q0 q1 q2
        exact ⟨(n0, n1, n2), e0, e1, e2⟩
    obtain ⟨S, hS⟩ := @Deep.choose_lt (Int × Int × Int) ⟨(0, 0, 0)⟩ len (fun i q => W.cell? (a.add (i * 3)) = some (.int .i64 q.1) ∧ W.cell? (a.add (i * 3 + 1)) = some (.int .i64 q.2.1) ∧ W.cell? (a.add (i * 3 + 2)) = some (.int .i64 q.2.2)) each
    have hlen : ((List.range len).map S).length = len := by simp
    obtain ⟨ab, ao, sp⟩ := a
    simp only at hspot
    subst hspot
    refine ⟨some ⟨ab, ao, none⟩, (List.range len).map S, cap, by rw [hlen], ⟨fun j hj => ⟨ab, ao, rfl, ?_⟩, by rw [hlen]; exact hl, fun h => by simp at h⟩, by rw [hlen]; omega⟩
    rw [hlen] at hj
    obtain ⟨q0, q1, q2⟩ := hS j hj
    rw [Addr.add_lit] at q0 q1 q2
    simp only [List.getElem_map, List.getElem_range]
    exact ⟨q0, by rw [Nat.add_assoc]; exact q1, by rw [Nat.add_assoc]; exact q2⟩

end Go.Proofs.YthfncdfcklbigaaDoor
