/-
  THE WALKS OF READING BYTES: '(*bytes.Reader).Read', 'io.ReadFull'.
-/
import Derived.Test.YthfncdfcklbigaaDoorWin
import Derived.Deep.DeepCutAuto
import Derived.Deep.RegionWith
set_option linter.unusedVariables false
set_option linter.unusedSimpArgs false
namespace Go.Proofs.YthfncdfcklbigaaDoor
open Go.RowKit Flate
set_option maxRecDepth 100000
attribute [local go_sem] meth_Read

/-- A reader of bytes has laid the next k bytes at place xo of block X. -/
def ReadPost (w : World) (R : Nat) (base : Option Addr) (src : List UInt8) (pos X xo k : Nat) (w' : World) : Prop :=
  Src w' R base src (pos + k) ∧ Frm (fun b o => b = R ∨ b = X ∧ xo ≤ o ∧ o < xo + k) w w' ∧ ∀ j, j < k → w'.cell? ⟨X, xo + j, none⟩ = some (.int .u8 ((src.getD (pos + j) 0).toNat : Int))

set_option maxHeartbeats 1000000 in
theorem read_some (w : World) (R : Nat) (sb so : Nat) (src : List UInt8) (pos X xo n cap k : Nat) (h : Src w R (some ⟨sb, so, none⟩) src pos) (hp : pos < src.length) (hk : k = Nat.min (src.length - pos) n) (hXR : X ≠ R) (hXS : X ≠ sb)
    (hc : ∀ j, j < n → (w.cell? ⟨X, xo + j, none⟩).isSome = true) (hf : ∀ j, j < n → w.frozen? ⟨X, xo + j, none⟩ = false) :
    Calls Tryd.prog 121 #[.pointer (some ⟨R, 0, none⟩), .slice (some ⟨X, xo, none⟩) n cap] w fun e w' =>
      e = .returned (.tuple #[.int .i64 (k : Int), .nilIface]) ∧ ReadPost w R (some ⟨sb, so, none⟩) src pos X xo k w' := by
  have hkn : k ≤ n := by rw [hk]; exact Nat.min_le_right _ _
  have hks : k ≤ src.length - pos := by rw [hk]; exact Nat.min_le_left _ _
  have h' := h
  obtain ⟨⟨scap, off, N, Q, hNN, hQQ, hs, hcap, hi, hB, hN2⟩, ⟨v, hv⟩, hfr, hle, hfew, hne⟩ := h
  have hNQ : N - Q = src.length - pos := by omega
  have hn := hne _ rfl
  simp only at hn
  obtain ⟨w1, hw1⟩ : ∃ w1, w1 = w.setCell ⟨R, 2, none⟩ (.int .i64 (-1)) := ⟨_, rfl⟩
  have hF1 : Frm (fun b _ => b = R) w w1 := by rw [hw1]; (repeat (first | exact Frm.refl _ _ | refine Frm.drewN ?_ _ | refine Frm.drew ?_ | refine Frm.alloc ?_ _ | refine Frm.setCell ?_ (by simp) _))
  have hXlt : ∀ j, j < n → X < w.heap.size := fun j hj => by obtain ⟨u, hu⟩ := Option.isSome_iff_exists.1 (hc j hj); exact cell_lt hu
  -- the copy
  have hcopy : ∃ w2, (∀ m ty, (Builtin.copy_ #[22, 22] ty #[.slice (some ⟨X, xo, none⟩) n cap, .slice (some ⟨sb, so + Q, none⟩) (N - Q) (scap - Q)]).run Tryd.prog (w1.drewN m) = .ok (.int .i64 (k : Int)) (w2.drewN m)) ∧
      Frm (fun x y => x = X ∧ xo ≤ y ∧ y < xo + k) w1 w2 ∧ ∀ j, j < k → w2.cell? ⟨X, xo + j, none⟩ = some (.int .u8 ((src.getD (pos + j) 0).toNat : Int)) := by
    refine copy_bytes w1 X xo n cap ⟨sb, so + Q, none⟩ (N - Q) (scap - Q) k (fun j => src.getD (pos + j) 0) (by rw [hNQ]; exact hk) (fun j hj => ?_) (fun j hj => ?_) (fun j hj => ?_)
    · have e : (⟨sb, so + Q, none⟩ : Addr).add j = ⟨sb, so + (off + (pos + j)), none⟩ := by rw [Addr.add_lit, hQQ]; simp only [Nat.add_assoc]
      rw [e]
      have := hB.2 (pos + j) (by omega)
      refine hF1.keep (this.trans ?_) hn
      simp [List.getD_eq_getElem?_getD, List.getElem?_eq_getElem (show pos + j < src.length by omega)]
    · exact (hF1.live _ _ (hXlt j (by omega))).trans (hc j (by omega))
    · exact (hF1.froz _ _ (hXlt j (by omega))).trans (hf j (by omega))
  obtain ⟨w2, hrun, hF2, hcells⟩ := hcopy
  have HB := Lib.hid hB
  have HN := Lib.hid hne
  have f1 := hfr 1
  have f2 := hfr 2
  have h1 : (Q : Int) < (N : Int) := by omega
  have h2 : (Q : Int) ≤ (N : Int) := by omega
  have h3 : Q ≤ N := by omega
  have h4 : ¬ scap = Q := by omega
  have h5 : (k : Int) ≤ 1099511627776 := by omega
  have h6 : (Q : Int) ≤ 1099511627776 := by omega
  have h7 : (N : Int) ≤ 1099511627776 := by omega
  have hd : decide (N ≤ Q) = false := by simp; omega
  have HQ := Lib.hid (And.intro hNN (And.intro hQQ hN2))
  clear hNQ hNN hQQ hN2
  have HK := Lib.hid hk
  clear hle hB hne hk hkn
  go_enter Tryd.func121, Tryd.ntmps121
  go_wp2_with fail
  (go_quiet (fail))
  go_upto_region 4 with (fail)
  (refine region_tail 10 (by kernel_rfl) (by kernel_rfl) ?_; simp only [List.take_succ_cons, List.take_zero, List.drop_succ_cons, List.drop_zero]; (repeat still_step); refine wpStill_nil ?_)
  have hrun' : ∀ m ty, (Builtin.copy_ #[22, 22] ty #[.slice (some ⟨X, xo, none⟩) n cap, .slice (some ⟨sb, so + Q, none⟩) (N - Q) (scap - Q)]).run Tryd.prog (w1.drewN m).drew = .ok (.int .i64 (k : Int)) (w2.drewN m).drew := fun m ty => hrun (m + 1) ty
  rw [hw1] at hrun'
  refine wpList_copy_run (by rfl) _ _ _ _ (by rfl) (by rfl) (by rfl) (hrun' _) ?_
  have hRX : ¬ (R = X ∧ xo ≤ 1 ∧ 1 < xo + k) := fun e => hXR e.1.symm
  have c1 : w2.cell? ⟨R, 1, none⟩ = some (.int .i64 (Q : Int)) := hF2.keep (by rw [hw1]; exact (cell_set_off (by decide)).trans hi) hRX
  have g1 : w2.frozen? ⟨R, 1, none⟩ = false := (hF2.froz R 1 (Nat.lt_of_lt_of_le (cell_lt hi) hF1.size)).trans ((hF1.froz R 1 (cell_lt hi)).trans f1)
  have hS1 : Src w1 R (some ⟨sb, so, none⟩) src pos := ⟨⟨scap, off, N, Q, HQ.out.1, HQ.out.2.1, by rw [hw1]; exact (cell_set_off (by decide)).trans hs, hcap, by rw [hw1]; exact (cell_set_off (by decide)).trans hi,
    HB.out.keep hF1 (fun a ha _ _ x => HN.out a ha x), HQ.out.2.2⟩, ⟨.int .i64 (-1), by rw [hw1]; exact set_get hv⟩, fun o => by rw [hw1, World.frozen?_setCell]; exact hfr o, by omega, hfew, HN.out⟩
  have hS2 : Src w2 R (some ⟨sb, so, none⟩) src pos := hS1.keep hF2 (fun o e => hXR e.1.symm) (fun a ha j _ e => hXS (by injection ha with ha; rw [← ha] at e; exact e.1.symm))
  have HR := Lib.hid hrun
  clear hrun hrun' hs hi hv f1 f2 hfr hRX hS1
  go_wp2_with fail
  go_ret2
  refine ⟨rfl, ?_, ?_, fun j hj => ?_⟩
  · refine (hS2.drewN _).step (q := pos + k) (fun Q' off' g1 g2 => ?_) (by omega)
    have g3 := Option.some.inj (g2.symm.trans c1)
    injection g3 with _ g4
    omega
  · have hF3 : Frm (fun b o => b = R ∨ b = X ∧ xo ≤ o ∧ o < xo + k) w w2 := (hF1.mono fun b o e => .inl e).trans (hF2.mono fun b o e => .inr e)
    (repeat (first | exact hF3 | refine Frm.drewN ?_ _ | refine Frm.drew ?_ | refine Frm.alloc ?_ _ | refine Frm.setCell ?_ (by simp) _))
  · exact (cell_set_ne (.inl hXR)).trans (hcells j hj)

set_option maxHeartbeats 1000000 in
theorem read_end (w : World) (R : Nat) (base : Option Addr) (src : List UInt8) (v : Value) (B : Nat) (p : Ps) (h : Src w R base src src.length) (he : Env w B p) :
    Calls Tryd.prog 121 #[.pointer (some ⟨R, 0, none⟩), v] w fun e w' => e = .returned (.tuple #[.int .i64 0, errAt p.E]) ∧ ∃ n, w' = w.drewN n := by
  obtain ⟨⟨cap, off, N, Q, hNN, hQQ, hs, hcap, hi, hB, hN2⟩, ⟨u, hv⟩, hfr, hle, hfew, hne⟩ := h
  have hNQ : Q = N := by omega
  subst hNQ
  have hg := he.eof
  have h2 : (Q : Int) ≤ 1099511627776 := by omega
  clear hle hB hne he hv hfr hcap hNN hQQ hN2
  have hd : decide (Q ≤ Q) = true := by simp
  go_enter Tryd.func121, Tryd.ntmps121
  go_wp2_with fail
  (go_quiet (fail))
  go_wp2_with fail
  (go_quiet (fail))
  go_wp2_with fail
  go_ret2
  exact ⟨rfl, _, by rw [World.drewN_drewN]⟩

theorem ahead_Read (n : Nat) (a : Addr) (w : World) : (nilAhead (n + 1) 55 (.pointer (some a)) "Read").run Tryd.prog w = .ok (some false) w := by kernel_rfl
attribute [local go_sem] ahead_Read

/-- What 'ReadAtLeast' gives where it asks for n bytes. -/
def FullPost (p : Ps) (w : World) (R : Nat) (base : Option Addr) (src : List UInt8) (pos X xo n : Nat) (e : Ending) (w' : World) : Prop :=
  ∃ k : Nat, k = Nat.min (src.length - pos) n ∧ e = .returned (.tuple #[.int .i64 (k : Int), if k = n then .nilIface else if k = 0 then errAt p.E else errAt p.U]) ∧ ReadPost w R base src pos X xo k w'

/-- A round of 'ReadAtLeast'. -/
def RAInv (p : Ps) (w : World) (R : Nat) (base : Option Addr) (src : List UInt8) (pos X xo n : Nat) (nv ev : Value) (wr : World) : Prop :=
  ∃ k : Nat, nv = .int .i64 (k : Int) ∧ ReadPost w R base src pos X xo k wr ∧ ((ev = .nilIface ∧ k = 0) ∨ (ev = .nilIface ∧ 1 ≤ k ∧ k = Nat.min (src.length - pos) n) ∨ (ev = errAt p.E ∧ k = Nat.min (src.length - pos) n ∧ k < n))

def raMu : Value → Value → Nat
  | n, .nilIface => if intOf n = 0 then 2 else 1
  | _, _ => 0

theorem ReadPost.zero {w : World} {R : Nat} {base : Option Addr} {src : List UInt8} {pos : Nat} (h : Src w R base src pos) (X xo : Nat) : ReadPost w R base src pos X xo 0 w := ⟨h, Frm.refl _ _, fun j hj => absurd hj (by omega)⟩

theorem min_cases (a b : Nat) : Nat.min a b ≤ a ∧ Nat.min a b ≤ b ∧ (Nat.min a b = a ∨ Nat.min a b = b) := by
  rcases Nat.le_total a b with h | h
  · rw [show Nat.min a b = a from Nat.min_eq_left h]; omega
  · rw [show Nat.min a b = b from Nat.min_eq_right h]; omega

theorem ReadPost.drewN {w wr : World} {R : Nat} {base : Option Addr} {src : List UInt8} {pos X xo k : Nat} (h : ReadPost w R base src pos X xo k wr) (n : Nat) : ReadPost w R base src pos X xo k (wr.drewN n) := ⟨h.1.drewN n, h.2.1.drewN n, h.2.2⟩

theorem ReadPost.then {w wr w1 : World} {R : Nat} {base : Option Addr} {src : List UInt8} {pos X xo k k1 : Nat} (h : ReadPost w R base src pos X xo k wr) (h1 : ReadPost wr.drew R base src (pos + k) X (xo + k) k1 w1) (hXR : X ≠ R) : ReadPost w R base src pos X xo (k + k1) w1 := by
  obtain ⟨a1, a2, a3⟩ := h
  obtain ⟨b1, b2, b3⟩ := h1
  refine ⟨by rw [← Nat.add_assoc]; exact b1, ?_, fun j hj => ?_⟩
  · have f1 : Frm (fun b o => b = R ∨ b = X ∧ xo ≤ o ∧ o < xo + (k + k1)) w wr := a2.mono fun b o e => e.elim Or.inl (fun e => .inr ⟨e.1, e.2.1, by omega⟩)
    have f2 : Frm (fun b o => b = R ∨ b = X ∧ xo ≤ o ∧ o < xo + (k + k1)) wr.drew w1 := b2.mono fun b o e => e.elim Or.inl (fun e => .inr ⟨e.1, by omega, by omega⟩)
    exact f1.drew.trans f2
  · by_cases hjk : j < k
    · have := a3 j hjk
      exact b2.keep (w := wr.drew) this (fun e => e.elim hXR (fun e => by omega))
    · have := b3 (j - k) (by omega)
      rw [show xo + k + (j - k) = xo + j by omega, show pos + k + (j - k) = pos + j by omega] at this
      exact this

set_option maxHeartbeats 2000000 in
theorem readAtLeast_any (w : World) (R : Nat) (base : Option Addr) (src : List UInt8) (pos X xo n cap B : Nat) (p : Ps) (h : Src w R base src pos) (he : Env w B p) (hRB : B ≤ R) (hXB : B ≤ X) (hn : 1 ≤ n) (hn2 : n ≤ 32768) (hcap : n ≤ cap)
    (hXR : X ≠ R) (hXS : ∀ a, base = some a → X ≠ a.block) (hc : ∀ j, j < n → (w.cell? ⟨X, xo + j, none⟩).isSome = true) (hf : ∀ j, j < n → w.frozen? ⟨X, xo + j, none⟩ = false) :
    Calls Tryd.prog 99 #[.iface 55 (.pointer (some ⟨R, 0, none⟩)), .slice (some ⟨X, xo, none⟩) n cap, .int .i64 (n : Int)] w (FullPost p w R base src pos X xo n) := by
  have b1 : (n : Int) ≤ 32768 := by omega
  have b2 : (1 : Int) ≤ (n : Int) := by omega
  go_enter Tryd.func99, Tryd.ntmps99
  go_wp2_with fail
  go_loopw [6, 7] (fun nv ev wr => RAInv p w R base src pos X xo n nv ev wr) (fun nv ev _ => raMu nv ev)
  case atStart => exact ⟨0, rfl, ReadPost.zero h X xo, .inl ⟨rfl, rfl⟩⟩
  case round =>
    obtain ⟨k, rfl, hP, hs⟩ := hrel
    obtain ⟨m1, m2, m3⟩ := min_cases (src.length - pos) n
    have hXlt : X < w.heap.size := by obtain ⟨u, hu⟩ := Option.isSome_iff_exists.1 (hc 0 (by omega)); exact cell_lt hu
    have hkn : k ≤ n := by omega
    have hle := hP.1.le
    have he' : Env wr B p := he.keep hP.2.1 (fun b o e => by omega)
    have HM := Lib.hid m3
    have HS := Lib.hid hs
    have HP := Lib.hid hP
    have HE := Lib.hid he'
    by_cases hlt : k < n
    · by_cases hend : u7 = .nilIface
      · subst hend
        have e1 : (k : Int) < (n : Int) := by omega
        have e2 : (k : Int) ≤ (n : Int) := by omega
        have e3 : k ≤ n := by omega
        have e4 : ¬ cap = k := by omega
        have e5 : (k : Int) ≤ 32768 := by omega
        have hcS : ∀ j, j < n - k → (wr.cell? ⟨X, xo + k + j, none⟩).isSome = true := fun j hj => by
          rw [hP.2.1.live X _ hXlt]; have := hc (k + j) (by omega); rwa [show xo + (k + j) = xo + k + j by omega] at this
        have hfS : ∀ j, j < n - k → wr.frozen? ⟨X, xo + k + j, none⟩ = false := fun j hj => by
          rw [hP.2.1.froz X _ hXlt]; have := hf (k + j) (by omega); rwa [show xo + (k + j) = xo + k + j by omega] at this
        have HC := Lib.hid hcS
        have HF := Lib.hid hfS
        clear hs hcS hfS hP he' m3
        by_cases hp : pos + k < src.length
        · obtain ⟨sb, so, hb⟩ := HP.out.1.at_some hp
          subst hb
          obtain ⟨k1, hk1⟩ : ∃ k1, k1 = Nat.min (src.length - (pos + k)) (n - k) := ⟨_, rfl⟩
          obtain ⟨q1, q2, q3⟩ := min_cases (src.length - (pos + k)) (n - k)
          rw [← hk1] at q1 q2 q3
          have HRd := Lib.hid (read_some wr.drew R sb so src (pos + k) X (xo + k) (n - k) (cap - k) k1 HP.out.1.drew hp hk1 hXR (hXS _ rfl) HC.out HF.out)
          have HQ := Lib.hid q3
          have HK := Lib.hid hk1
          have q4 : (k1 : Int) ≤ 32768 := by omega
          clear q3 hk1
          go_upto_region 5 with (fail)
          go_region_with (go_at_call 121; refine HRd.out.mono ?_; rintro e w1 ⟨rfl, hP1⟩)
          have HP1 := Lib.hid (HP.out.then hP1 hXR)
          clear hP1
          go_wp2_with fail
          go_roundw
          case rel => exact ⟨k + k1, rfl, HP1.out, .inr (.inl ⟨rfl, by have := HQ.out; omega, by have := HQ.out; have := HM.out; have := HS.out; simp at this; omega⟩)⟩
          case measure =>
            have hk0 : k = 0 := by have q2 := HM.out; have q1 := HS.out; simp at q1; omega
            have hk2 : 1 ≤ k1 := by have := HQ.out; omega
            subst hk0
            show raMu (.int .i64 (((0 : Nat) : Int) + (k1 : Int))) .nilIface < raMu (.int .i64 ((0 : Nat) : Int)) .nilIface
            unfold raMu intOf
            simp only
            rw [if_neg (by omega), if_pos (by omega)]; omega
        · have hpe : pos + k = src.length := by omega
          have HRd := Lib.hid (read_end wr.drew R base src (.slice (some ⟨X, xo + k, none⟩) (n - k) (cap - k)) B p (by have := HP.out.1.drew; rwa [hpe] at this) (HE.out.keep (S := fun _ _ => False) (Frm.drew (Frm.refl _ _)) (fun _ _ e => e.elim)))
          have HPE := Lib.hid hpe
          clear hpe
          go_upto_region 5 with (fail)
          go_region_with (go_at_call 121; refine HRd.out.mono ?_; rintro e w1 ⟨rfl, m, rfl⟩)
          go_wp2_with fail
          go_roundw
          case rel => exact ⟨k, rfl, HP.out.drewN (1 + m), .inr (.inr ⟨rfl, by have := HPE.out; have := HM.out; omega, hlt⟩)⟩
          case measure =>
            show 0 < raMu (.int .i64 (k : Int)) .nilIface
            unfold raMu; simp only; split <;> omega
      · have hs3 : u7 = errAt p.E ∧ k = Nat.min (src.length - pos) n := hs.elim (fun e => absurd e.1 hend) (fun e => e.elim (fun e => absurd e.1 hend) (fun e => ⟨e.1, e.2.1⟩))
        obtain ⟨rfl, hk⟩ := hs3
        have HK := Lib.hid hk
        have e1 : (k : Int) < (n : Int) := by omega
        have e6 : ¬ (n : Int) ≤ (k : Int) := by omega
        have cE := he'.eof
        have cU := he'.unx
        have hq := eql_same p.E wr
        clear hs hk hP he' m3
        by_cases h0 : k = 0
        · subst h0
          go_wp2_with fail
          go_ret2
          exact ⟨0, HK.out, by rw [if_neg (by omega), if_pos rfl]; rfl, HP.out⟩
        · have e7 : (0 : Int) < (k : Int) := by omega
          go_wp2_with fail
          go_ret2
          exact ⟨k, HK.out, by rw [if_neg (by omega), if_neg h0]; rfl, HP.out⟩
    · have hkn2 : k = n := by omega
      have hk : k = Nat.min (src.length - pos) n := by
        rcases hs with e | e | e
        · omega
        · exact e.2.2
        · exact e.2.1
      have e1 : ¬ (k : Int) < (n : Int) := by omega
      have e6 : (n : Int) ≤ (k : Int) := by omega
      have HK := Lib.hid hk
      have HN := Lib.hid hkn2
      clear hs hk hkn2 hP he' m3
      go_wp2_with fail
      go_ret2
      exact ⟨k, HK.out, by rw [if_pos HN.out]; rfl, HP.out⟩

theorem readFull_any (w : World) (R : Nat) (base : Option Addr) (src : List UInt8) (pos X xo n cap B : Nat) (p : Ps) (h : Src w R base src pos) (he : Env w B p) (hRB : B ≤ R) (hXB : B ≤ X) (hn : 1 ≤ n) (hn2 : n ≤ 32768) (hcap : n ≤ cap)
    (hXR : X ≠ R) (hXS : ∀ a, base = some a → X ≠ a.block) (hc : ∀ j, j < n → (w.cell? ⟨X, xo + j, none⟩).isSome = true) (hf : ∀ j, j < n → w.frozen? ⟨X, xo + j, none⟩ = false) :
    Calls Tryd.prog 80 #[.iface 55 (.pointer (some ⟨R, 0, none⟩)), .slice (some ⟨X, xo, none⟩) n cap] w (FullPost p w R base src pos X xo n) := by
  go_enter Tryd.func80, Tryd.ntmps80
  go_wp2_with fail
  refine (readAtLeast_any w R base src pos X xo n cap B p h he hRB hXB hn hn2 hcap hXR hXS hc hf).mono ?_
  rintro e w1 ⟨k, hk, rfl, hP⟩
  have HK := Lib.hid hk
  obtain ⟨ev, hev⟩ : ∃ ev : Value, ev = (if k = n then .nilIface else if k = 0 then errAt p.E else errAt p.U) := ⟨_, rfl⟩
  rw [← hev]
  have HEV := Lib.hid hev
  clear hk hev
  go_wp2_with fail
  go_ret2
  exact ⟨k, HK.out, by rw [← HEV.out]; rfl, hP⟩

end Go.Proofs.YthfncdfcklbigaaDoor
