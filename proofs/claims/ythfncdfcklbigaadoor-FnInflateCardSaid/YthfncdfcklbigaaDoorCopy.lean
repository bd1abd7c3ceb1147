/-
  THE WALKS OF THE WINDOW'S COPIES: 'tryWriteCopy', 'writeCopy'.
-/
import Derived.Test.YthfncdfcklbigaaDoorWin
import Derived.Test.YthfncdfcklbigaaDoorHist
set_option linter.unusedVariables false
set_option linter.unusedSimpArgs false
namespace Go.Proofs.YthfncdfcklbigaaDoor
open Go.RowKit Flate
set_option maxRecDepth 100000

/-- The cells that a copy turns. -/
def SW (F HB : Nat) (b o : Nat) : Prop := b = F ∧ o = 1038 ∨ b = HB

/-- In the middle of a copy: m bytes are laid. -/
def CopyInv (w : World) (F : Nat) (d : DS) (H : List UInt8) (D n m0 : Nat) (dp : Value) (wr : World) : Prop :=
  ∃ (m P : Nat) (g : Nat → UInt8), P = d.wr + m ∧ dp = .int .i64 (P : Int) ∧ m0 ≤ m ∧ m ≤ n ∧ ((m - m0) % D = 0 ∨ m = n) ∧ Dec wr F { d with g := g } ∧ WinB g P (lz H D m) ∧ Frm (SW F d.HB) w wr

/-- What a copy gives: n bytes. -/
def CopyPost (w : World) (F : Nat) (d : DS) (H : List UInt8) (D : Nat) (ok : Nat → Prop) (e : Ending) (w' : World) : Prop :=
  ∃ (n : Nat) (g : Nat → UInt8), ok n ∧ e = .returned (.int .i64 (n : Int)) ∧ Dec w' F { d with g := g, wr := d.wr + n } ∧ WinB g (d.wr + n) (lz H D n) ∧ Frm (SW F d.HB) w w'

/-- The round: the built-in copy from place S to place P, up to E. -/
theorem copy_round {w : World} {F : Nat} {d : DS} {H : List UInt8} {D n m0 m P S E : Nat} {g : Nat → UInt8} {wr : World} (hD : Dec wr F { d with g := g }) (hB : WinB g P (lz H D m)) (hF : Frm (SW F d.HB) w wr)
    (h1 : 1 ≤ D) (h2 : D ≤ H.length) (hP : P = d.wr + m) (hE : E = d.wr + n) (hE2 : E ≤ 32768) (hS : S + D = d.wr + m0) (h0 : m0 ≤ m) (hm : m < n) (hdiv : (m - m0) % D = 0) :
    ∃ (k : Nat) (w' : World), 1 ≤ k ∧ P + k ≤ E ∧ (∀ ty, (Builtin.copy_ #[22, 22] ty #[.slice (some ⟨d.HB, P, none⟩) (E - P) (32768 - P), .slice (some ⟨d.HB, S, none⟩) (P - S) (32768 - S)]).run Tryd.prog wr.drew = .ok (.int .i64 (k : Int)) w') ∧ w'.cell? ⟨F, 1037, none⟩ = some (.slice (some ⟨d.HB, 0, none⟩) 32768 32768) ∧
      CopyInv w F d H D n m0 (.int .i64 ((P + k : Nat) : Int)) w' := by
  obtain ⟨k, hk⟩ : ∃ k, k = Nat.min (P - S) (E - P) := ⟨_, rfl⟩
  have hk1 : k ≤ P - S ∧ k ≤ E - P ∧ (k = P - S ∨ k = E - P) := by
    rw [hk]; rcases Nat.le_total (P - S) (E - P) with h | h
    · rw [show Nat.min (P - S) (E - P) = P - S from Nat.min_eq_left h]; omega
    · rw [show Nat.min (P - S) (E - P) = E - P from Nat.min_eq_right h]; omega
  have hHB := hD.win
  obtain ⟨w', hrun, hfr, hc⟩ := copy_bytes wr d.HB P (E - P) (32768 - P) ⟨d.HB, S, none⟩ (P - S) (32768 - S) k (fun j => g (S + j)) hk
    (fun j hj => by
      have : (⟨d.HB, S, none⟩ : Addr).add j = ⟨d.HB, S + j, none⟩ := by unfold Addr.add; split <;> simp_all
      rw [this]; exact hHB _ (by omega))
    (fun j hj => by have := hHB (P + j) (by omega); rw [show d.HB = ({ d with g := g } : DS).HB from rfl, this]; rfl)
    (fun j hj => hD.frH _)
  refine ⟨k, w'.drew, by omega, by omega, fun ty => hrun 1 ty, hfr.keep hD.hist (fun e => hD.neHF e.1.symm), m + k, P + k, fun i => if P ≤ i ∧ i < P + k then g (S + (i - P)) else g i, by omega, rfl, by omega, by omega, ?_, ?_, ?_, ?_⟩
  · rcases hk1.2.2 with e | e
    · left
      rw [show m + k - m0 = (m - m0) + ((m - m0) + D) by omega, Nat.add_mod, Nat.add_mod_right, hdiv]; simp
    · right; omega
  · refine (hD.set_win (hfr.mono fun b o e => e.1) _ (fun i hi => ?_)).drew
    by_cases hi2 : P ≤ i ∧ i < P + k
    · rw [if_pos hi2]
      have := hc (i - P) (by omega)
      rw [show P + (i - P) = i by omega] at this
      exact this
    · rw [if_neg hi2]
      exact hfr.keep (hHB i hi) (fun e => hi2 e.2)
  · rw [show P + k = d.wr + m + k by omega]
    refine WinB.copy (g := g) (m0 := m0) (by rw [← hP]; exact hB) h1 h2 h0 hdiv (by omega) (by omega) (by omega) (fun j hj => ?_) (fun i hi ho => ?_)
    · rw [if_pos (by omega)]; congr 1; omega
    · rw [if_neg (by omega)]
  · exact (hF.trans (hfr.mono fun b o e => .inr e.1)).drew

set_option maxHeartbeats 1000000 in
theorem tryWriteCopy_any (w : World) (F : Nat) (d : DS) (H : List UInt8) (D n : Nat) (hD : Dec w F d) (hB : WinB d.g d.wr H) (h1 : 1 ≤ D) (h2 : D ≤ H.length) (h3 : D ≤ 32768) (hn2 : n ≤ 258) :
    Calls Tryd.prog 97 #[.pointer (some ⟨F, 1037, none⟩), .int .i64 (D : Int), .int .i64 (n : Int)] w (CopyPost w F d H D (fun k => k = 0 ∨ k = n)) := by
  have c0 := hD.hist
  have c1 := hD.wr
  have f1 := hD.fr 1038
  have b0 : (d.wr : Int) ≤ 32768 := by have := hB.le; omega
  have b2 : (D : Int) ≤ 32768 := by omega
  have b3 : (n : Int) ≤ 258 := by omega
  by_cases hq : d.wr < D
  · have hq' : (d.wr : Int) < (D : Int) := by omega
    go_enter Tryd.func97, Tryd.ntmps97
    go_wp2
    go_ret
    exact ⟨0, d.g, .inl rfl, rfl, hD, by rw [lz_zero]; exact hB, Frm.refl _ _⟩
  · have hq' : ¬ (d.wr : Int) < (D : Int) := by omega
    by_cases hr : d.wr + n ≤ 32768
    · have hr' : ¬ (32768 : Int) < (d.wr : Int) + (n : Int) := by omega
      have hq2 : (D : Int) ≤ (d.wr : Int) := by omega
      go_enter Tryd.func97, Tryd.ntmps97
      go_wp2
      go_loopw [7] (fun dp wq => CopyInv w F d H D n 0 dp wq) (fun dp _ => 70000 - (intOf dp).toNat)
      case atStart => exact ⟨0, d.wr, d.g, rfl, rfl, Nat.le_refl _, by omega, .inl (by simp), hD, by rw [lz_zero]; exact hB, Frm.refl _ _⟩
      case round =>
        obtain ⟨m, P, g, hP, rfl, h0, hm, hdiv, hD1, hB1, hF1⟩ := hrel
        have HP := Lib.hid hP
        have HV := Lib.hid hdiv
        clear c0 c1 f1 hdiv
        have c0 := hD1.hist
        by_cases hlt : m < n
        · obtain ⟨k, w', hk1, hk2, hrun, hk0, hinv⟩ := copy_round (S := d.wr - D) (E := d.wr + n) hD1 hB1 hF1 h1 h2 hP rfl hr (by omega) h0 hlt (HV.out.resolve_right (by omega))
          have hP1 : (P : Int) < (d.wr : Int) + (n : Int) := by omega
          have hP2 : (d.wr : Int) - (D : Int) ≤ (P : Int) := by omega
          have hP3 : (P : Int) ≤ 32768 := by omega
          have hk3 : (k : Int) ≤ 32768 := by omega
          have n1 : P ≤ d.wr + n := by omega
          have n2 : d.wr + n ≤ 32768 := hr
          have n3 : d.wr - D ≤ P := by omega
          have n4 : P ≤ 32768 := by omega
          have HI := Lib.hid hinv
          clear hP hinv
          go_wp2_with fail
          have t1 : (0 : Int) ≤ (d.wr : Int) + (n : Int) := by omega
          have t2 : ((d.wr : Int) + (n : Int)).toNat = d.wr + n := by omega
          have t3 : (0 : Int) ≤ (d.wr : Int) - (D : Int) := by omega
          have t4 : ((d.wr : Int) - (D : Int)).toNat = d.wr - D := by omega
          have t5 : ¬ 32768 = P := by omega
          have t6 : ¬ 32768 = d.wr - D := by omega
          have t7 : IntKind.i64.wrap ((P : Int) + (k : Int)) = (P : Int) + (k : Int) := IntWalk.i64_in _ (by omega)
          have kp : w'.cell? ⟨F, 1037, none⟩ = some (.slice (some ⟨d.HB, 0, none⟩) 32768 32768) := hk0
          go_region_held3 (fun w' => w'.cell? ⟨F, 1037, none⟩ = some (.slice (some ⟨d.HB, 0, none⟩) 32768 32768)) (first | exact kp | go_keep) (first | (refine step_copy_run (by rfl) _ _ _ _ (by rfl) (by rfl) (by rfl) hrun ?_))
          clear t1 t2 t3 t4 t5 t6 t7
          go_wp2_with fail
          go_roundw
          case rel => exact HI.out
          case measure => simp [intOf]; omega
        · have hlt' : ¬ (P : Int) < (d.wr : Int) + (n : Int) := by omega
          have f1 := hD1.fr 1038
          have c1 := hD1.wr
          have hP3 : (P : Int) ≤ 32768 := by omega
          have hP2 : (d.wr : Int) ≤ (P : Int) := by omega
          clear hP
          go_wp2_with fail
          go_ret
          obtain rfl : m = n := by omega
          have hP := HP.out
          refine ⟨m, g, .inr rfl, ?_, ?_, by rw [← hP]; exact hB1, ?_⟩
          · show Ending.returned (.int .i64 ((P : Int) - (d.wr : Int))) = _
            rw [hP]; congr 2; omega
          · rw [← hP]; exact hD1.set_wr P
          · refine hF1.setCell (.inl (.inl ⟨rfl, rfl⟩)) _
    · have hr' : (32768 : Int) < (d.wr : Int) + (n : Int) := by omega
      go_enter Tryd.func97, Tryd.ntmps97
      go_wp2
      go_ret
      exact ⟨0, d.g, .inl rfl, rfl, hD, by rw [lz_zero]; exact hB, Frm.refl _ _⟩


/-- Between the two parts of 'writeCopy'. -/
def MidInv (w : World) (F : Nat) (d : DS) (H : List UInt8) (D E : Nat) (dp sp : Value) (wr : World) : Prop :=
  ∃ (m P S : Nat) (g : Nat → UInt8), P = d.wr + m ∧ P ≤ E ∧ dp = .int .i64 (P : Int) ∧ sp = .int .i64 (S : Int) ∧ (S + D = P ∨ P = E) ∧ S ≤ P ∧ Dec wr F { d with g := g } ∧ WinB g P (lz H D m) ∧ Frm (SW F d.HB) w wr

/-- The first copy, from the window's end. -/
theorem copy_first {w : World} {F : Nat} {d : DS} {H : List UInt8} {D S E L : Nat} (hD : Dec w F d) (hB : WinB d.g d.wr H)
    (h1 : 1 ≤ D) (h2 : D ≤ H.length) (h3 : D ≤ 32768) (hw : d.wr < D) (_hE : d.wr ≤ E) (_hE2 : E ≤ 32768) (hS : S + D = d.wr + 32768) (hL : L = 32768) :
    ∃ (k : Nat) (w' : World), d.wr + k ≤ E ∧ (∀ ty, (Builtin.copy_ #[22, 22] ty #[.slice (some ⟨d.HB, d.wr, none⟩) (E - d.wr) (32768 - d.wr), .slice (some ⟨d.HB, S, none⟩) (L - S) (32768 - S)]).run Tryd.prog w.drew = .ok (.int .i64 (k : Int)) w') ∧
      w'.cell? ⟨F, 1037, none⟩ = some (.slice (some ⟨d.HB, 0, none⟩) L 32768) ∧ MidInv w F d H D E (.int .i64 ((d.wr + k : Nat) : Int)) (.int .i64 0) w' := by
  subst hL
  obtain ⟨k, hk⟩ : ∃ k, k = Nat.min (32768 - S) (E - d.wr) := ⟨_, rfl⟩
  have hk1 : k ≤ 32768 - S ∧ k ≤ E - d.wr ∧ (k = 32768 - S ∨ k = E - d.wr) := by
    rw [hk]; rcases Nat.le_total (32768 - S) (E - d.wr) with h | h
    · rw [show Nat.min (32768 - S) (E - d.wr) = 32768 - S from Nat.min_eq_left h]; omega
    · rw [show Nat.min (32768 - S) (E - d.wr) = E - d.wr from Nat.min_eq_right h]; omega
  have hHB := hD.win
  obtain ⟨w', hrun, hfr, hc⟩ := copy_bytes w d.HB d.wr (E - d.wr) (32768 - d.wr) ⟨d.HB, S, none⟩ (32768 - S) (32768 - S) k (fun j => d.g (S + j)) hk
    (fun j hj => by
      have : (⟨d.HB, S, none⟩ : Addr).add j = ⟨d.HB, S + j, none⟩ := by unfold Addr.add; split <;> simp_all
      rw [this]; exact hHB _ (by omega))
    (fun j hj => by have := hHB (d.wr + j) (by omega); rw [this]; rfl)
    (fun j hj => hD.frH _)
  refine ⟨k, w'.drew, by omega, fun ty => hrun 1 ty, hfr.keep hD.hist (fun e => hD.neHF e.1.symm), k, d.wr + k, 0, fun i => if d.wr ≤ i ∧ i < d.wr + k then d.g (S + (i - d.wr)) else d.g i, rfl, by omega, rfl, rfl, by omega, by omega, ?_, ?_, ?_⟩
  · refine (hD.set_win (hfr.mono fun b o e => e.1) _ (fun i hi => ?_)).drew
    by_cases hi2 : d.wr ≤ i ∧ i < d.wr + k
    · rw [if_pos hi2]
      have := hc (i - d.wr) (by omega)
      rw [show d.wr + (i - d.wr) = i by omega] at this
      exact this
    · rw [if_neg hi2]
      exact hfr.keep (hHB i hi) (fun e => hi2 e.2)
  · refine WinB.wrap (g := d.g) hB h1 h2 h3 hw (by omega) (by omega) (fun j hj => ?_) (fun i hi ho => ?_)
    · rw [if_pos (by omega)]; congr 1; omega
    · rw [if_neg (by omega)]
  · exact (hfr.mono fun b o e => .inr e.1).drew

set_option maxHeartbeats 1000000 in
theorem writeCopy_any (w : World) (F : Nat) (d : DS) (H : List UInt8) (D n : Nat) (hD : Dec w F d) (hB : WinB d.g d.wr H) (hw : d.wr < 32768) (h1 : 1 ≤ D) (h2 : D ≤ H.length) (h3 : D ≤ 32768) (hn2 : n ≤ 258) :
    Calls Tryd.prog 98 #[.pointer (some ⟨F, 1037, none⟩), .int .i64 (D : Int), .int .i64 (n : Int)] w (CopyPost w F d H D (fun k => k ≤ n ∧ (k = n ∨ d.wr + k = 32768))) := by
  obtain ⟨L, hL1, hL2, c0⟩ : ∃ L : Nat, (L : Int) ≤ 32768 ∧ 32768 ≤ (L : Int) ∧ w.cell? ⟨F, 1037, none⟩ = some (.slice (some ⟨d.HB, 0, none⟩) L 32768) := ⟨32768, by omega, by omega, hD.hist⟩
  have c1 := hD.wr
  have b0 : (d.wr : Int) ≤ 32767 := by omega
  have b2 : (D : Int) ≤ 32768 := by omega
  have b3 : (n : Int) ≤ 258 := by omega
  obtain ⟨E, hE⟩ : ∃ E, E = Nat.min (d.wr + n) 32768 := ⟨_, rfl⟩
  have hE1 : E ≤ d.wr + n ∧ E ≤ 32768 ∧ (E = d.wr + n ∨ E = 32768) := by
    rw [hE]; rcases Nat.le_total (d.wr + n) 32768 with h | h
    · rw [show Nat.min (d.wr + n) 32768 = d.wr + n from Nat.min_eq_left h]; omega
    · rw [show Nat.min (d.wr + n) 32768 = 32768 from Nat.min_eq_right h]; omega
  clear hE
  have hE2 : d.wr ≤ E := by omega
  have hE3 : E ≤ 32768 := hE1.2.1
  have HE := Lib.hid hE1
  have HW := Lib.hid hw
  have hmin : (if (L : Int) < (d.wr : Int) + (n : Int) then (L : Int) else (d.wr : Int) + (n : Int)) = (E : Int) := by split <;> omega
  clear hE1 hw
  go_enter Tryd.func98, Tryd.ntmps98
  go_upto_if 29 with (fail)
  go_cut [8, 9] (fun dp sp wq => MidInv w F d H D E dp sp wq)
  case first =>
    by_cases hq : d.wr < D
    · have hq' : (d.wr : Int) - (D : Int) < 0 := by omega
      obtain ⟨S, hS⟩ : ∃ S, S + D = d.wr + 32768 := ⟨d.wr + 32768 - D, by omega⟩
      obtain ⟨k, w', hk2, hrun, hk0, hinv⟩ := copy_first (L := L) hD hB h1 h2 h3 hq hE2 hE3 hS (by omega)
      have hSL : (d.wr : Int) - (D : Int) + (L : Int) = (S : Int) := by omega
      have HI := Lib.hid hinv
      have s1 : (S : Int) ≤ (L : Int) := by omega
      have s2 : S ≤ L := by omega
      have s3 : S ≤ 32768 := by omega
      have e1 : (d.wr : Int) ≤ (E : Int) := by omega
      have e2 : d.wr ≤ E := by omega
      have e3 : (E : Int) ≤ 32768 := by omega
      have t5 : ¬ 32768 = d.wr := by have := HW.out; omega
      have t6 : ¬ 32768 = S := by omega
      have t7 : IntKind.i64.wrap ((d.wr : Int) + (k : Int)) = (d.wr : Int) + (k : Int) := IntWalk.i64_in _ (by omega)
      clear hinv hS
      go_upto_region 7 with (fail)
      go_region_held3 (fun w' => w'.cell? ⟨F, 1037, none⟩ = some (.slice (some ⟨d.HB, 0, none⟩) L 32768)) (first | exact hk0 | go_keep) (first | (refine step_copy_run (by rfl) _ _ _ _ (by rfl) (by rfl) (by rfl) hrun ?_))
      go_wp2_with fail
      go_meet
      case rel => exact HI.out
    · have hq' : ¬ (d.wr : Int) - (D : Int) < 0 := by omega
      go_wp2_with fail
      go_meet
      case rel => exact ⟨0, d.wr, d.wr - D, d.g, rfl, by omega, rfl, by congr 1; omega, .inl (by omega), by omega, hD, by rw [lz_zero]; exact hB, Frm.refl _ _⟩
  case rest =>
    obtain ⟨m0, P0, S, g0, hP0, hPE0, rfl, rfl, hS, hSP0, hD0, hB0, hF0⟩ := hcut
    have HL : Hid (L = 32768) := show L = 32768 by omega
    have HS := Lib.hid hS
    have HP0 := Lib.hid hP0
    clear hmin c0 c1 hS hP0
    go_wp2_with fail
    go_loopw [8] (fun dp wq => CopyInv w F d H D (E - d.wr) m0 dp wq) (fun dp _ => 70000 - (intOf dp).toNat)
    case atStart => exact ⟨m0, P0, g0, HP0.out, rfl, Nat.le_refl _, by have := HP0.out; omega, .inl (by simp), hD0, hB0, hF0⟩
    case round =>
      obtain ⟨m, P, g, hP, rfl, h0, hm, hdiv, hD1, hB1, hF1⟩ := hrel
      have HP := Lib.hid hP
      have HV := Lib.hid hdiv
      clear hdiv
      by_cases hlt : m < E - d.wr
      · have c0 : wr.cell? ⟨F, 1037, none⟩ = some (.slice (some ⟨d.HB, 0, none⟩) L 32768) := by rw [HL.out]; exact hD1.hist
        obtain ⟨k, w', hk1, hk2, hrun, hk0, hinv⟩ := copy_round (S := S) (E := E) hD1 hB1 hF1 h1 h2 hP (by omega) hE3 (by have := HP0.out; have := HS.out; omega) h0 hlt (HV.out.resolve_right (by omega))
        have kp : w'.cell? ⟨F, 1037, none⟩ = some (.slice (some ⟨d.HB, 0, none⟩) L 32768) := by rw [HL.out]; exact hk0
        have hP1 : (P : Int) < (E : Int) := by omega
        have hSP : S ≤ P := by have := HP0.out; omega
        have s1 : (S : Int) ≤ (P : Int) := by omega
        have s3 : (P : Int) ≤ (L : Int) := by omega
        have s4 : (E : Int) ≤ (L : Int) := by omega
        have s5 : P ≤ E := by omega
        have s6 : E ≤ L := by omega
        have s7 : P ≤ L := by omega
        have e3 : (E : Int) ≤ 32768 := by omega
        have p3 : (P : Int) ≤ 32768 := by omega
        have p4 : P ≤ 32768 := by omega
        have t5 : ¬ 32768 = P := by omega
        have t6 : ¬ 32768 = S := by omega
        have t7 : IntKind.i64.wrap ((P : Int) + (k : Int)) = (P : Int) + (k : Int) := IntWalk.i64_in _ (by omega)
        have HI := Lib.hid hinv
        clear hP hinv
        go_wp2_with fail
        go_region_held3 (fun w' => w'.cell? ⟨F, 1037, none⟩ = some (.slice (some ⟨d.HB, 0, none⟩) L 32768)) (first | exact kp | go_keep) (first | (refine step_copy_run (by rfl) _ _ _ _ (by rfl) (by rfl) (by rfl) hrun ?_))
        clear t7
        go_wp2_with fail
        go_roundw
        case rel => exact HI.out
        case measure => simp [intOf]; omega
      · have hlt' : ¬ (P : Int) < (E : Int) := by omega
        have f1 := hD1.fr 1038
        have c1 := hD1.wr
        have hP3 : (P : Int) ≤ 32768 := by omega
        have hP2 : (d.wr : Int) ≤ (P : Int) := by omega
        clear hP
        go_wp2_with fail
        go_ret
        have hP := HP.out
        refine ⟨m, g, ?_, ?_, ?_, by rw [← hP]; exact hB1, ?_⟩
        · have := HE.out; omega
        · show Ending.returned (.int .i64 ((P : Int) - (d.wr : Int))) = _
          rw [hP]; congr 2; omega
        · rw [← hP]; exact hD1.set_wr P
        · exact hF1.setCell (.inl (.inl ⟨rfl, rfl⟩)) _

end Go.Proofs.YthfncdfcklbigaaDoor
