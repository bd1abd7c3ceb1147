/-
  THE WALK OF 'huffSym': the next symbol of a code.
-/
import Derived.Test.YthfncdfcklbigaaDoorBits
import Derived.Deep.DeepCutAuto
set_option linter.unusedVariables false
set_option linter.unusedSimpArgs false
namespace Go.Proofs.YthfncdfcklbigaaDoor
open Go.RowKit Flate
set_option maxRecDepth 100000
attribute [local go_sem] meth_ReadByte

abbrev corruptAt (n : Nat) : Value := .iface 125 (.int .i64 (n : Int))

/-- What 'huffSym' does. -/
def SymPost (p : Ps) (d : DS) (F : Nat) (w : World) (s : Rd Nat) (e : Ending) (w' : World) : Prop :=
  match s with
  | .ok v r' => e = .returned (.tuple #[.int .i64 (v : Int), .nilIface]) ∧ Dec w' F (d.put r') ∧ Frm (SB F d.R) w w'
  | .bad .cut r' => e = .returned (.tuple #[.int .i64 0, errAt p.U]) ∧ Dec w' F (d.put r') ∧ Frm (SB F d.R) w w'
  | .bad _ r' => e = .returned (.tuple #[.int .i64 0, corruptAt r'.pos]) ∧ Dec w' F { d.put r' with err := corruptAt r'.pos } ∧ Frm (fun b o => SB F d.R b o ∨ b = F ∧ o = 1048) w w'

theorem TabAt.keepSB {w w' : World} {B o F R : Nat} {T : Tab} {N : Nat → Prop} (h : TabAt w B o T N) (hf : Frm (SB F R) w w') (hN : ∀ b, N b → b ≠ F ∧ b ≠ R) (hB : B ≠ R) (hBF : B = F → 5 ≤ o ∧ o + 515 ≤ 1035) : TabAt w' B o T N := by
  refine h.keep hf (fun k a b e => ?_) (fun b hb k e => ?_)
  · rcases e with ⟨e, _⟩ | e
    · have := hBF e; omega
    · exact hB e
  · have := hN b hb
    rcases e with ⟨e, _⟩ | e
    · exact this.1 e
    · exact this.2 e

theorem and511 {x : Nat} (h : x < 4294967296) : bits .and .u32 (x : Int) 511 = ((x % 512 : Nat) : Int) := by rw [show (511 : Int) = ((511 : Nat) : Int) from rfl, u32_and_nat _ _ h (by omega), nat_mask9]
theorem and15 {x : Nat} (h : x < 4294967296) : bits .and .u32 (x : Int) 15 = ((x % 16 : Nat) : Int) := by rw [show (15 : Int) = ((15 : Nat) : Int) from rfl, u32_and_nat _ _ h (by omega), nat_mask4]

theorem look_small {T : Tab} {x c : Nat} (h : c = T.chunks.getD (x % 512) 0) (h9 : ¬ 9 < c % 16) : c = T.look x := by
  subst h; unfold Tab.look; simp only; rw [if_neg h9]
theorem look_big {T : Tab} {x c : Nat} (h : c = T.chunks.getD (x % 512) 0) (h9 : 9 < c % 16) : (T.links.getD (c / 16) []).getD ((x / 512) &&& T.mask) 0 = T.look x := by
  subst h; unfold Tab.look; simp only; rw [if_pos h9]

theorem b_lt {src : List UInt8} {r : Br} (h : r.nb ≤ 24) : r.b src < 4294967296 := by
  have := bv_lt src r.at_ r.nb
  have h2 : (2 : Nat) ^ r.nb ≤ 2 ^ 24 := Nat.pow_le_pow_right (by omega) h
  unfold Br.b; omega

/-- A round of the search: at the next round's head. -/
def SymInv (w : World) (F : Nat) (d : DS) (r : Br) (T : Tab) (n nb b : Value) (wr : World) : Prop :=
  ∃ (f n' : Nat) (rc : Br), n = .int .u64 (n' : Int) ∧ nb = .int .u64 (rc.nb : Int) ∧ b = .int .u32 (rc.b d.src : Int) ∧ rc.at_ = r.at_ ∧ rc.ok d.src ∧ rc.nb ≤ 24 ∧ n' ≤ 15 ∧ (f = 20 ∨ 16 ≤ f + rc.nb ∧ rc.nb < n') ∧
    sym d.src T f n' rc = symbol d.src T r ∧ Dec wr F { d.put r with roff := rc.pos, pos := rc.pos } ∧ Frm (SB F d.R) w wr

/-- A round of the filling. -/
def FillInv (w : World) (F : Nat) (d : DS) (r : Br) (n' : Nat) (rc : Br) (nb b : Value) (wr : World) : Prop :=
  ∃ rd : Br, nb = .int .u64 (rd.nb : Int) ∧ b = .int .u32 (rd.b d.src : Int) ∧ rd.at_ = r.at_ ∧ rd.ok d.src ∧ rd.nb ≤ 24 ∧ rc.nb ≤ rd.nb ∧
    fill d.src.length n' rd = fill d.src.length n' rc ∧ Dec wr F { d.put r with roff := rd.pos, pos := rd.pos } ∧ Frm (SB F d.R) w wr

def symMu (n nb : Int) : Nat := 2 * (40 - nb.toNat) + (if n ≤ nb then 1 else 0)

theorem symMu_step {k : Int} {rb n rc : Nat} (h1 : ¬ k ≤ rb) (h2 : rc ≤ rb) (h3 : n ≤ rb) (h4 : rb ≤ 24) : symMu k rb < symMu n rc := by
  unfold symMu
  rw [if_neg h1]
  by_cases h : (n : Int) ≤ (rc : Int)
  · rw [if_pos h]; simp; omega
  · rw [if_neg h]; simp; omega

set_option maxHeartbeats 1000000 in
theorem huffSym_any (w : World) (F B o : Nat) (p : Ps) (C : Nat) (N : Nat → Prop) (d : DS) (r : Br) (T : Tab) (he : Env w C p) (hRB : C ≤ d.R) (hFB : C ≤ F) (hD : Dec w F (d.put r)) (hr : r.ok d.src) (hnb : r.nb ≤ 24)
    (hT : TabAt w B o T N) (hOK : T.OK) (hN : ∀ b, N b → b ≠ F ∧ b ≠ d.R) (hB : B ≠ d.R) (hBF : B = F → 5 ≤ o ∧ o + 515 ≤ 1035) :
    Calls Tryd.prog 92 #[.pointer (some ⟨F, 0, none⟩), .pointer (some ⟨B, o, none⟩)] w (SymPost p d F w (symbol d.src T r)) := by
  have hm := hT.min
  have h3 : w.cell? ⟨F, 3, none⟩ = some (.int .u32 (r.b d.src : Int)) := hD.b
  have h4 : w.cell? ⟨F, 4, none⟩ = some (.int .u64 (r.nb : Int)) := hD.nb
  have m15 : (T.min : Int) ≤ 15 := by have := hOK.min; omega
  go_enter Tryd.func92, Tryd.ntmps92
  go_wp2_with fail
  (go_quiet (fail))
  go_wp2_with fail
  go_loopw [6, 7, 8] (fun n nb b wr => SymInv w F d r T n nb b wr) (fun n nb _ _ => symMu (intOf n) (intOf nb))
  case atStart =>
    exact ⟨20, T.min, r, by go_num, rfl, rfl, rfl, hr, hnb, by omega, .inl rfl, rfl, hD.drewN nq, (Frm.refl _ _).drewN nq⟩
  case round =>
    obtain ⟨f, n', rc, rfl, rfl, rfl, h1, h2, h3', h5, h6, h7, hD1, hF1⟩ := hrel
    have HS := Lib.hid h7
    have HA := Lib.hid h1
    clear h7 h1 h3 h4 hm
    go_wp2_with fail
    go_loopw [7, 8] (fun nb b wq => FillInv w F d r n' rc nb b wq) (fun nb _ _ => 64 - (intOf nb).toNat)
    case atStart => exact ⟨rc, rfl, rfl, HA.out, h2, h3', Nat.le_refl _, rfl, hD1, hF1⟩
    case round =>
      obtain ⟨rd, rfl, rfl, k1, k2, k3, k4, k5, hD2, hF2⟩ := hrel
      have HB := Lib.hid k1
      have HC := Lib.hid k5
      clear k1 k5
      by_cases hlt : rd.nb < n'
      · have c0 : wr.cell? ⟨F, 0, none⟩ = some (.iface 55 (.pointer (some ⟨d.R, 0, none⟩))) := hD2.r
        have hlt' : (rd.nb : Int) < (n' : Int) := by omega
        by_cases hp : rd.pos < d.src.length
        · go_wp2_with fail
          refine (readByte_any wr d.R d.base d.src rd.pos hD2.so hp).mono ?_
          rintro e w1 ⟨rfl, hS, hf⟩
          have hD3 : Dec w1 F { d.put r with roff := rd.pos, pos := rd.pos + 1 } := hD2.set_src hf hS
          have c2 : w1.cell? ⟨F, 2, none⟩ = some (.int .i64 (rd.pos : Int)) := hD3.roff
          have g2 := hD3.fr 2
          have b1 : (rd.pos : Int) < 1099511627776 := by have : d.src.length ≤ 1099511627776 := hD.so.few; omega
          have h31 : bits .and .u64 (rd.nb : Int) 31 = (rd.nb : Int) := by
            rw [show (31 : Int) = ((31 : Nat) : Int) from rfl, u64_and_nat _ _ (by omega) (by omega), nat_mask5]; omega
          clear c0
          go_wp2_with fail
          go_roundw
          case rel =>
            refine ⟨{ rd with pos := rd.pos + 1 }, by rw [nb_more k2], by rw [more_bits k2 k3 hp], HB.out, ⟨by have := k2.1; simp only; omega, hp⟩, by have := nb_more k2; omega, by have := nb_more k2; omega, ?_, ?_, ?_⟩
            · rw [fill_more (by omega) hp k2.1]; exact HC.out
            · exact hD3.set_roff (rd.pos + 1)
            · have hF3 : Frm (SB F d.R) w w1 := hF2.trans (hf.mono fun b o e => .inr e)
              (repeat (first | exact hF3 | refine Frm.drewN ?_ _ | refine Frm.drew ?_ | refine Frm.alloc ?_ _ | refine Frm.setCell ?_ (by simp [SB]) _))
          case measure => simp [intOf]; omega
        · have hpe : rd.pos = d.src.length := by have := k2.2; omega
          have HPE := Lib.hid hpe
          have hS0 : Src wr d.R d.base d.src d.src.length := by have := hD2.so; rw [← hpe]; exact this
          clear hpe
          go_wp2_with fail
          refine (readByte_end wr d.R d.base d.src C p hS0 (he.keep hF2 (fun b o e => by unfold SB at e; omega)) hRB).mono ?_
          rintro e w1 ⟨rfl, hS, hf⟩
          have hD3 : Dec w1 F { d.put r with roff := rd.pos, pos := rd.pos } := hD2.set_src hf (by rw [HPE.out]; exact hS)
          have he1 : Env w1 C p := (he.keep hF2 (fun b o e => by unfold SB at e; omega)).keep hf (fun b o e => by omega)
          have c3 := hD3.b
          have c4 := hD3.nb
          have g3 := hD3.fr 3
          have g4 := hD3.fr 4
          clear c0
          go_wp2_with fail
          refine (noEOF_any _ C p ?_ p.E (.inl rfl)).mono ?_
          · exact he1.keep (S := fun b _ => b = F) (by (repeat (first | exact Frm.refl _ _ | refine Frm.drewN ?_ _ | refine Frm.drew ?_ | refine Frm.alloc ?_ _ | refine Frm.setCell ?_ (by simp) _))) (fun b o e => by omega)
          rintro e w2 ⟨rfl, rfl⟩
          go_wp2_with fail
          go_ret2
          have hf0 : ∃ f', f = f' + 1 := ⟨f - 1, by omega⟩
          obtain ⟨f', hf1⟩ := hf0
          have hs : symbol d.src T r = .bad .cut rd := by rw [← HS.out, hf1]; exact sym_cut (by rw [← HC.out]; exact fill_end (by omega) HPE.out k2.1)
          rw [hs]
          refine ⟨rfl, ?_, ?_⟩
          · exact (hD3.set_b _).set_nb _
          · have hF3 : Frm (SB F d.R) w w1 := hF2.trans (hf.mono fun b o e => .inr e)
            (repeat (first | exact hF3 | refine Frm.drewN ?_ _ | refine Frm.drew ?_ | refine Frm.alloc ?_ _ | refine Frm.setCell ?_ (by simp [SB]) _))
      · obtain ⟨x, hx⟩ : ∃ x, x = rd.b d.src := ⟨_, rfl⟩
        have hxl : x < 4294967296 := by rw [hx]; exact b_lt k3
        have HX := Lib.hid hx
        obtain ⟨c, hcx⟩ : ∃ c, c = T.chunks.getD (x % 512) 0 := ⟨_, rfl⟩
        have hcl : c < 4294967296 := by have := hOK.chunk (x % 512); rw [hcx]; omega
        have hT2 : TabAt wr B o T N := hT.keepSB hF2 hN hB hBF
        have hc : wr.cell? ⟨B, o + 1 + x % 512, none⟩ = some (.int .u32 (c : Int)) := by rw [hcx]; exact hT2.ch _ (by omega)
        have e1 := and511 hxl
        have e2 := and15 hcl
        have HCX := Lib.hid hcx
        rw [← hx]
        clear hx hcx
        have hlt' : ¬ ((rd.nb : Int) < (n' : Int)) := by omega
        have i1 : ((x % 512 : Nat) : Int) < 512 := by omega
        go_upto_if 75 with (fail)
        go_cut [6, 11] (fun n c' wq => ∃ k : Nat, Hid (k = T.look x) ∧ k < 4294967296 ∧ n = .int .u64 ((k : Int) % 16) ∧ c' = .int .u32 (k : Int) ∧ ∃ nq, wq = wr.drewN nq)
        case first =>
          by_cases h9 : 9 < c % 16
          · have hlk := hOK.link (x % 512)
            rw [← HCX.out] at hlk
            have hlk := hlk h9
            have hne : T.links ≠ [] := by intro e; rw [e] at hlk; simp at hlk
            obtain ⟨L, hL, l1, l2⟩ := hT2.some_ hne
            obtain ⟨b, hb, l3, l4⟩ := l2 _ hlk
            have hmk := hOK.mask
            have l5 := hT2.mask
            have e3 : bits .and .u32 ((x : Int) / 512) (T.mask : Int) = (((x / 512) &&& T.mask : Nat) : Int) := by
              rw [show ((x : Int) / 512) = ((x / 512 : Nat) : Int) from rfl, u32_and_nat _ _ (by omega) hmk]
            have hand : (x / 512) &&& T.mask ≤ T.mask := Nat.and_le_right
            have l6 := l4 ((x / 512) &&& T.mask) (by omega)
            have hfew := hOK.few
            have i2 : ((c / 16 : Nat) : Int) < (T.links.length : Int) := by omega
            have i3 : (((x / 512) &&& T.mask : Nat) : Int) < ((T.mask + 1 : Nat) : Int) := by omega
            have h9' : (9 : Int) < (c : Int) % 16 := by omega
            clear l4 l2
            have H6 : wr.cell? ⟨b, (x / 512) &&& T.mask, none⟩ = some (.int .u32 ((T.look x : Nat) : Int)) := by rw [← look_big HCX.out h9]; exact l6
            have hlb : T.look x < 4294967296 := by
              rw [← look_big HCX.out h9]
              refine hOK.entry _ ?_ _
              rw [List.getD_eq_getElem?_getD, List.getElem?_eq_getElem hlk]; exact List.getElem_mem _
            obtain ⟨k, hk⟩ : ∃ k, k = T.look x := ⟨_, rfl⟩
            rw [← hk] at H6 hlb
            have HK := Lib.hid hk
            have e5 := and15 hlb
            clear l6 hk
            go_upto_region 15 with (fail)
            (go_quiet (fail))
            go_wp2_with fail
            go_meet
            case rel => exact ⟨k, HK.out, hlb, rfl, rfl, nq, rfl⟩
          · have h9' : ¬ (9 : Int) < (c : Int) % 16 := by omega
            go_wp2_with fail
            go_meet
            case rel => exact ⟨c, look_small HCX.out h9, hcl, rfl, rfl, 0, rfl⟩
        case rest =>
          obtain ⟨k, hk, hkl, rfl, rfl, nq, rfl⟩ := hcut
          clear e1 e2 hc HCX hlt'
          have h31 : bits .and .u64 ((k : Int) % 16) 31 = (k : Int) % 16 := by
            rw [show ((k : Int) % 16) = ((k % 16 : Nat) : Int) from rfl, show (31 : Int) = ((31 : Nat) : Int) from rfl, u64_and_nat _ _ (by omega) (by omega), nat_mask5]; omega
          obtain ⟨f', hf1⟩ : ∃ f', f = f' + 1 := ⟨f - 1, by omega⟩
          have hfl : fill d.src.length n' rc = (true, rd) := by rw [← HC.out]; exact fill_has (by omega)
          have hf1 := Lib.hid hf1
          have hfl := Lib.hid hfl
          have g2 := hD2.fr 2
          have g3 := hD2.fr 3
          have g4 := hD2.fr 4
          have g5 := hD2.fr 1048
          have c2 := hD2.roff
          have c3 := hD2.b
          have c4 := hD2.nb
          have c5 := hD2.err
          by_cases hle : k % 16 ≤ rd.nb
          · have hle' : (k : Int) % 16 ≤ (rd.nb : Int) := by omega
            by_cases h0 : k % 16 = 0
            · have h0' : ((k : Int) % 16 == 0) = true := by simp; omega
              go_wp2_with fail
              (go_quiet (fail))
              go_wp2_with fail
              go_ret2
              have hs : symbol d.src T r = .bad .corrupt rd := by rw [← HS.out, hf1.out, sym_step hfl.out, ← HX.out, ← hk.out, if_pos hle, if_pos h0]
              rw [hs]
              refine ⟨rfl, ?_, ?_⟩
              · rw [HX.out]
                exact ((((hD2.drewN _).set_b _).set_nb _).set_err _).drewN _
              · have hF3 : Frm (fun b o => SB F d.R b o ∨ b = F ∧ o = 1048) w wr := hF2.mono fun _ _ e => .inl e
                (repeat (first | exact hF3 | refine Frm.drewN ?_ _ | refine Frm.drew ?_ | refine Frm.alloc ?_ _ | refine Frm.setCell ?_ (by simp [SB]) _))
            · have h0' : ((k : Int) % 16 == 0) = false := by simp; omega
              go_wp2_with fail
              go_ret2
              have hs : symbol d.src T r = .ok (k / 16) { rd with at_ := rd.at_ + k % 16 } := by rw [← HS.out, hf1.out, sym_step hfl.out, ← HX.out, ← hk.out, if_pos hle, if_neg h0]
              rw [hs]
              refine ⟨by simp only [Ending.returned.injEq, Value.tuple.injEq]; go_num, ?_, ?_⟩
              · have hb' : ((x : Int) / 2 ^ (k % 16)) = ((({ rd with at_ := rd.at_ + k % 16 } : Br).b d.src : Nat) : Int) := by
                  rw [HX.out, ← b_skip hle]; push_cast; rfl
                have hn' : ((rd.nb : Int) - (k : Int) % 16) = ((({ rd with at_ := rd.at_ + k % 16 } : Br).nb : Nat) : Int) := by
                  unfold Br.nb at hle ⊢; simp only; omega
                rw [hb', hn']
                exact (((hD2.drewN _).set_b _).set_nb _)
              · (repeat (first | exact hF2 | refine Frm.drewN ?_ _ | refine Frm.drew ?_ | refine Frm.alloc ?_ _ | refine Frm.setCell ?_ (by simp [SB]) _))
          · have hle' : ¬ (k : Int) % 16 ≤ (rd.nb : Int) := by omega
            go_wp2_with fail
            go_roundw
            case rel =>
              have hf2 := hf1.out
              refine ⟨f', k % 16, rd, by go_num, rfl, by rw [HX.out], HB.out, k2, k3, by omega, .inr ⟨by omega, by omega⟩, ?_, hD2.drewN _, hF2.drewN _⟩
              rw [← HS.out, hf1.out, sym_step hfl.out, ← HX.out, ← hk.out, if_neg hle]
            case measure =>
              show symMu ((k : Int) % 16) (rd.nb : Int) < symMu (n' : Int) (rc.nb : Int)
              exact symMu_step (by omega) k4 (by omega) k3

end Go.Proofs.YthfncdfcklbigaaDoor
