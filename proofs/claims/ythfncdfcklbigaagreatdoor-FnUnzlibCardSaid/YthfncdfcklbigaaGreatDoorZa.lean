/-
  Several texts in one: Adl Upd Dig Nt Reset.
-/
import Derived.Test.YthfncdfcklbigaaGreatDoorPb
import Derived.Test.YthfncdfcklbigaaGreatDoorPd
import Derived.IntWalk
import Derived.Test.YthfncdfcklbigaaGreatDoorWb
import Derived.Test.YthfncdfcklbigaaGreatDoorPc
set_option linter.unusedVariables false
set_option linter.unusedSimpArgs false
namespace Go.Proofs.YthfncdfcklbigaaGreatDoor
open Go.RowKit Go.IntWalk Flate
set_option maxRecDepth 100000
def adS (s : Nat × Nat) (c : UInt8) : Nat × Nat := ((s.1 + c.toNat) % 65521, (s.2 + (s.1 + c.toNat) % 65521) % 65521)
def adl (s : Nat × Nat) (l : List UInt8) : Nat × Nat := l.foldl adS s
def adN (s : Nat × Nat) : Nat := s.2 * 65536 + s.1
def adler (l : List UInt8) : Nat := adN (adl (1, 0) l)
theorem adl_append (s : Nat × Nat) (l m : List UInt8) : adl s (l ++ m) = adl (adl s l) m := List.foldl_append
theorem adl_lt (s : Nat × Nat) (l : List UInt8) (h : s.1 < 65521 ∧ s.2 < 65521) : (adl s l).1 < 65521 ∧ (adl s l).2 < 65521 := by
 induction l generalizing s with
 | nil => exact h
 | cons c l ih => exact ih _ ⟨Nat.mod_lt _ (by omega), Nat.mod_lt _ (by omega)⟩
theorem adler_lt (l : List UInt8) : adler l < 4294967296 := by
 have := adl_lt (1, 0) l (by decide)
 unfold adler adN
 omega
def rw1 (s : Nat × Nat) (c : UInt8) : Nat × Nat := (s.1 + c.toNat, s.2 + (s.1 + c.toNat))
def rwl (s : Nat × Nat) (l : List UInt8) : Nat × Nat := l.foldl rw1 s
theorem rwl_mod (l : List UInt8) (s t : Nat × Nat) (h1 : s.1 % 65521 = t.1 % 65521) (h2 : s.2 % 65521 = t.2 % 65521) (h3 : t.1 < 65521) (h4 : t.2 < 65521) : (rwl s l).1 % 65521 = (adl t l).1 ∧ (rwl s l).2 % 65521 = (adl t l).2 := by
 induction l generalizing s t with
 | nil => exact ⟨h1.trans (Nat.mod_eq_of_lt h3), h2.trans (Nat.mod_eq_of_lt h4)⟩
 | cons c l ih =>
  refine ih (rw1 s c) (adS t c) ?_ ?_ (Nat.mod_lt _ (by omega)) (Nat.mod_lt _ (by omega))
  · show (s.1 + c.toNat) % 65521 = (t.1 + c.toNat) % 65521 % 65521
    omega
  · show (s.2 + (s.1 + c.toNat)) % 65521 = (t.2 + (t.1 + c.toNat) % 65521) % 65521 % 65521
    omega
theorem rwl_le (l : List UInt8) (s : Nat × Nat) : (rwl s l).1 ≤ s.1 + 255 * l.length ∧ 2 * (rwl s l).2 ≤ 2 * s.2 + 2 * (l.length * s.1) + 255 * (l.length * (l.length + 1)) := by
 induction l generalizing s with
 | nil => exact ⟨by simp [rwl], by simp [rwl]⟩
 | cons c l ih =>
  obtain ⟨h1, h2⟩ := ih (rw1 s c); have hc : c.toNat < 256 := c.toBitVec.isLt; have e : rwl s (c :: l) = rwl (rw1 s c) l := rfl; rw [e, List.length_cons]; have a1 : (rw1 s c).1 = s.1 + c.toNat := rfl; have a2 : (rw1 s c).2 = s.2 + (s.1 + c.toNat) := rfl; rw [a1] at h1 h2; rw [a2] at h2; have m1 : l.length * (s.1 + c.toNat) ≤ l.length * s.1 + 255 * l.length := by
   rw [Nat.mul_add, Nat.mul_comm l.length c.toNat]; have := Nat.mul_le_mul_right l.length (show c.toNat ≤ 255 by omega)
   omega
  have m2 : (l.length + 1) * s.1 = l.length * s.1 + s.1 := Nat.succ_mul _ _; have m3 : (l.length + 1) * (l.length + 1 + 1) = l.length * (l.length + 1) + 2 * (l.length + 1) := by
   rw [show l.length + 1 + 1 = (l.length) + 2 from rfl, Nat.mul_add, Nat.mul_comm (l.length + 1) l.length]
   omega
  rw [m2, m3]; omega
theorem rwl_small (l : List UInt8) (s : Nat × Nat) (h1 : s.1 < 65521) (h2 : s.2 < 65521) (hl : l.length ≤ 5552) : (rwl s l).1 < 1500000 ∧ (rwl s l).2 < 4294967296 := by
 obtain ⟨a, b⟩ := rwl_le l s
 have m1 : l.length * s.1 ≤ 5552 * 65520 := Nat.mul_le_mul hl (by omega)
 have m2 : l.length * (l.length + 1) ≤ 5552 * 5553 := Nat.mul_le_mul hl (by omega)
 omega
theorem ad_step (l : List UInt8) (k : Nat) (hk : k < l.length) (s : Nat × Nat) : adl s (l.take (k + 1)) = adS (adl s (l.take k)) l[k] := by
 rw [List.take_succ_eq_append_getElem hk, adl_append]; rfl
theorem rw_step (l : List UInt8) (k : Nat) (hk : k < l.length) (s : Nat × Nat) : rwl s (l.take (k + 1)) = rw1 (rwl s (l.take k)) l[k] := by
 unfold rwl
 rw [List.take_succ_eq_append_getElem hk, List.foldl_append]; rfl
theorem or_hi (a b : Nat) (hb : b < 65536) (ha : a < 65536) : bits .or .u32 ((a : Int) * 65536) (b : Int) = ((a * 65536 + b : Nat) : Int) := by
 rw [show ((a : Int) * 65536) = ((a * 65536 : Nat) : Int) by omega, u32_or_nat _ _ (by omega) (by omega)]
 rw [show a * 65536 = 2 ^ 16 * a by omega, ← Nat.two_pow_add_eq_or_of_lt (by omega)]
theorem Bytes.at {w : World} {base : Option Addr} {l : List UInt8} (h : Bytes w base l) (hl : 0 < l.length) : ∃ ab ao, base = some ⟨ab, ao, none⟩ := by
 cases base with
 | none => have : l = [] := h; subst this; simp at hl
 | some a =>
  obtain ⟨ab, ao, sp⟩ := a; have h1 : sp = none := h.1; subst h1; exact ⟨ab, ao, rfl⟩
def AdInv (N : Nat) (b : List UInt8) (s1 s2 i : Value) (k : Nat) : Prop :=
 k ≤ b.length ∧ i = .int .i64 (k : Int) ∧ s1 = .int .u32 ((adl (1, 0) (b.take k)).1 : Int) ∧ s2 = .int .u32 ((adl (1, 0) (b.take k)).2 : Int)
theorem adler_any (w : World) (base : Option Addr) (l : List UInt8) (cap : Nat) (hs : Bytes w base l) (hl : l.length ≤ 4611686018427387904) :
 Calls Tryz.prog 21 #[.slice base l.length cap] w fun e w' => e = .returned (.int .u32 (adler l : Int)) ∧ w' = w := by
 have HS := zHi hs
 clear hs
 obtain ⟨n, hn⟩ : ∃ n, n = l.length := ⟨_, rfl⟩
 rw [← hn] at hl ⊢
 have HN := zHi hn
 have c1 : (n : Int) ≤ 4611686018427387904 := by omega
 clear hn hl
 go_enter Tryz.func21, Tryz.ntmps21
 go_wp2_with fail
 go_loopg [3, 4, 9] (n - 0) (fun g s1 s2 i wr => wr = w ∧ ∃ k, g = n - k ∧ AdInv n l s1 s2 i k)
 case atStart => exact ⟨rfl, 0, rfl, Nat.zero_le _, rfl, rfl, rfl⟩
 case round =>
  obtain ⟨rfl, k, hg, hk, rfl, rfl, rfl⟩ := hrel; have hlt := adl_lt (1, 0) (l.take k) (by decide)
  have hst := fun h => ad_step l k h (1, 0)
  obtain ⟨s, hs⟩ : ∃ s, s = adl (1, 0) (l.take k) := ⟨_, rfl⟩; rw [← hs] at hlt hst ⊢; obtain ⟨s1, s2⟩ := s; have HE := zHi hs.symm; clear hs; simp only at hlt ⊢; have c2 : (s1 : Int) < 65521 := by omega
  have c3 : (s2 : Int) < 65521 := by omega
  have HR := zHi (zAi hk (zAi hg (zAi hlt hst))); clear hg hlt hst
  by_cases hlt : k < n
  · have hd : decide (k < n) = true := by simp [hlt]
    obtain ⟨ab, ao, rfl⟩ : ∃ ab ao, base = some ⟨ab, ao, none⟩ := HS.out.at (by have := HN.out; omega)
    have hcell := HS.out.2 k (by have := HN.out; omega)
    obtain ⟨x, hx⟩ : ∃ x, x = l[k]'(by have := HN.out; omega) := ⟨_, rfl⟩
    rw [← hx] at hcell; have hxlt : x.toNat < 256 := x.toBitVec.isLt; obtain ⟨c, hc⟩ : ∃ c, c = x.toNat := ⟨_, rfl⟩; simp only [byteV] at hcell; rw [← hc] at hcell hxlt; have HX := zHi (zAi hx hc); have c4 : (c : Int) ≤ 255 := by omega
    clear hx hc; go_wp2_with fail
    go_roundg (n - (k + 1))
    case measure => have := HR.out.2.1; omega
    case rel =>
     obtain ⟨hk, hg, hlt', hst⟩ := HR.out; have hkl : k < l.length := by have := HN.out; omega
     have e := hst hkl; rw [← HX.out.1] at e; have e1 : (adl (1, 0) (l.take (k + 1))).1 = (s1 + c) % 65521 := by rw [e, HX.out.2]; rfl
     have e2 : (adl (1, 0) (l.take (k + 1))).2 = (s2 + (s1 + c) % 65521) % 65521 := by rw [e, HX.out.2]; rfl
     refine ⟨rfl, k + 1, rfl, hkl, by go_num, ?_, ?_⟩
     · rw [e1]; go_num
     · rw [e2]; go_num
  · obtain rfl : k = n := by have := HN.out; omega
    have hd : decide (k < k) = false := by simp
    go_wp2_with fail
    go_ret
    refine ⟨congrArg (fun x => Ending.returned (.int .u32 x)) ?_, rfl⟩
    obtain ⟨hk, hg, hlt', hst⟩ := HR.out; rw [or_hi _ _ (by omega) (by omega)]
    have e : adl (1, 0) l = (s1, s2) := by have := HE.out; rwa [List.take_of_length_le (by have := HN.out; omega)] at this
    unfold adler adN; rw [e]
theorem rwl_append (s : Nat × Nat) (l m : List UInt8) : rwl s (l ++ m) = rwl (rwl s l) m := List.foldl_append
theorem rwl_ge : ∀ (l : List UInt8) (s : Nat × Nat), s.1 ≤ (rwl s l).1 ∧ s.2 ≤ (rwl s l).2 := by
 intro l
 induction l with
 | nil => exact fun s => ⟨Nat.le_refl _, Nat.le_refl _⟩
 | cons c l ih => exact fun s => ⟨Nat.le_trans (Nat.le_add_right _ _) (ih (rw1 s c)).1, Nat.le_trans (Nat.le_add_right _ _) (ih (rw1 s c)).2⟩
def RkInv (t : Nat × Nat) (b : List UInt8) (s1 s2 i : Value) (k : Nat) : Prop :=
 k ≤ b.length ∧ i = .int .i64 (k : Int) ∧ s1 = .int .u32 ((rwl t (b.take k)).1 : Int) ∧ s2 = .int .u32 ((rwl t (b.take k)).2 : Int)
theorem u32_lo (a b : Nat) (ha : a < 65536) (hb : b < 65536) : bits .and .u32 ((a * 65536 + b : Nat) : Int) 65535 = (b : Int) := by
 rw [show (65535 : Int) = ((65535 : Nat) : Int) from rfl, u32_and_nat _ _ (by omega) (by omega), show 65535 = 2 ^ 16 - 1 from rfl, Nat.and_two_pow_sub_one_eq_mod]
 omega
def UpInv (w : World) (s : Nat × Nat) (l : List UInt8) (g : Nat) (p s1 s2 : Value) (wr : World) : Prop :=
 ∃ (l1 l2 : List UInt8) (b : Option Addr) (cap : Nat), l = l1 ++ l2 ∧ g = l2.length ∧ p = .slice b l2.length cap ∧ Bytes wr b l2 ∧ l2.length ≤ cap ∧ s1 = .int .u32 ((adl s l1).1 : Int) ∧ s2 = .int .u32 ((adl s l1).2 : Int) ∧ Frm (fun _ _ => False) w wr
def RwInv (w : World) (t : Nat × Nat) (q : List UInt8) (g : Nat) (p s1 s2 : Value) (wr : World) : Prop :=
 ∃ (q1 q2 : List UInt8) (b : Option Addr) (cap : Nat), q = q1 ++ q2 ∧ g = q2.length ∧ p = .slice b q2.length cap ∧ Bytes wr b q2 ∧ q2.length ≤ cap ∧ s1 = .int .u32 ((rwl t q1).1 : Int) ∧ s2 = .int .u32 ((rwl t q1).2 : Int) ∧ wr = w
def UpCut (w : World) (l2 : List UInt8) (p r : Value) (wq : World) : Prop :=
 ∃ (q l3 : List UInt8) (b1 b3 : Option Addr) (k1 k3 : Nat), l2 = q ++ l3 ∧ q ≠ [] ∧ q.length ≤ 5552 ∧ p = .slice b1 q.length k1 ∧ r = .slice b3 l3.length k3 ∧ q.length ≤ k1 ∧ l3.length ≤ k3 ∧ Bytes wq b1 q ∧ Bytes wq b3 l3 ∧ Frm (fun _ _ => False) w wq
theorem update_any (w : World) (s : Nat × Nat) (h1 : s.1 < 65521) (h2 : s.2 < 65521) (base : Option Addr) (l : List UInt8) (cap : Nat) (hs : Bytes w base l) (hcap : l.length ≤ cap) (hl : l.length ≤ 4611686018427387904) :
 Calls Tryz.prog 72 #[.int .u32 (adN s : Int), .slice base l.length cap] w fun e w' => e = .returned (.int .u32 (adN (adl s l) : Int)) ∧ Frm (fun _ _ => False) w w' := by
 have e1 : bits .and .u32 (adN s : Int) 65535 = (s.1 : Int) := u32_lo _ _ (by omega) (by omega)
 have e2 : (adN s : Int) / 65536 = (s.2 : Int) := by unfold adN; omega
 have e3 : (adN s : Int) < 4294967296 := by unfold adN; omega
 have HS := zHi hs
 have HC := zHi hcap
 have HA := zHi (zAi h1 h2)
 clear hs hcap
 obtain ⟨n, hn⟩ : ∃ n, n = l.length := ⟨_, rfl⟩
 obtain ⟨d, hd⟩ : ∃ d, d = adN s := ⟨_, rfl⟩
 rw [← hd] at e1 e2 e3 ⊢
 rw [← hn] at hl ⊢
 have HN := zHi hn
 have c1 : (n : Int) ≤ 4611686018427387904 := by omega
 clear hn hl hd
 go_enter Tryz.func72, Tryz.ntmps72
 go_wp2_with fail
 go_loopg [1, 5, 6] n (fun g p s1 s2 wr => UpInv w s l g p s1 s2 wr)
 case atStart => exact ⟨[], l, base, cap, rfl, HN.out, by rw [HN.out], HS.out, HC.out, rfl, rfl, Frm.refl _ _⟩
 case round =>
  obtain ⟨l1, l2, b, cap2, hl, hg, rfl, hb, hc, rfl, rfl, hf⟩ := hrel; have ht := adl_lt s l1 HA.out; obtain ⟨t, htt⟩ : ∃ t, t = adl s l1 := ⟨_, rfl⟩; rw [← htt] at ht ⊢; obtain ⟨t1, t2⟩ := t; simp only at ht ⊢; obtain ⟨ht1, ht2⟩ := ht; have HR := zHi (zAi hl (zAi hg (zAi hb (zAi hc (zAi htt hf))))); obtain ⟨m, hm⟩ : ∃ m, m = l2.length := ⟨_, rfl⟩; rw [← hm]; have HM := zHi hm; have c2 : (m : Int) ≤ 4611686018427387904 := by
   have := HN.out; rw [hl, List.length_append] at this; omega
  have c3 : (t1 : Int) < 65521 := by omega
  have c4 : (t2 : Int) < 65521 := by omega
  by_cases h0 : m = 0
  · have d0 : ¬ 0 < m := by omega
    have el : l2 = [] := List.eq_nil_of_length_eq_zero (hm.symm.trans h0); subst el; clear hl hg hb hc htt hf; go_wp2_with fail
    go_ret
    obtain ⟨hl, hg, hb, hc, htt, hf⟩ := HR.out; refine ⟨congrArg (fun x => Ending.returned (.int .u32 x)) ?_, hf⟩
    rw [or_hi _ _ (by omega) (by omega), hl, List.append_nil, ← htt]
    rfl
  · have d0 : 0 < m := by omega
    clear hl hg hb hc htt hf hm
    go_upto_if 19 with (fail)
    go_cut [1, 7] (fun p r wq => UpCut w l2 p r wq)
    case first =>
     by_cases hbig : 5552 < m
     · obtain ⟨hl, hg, hb, hc, htt, hf⟩ := HR.out; obtain ⟨b1, hr1, hb1⟩ := run_take hb hc 5552 (by have := HM.out; omega)
       obtain ⟨b3, hr3, hb3⟩ := run_tail hb hc 5552 (by have := HM.out; omega)
       rw [← HM.out] at hr1 hr3; obtain ⟨m3, hm3⟩ : ∃ m3, m3 = m - 5552 := ⟨_, rfl⟩; rw [← hm3] at hr3; have hr1' : ∀ w' : World, (Instr.sliceAt 22 (.slice b m cap2) none (some (.int .i64 5552)) none).run Tryz.prog w' = .ok (.slice b1 5552 cap2) w' := hr1; have hr3' : ∀ w' : World, (Instr.sliceAt 22 (.slice b m cap2) (some (.int .i64 5552)) none none).run Tryz.prog w' = .ok (.slice b3 m3 (cap2 - 5552)) w' := hr3; have HB := zHi (zAi hb1 (zAi hb3 hm3)); have t1 : decide ((5552 : Int) < (m : Int)) = true := by simp; omega
       have HG := zHi hbig; clear hl hg hb hc htt hf hr1 hr3 hb1 hb3 hm3 hbig; rw [t1]; clear t1; go_wp2_with fail
       (go_quiet (fail))
       go_wp2_with fail
       go_meet
       case rel =>
        obtain ⟨hl, hg, hb, hc, htt, hf⟩ := HR.out; obtain ⟨hb1, hb3, hm3⟩ := HB.out; have hm := HM.out; have hbig := HG.out; refine ⟨l2.take 5552, l2.drop 5552, b1, b3, cap2, cap2 - 5552, (List.take_append_drop _ _).symm, ?_, ?_, ?_, ?_, ?_, ?_, ?_, ?_, ?_⟩
        · intro e; have h0 : (l2.take 5552).length = 0 := by rw [e]; rfl
          rw [List.length_take] at h0; omega
        · rw [List.length_take]; omega
        · rw [List.length_take, Nat.min_eq_left (by omega)]
        · rw [List.length_drop, hm3, hm]
        · rw [List.length_take]; omega
        · rw [List.length_drop]; omega
        · exact hb1.keep ((Frm.refl (fun _ _ => False) _).drewN _) (fun a _ j _ e => e)
        · exact hb3.keep ((Frm.refl (fun _ _ => False) _).drewN _) (fun a _ j _ e => e)
        · exact hf.drewN _
     · have t1 : decide ((5552 : Int) < (m : Int)) = false := by simp; omega
       have HG := zHi hbig; clear hbig; rw [t1]; clear t1; go_wp2_with fail
       go_meet
       case rel =>
        obtain ⟨hl, hg, hb, hc, htt, hf⟩ := HR.out; have hm := HM.out; have hbig := HG.out; exact ⟨l2, [], b, none, cap2, 0, (List.append_nil _).symm, fun e => by rw [e] at hm; simp at hm; omega, by omega, by rw [hm], rfl, hc, Nat.le_refl _, hb, rfl, hf⟩
    case rest =>
     obtain ⟨q, l3, b1, b3, k1, k3, hq, hne, hql, rfl, rfl, hk1, hk3, hb1, hb3, hf3⟩ := hcut; have HQ := zHi (zAi hq (zAi hne (zAi hql (zAi hk3 (zAi hb3 hf3))))); obtain ⟨mq, hmq⟩ : ∃ mq, mq = q.length := ⟨_, rfl⟩; obtain ⟨m3, hm3⟩ : ∃ m3, m3 = l3.length := ⟨_, rfl⟩; rw [← hmq, ← hm3]; have HK := zHi (zAi hmq (zAi hm3 (zAi hk1 hb1))); clear hq hne hql hk1 hk3 hb1 hb3 hf3 hmq hm3; go_wp2_with fail
     go_loopg [1, 5, 6] mq (fun g p s1 s2 wr => RwInv wc (t1, t2) q g p s1 s2 wr)
     case atStart => exact ⟨[], q, b1, k1, rfl, HK.out.1, by rw [HK.out.1], HK.out.2.2.2, HK.out.2.2.1, rfl, rfl, rfl⟩
     case round =>
      obtain ⟨q1, q2, b2, k2, hqq, hg2, rfl, hb2, hk2, rfl, rfl, rfl⟩ := hrel; have hsm := rwl_small q (t1, t2) ht1 ht2 HQ.out.2.2.1; obtain ⟨u, hu⟩ : ∃ u, u = rwl (t1, t2) q1 := ⟨_, rfl⟩; rw [hqq, rwl_append, ← hu] at hsm; rw [← hu]; obtain ⟨u1, u2⟩ := u; simp only; obtain ⟨m2, hm2⟩ : ∃ m2, m2 = q2.length := ⟨_, rfl⟩; rw [← hm2]; have hm2q : m2 ≤ 5552 := by have := HQ.out.2.2.1; rw [hqq, List.length_append] at this; omega
      have HV := zHi (zAi hqq (zAi hg2 (zAi hk2 hu)))
      by_cases h4 : 4 ≤ m2
      · obtain ⟨x0, x1, x2, x3, q3, rfl⟩ : ∃ x0 x1 x2 x3 q3, q2 = x0 :: x1 :: x2 :: x3 :: q3 := by
         match q2, hm2 with
         | [], h => simp at h; omega
         | [_], h => simp at h; omega
         | [_, _], h => simp at h; omega
         | [_, _, _], h => simp at h; omega
         | a :: b :: c :: d :: q, _ => exact ⟨a, b, c, d, q, rfl⟩
        obtain ⟨ab, ao, rfl⟩ := hb2.at (by simp)
        have hc0 : wr.cell? ⟨ab, ao, none⟩ = some (byteV x0) := hb2.2 0 (by simp)
        have hc1 : wr.cell? ⟨ab, ao + 1, none⟩ = some (byteV x1) := hb2.2 1 (by simp)
        have hc2 : wr.cell? ⟨ab, ao + 2, none⟩ = some (byteV x2) := hb2.2 2 (by simp)
        have hc3 : wr.cell? ⟨ab, ao + 3, none⟩ = some (byteV x3) := hb2.2 3 (by simp)
        obtain ⟨b4, hr4, hb4⟩ := run_tail hb2 hk2 4 (by simp)
        rw [← hm2] at hr4; have hr4' : ∀ w' : World, (Instr.sliceAt 22 (.slice (some ⟨ab, ao, none⟩) m2 k2) (some (.int .i64 4)) none none).run Tryz.prog w' = .ok (.slice b4 (m2 - 4) (k2 - 4)) w' := hr4; have hs3 := rwl_le q3 (rw1 (rw1 (rw1 (rw1 (u1, u2) x0) x1) x2) x3); have hup := rwl_ge q3 (rw1 (rw1 (rw1 (rw1 (u1, u2) x0) x1) x2) x3); have heq : rwl (u1, u2) (x0 :: x1 :: x2 :: x3 :: q3) = rwl (rw1 (rw1 (rw1 (rw1 (u1, u2) x0) x1) x2) x3) q3 := rfl; rw [heq] at hsm; have hup1 := Nat.lt_of_le_of_lt hup.1 hsm.1; have hup2 := Nat.lt_of_le_of_lt hup.2 hsm.2; have y0 : x0.toNat < 256 := x0.toBitVec.isLt; have y1 : x1.toNat < 256 := x1.toBitVec.isLt; have y2 : x2.toNat < 256 := x2.toBitVec.isLt; have y3 : x3.toNat < 256 := x3.toBitVec.isLt; obtain ⟨z0, hz0⟩ : ∃ z, z = x0.toNat := ⟨_, rfl⟩; obtain ⟨z1, hz1⟩ : ∃ z, z = x1.toNat := ⟨_, rfl⟩; obtain ⟨z2, hz2⟩ : ∃ z, z = x2.toNat := ⟨_, rfl⟩; obtain ⟨z3, hz3⟩ : ∃ z, z = x3.toNat := ⟨_, rfl⟩; simp only [byteV] at hc0 hc1 hc2 hc3; simp only [rw1] at hup1 hup2; rw [← hz0] at hc0 y0; rw [← hz1] at hc1 y1; rw [← hz2] at hc2 y2; rw [← hz3] at hc3 y3; rw [← hz0, ← hz1, ← hz2, ← hz3] at hup1 hup2; have i1 : (u1 : Int) + z0 + z1 + z2 + z3 < 1500000 := by omega
        have i2 : (u2 : Int) + (u1 + z0) + (u1 + z0 + z1) + (u1 + z0 + z1 + z2) + (u1 + z0 + z1 + z2 + z3) < 4294967296 := by omega
        have i3 : (4 : Int) ≤ m2 := by omega
        have HZZ := zHi (zAi hup1 (zAi hup2 (zAi hm2q h4))); clear hup1 hup2 hm2q h4; have HZ := zHi (zAi hz0 (zAi hz1 (zAi hz2 (zAi hz3 (zAi hb4 hm2))))); clear hz0 hz1 hz2 hz3 hb4 hsm hs3 hup heq hr4 hb2 hqq hg2 hk2 hu hm2; go_wp2_with fail
        go_roundg (m2 - 4)
        case measure => have := HV.out.2.1; have := HZ.out.2.2.2.2.2; omega
        case rel =>
         obtain ⟨hqq, hg2, hk2, hu⟩ := HV.out; obtain ⟨hz0, hz1, hz2, hz3, hb4, hm2⟩ := HZ.out; refine ⟨q1 ++ [x0, x1, x2, x3], q3, b4, k2 - 4, by rw [hqq]; simp, by rw [hm2]; simp, by rw [hm2]; simp, hb4, by rw [← hm2] at hk2; simp at hm2; omega, ?_, ?_, rfl⟩
         · rw [rwl_append, ← hu]; simp only [rwl, List.foldl_cons, List.foldl_nil, rw1]
           go_num
         · rw [rwl_append, ← hu]; simp only [rwl, List.foldl_cons, List.foldl_nil, rw1]
           go_num
      · have i3 : ¬ (4 : Int) ≤ m2 := by omega
        have i4 : (m2 : Int) < 4 := by omega
        have HW := zHi (zAi hm2 (zAi hm2q (zAi h4 (zAi hb2 hsm)))); clear hm2 hm2q h4 hsm hqq hg2 hk2 hu; go_wp2_with fail
        go_loopg [5, 6, 67] (m2 - 0) (fun g s1 s2 i wz => wz = wr ∧ ∃ k, g = m2 - k ∧ RkInv (u1, u2) q2 s1 s2 i k)
        case atStart => exact ⟨rfl, 0, rfl, Nat.zero_le _, rfl, rfl, rfl⟩
        case round =>
         obtain ⟨rfl, k, hgk, hk, rfl, rfl, rfl⟩ := hrel; have hsm := HW.out.2.2.2.2; have hm2 := HW.out.1; have hb2 := HW.out.2.2.2.1; have hst := fun h => rw_step q2 k h (u1, u2)
         have hpart : rwl (u1, u2) q2 = rwl (rwl (u1, u2) (q2.take k)) (q2.drop k) := by rw [← rwl_append, List.take_append_drop]
         obtain ⟨v, hv⟩ : ∃ v, v = rwl (u1, u2) (q2.take k) := ⟨_, rfl⟩; rw [← hv] at hst hpart ⊢; obtain ⟨v1, v2⟩ := v; simp only
         by_cases hkl : k < m2
         · have hkl' : k < q2.length := by omega
           obtain ⟨ab, ao, rfl⟩ := hb2.at (by omega)
           have hcell := hb2.2 k hkl'; obtain ⟨x, hx⟩ : ∃ x, x = q2[k] := ⟨_, rfl⟩; have hdr : q2.drop k = x :: q2.drop (k + 1) := by rw [hx]; exact List.drop_eq_getElem_cons hkl'
           rw [hdr] at hpart; have hup := rwl_ge (q2.drop (k + 1)) (rw1 (v1, v2) x); have heq : rwl (v1, v2) (x :: q2.drop (k + 1)) = rwl (rw1 (v1, v2) x) (q2.drop (k + 1)) := rfl; rw [heq] at hpart; rw [← hpart] at hup; have hup1 := Nat.lt_of_le_of_lt hup.1 hsm.1; have hup2 := Nat.lt_of_le_of_lt hup.2 hsm.2; have hs1 := hst hkl'; rw [← hx] at hcell hs1; simp only [rw1] at hup1 hup2 hs1; have y0 : x.toNat < 256 := x.toBitVec.isLt; obtain ⟨z, hz⟩ : ∃ z, z = x.toNat := ⟨_, rfl⟩; simp only [byteV] at hcell; rw [← hz] at hcell y0 hup1 hup2 hs1; have i1 : (v1 : Int) + z < 1500000 := by omega
           have i2 : (v2 : Int) + (v1 + z) < 4294967296 := by omega
           have i5 : (k : Int) < m2 := by omega
           have HX := zHi (zAi hgk (zAi hkl' hs1)); clear hup hup1 hup2 hs1 hx hdr hpart heq hst hsm hm2 hb2 hz hv hk hgk hkl'; go_wp2_with fail
           go_roundg (m2 - (k + 1))
           case measure => have := HX.out.1; omega
           case rel =>
            refine ⟨rfl, k + 1, rfl, HX.out.2.1, by go_num, ?_, ?_⟩
            · rw [HX.out.2.2]; go_num
            · rw [HX.out.2.2]; go_num
         · have hke : k = m2 := by omega
           have HX := zHi (zAi hke hv); have i5 : ¬ (k : Int) < m2 := by omega
           clear hst hpart hsm hm2 hb2 hv hk hgk hke hkl; go_wp2_with fail
           go_roundg m3
           case measure =>
            have a1 := HR.out.2.1; have a2 := HQ.out.1; have a3 := HQ.out.2.1; have a4 := HK.out.2.1; have a5 : 0 < q.length := List.length_pos_iff.2 a3; have a6 := congrArg List.length a2; rw [List.length_append] at a6; omega
           case rel =>
            obtain ⟨hl, hg, hb, hc, htt, hf⟩ := HR.out; obtain ⟨hq, hne, hql, hk3, hb3, hf3⟩ := HQ.out; obtain ⟨hqq, hg2, hk2, hu⟩ := HV.out; obtain ⟨hm2, hm2q, h4, hb2, hsm⟩ := HW.out; obtain ⟨hke, hv⟩ := HX.out; have e0 : rwl (t1, t2) q = (v1, v2) := by
             rw [hqq, rwl_append, ← hu, hv, List.take_of_length_le (by omega)]
            have em := rwl_mod q (t1, t2) (t1, t2) rfl rfl ht1 ht2; rw [e0] at em; have ea : adl s (l1 ++ q) = adl (t1, t2) q := by rw [adl_append, ← htt]
            refine ⟨l1 ++ q, l3, b3, k3, by rw [hl, hq, List.append_assoc], HK.out.2.1, by rw [HK.out.2.1], hb3, hk3, ?_, ?_, hf3⟩
            · rw [ea, ← em.1]; go_num
            · rw [ea, ← em.2]; go_num
theorem checksum_any (w : World) (base : Option Addr) (l : List UInt8) (cap : Nat) (hs : Bytes w base l) (hcap : l.length ≤ cap) (hl : l.length ≤ 4611686018427387904) :
 Calls Tryz.prog 58 #[.slice base l.length cap] w fun e w' => e = .returned (.int .u32 (adler l : Int)) ∧ Frm (fun _ _ => False) w w' := by
 have hu := update_any w (1, 0) (by decide) (by decide) base l cap hs hcap hl
 rw [show adN (1, 0) = 1 from rfl] at hu
 have hu' : Calls Tryz.prog 72 #[.int .u32 1, .slice base l.length cap] w fun e w' => e = .returned (.int .u32 (adler l : Int)) ∧ Frm (fun _ _ => False) w w' := hu
 have HU := zHi hu'
 clear hu hu' hs hcap hl
 go_enter Tryz.func58, Tryz.ntmps58
 go_wp2_with fail
 refine HU.out.mono ?_
 rintro e w1 ⟨rfl, hf⟩
 go_wp2_with fail
 go_ret
 exact ⟨rfl, hf⟩
structure Dig (w : World) (A : Nat) (l : List UInt8) : Prop where
 c : w.cell? ⟨A, 0, none⟩ = some (.int .u32 (adler l : Int))
 fr : ∀ o, w.frozen? ⟨A, o, none⟩ = false
 n : ∀ o, 1 ≤ o → w.cell? ⟨A, o, none⟩ = none
theorem Dig.keep {S : Nat → Nat → Prop} {w w' : World} {A : Nat} {l : List UInt8} (h : Dig w A l) (hf : Frm S w w') (hS : ∀ o, ¬ S A o) : Dig w' A l :=
 ⟨hf.keep h.c (hS 0), fun o => (hf.froz A o (cell_lt h.c)).trans (h.fr o), fun o ho => (hf.cell A o (cell_lt h.c) (hS o)).trans (h.n o ho)⟩
theorem digReset_any (w : World) (A : Nat) (v : Value) (hc : w.cell? ⟨A, 0, none⟩ = some v) (hf : w.frozen? ⟨A, 0, none⟩ = false) :
 Calls Tryz.prog 76 #[.pointer (some ⟨A, 0, none⟩)] w fun e w' => e = .returned (.tuple #[]) ∧ w' = w.setCell ⟨A, 0, none⟩ (.int .u32 1) := by
 go_enter Tryz.func76, Tryz.ntmps76
 go_wp2_with fail
 exact bodyPost_end (results_none rfl _ _ _) rfl ⟨rfl, rfl⟩
theorem digNew_any (w : World) :
 Calls Tryz.prog 61 #[] w fun e w' => e = .returned (.iface 163 (.pointer (some ⟨w.heap.size, 0, none⟩))) ∧ Dig w' w.heap.size [] ∧ Frm (fun _ _ => False) w w' := by
 go_enter Tryz.func61, Tryz.ntmps61
 go_wp2_with fail
 refine (digReset_any _ w.heap.size (.int .u32 0) (cells_at (heap_alloc_new w _)) (World.frozen?_alloc_new ..)).mono ?_
 rintro e w2 ⟨rfl, rfl⟩
 go_wp2_with fail
 go_ret
 exact ⟨rfl, ⟨cells_at (heap_alloc_new w _), fun o => World.frozen?_alloc_new .., fun o ho => (cells_at (heap_alloc_new w _)).trans (Array.getElem?_eq_none ho)⟩, (Frm.refl _ _).alloc _⟩
theorem digSum_any (w : World) (A : Nat) (l : List UInt8) (h : Dig w A l) :
 Calls Tryz.prog 135 #[.pointer (some ⟨A, 0, none⟩)] w fun e w' => e = .returned (.int .u32 (adler l : Int)) ∧ w' = w := by
 obtain ⟨hc, hf, _⟩ := h
 obtain ⟨n, hn⟩ : ∃ n, n = adler l := ⟨_, rfl⟩
 rw [← hn] at hc ⊢
 clear hn
 go_enter Tryz.func135, Tryz.ntmps135
 go_wp2_with fail
 go_ret
 exact ⟨rfl, rfl⟩
theorem digWrite_any (w : World) (A : Nat) (x : List UInt8) (h : Dig w A x) (base : Option Addr) (l : List UInt8) (cap : Nat) (hs : Bytes w base l) (hcap : l.length ≤ cap) (hl : l.length ≤ 4611686018427387904) :
 Calls Tryz.prog 136 #[.pointer (some ⟨A, 0, none⟩), .slice base l.length cap] w fun e w' => e = .returned (.tuple #[.int .i64 (l.length : Int), .nilIface]) ∧ Dig w' A (x ++ l) ∧ Frm (fun b o => b = A ∧ o = 0) w w' := by
 have hlt := adl_lt (1, 0) x (by decide)
 have hu := update_any w (adl (1, 0) x) hlt.1 hlt.2 base l cap hs hcap hl
 rw [← adl_append] at hu
 have hu' : Calls Tryz.prog 72 #[.int .u32 (adler x : Int), .slice base l.length cap] w fun e w' => e = .returned (.int .u32 (adler (x ++ l) : Int)) ∧ Frm (fun _ _ => False) w w' := hu
 have HH := zHi h
 have hc := h.c
 obtain ⟨n, hn⟩ : ∃ n, n = adler x := ⟨_, rfl⟩
 obtain ⟨m, hm⟩ : ∃ m, m = adler (x ++ l) := ⟨_, rfl⟩
 obtain ⟨k, hk⟩ : ∃ k, k = l.length := ⟨_, rfl⟩
 rw [← hn, ← hm, ← hk] at hu'
 rw [← hn] at hc
 rw [← hk]
 have HU := zHi hu'
 have HM := zHi hm
 clear hu hu' hs hcap hl hlt hn hm hk h
 go_enter Tryz.func136, Tryz.ntmps136
 go_wp2_with fail
 refine HU.out.mono ?_
 rintro e w1 ⟨rfl, hf⟩
 have hc1 := hf.keep hc (fun e => e)
 have hf1 : w1.frozen? ⟨A, 0, none⟩ = false := (hf.froz A 0 (cell_lt hc)).trans (HH.out.fr 0)
 go_wp2_with fail
 go_ret2
 refine ⟨rfl, ⟨by rw [← HM.out]; exact set_get hc1, fun o => by rw [World.frozen?_setCell]; exact (hf.froz A o (cell_lt hc)).trans (HH.out.fr o), fun o ho => (cell_set_off (by omega)).trans ((hf.cell A o (cell_lt hc) (fun e => e)).trans (HH.out.n o ho))⟩, (hf.mono fun _ _ e => e.elim).setCell (.inl ⟨rfl, rfl⟩) _⟩
theorem or_add (a b n : Nat) (hb : b < 2 ^ n) : b ||| (a * 2 ^ n) = a * 2 ^ n + b := by
 rw [Nat.or_comm, Nat.mul_comm, ← Nat.two_pow_add_eq_or_of_lt hb]
theorem be16 (a b : Nat) (ha : a < 256) (hb : b < 256) : bits .or .u16 (b : Int) ((a : Int) * 256) = ((a * 256 + b : Nat) : Int) := by
 rw [show ((a : Int) * 256) = ((a * 256 : Nat) : Int) by omega]
 show IntKind.u16.wrap ((BitVec.ofInt 16 (b : Int) ||| BitVec.ofInt 16 ((a * 256 : Nat) : Int)).toNat : Int) = _
 have ea : (BitVec.ofInt 16 (b : Int)).toNat = b := by rw [BitVec.toNat_ofInt]; omega
 have eb : (BitVec.ofInt 16 ((a * 256 : Nat) : Int)).toNat = a * 256 := by rw [BitVec.toNat_ofInt]; omega
 rw [BitVec.toNat_or, ea, eb, show a * 256 = a * 2 ^ 8 from rfl, or_add a b 8 (by omega), u16_in _ (by omega)]
def be4 (a b c d : Nat) : Nat := a * 16777216 + b * 65536 + c * 256 + d
theorem be32 (a b c d : Nat) (ha : a < 256) (hb : b < 256) (hc : c < 256) (hd : d < 256) :
 bits .or .u32 (bits .or .u32 (bits .or .u32 (d : Int) ((c : Int) * 256)) ((b : Int) * 65536)) ((a : Int) * 16777216) = (be4 a b c d : Int) := by
 rw [show ((c : Int) * 256) = ((c * 256 : Nat) : Int) by omega, show ((b : Int) * 65536) = ((b * 65536 : Nat) : Int) by omega, show ((a : Int) * 16777216) = ((a * 16777216 : Nat) : Int) by omega]
 rw [u32_or_nat _ _ (by omega) (by omega), show c * 256 = c * 2 ^ 8 from rfl, or_add c d 8 (by omega)]
 rw [u32_or_nat _ _ (by omega) (by omega), show b * 65536 = b * 2 ^ 16 from rfl, or_add b _ 16 (by omega)]
 rw [u32_or_nat _ _ (by omega) (by omega), show a * 16777216 = a * 2 ^ 24 from rfl, or_add a _ 24 (by omega)]
 unfold be4
 omega
theorem uint16_any (w : World) (X o cap : Nat) (n : Nat) (hn : 2 ≤ n) (a b : Nat) (ha : a < 256) (hb : b < 256) (h0 : w.cell? ⟨X, o, none⟩ = some (.int .u8 (a : Int))) (h1 : w.cell? ⟨X, o + 1, none⟩ = some (.int .u8 (b : Int))) :
 Calls Tryz.prog 56 #[.agg #[], .slice (some ⟨X, o, none⟩) n cap] w fun e w' => e = .returned (.int .u16 ((a * 256 + b : Nat) : Int)) ∧ Frm (fun _ _ => False) w w' := by
 have hf := (Frm.refl (fun _ _ => False) w).alloc (.cells #[] 119)
 have k0 := hf.keep h0 (fun e => e)
 have k1 := hf.keep h1 (fun e => e)
 have c1 : (a : Int) < 256 := by omega
 have c2 : (b : Int) < 256 := by omega
 have HB := zHi (be16 a b ha hb)
 have HF := zHi hf
 clear h0 h1 hf
 go_enter Tryz.func56, Tryz.ntmps56
 go_wp2_with fail
 (go_quiet (fail))
 go_wp2_with fail
 go_ret
 exact ⟨congrArg (fun x => Ending.returned (.int .u16 x)) HB.out, HF.out.drewN _⟩
theorem uint32_any (w : World) (X o cap : Nat) (n : Nat) (hn : 4 ≤ n) (a b c d : Nat) (ha : a < 256) (hb : b < 256) (hc : c < 256) (hd : d < 256) (h0 : w.cell? ⟨X, o, none⟩ = some (.int .u8 (a : Int))) (h1 : w.cell? ⟨X, o + 1, none⟩ = some (.int .u8 (b : Int)))  (h2 : w.cell? ⟨X, o + 2, none⟩ = some (.int .u8 (c : Int))) (h3 : w.cell? ⟨X, o + 3, none⟩ = some (.int .u8 (d : Int))) :
 Calls Tryz.prog 57 #[.agg #[], .slice (some ⟨X, o, none⟩) n cap] w fun e w' => e = .returned (.int .u32 (be4 a b c d : Int)) ∧ Frm (fun _ _ => False) w w' := by
 have hf := (Frm.refl (fun _ _ => False) w).alloc (.cells #[] 119)
 have k0 := hf.keep h0 (fun e => e)
 have k1 := hf.keep h1 (fun e => e)
 have k2 := hf.keep h2 (fun e => e)
 have k3 := hf.keep h3 (fun e => e)
 have c3 : (c : Int) < 256 := by omega
 have c4 : (d : Int) < 256 := by omega
 have c1 : (a : Int) < 256 := by omega
 have c2 : (b : Int) < 256 := by omega
 have HB := zHi (be32 a b c d ha hb hc hd)
 have HF := zHi hf
 clear h0 h1 h2 h3 hf
 go_enter Tryz.func57, Tryz.ntmps57
 go_wp2_with fail
 (go_quiet (fail))
 go_wp2_with fail
 go_ret
 exact ⟨congrArg (fun x => Ending.returned (.int .u32 x)) HB.out, HF.out.drewN _⟩
end Go.Proofs.YthfncdfcklbigaaGreatDoor
namespace Go.Proofs.YthfncdfcklbigaaGreatDoor
open Go.RowKit Flate
set_option maxRecDepth 100000
def NoTab (w : World) (b : Nat) : Prop :=
 ∀ o v, w.cell? ⟨b, o, none⟩ = some v → (∃ u : Int, v = .int .u8 u) ∨ (∃ t x, v = .iface t x) ∨ v = .nilIface ∨ (∃ u : Int, v = .int .u32 u) ∧ w.cell? ⟨b, 1, none⟩ = none
theorem ByteBlock.noTab {w : World} {b : Nat} (h : ByteBlock w b) : NoTab w b := fun o v hv => .inl (h o v hv)
theorem TabAt.nt {S : Nat → Nat → Prop} {w w' : World} {B o : Nat} {T : Tab} {N : Nat → Prop} (h : TabAt w B o T N) (hT : T.OK) (hf : Frm S w w') (hS : ∀ b o, S b o → NoTab w b) : TabAt w' B o T N := by
 have key : ∀ {b o : Nat} {v : Value}, w.cell? ⟨b, o, none⟩ = some v → (∀ u : Int, v ≠ .int .u8 u) → (∀ t x, v ≠ .iface t x) → v ≠ .nilIface → ((∃ u : Int, v = .int .u32 u) → w.cell? ⟨b, 1, none⟩ ≠ none) → w'.cell? ⟨b, o, none⟩ = some v := fun hc h1 h2 h3 h4 => hf.keep hc (fun q => by
  rcases hS _ _ q _ _ hc with ⟨u, hu⟩ | ⟨t, x, hu⟩ | hu | ⟨hu, hn⟩
  · exact h1 u hu
  · exact h2 t x hu
  · exact h3 hu
  · exact h4 hu hn)
 have h2 : ∀ q, S B q → False := fun q hq => by
  have hm := h.min; rcases hS _ _ hq _ _ hm with ⟨u, hu⟩ | ⟨t, x, hu⟩ | hu | ⟨⟨u, hu⟩, _⟩
  · simp at hu
  · simp at hu
  · simp at hu
  · simp at hu
 have kB : ∀ {q : Nat} {v : Value}, w.cell? ⟨B, q, none⟩ = some v → w'.cell? ⟨B, q, none⟩ = some v := fun hc => hf.keep hc (fun q => h2 _ q)
 refine ⟨kB h.min, fun i hi => kB (h.ch i hi), kB h.mask, fun e => kB (h.none_ e), fun e => ?_⟩
 obtain ⟨L, hL, h3, h4⟩ := h.some_ e
 have hm := hT.two e
 refine ⟨L, hL, kB h3, fun k hk => ?_⟩
 obtain ⟨b, hb, h5, h6⟩ := h4 k hk
 exact ⟨b, hb, key h5 (by simp) (by simp) (by simp) (by simp), fun j hj => key (h6 j hj) (by simp) (by simp) (by simp) (fun _ => by rw [h6 1 (by omega)]; simp)⟩
theorem TabV.nt {S : Nat → Nat → Prop} {w w' : World} {F : Nat} {d : DS} {v : Value} {T : Tab} (h : TabV w F d v T) (hf : Frm S w w') (hS : ∀ b o, S b o → NoTab w b) : TabV w' F d v T := by
 obtain ⟨B, o, h1, h2, h3⟩ := h
 exact ⟨B, o, h1, h2.nt h3.1 hf hS, h3⟩
theorem Tabs.nt {S : Nat → Nat → Prop} {w w' : World} {F : Nat} {d : DS} {T : Tab} {D : Option Tab} (h : Tabs w F d T D) (hf : Frm S w w') (hS : ∀ b o, S b o → NoTab w b) : Tabs w' F d T D := by
 cases D with
 | none => exact ⟨h.1.nt hf hS, h.2⟩
 | some D => exact ⟨h.1.nt hf hS, h.2.nt hf hS⟩
theorem RS.nt {S : Nat → Nat → Prop} {F C : Nat} {p : Ps} {d0 : DS} {x0 : Cfg × List UInt8} {k : Nat} {w w' : World} {d : DS} {H : List UInt8} {n : Nat} {x : Cfg × List UInt8} (h : RS F C p d0 x0 k w d H n x) (hf : Frm S w w')
 (hS : ∀ b o, S b o → C ≤ b ∧ ¬ MD F d b ∧ (∀ a, d.base = some a → a.block ≠ b) ∧ NoTab w b) : RS F C p d0 x0 k w' d H n x := by
 have hno : ∀ {b o : Nat}, MD F d b → ¬ S b o := fun hm q => (hS _ _ q).2.1 hm
 have hdec : Dec w' F d := h.st.dec.keep hf (fun o q => (hno (.inl rfl) q).elim) (fun o q => (hno (.inr (.inl rfl)) q).elim) (fun o q => (hno (.inr (.inr (.inl rfl))) q).elim) (fun a ha j _ q => (hS _ _ q).2.2.1 a ha rfl)
 refine ⟨h.st.of hdec hf (fun b o q => ⟨(hS _ _ q).1, fun e => by subst e; exact absurd q (hno (.inl rfl))⟩) (Same.refl _) ⟨rfl, rfl, rfl, rfl, rfl⟩, h.mode.of (Same.refl _) ⟨rfl, rfl, rfl, rfl, rfl, rfl, rfl, rfl, rfl, rfl⟩ (fun T D hT => hT.nt hf (fun b o q => (hS b o q).2.2.2)), h.reach, h.same, h.wr, h.fl⟩
set_option maxHeartbeats 2000000 in
theorem dictInit_again (w : World) (F HB : Nat) (g0 : Nat → UInt8) (base : Option Addr) (dict : List UInt8) (cap : Nat) (hb : Bytes w base dict) (hcap : dict.length ≤ cap) (hlen : dict.length ≤ 4294967296) (c37 : w.cell? ⟨F, 1037, none⟩ = some (.slice (some ⟨HB, 0, none⟩) 32768 32768)) (wr0 rd0 : Int) (full0 : Bool) (c38 : w.cell? ⟨F, 1038, none⟩ = some (.int .i64 wr0)) (c39 : w.cell? ⟨F, 1039, none⟩ = some (.int .i64 rd0)) (c40 : w.cell? ⟨F, 1040, none⟩ = some (.bool full0))
 (f : ∀ o, w.frozen? ⟨F, o, none⟩ = false) (hwin0 : ∀ i, i < 32768 → w.cell? ⟨HB, i, none⟩ = some (.int .u8 ((g0 i).toNat : Int))) (hfz0 : ∀ o, w.frozen? ⟨HB, o, none⟩ = false) (nFH : F ≠ HB) (hne : ∀ a, base = some a → a.block ≠ F) (hneH : ∀ a, base = some a → a.block ≠ HB) :
 Calls Tryz.prog 75 #[.pointer (some ⟨F, 1037, none⟩), .int .i64 32768, .slice base dict.length cap] w (DictPost w F HB dict (fun b o => b = F ∧ 1037 ≤ o ∧ o < 1041 ∨ b = HB)) := by
 have f37 := f 1037
 have f38 := f 1038
 have f39 := f 1039
 have f40 := f 1040
 go_enter Tryz.func75, Tryz.ntmps75
 obtain ⟨N, hN⟩ : ∃ N, N = 32768 := ⟨_, rfl⟩
 replace c37 : w.cell? ⟨F, 1037, none⟩ = some (.slice (some ⟨HB, 0, none⟩) N N) := by rw [hN]; exact c37
 have hsl : ∀ (w : World) (B : Nat), (Instr.sliceAt 22 (.slice (some ⟨B, 0, none⟩) N N) none (some (.int .i64 32768)) none).run Tryz.prog w = .ok (.slice (some ⟨B, 0, none⟩) N N) w := fun w B => by
  have hsz : ∀ w : World, (sizeOf (Tryz.prog.elem 22)).run Tryz.prog w = .ok 1 w := fun w => by kernel_rfl
  have hu : Tryz.prog.underlying 22 = some (.slice (Tryz.prog.elem 22)) := by kernel_rfl
  rw [run_sliceAt_slice w _ _ _ _ _ hu, run_slice_h w _ _ _ _ hu _ _ (by omega) (by omega), hsz]
  have e : (32768 : Int).toNat = N := by rw [hN]; rfl
  simp only [Result.andThen, sliced, e, Nat.sub_zero]; rw [if_neg (by omega)]
  simp [Addr.add]
 have b1 : (N : Int) ≤ 32768 := by omega
 have b2 : (32768 : Int) ≤ (N : Int) := by omega
 have b9 : decide ((N : Int) < 32768) = false := by simp; omega
 have HN := zHi hN
 have HX := zHi (zAi hwin0 (zAi hfz0 (zAi hb nFH)))
 have HNE := zHi hneH
 clear hN hwin0 hfz0 hb nFH hneH
 go_upto_region 4 with (fail)
 clear b9
 obtain ⟨w3, hw3⟩ : ∃ w3, w3 = ((((w.setCell ⟨F, 1037, none⟩ (.slice (some ⟨HB, 0, none⟩) N N)).setCell ⟨F, 1038, none⟩ (.int .i64 0)).setCell ⟨F, 1039, none⟩ (.int .i64 0)).setCell ⟨F, 1040, none⟩ (.bool false)).setCell ⟨F, 1037, none⟩ (.slice (some ⟨HB, 0, none⟩) N N) := ⟨_, rfl⟩
 rw [← hw3]
 obtain ⟨hwin0, hfz0, hb, nFH⟩ := HX.out
 have k37 : w3.cell? ⟨F, 1037, none⟩ = some (.slice (some ⟨HB, 0, none⟩) N N) := by rw [hw3]; go_simp
 have k38 : w3.cell? ⟨F, 1038, none⟩ = some (.int .i64 0) := by rw [hw3]; go_simp
 have k39 : w3.cell? ⟨F, 1039, none⟩ = some (.int .i64 0) := by rw [hw3]; go_simp
 have k40 : w3.cell? ⟨F, 1040, none⟩ = some (.bool false) := by rw [hw3]; go_simp
 have kz : ∀ b o, w3.frozen? ⟨b, o, none⟩ = w.frozen? ⟨b, o, none⟩ := fun b o => by rw [hw3, World.frozen?_setCell, World.frozen?_setCell, World.frozen?_setCell, World.frozen?_setCell, World.frozen?_setCell]
 have l37 := (kz F 1037).trans f37
 have l38 := (kz F 1038).trans f38
 have l39 := (kz F 1039).trans f39
 have l40 := (kz F 1040).trans f40
 have hnew3 : ∀ j, j < 32768 → w3.cell? ⟨HB, j, none⟩ = some (.int .u8 ((g0 j).toNat : Int)) := fun j hj => by
  rw [hw3, cell_set_ne (.inl nFH.symm), cell_set_ne (.inl nFH.symm), cell_set_ne (.inl nFH.symm), cell_set_ne (.inl nFH.symm), cell_set_ne (.inl nFH.symm)]; exact hwin0 j hj
 have hfz3 : ∀ j, w3.frozen? ⟨HB, j, none⟩ = false := fun j => (kz HB j).trans (hfz0 j)
 have hfr3 : Frm (fun b o => b = F ∧ 1037 ≤ o ∧ o < 1041 ∨ b = HB) w w3 := by
  rw [hw3]; exact (((((Frm.refl _ _).setCell (.inl (.inl ⟨rfl, by simp⟩)) _).setCell (.inl (.inl ⟨rfl, by simp⟩)) _).setCell (.inl (.inl ⟨rfl, by simp⟩)) _).setCell (.inl (.inl ⟨rfl, by simp⟩)) _).setCell (.inl (.inl ⟨rfl, by simp⟩)) _
 have hb3 : Bytes w3 base dict := hb.keep hfr3 (fun a ha j _ e => by
  rcases e with e | e
  · exact hne a ha e.1
  · exact HNE.out a ha e)
 obtain ⟨l, hl⟩ : ∃ l, l = dict.drop (dict.length - 32768) := ⟨_, rfl⟩
 have hll : l.length ≤ 32768 := by rw [hl, List.length_drop]; omega
 obtain ⟨D, hD⟩ : ∃ D, D = dict.length := ⟨_, rfl⟩
 rw [← hD]
 have b3 : (D : Int) ≤ 4294967296 := by omega
 have HX3 := zHi (zAi hnew3 (zAi hfz3 (zAi hfr3 hb3)))
 have HL := zHi hl
 have HLL := zHi hll
 have HDE := zHi hD
 have HCAP := zHi hcap
 clear hw3 hwin0 hfz0 hb nFH kz hnew3 hfz3 hfr3 hb3 c37 c38 c39 c40 f37 f38 f39 f40 f hl hll hne hcap hlen hsl hD
 go_upto_if 41 with (fail)
 go_cut [2] (fun s wq => ∃ base' cap', s = .slice base' l.length cap' ∧ Hid (Bytes w3 base' l) ∧ w3 = wq)
 case first =>
  by_cases hgt : N < D
  · have e1 : N < D := hgt; obtain ⟨q, hq⟩ : ∃ q, q = D - N := ⟨_, rfl⟩; have z1 : (D : Int) - (N : Int) = (q : Int) := by omega
    have hb := HX3.out.2.2.2; have hDl := HDE.out
    cases base with
    | none =>
     have : dict = [] := hb; rw [this] at hDl; simp at hDl; omega
    | some a =>
     obtain ⟨hs, hcell⟩ := hb; obtain ⟨ab, ao, asp⟩ := a; simp only at hs; subst hs; obtain ⟨base', hsl, hbase⟩ := run_rest ab ao D cap q (by omega) (by have := HCAP.out; omega)
     have hbe := hbase (by omega)
     have hln : l.length = N := by rw [HL.out, List.length_drop]; have := HN.out; omega
     have hDq : D - q = l.length := by omega
     rw [hDq] at hsl; have hby : Bytes w3 base' l := by
      rw [hbe]; refine ⟨rfl, fun j hj => ?_⟩
      have hidx : q + j < dict.length := by omega
      have h1 := hcell (q + j) hidx; rw [← Nat.add_assoc] at h1; simp only at h1 ⊢; rw [h1]; have hqq : q = dict.length - 32768 := by have := HN.out; omega
      have hle : l[j] = dict[q + j] := drop_get (by rw [HL.out, ← hqq]) hj hidx
      rw [hle]
     have HBY := zHi hby; clear hcell hbase hbe hby hq hDl hDq hln; go_wp2_with fail
     go_meet
     case rel => exact ⟨base', _, rfl, HBY, rfl⟩
  · have e1 : ¬ N < D := hgt; have hld : l = dict := by rw [HL.out, show dict.length - 32768 = 0 by have := HDE.out; have := HN.out; omega, List.drop_zero]
    have hDl : D = l.length := by rw [hld]; exact HDE.out
    have HLD := zHi hld; have HDL := zHi hDl; clear hld hDl hgt; go_wp2_with fail
    go_meet
    case rel => exact ⟨base, cap, by rw [HDL.out], by rw [HLD.out]; exact zHi HX3.out.2.2.2, rfl⟩
 case rest =>
 obtain ⟨base', cap', rfl, hby, rfl⟩ := hcut
 obtain ⟨w4, hrun, hf4, hc4⟩ := copy_dict w3 HB base' l cap' hby.out (fun j hj => by rw [HX3.out.1 j hj]; rfl) HX3.out.2.1 HLL.out
 have hrun0 : ∀ ty, (Builtin.copy_ #[22, 22] ty #[.slice (some ⟨HB, 0, none⟩) N N, .slice base' l.length cap']).run Tryz.prog w3 = .ok (.int .i64 (l.length : Int)) w4 := fun ty => by rw [HN.out]; exact hrun 0 ty
 have nFH : F ≠ HB := HX.out.2.2.2
 have hk4 : ∀ {o : Nat} {v : Value}, w3.cell? ⟨F, o, none⟩ = some v → w4.cell? ⟨F, o, none⟩ = some v := fun hc => hf4.keep hc (fun e => nFH e.1)
 have m37 := hk4 k37
 have m38 := hk4 k38
 have m39 := hk4 k39
 have m40 := hk4 k40
 have hFl3 := cell_lt k37
 have n37 := (hf4.froz F 1037 hFl3).trans l37
 have n38 := (hf4.froz F 1038 hFl3).trans l38
 have n39 := (hf4.froz F 1039 hFl3).trans l39
 have n40 := (hf4.froz F 1040 hFl3).trans l40
 obtain ⟨M, hM⟩ : ∃ M, M = l.length := ⟨_, rfl⟩
 rw [← hM] at hrun0 ⊢
 have hMN : M ≤ 32768 := by have := HLL.out; omega
 have b4 : (M : Int) ≤ 32768 := by omega
 obtain ⟨hnew, hfz, hfr, _⟩ := HX3.out
 have hHB3 : HB < w3.heap.size := cell_lt (hnew 0 (by omega))
 obtain ⟨g, hg⟩ : ∃ g : Nat → UInt8, g = fun i => if i < M then l.getD i 0 else g0 i := ⟨_, rfl⟩
 have hwin : ∀ i, i < 32768 → w4.cell? ⟨HB, i, none⟩ = some (.int .u8 ((g i).toNat : Int)) := fun i hi => by
  rw [hg]; simp only
  by_cases h : i < M
  · rw [if_pos h]; exact hc4 i (by omega)
  · rw [if_neg h]; exact hf4.keep (hnew i hi) (fun e => h (by omega))
 have hfz4 : ∀ o, w4.frozen? ⟨HB, o, none⟩ = false := fun o => (hf4.froz HB o hHB3).trans (hfz o)
 have hfr4 : Frm (fun b o => b = F ∧ 1037 ≤ o ∧ o < 1041 ∨ b = HB) w w4 := hfr.trans (hf4.mono fun b o e => .inr e.1)
 have hwb : WinB g M l := ⟨hMN, by rw [hM], fun i hi _ => by rw [Nat.mod_eq_of_lt (by omega), hg]; simp only; rw [if_pos (by omega)]⟩
 have HE := zHi (zAi hwin (zAi hfz4 (zAi hfr4 hwb)))
 have HM := zHi hM
 clear hrun hf4 hc4 hk4 hM hMN hnew hfz hfr hHB3 hg hwin hfz4 hfr4 hwb hby k38 k39 k40 l37 l38 l39 l40
 go_upto_region 7 with (with_reducible refine wpList_copy_run (by rfl) (.tmp 56) (.tmp 57) 22 22 (by rfl) (by rfl) (by rfl) hrun0 ?_)
 have nHF : HB ≠ F := fun e => nFH e.symm
 clear hrun0
 by_cases hfull : M = N
 · have t1 : ((M : Int) == (N : Int)) = true := by simp; omega
   have t2 : (M == N) = true := by simp; omega
   have HFU := zHi hfull; clear hfull
   (go_quiet (fail))
   go_wp2_with fail
   go_end0
   obtain ⟨hwin, hfz4, hfr4, hwb⟩ := HE.out; refine ⟨rfl, g, 0, true, ?_, by rw [← HN.out]; go_simp, by go_simp, by go_simp, by go_simp, fun i hi => by rw [cell_set_ne (.inl nHF), cell_set_ne (.inl nHF), cell_set_ne (.inl nHF)]; exact (cell_set_ne (.inl nHF)).trans (hwin i hi), fun o => by rw [World.frozen?_setCell, World.frozen?_setCell, World.frozen?_setCell]; exact (World.frozen?_setCell w4 _ _ _).trans (hfz4 o), ?_, by omega, fun _ => ?_, fun e => Bool.noConfusion e⟩
   · exact ((((hfr4.setCell (.inl (.inl ⟨rfl, by simp⟩)) _).drewN nq).setCell (.inl (.inl ⟨rfl, by simp⟩)) _).setCell (.inl (.inl ⟨rfl, by simp⟩)) _).setCell (.inl (.inl ⟨rfl, by simp⟩)) _
   · rw [← HL.out]; have := hwb; rw [HFU.out, HN.out] at this; exact this.round
   · rw [← HL.out, ← HM.out, HFU.out, HN.out]; exact Nat.le_refl _
 · have t1 : ((M : Int) == (N : Int)) = false := by simp; omega
   have t2 : (M == N) = false := by simp; omega
   have HFU := zHi hfull; clear hfull
   (go_quiet (fail))
   go_wp2_with fail
   go_end0
   obtain ⟨hwin, hfz4, hfr4, hwb⟩ := HE.out; refine ⟨rfl, g, M, false, ?_, by rw [← HN.out]; go_simp, by go_simp, by go_simp, by go_simp, fun i hi => by rw [cell_set_ne (.inl nHF)]; exact (cell_set_ne (.inl nHF)).trans (hwin i hi), fun o => by rw [World.frozen?_setCell]; exact (World.frozen?_setCell w4 _ _ _).trans (hfz4 o), ?_, by have := HFU.out; have := HN.out; omega, fun e => Bool.noConfusion e, fun _ => ?_⟩
   · exact ((hfr4.setCell (.inl (.inl ⟨rfl, by simp⟩)) _).drewN nq).setCell (.inl (.inl ⟨rfl, by simp⟩)) _
   · rw [← HL.out]; exact hwb
   · rw [← HL.out]; exact HM.out.symm
theorem Dec.some {w : World} {F : Nat} {d : DS} (h : Dec w F d) (j : Nat) (hj : j < 1054) : (w.cell? ⟨F, j, none⟩).isSome = true := by
 by_cases h5 : j < 5
 · have e : j = 0 ∨ j = 1 ∨ j = 2 ∨ j = 3 ∨ j = 4 := by omega
   rcases e with rfl | rfl | rfl | rfl | rfl
   · rw [h.r]; rfl
   · rw [h.rBuf]; rfl
   · rw [h.roff]; rfl
   · rw [h.b]; rfl
   · rw [h.nb]; rfl
 · by_cases h6 : j < 1035
   · exact h.tl j (by omega) h6
   · have e : j = 1035 ∨ j = 1036 ∨ j = 1037 ∨ j = 1038 ∨ j = 1039 ∨ j = 1040 ∨ j = 1041 ∨ j = 1042 ∨ j = 1043 ∨ j = 1044 ∨ j = 1045 ∨ j = 1046 ∨ j = 1047 ∨ j = 1048 ∨ j = 1049 ∨ j = 1050 ∨ j = 1051 ∨ j = 1052 ∨ j = 1053 := by omega
     rcases e with rfl | rfl | rfl | rfl | rfl | rfl | rfl | rfl | rfl | rfl | rfl | rfl | rfl | rfl | rfl | rfl | rfl | rfl | rfl
     · rw [h.bits]; rfl
     · rw [h.cbits]; rfl
     · rw [h.hist]; rfl
     · rw [h.wr]; rfl
     · rw [h.rd]; rfl
     · rw [h.full]; rfl
     · rw [h.u0]; rfl
     · rw [h.u1]; rfl
     · rw [h.u2]; rfl
     · rw [h.u3]; rfl
     · rw [h.step]; rfl
     · rw [h.ss]; rfl
     · rw [h.fin]; rfl
     · rw [h.err]; rfl
     · rw [h.toRead]; rfl
     · rw [h.hl]; rfl
     · rw [h.hd]; rfl
     · rw [h.cl]; rfl
     · rw [h.cd]; rfl
def resetDec (BB CB HB : Nat) (wr rd : Int) (full : Bool) : List Value :=
 [.nilIface, .pointer none, .int .i64 0, .int .u32 0, .int .u64 0] ++ (zeroTab.toList ++ (zeroTab.toList ++ [.pointer (some ⟨BB, 0, none⟩), .pointer (some ⟨CB, 0, none⟩), .slice (some ⟨HB, 0, none⟩) 32768 32768, .int .i64 wr, .int .i64 rd, .bool full, .int .u8 0, .int .u8 0, .int .u8 0, .int .u8 0,
  fnV 74, .int .i64 0, .bool false, .nilIface, .slice none 0 0, .pointer none, .pointer none, .int .i64 0, .int .i64 0]))
theorem resetDec_len (BB CB HB : Nat) (wr rd : Int) (full : Bool) : (resetDec BB CB HB wr rd full).length = 1054 := by kernel_rfl
theorem resetDec_tab1 (BB CB HB : Nat) (wr rd : Int) (full : Bool) (j : Nat) (hj : j < 515) : (resetDec BB CB HB wr rd full)[5 + j]? = zeroTab.toList[j]? := by
 unfold resetDec
 rw [List.getElem?_append_right (by simp)]
 rw [List.getElem?_append_left (by rw [zeroTab_len]; simp; omega)]
 congr 1; simp
theorem resetDec_tab2 (BB CB HB : Nat) (wr rd : Int) (full : Bool) (j : Nat) (hj : j < 515) : (resetDec BB CB HB wr rd full)[520 + j]? = zeroTab.toList[j]? := by
 unfold resetDec
 rw [List.getElem?_append_right (by simp; omega), List.getElem?_append_right (by rw [zeroTab_len]; simp; omega), List.getElem?_append_left (by rw [zeroTab_len]; simp; omega)]
 congr 1; rw [zeroTab_len]; simp; omega
theorem resetDec_one (BB CB HB : Nat) (wr rd : Int) (full : Bool) : ∀ v ∈ (resetDec BB CB HB wr rd full), v.oneCell' = true := by
 intro v hv
 unfold resetDec at hv
 simp only [List.mem_append] at hv
 rcases hv with hv | hv | hv | hv
 · simp only [List.mem_cons, List.not_mem_nil, or_false] at hv; rcases hv with rfl | rfl | rfl | rfl | rfl <;> rfl
 · exact zeroTab_one v hv
 · exact zeroTab_one v hv
 · simp only [List.mem_cons, List.not_mem_nil, or_false] at hv; rcases hv with rfl | rfl | rfl | rfl | rfl | rfl | rfl | rfl | rfl | rfl | rfl | rfl | rfl | rfl | rfl | rfl | rfl | rfl | rfl <;> rfl
theorem sizeDec : (Tryz.prog.info? 157).map (·.size) = some 1054 := by kernel_rfl
theorem reset_rs {w w1 w6 : World} {F C : Nat} {p : Ps} {d : DS} {R : Nat} {base : Option Addr} {src dict : List UInt8} {g : Nat → UInt8} {wr : Nat} {full : Bool} {wr0 rd0 : Int} {full0 : Bool} (he : Env w C p) (hst : Dec w F d) (hCF : C ≤ F) (hCH : C ≤ d.HB) (hCB : C ≤ d.BB) (hCC : C ≤ d.CB) (hR : C ≤ R) (hs : Src w R base src 0)
 (hRn : R ≠ F ∧ R ≠ d.HB ∧ R ≠ d.BB ∧ R ≠ d.CB) (hfar : ∀ a, base = some a → a.block ∉ [F, R, d.HB, d.BB, d.CB])
 (hcell : ∀ j v, (resetDec d.BB d.CB d.HB wr0 rd0 full0)[j]? = some v → w1.cell? ⟨F, j, none⟩ = some v) (hf1 : Frm (fun b _ => b = F) w w1)
 (hf : Frm (fun b o => b = F ∧ (o < 2 ∨ 1037 ≤ o ∧ o < 1041) ∨ b = d.HB) w1 w6) (c0 : w6.cell? ⟨F, 0, none⟩ = some (rdrV R)) (c1 : w6.cell? ⟨F, 1, none⟩ = some (.pointer none))
 (c37 : w6.cell? ⟨F, 1037, none⟩ = some (.slice (some ⟨d.HB, 0, none⟩) 32768 32768)) (c38 : w6.cell? ⟨F, 1038, none⟩ = some (.int .i64 (wr : Int))) (c39 : w6.cell? ⟨F, 1039, none⟩ = some (.int .i64 (wr : Int))) (c40 : w6.cell? ⟨F, 1040, none⟩ = some (.bool full))
 (hwin : ∀ i, i < 32768 → w6.cell? ⟨d.HB, i, none⟩ = some (.int .u8 ((g i).toNat : Int))) (hwb : WinB g wr (tail32 dict)) (hwr : wr < 32768) (hful : full = true → 32768 ≤ (tail32 dict).length) (hnf : full = false → (tail32 dict).length = wr) :
 ∃ d', RS F C p d' (.next ⟨0, 0⟩, tail32 dict) (tail32 dict).length w6 d' (tail32 dict) 0 (.next ⟨0, 0⟩, tail32 dict) ∧ d'.R = R ∧ d'.base = base ∧ d'.src = src ∧ d'.HB = d.HB ∧ d'.BB = d.BB ∧ d'.CB = d.CB := by
 have hne := hst.dist
 simp only [List.nodup_cons, List.mem_cons, List.not_mem_nil, or_false, not_or, List.nodup_nil, and_true, not_false_eq_true] at hne
 have hfw : Frm (fun b _ => b = F ∨ b = d.HB) w w6 := (hf1.mono fun b o e => .inl e).trans (hf.mono fun b o e => e.elim (fun e => .inl e.1) .inr)
 have k : ∀ {j : Nat} {v : Value}, (resetDec d.BB d.CB d.HB wr0 rd0 full0)[j]? = some v → ¬ (j < 2 ∨ 1037 ≤ j ∧ j < 1041) → w6.cell? ⟨F, j, none⟩ = some v := fun hv hj => hf.keep (hcell _ _ hv) (fun e => e.elim (fun e => hj e.2) (fun e => hne.1.2.1 e))
 have hRl : R < w.heap.size := hs.lt
 have hs6 : Src w6 R base src 0 := hs.keep hfw (fun o e => by omega) (fun a ha j _ e => by
  have := hfar a ha; simp only [List.mem_cons, List.not_mem_nil, or_false, not_or] at this; omega)
 have hlF : F < w.heap.size := cell_lt hst.r
 have hlF1 : F < w1.heap.size := Nat.lt_of_lt_of_le hlF hf1.size
 have hlH : d.HB < w.heap.size := cell_lt (hst.win 0 (by omega))
 obtain ⟨vb, hvb⟩ := Option.isSome_iff_exists.1 (hst.bb 0 (by omega))
 obtain ⟨vc, hvc⟩ := Option.isSome_iff_exists.1 (hst.cb 0 (by omega))
 have hlB : d.BB < w.heap.size := cell_lt hvb
 have hlC : d.CB < w.heap.size := cell_lt hvc
 obtain ⟨d', hd⟩ : ∃ d' : DS, d' = { R := R, base := base, src := src, pos := 0, BB := d.BB, CB := d.CB, HB := d.HB, g := g, roff := 0, b := 0, nb := 0, wr := wr, rd := wr, full := full, u0 := 0, u1 := 0, u2 := 0, u3 := 0, step := fnV 74, ss := 0, fin := false, err := .nilIface, toRead := .slice none 0 0, hl := .pointer none, hd := .pointer none, cl := 0, cd := 0 } := ⟨_, rfl⟩
 have hD : Dec w6 F d' := by
  rw [hd]; refine ⟨c0, c1, k (by kernel_rfl) (by omega), k (by kernel_rfl) (by omega), k (by kernel_rfl) (by omega), k (by kernel_rfl) (by omega), k (by kernel_rfl) (by omega), c37, c38, c39, c40, k (by kernel_rfl) (by omega), k (by kernel_rfl) (by omega), k (by kernel_rfl) (by omega), k (by kernel_rfl) (by omega), k (by kernel_rfl) (by omega),
   k (by kernel_rfl) (by omega), k (by kernel_rfl) (by omega), k (by kernel_rfl) (by omega), k (by kernel_rfl) (by omega), k (by kernel_rfl) (by omega), k (by kernel_rfl) (by omega), k (by kernel_rfl) (by omega), k (by kernel_rfl) (by omega),
   fun o h1 h2 => ?_, fun o => (hfw.froz F o hlF).trans (hst.fr o), hs6, hwin, fun o => (hfw.froz d.HB o hlH).trans (hst.frH o), fun i hi => ?_, fun i hi => ?_, fun o => (hfw.froz d.BB o hlB).trans (hst.frB o), fun o => (hfw.froz d.CB o hlC).trans (hst.frC o), ?_, fun a ha => hfar a ha⟩
  · rw [hfw.live F o hlF]; exact hst.tl o h1 h2
  · rw [hfw.live d.BB i hlB]; exact hst.bb i hi
  · rw [hfw.live d.CB i hlC]; exact hst.cb i hi
  · simp only [List.nodup_cons, List.mem_cons, List.not_mem_nil, or_false, not_or, List.nodup_nil, and_true, not_false_eq_true]; omega
 have htab : ∀ o, (o = 5 ∨ o = 520) → TabAt w6 F o emptyTab (fun _ => False) := fun o ho => by
  have hz : ∀ j, j < 515 → ∀ v, zeroTab.toList[j]? = some v → w6.cell? ⟨F, o + j, none⟩ = some v := fun j hj v hv => by
   refine k ?_ (by omega)
   rcases ho with rfl | rfl
   · rw [resetDec_tab1 _ _ _ _ _ _ j hj]; exact hv
   · rw [resetDec_tab2 _ _ _ _ _ _ j hj]; exact hv
  refine ⟨?_, fun i hi => ?_, ?_, fun _ => ?_, fun h => absurd rfl h⟩
  · exact hz 0 (by omega) _ rfl
  · have e : emptyTab.chunks.getD i 0 = 0 := rep_getD 512 i; rw [e, Nat.add_assoc]; exact hz (1 + i) (by omega) _ (zt_mid 512 _ _ _ i hi)
  · exact hz 514 (by omega) _ (zt_end 512 _ _ _ 1)
  · exact hz 513 (by omega) _ (zt_end 512 _ _ _ 0)
 refine ⟨d', ⟨⟨he.keep hfw (fun b o e => by rcases e with e | e <;> omega), hCF, by rw [hd]; exact hR, by rw [hd]; exact hCH, by rw [hd]; exact hCB, by rw [hd]; exact hCC, hD, by rw [hd]; exact hwb, by rw [hd]; exact Nat.le_refl _, by rw [hd]; exact hwr, by rw [hd]; exact hful, by rw [hd]; exact hnf,
  ⟨by rw [hd]; simp, none, 0, by rw [hd], Nat.le_refl _, .inl rfl⟩, .inr (htab 5 (.inl rfl)), .inr (htab 520 (.inr rfl))⟩, ?_, .refl _, Same.refl _, by rw [hd]; exact hwr, fun _ => by rw [hd]⟩, by rw [hd], by rw [hd], by rw [hd], by rw [hd], by rw [hd], by rw [hd]⟩
 exact ⟨by rw [hd], .inl ⟨by rw [hd], rfl, ⟨Nat.le_refl _, Nat.zero_le _⟩, by decide, put_edge (q := 0) (by rw [hd]) (by rw [hd]) (by rw [hd]) (by rw [hd]), .inl (by rw [hd])⟩⟩
set_option maxHeartbeats 1000000 in
theorem reset_any (w : World) (F C : Nat) (p : Ps) (he : Env w C p) (d : DS) (hD : Dec w F d) (hCF : C ≤ F) (hCH : C ≤ d.HB) (hCB : C ≤ d.BB) (hCC : C ≤ d.CB) (R : Nat) (base : Option Addr) (src : List UInt8) (hR : C ≤ R) (hs : Src w R base src 0)
 (hRn : R ≠ F ∧ R ≠ d.HB ∧ R ≠ d.BB ∧ R ≠ d.CB) (hfar : ∀ a, base = some a → a.block ∉ [F, R, d.HB, d.BB, d.CB])
 (dbase : Option Addr) (dict : List UInt8) (dcap : Nat) (hdb : Bytes w dbase dict) (hdc : dict.length ≤ dcap) (hdl : dict.length ≤ 4294967296) (hdF : ∀ a, dbase = some a → a.block ≠ F) (hdH : ∀ a, dbase = some a → a.block ≠ d.HB) :
 Calls Tryz.prog 131 #[.pointer (some ⟨F, 0, none⟩), rdrV R, .slice dbase dict.length dcap] w fun e w' => e = .returned .nilIface ∧ Frm (fun b _ => b = F ∨ b = d.HB) w w' ∧
  ∃ d', RS F C p d' (.next ⟨0, 0⟩, tail32 dict) (tail32 dict).length w' d' (tail32 dict) 0 (.next ⟨0, 0⟩, tail32 dict) ∧ d'.R = R ∧ d'.base = base ∧ d'.src = src ∧ d'.HB = d.HB ∧ d'.BB = d.BB ∧ d'.CB = d.CB := by
 have HH := zHi (zAi he (zAi hCF (zAi hCH (zAi hCB (zAi hCC (zAi hR (zAi hRn hfar)))))))
 clear he hCF hCH hCB hCC hR hRn hfar
 have HD := zHi hD
 have HS := zHi hs
 have HDB := zHi (zAi hdb (zAi hdc (zAi hdl (zAi hdF hdH))))
 have c1 := hD.rBuf
 have c35 := hD.bits
 have c36 := hD.cbits
 have c37 := hD.hist
 have c38 := hD.wr
 have c39 := hD.rd
 have c40 := hD.full
 clear hD hs hdb hdc hdl hdF hdH
 go_enter Tryz.func131, Tryz.ntmps131
 go_upto_region 1 with (fail)
 (refine region_tail 19 (by kernel_rfl) (by kernel_rfl) ?_; simp only [List.take_succ_cons, List.take_zero, List.drop_succ_cons, List.drop_zero]; (repeat still_step); refine wpStill_nil ?_)
 have hrc : ∀ j, j < 1054 → (w.drew.cell? ⟨F, 0 + j, none⟩).isSome = true := fun j hj => by rw [Nat.zero_add]; exact HD.out.some j hj
 refine wpList_skip_run (by rfl) (run_store_agg 157 (.tmp 25) (.tmp 24) (by rfl) F 0 1054 (resetDec d.BB d.CB d.HB d.wr d.rd d.full).toArray (by rfl) (by kernel_rfl) sizeDec (by rw [List.size_toArray, resetDec_len]) hrc (fun j hj => HD.out.fr _) (fun v hv => resetDec_one _ _ _ _ _ _ v (by simpa using hv))) ?_
 obtain ⟨w1, hw1⟩ : ∃ w1, w1 = w.drew.setCells F 0 (resetDec d.BB d.CB d.HB d.wr d.rd d.full) := ⟨_, rfl⟩
 have e1 : w.drew.setCells F 0 (resetDec d.BB d.CB d.HB d.wr d.rd d.full).toArray.toList = w1 := by rw [hw1]
 rw [e1]
 generalize hV : Value.agg _ = V
 clear hV e1 hrc
 have hcell : ∀ j v, (resetDec d.BB d.CB d.HB d.wr d.rd d.full)[j]? = some v → w1.cell? ⟨F, j, none⟩ = some v := fun j v hv => by
  obtain ⟨hj, rfl⟩ := List.getElem?_eq_some_iff.1 hv; have := World.cell?_setCells_in F (resetDec d.BB d.CB d.HB d.wr d.rd d.full) 0 w.drew (fun j hj => by rw [Nat.zero_add]; exact HD.out.some j (by rw [resetDec_len] at hj; exact hj)) j hj
  rw [Nat.zero_add] at this; rw [hw1]; exact this
 have hf1 : Frm (fun b _ => b = F) w w1 := by rw [hw1]; exact Frm.setCells F _ 0 _ ((Frm.refl _ _).drew) (fun j _ => .inl rfl)
 have hlF : F < w.heap.size := cell_lt HD.out.r
 have hne := HD.out.dist
 simp only [List.nodup_cons, List.mem_cons, List.not_mem_nil, or_false, not_or, List.nodup_nil, and_true, not_false_eq_true] at hne
 have z0 := hcell 0 _ (by kernel_rfl : (resetDec d.BB d.CB d.HB d.wr d.rd d.full)[0]? = some .nilIface)
 have z1 := hcell 1 _ (by kernel_rfl : (resetDec d.BB d.CB d.HB d.wr d.rd d.full)[1]? = some (.pointer none))
 have z37 := hcell 1037 _ (by kernel_rfl : (resetDec d.BB d.CB d.HB d.wr d.rd d.full)[1037]? = some (.slice (some ⟨d.HB, 0, none⟩) 32768 32768))
 have z38 := hcell 1038 _ (by kernel_rfl : (resetDec d.BB d.CB d.HB d.wr d.rd d.full)[1038]? = some (.int .i64 d.wr))
 have z39 := hcell 1039 _ (by kernel_rfl : (resetDec d.BB d.CB d.HB d.wr d.rd d.full)[1039]? = some (.int .i64 d.rd))
 have z40 := hcell 1040 _ (by kernel_rfl : (resetDec d.BB d.CB d.HB d.wr d.rd d.full)[1040]? = some (.bool d.full))
 have hfz : ∀ o, w1.frozen? ⟨F, o, none⟩ = false := fun o => (hf1.froz F o hlF).trans (HD.out.fr o)
 obtain ⟨w2, hw2⟩ : ∃ w2, w2 = (w1.setCell ⟨F, 1, none⟩ (.pointer none)).setCell ⟨F, 0, none⟩ (rdrV R) := ⟨_, rfl⟩
 have hf2 : Frm (fun b o => b = F ∧ (o < 2 ∨ 1037 ≤ o ∧ o < 1041) ∨ b = d.HB) w1 w2 := by rw [hw2]; exact ((Frm.refl _ _).setCell (.inl (.inl ⟨rfl, .inl (by simp)⟩)) _).setCell (.inl (.inl ⟨rfl, .inl (by simp)⟩)) _
 have ky : ∀ {o : Nat} {v : Value}, 2 ≤ o → w1.cell? ⟨F, o, none⟩ = some v → w2.cell? ⟨F, o, none⟩ = some v := fun ho hc => by rw [hw2, cell_set_off (by omega), cell_set_off (by omega)]; exact hc
 have y0 : w2.cell? ⟨F, 0, none⟩ = some (rdrV R) := by rw [hw2]; exact set_get ((cell_set_off (by decide)).trans z0)
 have y1 : w2.cell? ⟨F, 1, none⟩ = some (.pointer none) := by rw [hw2]; exact (cell_set_off (by decide)).trans (set_get z1)
 obtain ⟨hdb, hdc, hdl, hdF, hdH⟩ := HDB.out
 have hf12 : Frm (fun b _ => b = F) w w2 := by rw [hw2]; exact (hf1.setCell (.inl rfl) _).setCell (.inl rfl) _
 have hdi := dictInit_again w2 F d.HB d.g dbase dict dcap (hdb.keep hf12 (fun a ha j _ e => hdF a ha e)) hdc hdl (ky (by decide) z37) _ _ _ (ky (by decide) z38) (ky (by decide) z39) (ky (by decide) z40) (fun o => (hf12.froz F o hlF).trans (HD.out.fr o)) (fun i hi => hf12.keep (HD.out.win i hi) (fun e => hne.1.2.1 e.symm)) (fun o => (hf12.froz d.HB o (cell_lt (HD.out.win 0 (by omega)))).trans (HD.out.frH o)) hne.1.2.1 hdF hdH
 have HDI := zHi hdi
 have hz0 := hfz 0
 have hz1 := hfz 1
 have HX := zHi (zAi hcell (zAi hf1 (zAi hf2 (zAi y0 y1))))
 have HW2 := zHi hw2
 clear hw1 hcell hf1 hlF hne z37 z38 z39 z40 hfz hf2 ky y0 y1 hdb hdc hdl hdF hdH hf12 hdi c1 c35 c36 c37 c38 c39 c40 hw2
 go_wp2_with fail
 refine (makeReader_any w1 F R ⟨_, z0⟩ ⟨_, z1⟩ hz0 hz1).mono ?_
 rintro e w2' ⟨rfl, hw2'⟩
 obtain rfl : w2 = w2' := HW2.out.trans hw2'
 clear hw2' z0 z1 hz0 hz1
 go_wp2_with fail
 refine HDI.out.mono ?_
 rintro e w3 ⟨rfl, hP⟩
 have HP := zHi hP
 clear hP
 go_wp2_with fail
 go_ret
 obtain ⟨g, wr, full, hf3, d37, d38, d39, d40, hwin, frH, hwb, hwr, hful, hnf⟩ := HP.out
 obtain ⟨hcell, hf1, hf2, y0, y1⟩ := HX.out
 obtain ⟨he, hCF, hCH, hCB, hCC, hR, hRn, hfar⟩ := HH.out
 have hne := HD.out.dist
 simp only [List.nodup_cons, List.mem_cons, List.not_mem_nil, or_false, not_or, List.nodup_nil, and_true, not_false_eq_true] at hne
 have hf13 : Frm (fun b o => b = F ∧ (o < 2 ∨ 1037 ≤ o ∧ o < 1041) ∨ b = d.HB) w1 w3 := hf2.trans (hf3.mono fun b o e => e.elim (fun e => .inl ⟨e.1, .inr e.2⟩) .inr)
 have hk3 : ∀ {o : Nat} {v : Value}, o < 2 → w2.cell? ⟨F, o, none⟩ = some v → w3.cell? ⟨F, o, none⟩ = some v := fun ho hc => hf3.keep hc (fun e => e.elim (fun e => by omega) (fun e => hne.1.2.1 e))
 refine ⟨rfl, (hf1.mono fun b o e => .inl e).trans (hf13.mono fun b o e => e.elim (fun e => .inl e.1) .inr), ?_⟩
 exact reset_rs he HD.out hCF hCH hCB hCC hR HS.out hRn hfar hcell hf1 hf13 (hk3 (by omega) y0) (hk3 (by omega) y1) d37 d38 d39 d40 hwin hwb hwr hful hnf
end Go.Proofs.YthfncdfcklbigaaGreatDoor
