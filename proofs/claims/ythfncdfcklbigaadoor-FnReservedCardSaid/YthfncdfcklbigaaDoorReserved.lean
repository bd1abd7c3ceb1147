/-
  'laws.FnReserved', walked: a block of the reserved kind is refused, whatever follows.
-/
import Derived.Test.YthfncdfcklbigaaDoorLaw
import Derived.Laws.BitsAllLaws
import Derived.OpenShut
set_option linter.unusedVariables false
set_option linter.unusedSimpArgs false
namespace Go.Proofs.YthfncdfcklbigaaDoor
open Go.RowKit Go.ChangeShapes Go.WideShapes Flate
set_option maxRecDepth 100000

theorem or6 (x : Nat) (hx : x < 256) : (x ||| 6) / 2 % 4 = 3 ∧ x ||| 6 < 256 := by
  have : ∀ k : Fin 256, (k.1 ||| 6) / 2 % 4 = 3 ∧ k.1 ||| 6 < 256 := by decide +kernel
  exact this ⟨x, hx⟩

theorem u8_or6 (a : Nat) (ha : a < 256) : bits .or .u8 (a : Int) 6 = ((a ||| 6 : Nat) : Int) := by
  have : ∀ k : Fin 256, bits .or .u8 (k.1 : Int) 6 = ((k.1 ||| 6 : Nat) : Int) := by decide +kernel
  exact this ⟨a, ha⟩

theorem fnReserved_any (w : World) (C : Nat) (p : Ps) (he : Env w C p) (x : Int) (hx : (Lit.int .u8 x).wf = true) (base : Option Addr) (src : List UInt8) (cap : Nat) (hs : Bt w base src cap) :
    Calls Tryd.prog 13 #[.int .u8 x, .slice base src.length cap] w fun e w' => e = .returned (.bool true) ∧ Frm (fun _ _ => False) w w' := by
  obtain ⟨k, rfl, hk⟩ : ∃ k : Nat, x = (k : Int) ∧ k < 256 := by
    have := bounds_u8 hx
    exact ⟨x.toNat, by omega, by omega⟩
  have HE := Lib.hid he
  have HS := Lib.hid hs
  clear he hs hx
  obtain ⟨n1, hn1⟩ : ∃ n1, n1 = src.length := ⟨_, rfl⟩
  rw [← hn1]
  have HN := Lib.hid hn1
  clear hn1
  have hor := u8_or6 k hk
  obtain ⟨k6, hk6⟩ : ∃ k6, k6 = k ||| 6 := ⟨_, rfl⟩
  have ho := or6 k hk
  rw [← hk6] at hor ho
  have hor : bits .or .u8 (k : Int) 6 = (k6 : Int) := hor
  have HO := Lib.hid ho
  clear hk6 ho
  go_enter Tryd.func13, Tryd.ntmps13
  by_cases h1 : 2147483647 < n1
  · have t1 : decide ((2147483647 : Int) < (n1 : Int)) = true := by simp; omega
    clear h1
    go_wp2_with fail
    go_ret
    exact ⟨rfl, Frm.refl _ _⟩
  · have t1 : decide ((2147483647 : Int) < (n1 : Int)) = false := by simp; omega
    have hlen : src.length ≤ 2147483647 := by have := HN.out; omega
    obtain ⟨c6, hc6⟩ : ∃ c6 : UInt8, (c6.toNat : Int) = (k6 : Int) := ⟨UInt8.ofNat k6, by have := HO.out.2; simp only [UInt8.toNat_ofNat']; omega⟩
    have ho := own_new w [c6] (by simp [maxLen])
    simp only [List.map_cons, List.map_nil, List.length_cons, List.length_nil, Nat.zero_add, byteV, hc6] at ho
    have hf1 : Frm (fun _ _ => False) w (w.alloc (.cells #[.int .u8 (k6 : Int)] 5)) := (Frm.refl _ _).alloc _
    obtain ⟨v', w2, hrun, hown, hf2, _⟩ := append_bt (w.alloc (.cells #[.int .u8 (k6 : Int)] 5)) w.heap.size _ [c6] ho base src cap (HS.out.keep hf1) (by simp only [List.length_cons, List.length_nil]; omega) hf1.size
    rw [← HN.out] at hrun
    have hf := ho.fresh hf1 (Nat.le_refl _) hf2
    obtain ⟨b2, cap2, rfl, hbt⟩ := hown.bt
    have hin := inflate_any w2 C p (HE.out.keep hf (fun _ _ e => e.elim)) b2 ([c6] ++ src) cap2 hbt (by rw [List.length_append]; simp only [List.length_cons, List.length_nil]; omega) none [] 0 (bt_nil _) (by simp) false none 0 0 (nilSizes _ _ _)
    obtain ⟨n2, hn2⟩ : ∃ n2, n2 = ([c6] ++ src).length := ⟨_, rfl⟩
    rw [← hn2] at hin hrun
    have hres : Infl ([c6] ++ src) [] .corrupt 1 [] := infl_reserved (by have := HO.out.1; have e : c6.toNat = k6 := (by omega); rw [e]; exact this)
    have HI := Lib.hid hin
    have HR := Lib.hid hres
    have HF := Lib.hid hf
    have hrun0 := fun ty => hrun ty
    clear hrun hin hres hf hn2 hown hbt hf2 hf1 ho h1 hlen hc6 hk
    go_wp2_with (at_builtin; refine wpList_append_by (by rfl) (.tmp 14) (.tmp 15) 22 (by rfl) _ _ (by rfl) (by rfl) (hrun0 _) ?_)
    refine HI.out.mono ?_
    rintro e w3 ⟨v, er, P, X, hX, rfl, hown, hf3⟩
    obtain ⟨rfl, rfl, rfl⟩ := HR.out.unique hX
    have HW := Lib.hid (works_any w3 C p ((HE.out.keep HF.out (fun _ _ e => e.elim)).keep hf3 (fun _ _ e => e.elim)))
    have HF3 := Lib.hid (HF.out.trans hf3)
    clear hX hown hf3 hrun0
    go_wp2_with fail
    refine HW.out.mono ?_
    rintro e w4 ⟨rfl, hf4⟩
    have HF4 := Lib.hid hf4
    clear hf4
    go_wp2_with fail
    go_ret
    exact ⟨rfl, HF3.out.trans HF4.out⟩

end Go.Proofs.YthfncdfcklbigaaDoor
