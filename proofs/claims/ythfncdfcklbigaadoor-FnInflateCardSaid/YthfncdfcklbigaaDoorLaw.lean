/-
  THE WALKS OF THE LAWS' SMALL FUNCTIONS: 'same', 'inflates', 'works', 'spec.Stored'.
-/
import Derived.Test.YthfncdfcklbigaaDoorInflate
import Derived.Test.YthfncdfcklbigaaDoorWorks
import Derived.Test.YthfncdfcklbigaaDoorLawK
set_option linter.unusedVariables false
set_option linter.unusedSimpArgs false
namespace Go.Proofs.YthfncdfcklbigaaDoor
open Go.RowKit Flate
set_option maxRecDepth 100000

/-- Blocks that are read as the data, to their last byte. -/
theorem inflates_long (w : World) (C : Nat) (p : Ps) (he : Env w C p) (base : Option Addr) (src : List UInt8) (cap : Nat) (hs : Bt w base src cap) (hsl : src.length ≤ 1099511627776) (dbase : Option Addr) (dict : List UInt8) (dcap : Nat) (hd : Bt w dbase dict dcap) (hdl : dict.length ≤ 4294967296) (has : Bool)
    (wb : Option Addr) (want : List UInt8) (wc : Nat) (hw : Bt w wb want wc) (hwl : want.length ≤ 52776558133248) (hinf : Infl src (if has then dict else []) .eof src.length want) (hne : 0 < src.length) :
    Calls Tryd.prog 20 #[.slice base src.length cap, .slice dbase dict.length dcap, .bool has, .slice wb want.length wc] w fun e w' => e = .returned (.bool true) ∧ Frm (fun _ _ => False) w w' := by
  have HI := Lib.hid (inflate_long w C p he base src cap hs hsl dbase dict dcap hd hdl has (fun e q X h => by obtain ⟨_, _, rfl⟩ := hinf.unique h; exact hwl) none 0 0 (nilSizes _ _ _))
  have HW := Lib.hid hw
  have HF := Lib.hid hinf
  clear he hs hsl hd hdl hw hinf hwl
  obtain ⟨n1, hn1⟩ : ∃ n1, n1 = src.length := ⟨_, rfl⟩
  obtain ⟨n2, hn2⟩ : ∃ n2, n2 = dict.length := ⟨_, rfl⟩
  obtain ⟨n3, hn3⟩ : ∃ n3, n3 = want.length := ⟨_, rfl⟩
  rw [← hn1] at hne
  rw [← hn1, ← hn2] at HI ⊢
  rw [← hn3]
  have HN := Lib.hid (And.intro hn1 (And.intro hn2 hn3))
  clear hn1 hn2 hn3
  go_enter Tryd.func20, Tryd.ntmps20
  go_wp2_with fail
  refine HI.out.mono ?_
  rintro e w1 ⟨v, er, P, X, hX, rfl, hown, hf⟩
  obtain ⟨rfl, rfl, rfl⟩ := HF.out.unique hX
  obtain ⟨b, cap', rfl, hbt⟩ := hown.bt
  have hsame := same_any w1 b wb X X cap' wc hbt.bytes (HW.out.keep hf).bytes
  rw [← HN.out.2.2, sameB_refl] at hsame
  rw [← HN.out.2.2]
  have e0 : src.length - src.length = 0 := Nat.sub_self _
  rw [e0]
  have HS := Lib.hid hsame
  have HF1 := Lib.hid hf
  clear hX hown hbt hsame hf e0
  go_wp2_with fail
  refine HS.out.mono ?_
  rintro e w2 ⟨rfl, rfl⟩
  go_wp2_with fail
  go_ret
  exact ⟨rfl, HF1.out⟩

/-- The same, where the blocks alone bound what is read. -/
theorem inflates_true (w : World) (C : Nat) (p : Ps) (he : Env w C p) (base : Option Addr) (src : List UInt8) (cap : Nat) (hs : Bt w base src cap) (hsl : src.length ≤ 17179869184) (dbase : Option Addr) (dict : List UInt8) (dcap : Nat) (hd : Bt w dbase dict dcap) (hdl : dict.length ≤ 4294967296) (has : Bool)
    (wb : Option Addr) (want : List UInt8) (wc : Nat) (hw : Bt w wb want wc) (hinf : Infl src (if has then dict else []) .eof src.length want) (hne : 0 < src.length) :
    Calls Tryd.prog 20 #[.slice base src.length cap, .slice dbase dict.length dcap, .bool has, .slice wb want.length wc] w fun e w' => e = .returned (.bool true) ∧ Frm (fun _ _ => False) w w' :=
  inflates_long w C p he base src cap hs (by omega) dbase dict dcap hd hdl has wb want wc hw (by have := hinf.le.2; omega) hinf hne

theorem works_any (w : World) (C : Nat) (p : Ps) (he : Env w C p) :
    Calls Tryd.prog 18 #[] w fun e w' => e = .returned (.bool true) ∧ Frm (fun _ _ => False) w w' := by
  have HE := Lib.hid he
  clear he
  go_enter Tryd.func18, Tryd.ntmps18
  obtain ⟨w1, hw1⟩ : ∃ w1, w1 = w.alloc (.cells #[.int .u8 75, .int .u8 4, .int .u8 0] 5) := ⟨_, rfl⟩
  obtain ⟨w2, hw2⟩ : ∃ w2, w2 = w1.alloc (.cells #[.int .u8 97] 5) := ⟨_, rfl⟩
  have hcs := conv_mark w2 w1.heap.size 1 1 #[.int .u8 97] 5 (0, 0) (by rw [hw2]; exact heap_alloc_new w1 _)
  obtain ⟨w2', hw2'⟩ : ∃ w2', w2' = w2.freeze ⟨w1.heap.size, 1, none⟩ 1 := ⟨_, rfl⟩
  have hcs : (convert 22 22 (.slice (some ⟨w1.heap.size, 0, none⟩) 1 1)).run Tryd.prog w2 = .ok (.slice (some ⟨w1.heap.size, 0, none⟩) 1 1) w2' := by rw [hw2']; exact hcs
  have hb1 : Bytes w1 (some ⟨w.heap.size, 0, none⟩) [75, 4, 0] := by
    rw [hw1]; exact bytes_new w _ _ _ (fun j hj => by
      have h3 : j = 0 ∨ j = 1 ∨ j = 2 := by simp only [List.length_cons, List.length_nil] at hj; omega
      rcases h3 with rfl | rfl | rfl <;> rfl)
  have hb2 : Bytes w2 (some ⟨w1.heap.size, 0, none⟩) [97] := by
    rw [hw2]; exact bytes_new w1 _ _ _ (fun j hj => by
      have h3 : j = 0 := by simp only [List.length_cons, List.length_nil] at hj; omega
      rcases h3 with rfl; rfl)
  have s1 : w1.heap.size = w.heap.size + 1 := by rw [hw1]; simp
  have s2 : w2.heap.size = w.heap.size + 2 := by rw [hw2]; simp [s1]
  have hf1 : Frm (fun _ _ => False) w w1 := by rw [hw1]; exact (Frm.refl _ _).alloc _
  have hf2 : Frm (fun _ _ => False) w1 w2' := by rw [hw2', hw2]; exact ((Frm.refl _ _).alloc _).freezeNew (Nat.le_refl _)
  have hb2' : Bytes w2' (some ⟨w1.heap.size, 0, none⟩) [97] := ⟨hb2.1, fun j hj => by rw [hw2', (frz_heap _ _ _).2.2]; exact hb2.2 j hj⟩
  have s2' : w2'.heap.size = w.heap.size + 2 := by rw [hw2', (frz_heap _ _ _).2.1, s2]
  have ht1 : Bt w2' (some ⟨w.heap.size, 0, none⟩) [75, 4, 0] 3 := ⟨hb1.keep hf2 (fun a _ j _ e => e), Nat.le_refl _, fun a ha => by obtain rfl := Option.some.inj ha; simp only; omega, fun h => by simp at h⟩
  have ht2 : Bt w2' (some ⟨w1.heap.size, 0, none⟩) [97] 1 := ⟨hb2', Nat.le_refl _, fun a ha => by obtain rfl := Option.some.inj ha; simp only; omega, fun h => by simp at h⟩
  have hin := inflates_true w2' C p (HE.out.keep (hf1.trans hf2) (fun _ _ e => e.elim)) (some ⟨w.heap.size, 0, none⟩) [75, 4, 0] 3 ht1 (by simp) none [] 0 (bt_nil _) (by simp) false (some ⟨w1.heap.size, 0, none⟩) [97] 1 ht2 infl_works (by simp)
  rw [s1] at hin hcs
  rw [hw2, hw1] at hcs
  have HH := Lib.hid hin
  have HF := Lib.hid (hf1.trans hf2)
  clear hin hb1 hb2 hb2' s1 s2 s2' hf1 hf2 ht1 ht2 hw1 hw2 hw2'
  go_wp2_with fail
  refine HH.out.mono ?_
  rintro e w3 ⟨rfl, hf3⟩
  have HF3 := Lib.hid hf3
  clear hf3
  go_wp2_with fail
  go_ret
  exact ⟨rfl, HF.out.trans HF3.out⟩

end Go.Proofs.YthfncdfcklbigaaDoor
