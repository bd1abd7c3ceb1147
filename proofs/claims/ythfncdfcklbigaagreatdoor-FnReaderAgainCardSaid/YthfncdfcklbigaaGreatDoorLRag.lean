/-
  Several texts in one: Utw Rag.
-/
import Derived.Test.YthfncdfcklbigaaGreatDoorLa
set_option linter.unusedVariables false
set_option linter.unusedSimpArgs false
namespace Go.Proofs.YthfncdfcklbigaaGreatDoor
open Go.RowKit Go.IntWalk Flate
set_option maxRecDepth 100000
theorem asResetterW (a : Addr) (w : World) : (Instr.typeAssert (.iface 80 (.pointer (some a))) 51 65 false).run Tryz.prog w = .ok (.iface 80 (.pointer (some a))) w := by kernel_rfl
theorem zlib_resetM (n : Nat) (a : Addr) (w : World) : (method (n + 1) 80 (.pointer (some a)) "Reset").run Tryz.prog w = .ok (40, .pointer (some a)) w := by kernel_rfl
theorem ahead_ResetZ (n : Nat) (a : Addr) (w : World) : (nilAhead (n + 1) 80 (.pointer (some a)) "Reset").run Tryz.prog w = .ok (some false) w := by kernel_rfl
attribute [local go_sem] ahead_ResetZ
theorem zlib_resetE (args : Array Value) (w : World) : (callFunc 40 args).run Tryz.prog w = .ok (.enter 40 args) w := by kernel_rfl
def ZAt (w : World) (C : Nat) (p : Ps) (base : Option Addr) (src D' : List UInt8) (q Z : Nat) (wq : World) : Prop :=
 ∃ R F d A s, Hid (RS F C p d (.next ⟨0, 0⟩, tail32 D') (tail32 D').length wq d (tail32 D') 0 (.next ⟨0, 0⟩, tail32 D')) ∧ d.R = R ∧ d.base = base ∧ d.src = src.drop q ∧
  ZR wq Z (rdrZ R) (decV F) (digV A) .nilIface s ∧ Dig wq A [] ∧ ¬ MD F d Z ∧ ¬ MD F d A ∧ A ≠ Z ∧ w.heap.size ≤ A ∧ w.heap.size ≤ Z ∧ (∀ b, MD F d b → w.heap.size ≤ b) ∧ Env wq C p ∧ Frm (fun _ _ => False) w wq
theorem zat_drain {w : World} {C : Nat} {p : Ps} {base : Option Addr} {src D' : List UInt8} {q Z : Nat} {w5 : World} (he : Env w C p) (hlt : ∀ a, base = some a → a.block < w.heap.size) (h : ZAt w C p base src D' q Z w5) {er : Err} {P : Nat} {X : List UInt8} (hinf : Infl (src.drop q) D' er P X) (hxl : X.length ≤ 52776558133248) :
 Calls Tryz.prog 30 #[zrV Z, .slice none 0 0] w5 fun e w6 => ∃ v errv A F d, e = .returned (.tuple #[v, errv]) ∧ Own w6 w.heap.size v X ∧ JZ Z A F C (tail32 D').length p d er P (tail32 D' ++ X) errv w6 ∧ Frm (fun _ _ => False) w w6 ∧ d.src = src.drop q ∧ Env w6 C p ∧ (∀ b, MD F d b → w.heap.size ≤ b) ∧ ¬ MD F d Z ∧ d.base = base ∧ w.heap.size ≤ Z := by
 obtain ⟨R, F, d, A, s, hRS, hdR, hdb, hds, hz, hdig, hmZ, hmA, hAZ, hA, hZ, hM, henv, hf⟩ := h
 have hCw := he.le
 have hlow := hRS.out.low (fun a ha => by rw [hdb] at ha; exact Nat.lt_of_lt_of_le (hlt a ha) hf.size)
 have htl : (tail32 D').length ≤ 32768 := by unfold tail32; rw [List.length_drop]; omega
 have hfix : ZFix Z A F C w5.heap.size (tail32 D').length p d (.next ⟨0, 0⟩, tail32 D') er P (tail32 D' ++ X) :=
  { fin := by rw [hds]; exact hinf
    x0 := start_ok _ (tail32 D')
    low := hlow
    cN := Nat.le_trans hCw hf.size
    zN := cell_lt hz.r
    aN := cell_lt hdig.c
    cZ := Nat.le_trans hCw hZ
    cA := Nat.le_trans hCw hA
    aZ := hAZ
    mdZ := hmZ
    mdA := hmA
    bZ := fun a ha => by rw [hdb] at ha; have := hlt a ha; omega
    bA := fun a ha => by rw [hdb] at ha; have := hlt a ha; omega
    k0 := by rw [List.length_append]; omega
    few := by rw [List.length_append]; omega }
 have hI : IZ Z A F C (tail32 D').length p d (.next ⟨0, 0⟩, tail32 D') (tail32 D' ++ X) (tail32 D').length w5 :=
  ⟨zHi ⟨d, _, _, _, hRS.out⟩, henv, ⟨s, by rw [hdR]; exact hz⟩, by rw [Nat.sub_self, List.take_zero]; exact hdig, Nat.le_refl _, hfix.k0⟩
 have hMw : ∀ b, (MD F d b ∨ b = Z ∨ b = A) → w.heap.size ≤ b := fun b hb => by
  rcases hb with h | h | h
  · exact hM b h
  · omega
  · omega
 refine (drainL_any w5 80 119 Z _ (tail32 D' ++ X) _ _ (zlib_reader hfix) (tail32 D').length hfix.k0 hI hfix.few none 0 0 (.inl ⟨_, _, rfl⟩)).mono ?_
 rintro e w6 ⟨v, errv, rfl, hown, hJ, _, hf6⟩
 rw [List.drop_left] at hown
 exact ⟨v, errv, A, F, d, rfl, hown.lower hf.size, hJ, hf.trans' hf6 (fun x o hx e => by have := hMw x e; omega), hds, hJ.1, hM, hmZ, hdb, hZ⟩
theorem zat_done {w w4 w5 : World} {C : Nat} {p : Ps} {Z R q : Nat} {base : Option Addr} {src dict D : List UInt8} {dv : Value} {O : Nat → Prop} {e : Ending} (hz0 : zhead src dict = .inr (q, D)) (hZ : w.heap.size ≤ Z) (hR : w.heap.size ≤ R) (hO : ∀ b, O b → w.heap.size ≤ b) (hC : C ≤ w.heap.size) (hf : Frm (fun _ _ => False) w w4) (he : Env w4 C p) (hnil : isNilV dv = false)
 (h : ZFail p w4 Z R base src dict e w5 ∨ ZDone w4 C p Z R base src dict (isNilV dv) O e w5) : e = .returned .nilIface ∧ ZAt w C p base src dict q Z w5 := by
 rcases h with ⟨f, q', h1, _⟩ | ⟨q', D0, D', F, d, A, s, rfl, h1, h2, h3, h4, h5, h6, h7, h8, h9, h10, h11, h12, h13, h14, h15, h16⟩
 · rw [hz0] at h1; simp at h1
 · rw [hz0] at h1; simp only [Sum.inr.injEq, Prod.mk.injEq] at h1; obtain ⟨rfl, rfl⟩ := h1; rw [hnil] at h2; simp only [Bool.false_eq_true, if_false] at h2; subst h2; refine ⟨rfl, R, F, d, A, s, h4, h5, h6, h7, h8, h9, h10, h11, h12, Nat.le_trans hf.size h13, hZ, fun b hb => ?_, he.keep h15 (fun b o q => ?_), hf.trans' h15 (fun x o hx q => ?_)⟩
   · rcases h16 b hb with q | q | q
     · omega
     · exact hO b q
     · exact Nat.le_trans hf.size q
   · rcases q with q | q | q
     · omega
     · omega
     · have := hO b q; omega
   · rcases q with q | q | q
     · omega
     · omega
     · have := hO x q; omega
set_option maxHeartbeats 4000000 in
theorem utw_any (w : World) (C : Nat) (p : Ps) (he : Env w C p) (abase : Option Addr) (asrc : List UInt8) (acap : Nat) (ha : Bt w abase asrc acap) (hal : asrc.length ≤ 1099511627776) {qa : Nat} (hza : zhead asrc [] = .inr (qa, [])) (hxa : ∀ er P X, Infl (asrc.drop qa) [] er P X → X.length ≤ 52776558133248)
 (base : Option Addr) (src : List UInt8) (cap : Nat) (hs : Bt w base src cap) (hsl : src.length ≤ 1099511627776) (dbase : Option Addr) (dict : List UInt8) (dcap : Nat) (hd : Bt w dbase dict dcap) (hdl : dict.length ≤ 4294967296)
 {q P : Nat} {D X : List UInt8} (hz : zhead src dict = .inr (q, D)) (hi : Infl (src.drop q) dict .eof P X) (hxl : X.length ≤ 52776558133248) (hP : q + P + 4 ≤ src.length) (hsum : be4At src (q + P) = adler X) :
 Calls Tryz.prog 19 #[.slice abase asrc.length acap, .slice base src.length cap, .slice dbase dict.length dcap] w fun e w' => ∃ v, e = .returned (.tuple #[v, .int .i64 0]) ∧ Own w' w.heap.size v X ∧ Frm (fun _ _ => False) w w' := by
 have HE := zHi he
 have HA := zHi (zAi ha (zAi hal (zAi hza hxa)))
 have HS := zHi (zAi hs hsl)
 have HD := zHi (zAi hd hdl)
 have HZ := zHi (zAi hz (zAi hi (zAi hxl (zAi hP hsum))))
 clear he ha hal hza hxa hs hsl hd hdl hz hi hxl hP hsum
 obtain ⟨n0, hn0⟩ : ∃ n0, n0 = asrc.length := ⟨_, rfl⟩
 obtain ⟨n1, hn1⟩ : ∃ n1, n1 = src.length := ⟨_, rfl⟩
 obtain ⟨n2, hn2⟩ : ∃ n2, n2 = dict.length := ⟨_, rfl⟩
 rw [← hn0, ← hn1, ← hn2]
 have HN := zHi (zAi hn0 (zAi hn1 hn2))
 clear hn0 hn1 hn2
 go_enter Tryz.func19, Tryz.ntmps19
 go_wp2_with fail
 refine (bytesNewReader_any _ _ _ _).mono ?_
 rintro e w1 ⟨rfl, hw1⟩
 obtain ⟨R0, hR0⟩ : ∃ R0, R0 = w.heap.size := ⟨_, rfl⟩
 rw [← hR0]
 have hsrc : Src w1 R0 abase asrc 0 := by
  rw [← hw1, hR0, HN.out.1]; exact newSrc HA.out.1.bytes HA.out.1.hcap HA.out.2.1 HA.out.1.lt
 have hf1 : Frm (fun _ _ => False) w w1 := by rw [← hw1]; exact (Frm.refl _ _).alloc _
 have he1 := HE.out.keep hf1 (fun _ _ e => e.elim)
 have HNR := zHi (newReaderZ_any w1 C p he1 R0 abase asrc (by rw [hR0]; exact HE.out.le) hsrc (fun a ha => Nat.lt_of_lt_of_le (HA.out.1.lt a ha) hf1.size))
 have H1 := zHi (zAi hf1 (zAi he1 hR0))
 clear hw1 hsrc hf1 he1 hR0
 go_wp2_with fail
 refine HNR.out.mono ?_
 rintro e w2 (⟨f, q', h1, _⟩ | ⟨Z, q', D0, F, d, A, s, h1, rfl, h3, h4, h5, h6, h7, h8, h9, h10, h11, h12, h13, h14, h15, h16, h17⟩)
 · rw [HA.out.2.2.1] at h1; simp at h1
 have hzh := h1
 rw [HA.out.2.2.1] at hzh
 simp only [Sum.inr.injEq, Prod.mk.injEq] at hzh
 obtain ⟨rfl, rfl⟩ := hzh
 have hf02 : Frm (fun _ _ => False) w w2 := H1.out.1.trans' h16 (fun x o hx q => by have := H1.out.2.2; omega)
 have he2 : Env w2 C p := H1.out.2.1.keep h16 (fun b o q => by have := H1.out.2.2; have := HE.out.le; omega)
 have hat : ZAt w C p abase asrc [] qa Z w2 := ⟨R0, F, d, A, s, h5, h6, h7, h8, h9, h10, h11, h12, h13, Nat.le_trans H1.out.1.size h14, Nat.le_trans H1.out.1.size h3, fun b hb => by
  rcases h17 b hb with q | q
  · have := H1.out.2.2; omega
  · exact Nat.le_trans H1.out.1.size q, he2, hf02⟩
 obtain ⟨er0, P0, X0, hinf0, _, _⟩ := infl_ex (asrc.drop qa) []
 have HDR := zHi (zat_drain HE.out HA.out.1.lt hat hinf0 (HA.out.2.2.2 _ _ _ hinf0))
 clear h1 h3 h4 h5 h6 h7 h8 h9 h10 h11 h12 h13 h14 h15 h16 h17 hf02 he2 hat hinf0
 go_wp2_with fail
 refine HDR.out.mono ?_
 rintro e w3 ⟨v3, errv3, A3, F3, d3', rfl, _, hJ3, hf3, _, he3, hM3, hmZ3, hdb3, hZw⟩
 obtain ⟨_, d3, s3, hD3, hsm3, hz3, _, _, cF, cH, cB, cC⟩ := hJ3
 have HX3 := zHi (zAi hD3 (zAi hsm3 (zAi hz3 (zAi cF (zAi cH (zAi cB (zAi cC (zAi hf3 (zAi he3 (zAi hM3 (zAi hmZ3 (zAi hdb3 hZw))))))))))))
 have HRS : ∀ w4 : World, w3.drew.alloc (.cells #[.slice base n1 cap, .int .i64 0, .int .i64 (-1)] 77) = w4 → Calls Tryz.prog 40 #[.pointer (some ⟨Z, 0, none⟩), rdrZ w3.heap.size, .slice dbase n2 dcap] w4 (fun e w5 => e = .returned .nilIface ∧ ZAt w C p base src dict q Z w5) := by
  intro w4 hw4; obtain ⟨hD3, hsm3, hz3, cF, cH, cB, cC, hf3, he3, hM3, hmZ3, hdb3, hZw⟩ := HX3.out; obtain ⟨R, hR⟩ : ∃ R, R = w3.heap.size := ⟨_, rfl⟩; rw [← hR]; have hf3d : Frm (fun _ _ => False) w3 w3.drew := (Frm.refl _ _).drew
  have hf34 : Frm (fun _ _ => False) w3 w4 := by rw [← hw4]; exact hf3d.alloc _
  have hf04 := hf3.trans hf34; have hsrc : Src w4 R base src 0 := by
   rw [← hw4, hR, HN.out.2.1]; exact newSrc (w := w3.drew) ((HS.out.1.keep hf3).keep hf3d).bytes HS.out.1.hcap HS.out.2 ((HS.out.1.keep hf3).keep hf3d).lt
  have hD4 : Dec w4 F3 d3 := hD3.keep hf34 (fun o e => e.elim) (fun o e => e.elim) (fun o e => e.elim) (fun a ha j _ e => e.elim)
  have hlF : F3 < w3.heap.size := cell_lt hD3.r; have hlH : d3.HB < w3.heap.size := cell_lt (hD3.win 0 (by omega))
  obtain ⟨vb, hvb⟩ := Option.isSome_iff_exists.1 (hD3.bb 0 (by omega))
  obtain ⟨vc, hvc⟩ := Option.isSome_iff_exists.1 (hD3.cb 0 (by omega))
  have hlB := cell_lt hvb; have hlC := cell_lt hvc; have hlR : d3.R < w3.heap.size := hD3.so.lt; have e1 := hsm3.HB; have e2 := hsm3.BB; have e3 := hsm3.CB; have e4 := hsm3.R; have e5 := hsm3.base; have m1 := hM3 F3 (.inl rfl); have m2 := hM3 d3'.R (.inr (.inl rfl)); have m3 := hM3 d3'.HB (.inr (.inr (.inl rfl))); have m4 := hM3 d3'.BB (.inr (.inr (.inr (.inl rfl)))); have m5 := hM3 d3'.CB (.inr (.inr (.inr (.inr rfl)))); have hlZ : Z < w3.heap.size := cell_lt hz3.r; have hcw := HE.out.le; have hnZ : F3 ≠ Z ∧ d3.R ≠ Z ∧ d3.HB ≠ Z ∧ d3.BB ≠ Z ∧ d3.CB ≠ Z := ⟨fun e => hmZ3 (.inl e.symm), fun e => hmZ3 (.inr (.inl (by rw [← e4]; exact e.symm))), fun e => hmZ3 (.inr (.inr (.inl (by rw [← e1]; exact e.symm)))), fun e => hmZ3 (.inr (.inr (.inr (.inl (by rw [← e2]; exact e.symm))))), fun e => hmZ3 (.inr (.inr (.inr (.inr (by rw [← e3]; exact e.symm)))))⟩
  have hdv : DvOK w4 Z R C base dbase (fun b => b = F3 ∨ b = d3.HB ∨ b = d3.BB ∨ b = d3.CB) (decV F3) := by
   refine .inr ⟨F3, d3, rfl, hD4, ⟨cF, cH, cB, cC⟩, fun x hx => ?_, fun a ha => ?_, fun a ha => ?_, fun a ha => ?_, .inl rfl, .inr (.inl rfl), .inr (.inr (.inl rfl)), .inr (.inr (.inr rfl))⟩
   · simp only [List.mem_cons, List.not_mem_nil, or_false] at hx; omega
   · have h1 : d3'.base = some a := by rw [← e5]; exact ha
     rw [hdb3] at h1; have := HA.out.1.lt a h1; have := hf3.size; omega
   · have := HS.out.1.lt a ha; simp only [List.mem_cons, List.not_mem_nil, or_false, not_or]; omega
   · have := HD.out.1.lt a ha; omega
  have hrs := zreset_any w4 Z C p (he3.keep hf34 (fun _ _ e => e.elim)) (by omega) _ _ _ _ _ (hz3.keep hf34 (fun _ e => e)) R base src (by have := hf3.size; omega) hsrc (by omega) (fun a ha => by have := HS.out.1.lt a ha; omega) (fun a ha => Nat.lt_of_lt_of_le (HS.out.1.lt a ha) hf04.size)
   dbase dict dcap (HD.out.1.keep hf04).bytes HD.out.1.hcap HD.out.2 (fun a ha => by have := HD.out.1.lt a ha; have := hf3.size; omega) (fun a ha => Nat.lt_of_lt_of_le (HD.out.1.lt a ha) hf04.size) _ hdv
  rw [← HN.out.2.2] at hrs; refine hrs.mono fun e w5 h => ?_
  exact zat_done HZ.out.1 (by omega) (by have := hf3.size; omega) (fun b hb => by omega) HE.out.le hf04 (he3.keep hf34 (fun _ _ e => e.elim)) rfl h
 clear hD3 hsm3 hz3 cF cH cB cC hf3 he3 hM3 hmZ3 hdb3 hZw
 have hasr := asResetterW
 have hrm := zlib_resetM
 have hre := zlib_resetE
 go_upto_region 5 with (fail)
 go_cut [9] (fun ev wq => ev = .nilIface ∧ ZAt w C p base src dict q Z wq)
 case first =>
  go_region_with (first | (go_at_call 25; refine (bytesNewReader_any _ _ _ _).mono ?_; rintro e w4 ⟨rfl, hw4⟩) | (go_at_call 40; refine (HRS w4 hw4).mono ?_; rintro e w5 ⟨rfl, hat⟩))
  all_goals
   go_wp2_with fail
   go_meet
   case rel => exact ⟨rfl, hat⟩
 case rest =>
 obtain ⟨rfl, hat⟩ := hcut
 have HDR2 := zHi (zat_drain HE.out HS.out.1.lt hat HZ.out.2.1 HZ.out.2.2.1)
 clear hat HRS hasr hrm hre HX3 HDR HNR
 apply_assumption
 go_wp2_with fail
 refine HDR2.out.mono ?_
 rintro e w6 ⟨v, errv, A6, F6, d6, rfl, hown6, hJ6, hf6, hds6, he6, _, _, _, _⟩
 obtain ⟨_, d7, s7, _, _, _, hE, _⟩ := hJ6
 rw [hds6, List.drop_left] at hE
 have herr : errv = errAt p.E := by
  rcases hE with ⟨_, ⟨h1, _⟩ | ⟨_, _, ⟨_, h2⟩ | ⟨h2, _⟩⟩⟩ | ⟨h1, _⟩ | ⟨h1, _⟩
  · have := HZ.out.2.2.2.1; rw [List.length_drop] at h1; omega
  · exact h2
  · rw [be4At_drop] at h2; exact absurd HZ.out.2.2.2.2 h2
  · simp at h1
  · simp at h1
 subst herr
 have g0 := he6.eof
 have hq3 := fun w => eql_same p.E w
 have HF6 := zHi (zAi hown6 hf6)
 clear hown6 hf6 hds6 he6 hE
 go_wp2_with fail
 refine (faultOf_nil _).mono ?_
 rintro e w8 ⟨rfl, rfl⟩
 go_wp2_with fail
 go_ret2
 exact ⟨v, rfl, HF6.out.1, HF6.out.2⟩
end Go.Proofs.YthfncdfcklbigaaGreatDoor
namespace Go.Proofs.YthfncdfcklbigaaGreatDoor
open Go.RowKit Go.IntWalk Flate
set_option maxRecDepth 100000
theorem tmod_rangeR (n : Int) (m : Nat) (h : 1 ≤ m) : -(m : Int) < n.tmod (m : Int) ∧ n.tmod (m : Int) < (m : Int) := by
 have h1 : (n.tmod (m : Int)).natAbs < m := by rw [Int.natAbs_tmod]; exact Nat.mod_lt _ h
 omega
theorem rag_second {a b : UInt8} {has : Bool} {D X : List UInt8} {L : List Bool} (h : hdrOk a b = true) (hb : b.toNat / 32 % 2 = 1 ↔ has = true) (hd : Flate.Data (lastOf (if has then D else [])) L (lastOf (if has then D else []) ++ X)) :
 ∃ q D', zhead (zstream a b has D L X) D = .inr (q, D') ∧ Infl ((zstream a b has D L X).drop q) D .eof (pack L).length X ∧ q + (pack L).length + 4 ≤ (zstream a b has D L X).length ∧ be4At (zstream a b has D L X) (q + (pack L).length) = adler X := by
 have hl := zstream_len a b has D L X
 have hsum := fun A => be4At_four (A ++ pack L) [] (adler X) (adler_lt X)
 cases has with
 | false =>
  have e : zstream a b false D L X = [a, b] ++ pack L ++ (four (adler X) ++ []) := by rw [List.append_nil]; rfl
  have hd2 : Flate.Data (lastOf D) L (lastOf D ++ X) := by
   have := data_behind (lastOf D) hd; have e2 : lastOf (if false = true then D else []) = [] := by rw [if_neg (by simp)]; unfold lastOf; simp
   rw [e2, List.append_nil, List.nil_append] at this; exact this
  refine ⟨2, [], zhead_no h (fun q => by have := hb.1 q; simp at this), ?_, by rw [hl]; simp; omega, ?_⟩
  · have e3 : (zstream a b false D L X).drop 2 = pack L ++ four (adler X) := rfl; rw [e3]; exact data_infl hd2 _
  · have := hsum [a, b]; rw [← e] at this; have e4 : ([a, b] ++ pack L).length = 2 + (pack L).length := by simp; omega
    rw [e4] at this; exact this
 | true =>
  have e : zstream a b true D L X = (a :: b :: four (adler D)) ++ pack L ++ (four (adler X) ++ []) := by rw [List.append_nil, List.append_assoc]; rfl
  refine ⟨6, D, ?_, ?_, by rw [hl]; simp; omega, ?_⟩
  · have e2 : zstream a b true D L X = a :: b :: (four (adler D) ++ (pack L ++ four (adler X))) := rfl; rw [e2, zhead_has h (hb.2 rfl) (adler_lt D), if_pos rfl]
  · have e3 : (zstream a b true D L X).drop 6 = pack L ++ four (adler X) := rfl; rw [e3]; exact data_infl hd _
  · have := hsum (a :: b :: four (adler D)); rw [← e] at this; have e4 : ((a :: b :: four (adler D)) ++ pack L).length = 6 + (pack L).length := by simp [four_len]; omega
    rw [e4] at this; exact this
theorem rag_first {a b : UInt8} {L : List Bool} {X : List UInt8} (h : hdrOk a b = true) (hb : ¬ b.toNat / 32 % 2 = 1) (hd : Flate.Data [] L X) {k : Nat} (hk2 : 2 ≤ k) (hk : k ≤ (zstream a b false [] L X).length) :
 zhead ((zstream a b false [] L X).take k) [] = .inr (2, []) ∧ ∀ er P Y, Infl (((zstream a b false [] L X).take k).drop 2) [] er P Y → Y.length ≤ X.length := by
 refine ⟨zhead_prefix h hb hk2, fun er P Y hi => ?_⟩
 rcases Nat.lt_or_ge k (zstream a b false [] L X).length with hlt | hge
 · obtain ⟨p, Z, hZ, hl⟩ := unz_cut h hb hd hlt; unfold Unz at hZ; have hzp : zhead ((zstream a b false [] L X).take k) [] = .inr (2, []) := zhead_prefix h hb hk2; rw [hzp] at hZ; obtain ⟨er', P', h1, _⟩ := hZ; obtain ⟨_, _, e⟩ := h1.unique hi; rw [e]; exact hl
 · rw [List.take_of_length_le hge] at hi; have e3 : (zstream a b false [] L X).drop 2 = pack L ++ four (adler X) := rfl; rw [e3] at hi; have hd' : Flate.Data (lastOf []) L (lastOf [] ++ X) := hd; obtain ⟨_, _, e⟩ := (data_infl hd' (four (adler X))).unique hi; rw [e]; exact Nat.le_refl _
set_option maxHeartbeats 2000000 in
theorem fnReaderAgain_any (w : World) (C : Nat) (p : Ps) (he : Env w C p) (base : Option Addr) (data : List UInt8) (cap : Nat) (hs : Bt w base data cap) (mbase : Option Addr) (more : List UInt8) (mcap : Nat) (hm : Bt w mbase more mcap) (dbase : Option Addr) (dict : List UInt8) (dcap : Nat) (hd : Bt w dbase dict dcap) (has : Bool) (lb : Option Addr) (l : List Int) (lc : Nat) (hl : It w lb l lc) (n : Int) (hn : (Lit.int .i64 n).wf = true) :
 Calls Tryz.prog 4 #[.slice base data.length cap, .slice mbase more.length mcap, .slice dbase dict.length dcap, .bool has, .slice lb l.length lc, .int .i64 n] w fun e w' => e = .returned (.bool true) ∧ Frm (fun _ _ => False) w w' := by
 have HE := zHi he
 have HS := zHi hs
 have HM := zHi hm
 have HD := zHi hd
 have HL := zHi hl
 clear he hs hm hd hl hn
 obtain ⟨n1, hn1⟩ : ∃ n1, n1 = data.length := ⟨_, rfl⟩
 obtain ⟨n2, hn2⟩ : ∃ n2, n2 = more.length := ⟨_, rfl⟩
 obtain ⟨n3, hn3⟩ : ∃ n3, n3 = dict.length := ⟨_, rfl⟩
 obtain ⟨n4, hn4⟩ : ∃ n4, n4 = l.length := ⟨_, rfl⟩
 rw [← hn1, ← hn2, ← hn3, ← hn4]
 have HN := zHi (zAi hn1 (zAi hn2 (zAi hn3 hn4)))
 clear hn1 hn2 hn3 hn4
 go_enter Tryz.func4, Tryz.ntmps4
 by_cases h1 : 2147483647 < n1
 · have t1 : decide ((2147483647 : Int) < (n1 : Int)) = true := by simp; omega
   clear h1; go_wp2_with fail
   go_ret
   exact ⟨rfl, Frm.refl _ _⟩
 have t1 : decide ((2147483647 : Int) < (n1 : Int)) = false := by simp; omega
 by_cases h2 : 2147483647 < n2
 · have t2 : decide ((2147483647 : Int) < (n2 : Int)) = true := by simp; omega
   clear h1 h2; go_wp2_with fail
   go_ret
   exact ⟨rfl, Frm.refl _ _⟩
 have t2 : decide ((2147483647 : Int) < (n2 : Int)) = false := by simp; omega
 by_cases h3 : 2147483647 < n3
 · have t3 : decide ((2147483647 : Int) < (n3 : Int)) = true := by simp; omega
   clear h1 h2 h3; go_wp2_with fail
   go_ret
   exact ⟨rfl, Frm.refl _ _⟩
 have t3 : decide ((2147483647 : Int) < (n3 : Int)) = false := by simp; omega
 by_cases h4 : 2147483647 < n4
 · have t4 : decide ((2147483647 : Int) < (n4 : Int)) = true := by simp; omega
   clear h1 h2 h3 h4; go_wp2_with fail
   go_ret
   exact ⟨rfl, Frm.refl _ _⟩
 have t4 : decide ((2147483647 : Int) < (n4 : Int)) = false := by simp; omega
 have hdl : data.length ≤ 2147483647 := by have := HN.out.1; omega
 have hml : more.length ≤ 2147483647 := by have := HN.out.2.1; omega
 have hdd : dict.length ≤ 2147483647 := by have := HN.out.2.2.1; omega
 have hll : l.length ≤ 2147483647 := by have := HN.out.2.2.2; omega
 have HB := zHi (zAi hdl (zAi hml (zAi hdd hll)))
 have hz := zlib_any w base data cap HS.out none [] 0 (bt_nil _) false 7 1 lb l lc HL.out hdl (by simp) hll
 rw [← HN.out.1, ← HN.out.2.2.2] at hz
 have HZ := zHi (show Calls Tryz.prog 18 #[.slice base n1 cap, .slice none 0 0, .bool false, .int .i64 7, .int .i64 1, .slice lb n4 lc] w _ from hz)
 clear h1 h2 h3 h4 hdl hml hdd hll hz
 go_wp2_with fail
 refine HZ.out.mono ?_
 rintro e w1 ⟨v, a, b, L, rfl, hown, hok, hbit, hdata, hpl, hpos, hf1⟩
 have hd0 : Flate.Data [] L data := hdata
 have hfst := fun k hk2 hk => rag_first (k := k) hok (fun q => by have := hbit.1 q; simp at this) hd0 hk2 hk
 obtain ⟨bb, cc, rfl, hbt⟩ := hown.bt
 have hSl := zstream_len a b false [] L data
 simp only [Bool.false_eq_true, if_false] at hSl
 obtain ⟨S, hS⟩ : ∃ S, S = zstream a b false [] L data := ⟨_, rfl⟩
 rw [← hS] at hbt hSl hfst ⊢
 obtain ⟨m, hm⟩ : ∃ m, m = S.length - 1 := ⟨_, rfl⟩
 obtain ⟨m1, hm1'⟩ : ∃ m1, m1 = S.length := ⟨_, rfl⟩
 rw [← hm1']
 have e1 : (m1 : Int) - 1 = (m : Int) := by omega
 have hm1 : 1 ≤ m := by omega
 obtain ⟨y, hy⟩ : ∃ y, y = n.tmod (m : Int) := ⟨_, rfl⟩
 obtain ⟨g1, g2⟩ := tmod_rangeR n m hm1
 rw [← hy] at g1 g2
 obtain ⟨k, hk⟩ : ∃ k : Nat, (k : Int) = (y + (m : Int)) % (m : Int) := by
  have := Int.emod_nonneg (y + (m : Int)) (show (m : Int) ≠ 0 by omega)
  exact ⟨((y + (m : Int)) % (m : Int)).toNat, Int.toNat_of_nonneg this⟩
 have hklt : k < m := by
  have := Int.emod_lt_of_pos (y + (m : Int)) (show (0 : Int) < (m : Int) by omega)
  omega
 obtain ⟨k2, hk2⟩ : ∃ k2, k2 = k + 2 := ⟨_, rfl⟩
 have e2 : 2 + (k : Int) = (k2 : Int) := by omega
 have e3 : y + (m1 : Int) - 1 = y + (m : Int) := by omega
 obtain ⟨hza, hxa⟩ := hfst k2 (by omega) (by omega)
 obtain ⟨hrun2, hbt2⟩ := run_headZ hbt k2 (by omega)
 rw [← hm1'] at hrun2
 have hlt : (S.take k2).length = k2 := by rw [List.length_take]; omega
 have hz2 := zlib_any w1 mbase more mcap (HM.out.keep hf1) dbase dict dcap (HD.out.keep hf1) has 7 1 lb l lc (HL.out.keep hf1) (by have := HB.out; omega) (by have := HB.out; omega) (by have := HB.out; omega)
 rw [← HN.out.2.1, ← HN.out.2.2.1, ← HN.out.2.2.2] at hz2
 have HZ2 := zHi hz2
 have c1 : (m1 : Int) ≤ 549755813894 := by omega
 have c2 : (1 : Int) ≤ (m : Int) := by omega
 have c3 : (k : Int) < (m : Int) := by omega
 have c6 : (m : Int) ≠ 0 := by omega
 have c9 : (6 : Int) ≤ (m1 : Int) := by omega
 have c10 : (k2 : Int) ≤ (m1 : Int) := by omega
 have c7 : 0 < m := by omega
 have c8 : m ≠ 0 := by omega
 have hy' := hy.symm
 have hk' := hk.symm
 have H1 := zHi (zAi hbt2 (zAi hlt (zAi hza (zAi hxa (zAi hf1 (zAi hpl hSl))))))
 clear hown hok hbit hdata hd0 hpl hpos hf1 hfst hbt hSl hS hm hm1' hm1 hy hk hklt hza hxa hbt2 hlt hz2 hk2
 go_wp2_with fail
 refine HZ2.out.mono ?_
 rintro e w2 ⟨v2, a2, b2, L2, rfl, hown, hok, hbit, hdata, hpl2, hpos, hf2⟩
 obtain ⟨hbt2, hlt, hza, hxa, hf1, hpl, hSl⟩ := H1.out
 have hf02 := hf1.trans hf2
 obtain ⟨q, D', hz, hi, hP, hsum⟩ := rag_second hok hbit hdata
 have hu := unz_z (m := []) (Dr := dict) hok hbit (fun _ => rfl) hdata
 rw [List.append_nil] at hu
 obtain ⟨bb2, cc2, rfl, hbtb⟩ := hown.bt
 have hSl2 := zstream_len a2 b2 has dict L2 more
 have hSl3 : (zstream a2 b2 has dict L2 more).length ≤ 10 + (pack L2).length ∧ 0 < (zstream a2 b2 has dict L2 more).length := by rw [hSl2]; split <;> omega
 obtain ⟨S2, hS2⟩ : ∃ S2, S2 = zstream a2 b2 has dict L2 more := ⟨_, rfl⟩
 rw [← hS2] at hz hi hP hsum hu hbtb hSl3 ⊢
 have hut := utw_any w2 C p (HE.out.keep hf02 (fun _ _ e => e.elim)) bb (S.take k2) cc (hbt2.keep hf2) (by omega) hza (fun er P X h => by have := hxa er P X h; have := HB.out; omega) bb2 S2 cc2 hbtb (by omega) dbase dict dcap (HD.out.keep hf02) (by have := HB.out; omega) hz hi (by have := HB.out; omega) hP hsum
 rw [hlt, ← HN.out.2.2.1] at hut
 obtain ⟨m2, hm2⟩ : ∃ m2, m2 = S2.length := ⟨_, rfl⟩
 rw [← hm2] at hut ⊢
 have HUT := zHi hut
 have H2 := zHi (zAi hf02 (zAi hu (zAi hbtb (zAi hSl3 (zAi hm2 hpl2)))))
 clear hbt2 hlt hza hxa hf1 hpl hSl hf02 hz hi hP hsum hu hown hok hbit hdata hpl2 hpos hf2 hbtb hSl2 hSl3 hS2 hut hm2
 go_wp2_with fail
 refine HUT.out.mono ?_
 rintro e w3 ⟨v3, rfl, hown3, hf3⟩
 obtain ⟨hf02, hu, hbtb, hSl3, hm2, hpl2⟩ := H2.out
 have hf03 := hf02.trans hf3
 obtain ⟨b3, c3', rfl, hbt3⟩ := hown3.bt
 have hsame := same_any w3 b3 mbase more more c3' mcap hbt3.bytes (HM.out.keep hf03).bytes
 rw [sameB_refl, ← HN.out.2.1] at hsame
 rw [← HN.out.2.1]
 have hrd := reads_long w3 C p (HE.out.keep hf03 (fun _ _ e => e.elim)) bb2 S2 cc2 (hbtb.keep hf3) (by omega) dbase dict dcap (HD.out.keep hf03) (by have := HB.out; omega) true (unz_hxl hu (by have := HB.out; omega)) mbase more mcap (HM.out.keep hf03) hu (by omega)
 rw [← hm2, ← HN.out.2.1, ← HN.out.2.2.1] at hrd
 have HSM := zHi hsame
 have HRD := zHi hrd
 have HF3 := zHi hf03
 clear hf02 hu hbtb hSl3 hm2 hpl2 hown3 hf3 hf03 hbt3 hsame hrd
 go_wp2_with fail
 refine HSM.out.mono ?_
 rintro e w4 ⟨rfl, rfl⟩
 go_wp2_with fail
 refine HRD.out.mono ?_
 rintro e w4 ⟨rfl, hf4⟩
 have HF4 := zHi hf4
 clear hf4
 go_wp2_with fail
 go_ret
 exact ⟨rfl, HF3.out.trans HF4.out⟩
end Go.Proofs.YthfncdfcklbigaaGreatDoor
