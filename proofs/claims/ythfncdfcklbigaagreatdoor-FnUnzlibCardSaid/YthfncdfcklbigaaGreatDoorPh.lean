/-
  Several texts in one: Huff.
-/
import Derived.Test.YthfncdfcklbigaaGreatDoorPd
import Derived.Test.YthfncdfcklbigaaGreatDoorPb
import Derived.Test.YthfncdfcklbigaaGreatDoorPa
import Derived.Deep.RegionWith
set_option linter.unusedVariables false
set_option linter.unusedSimpArgs false
namespace Go.Proofs.YthfncdfcklbigaaGreatDoor
open Go.RowKit Flate
set_option maxRecDepth 100000
theorem frame362 (t : Array Value) (v : Value) (h : t.size = 362) (h0 : t[0]? = some v) : ∃ f : Nat → Value, t = #[v, f 1, f 2, f 3, f 4, f 5, f 6, f 7, f 8, f 9, f 10, f 11, f 12, f 13, f 14, f 15, f 16, f 17, f 18, f 19, f 20, f 21, f 22, f 23, f 24, f 25, f 26, f 27, f 28, f 29, f 30, f 31, f 32, f 33, f 34, f 35, f 36, f 37, f 38, f 39, f 40, f 41, f 42, f 43, f 44, f 45, f 46, f 47, f 48, f 49, f 50, f 51, f 52, f 53, f 54, f 55, f 56, f 57, f 58, f 59, f 60, f 61, f 62, f 63, f 64, f 65, f 66, f 67, f 68, f 69, f 70, f 71, f 72, f 73, f 74, f 75, f 76, f 77, f 78, f 79, f 80, f 81, f 82, f 83, f 84, f 85, f 86, f 87, f 88, f 89, f 90, f 91, f 92, f 93, f 94, f 95, f 96, f 97, f 98, f 99, f 100, f 101, f 102, f 103, f 104, f 105, f 106, f 107, f 108, f 109, f 110, f 111, f 112, f 113, f 114, f 115, f 116, f 117, f 118, f 119, f 120, f 121, f 122, f 123, f 124, f 125, f 126, f 127, f 128, f 129, f 130, f 131, f 132, f 133, f 134, f 135, f 136, f 137, f 138, f 139, f 140, f 141, f 142, f 143, f 144, f 145, f 146, f 147, f 148, f 149, f 150, f 151, f 152, f 153, f 154, f 155, f 156, f 157, f 158, f 159, f 160, f 161, f 162, f 163, f 164, f 165, f 166, f 167, f 168, f 169, f 170, f 171, f 172, f 173, f 174, f 175, f 176, f 177, f 178, f 179, f 180, f 181, f 182, f 183, f 184, f 185, f 186, f 187, f 188, f 189, f 190, f 191, f 192, f 193, f 194, f 195, f 196, f 197, f 198, f 199, f 200, f 201, f 202, f 203, f 204, f 205, f 206, f 207, f 208, f 209, f 210, f 211, f 212, f 213, f 214, f 215, f 216, f 217, f 218, f 219, f 220, f 221, f 222, f 223, f 224, f 225, f 226, f 227, f 228, f 229, f 230, f 231, f 232, f 233, f 234, f 235, f 236, f 237, f 238, f 239, f 240, f 241, f 242, f 243, f 244, f 245, f 246, f 247, f 248, f 249, f 250, f 251, f 252, f 253, f 254, f 255, f 256, f 257, f 258, f 259, f 260, f 261, f 262, f 263, f 264, f 265, f 266, f 267, f 268, f 269, f 270, f 271, f 272, f 273, f 274, f 275, f 276, f 277, f 278, f 279, f 280, f 281, f 282, f 283, f 284, f 285, f 286, f 287, f 288, f 289, f 290, f 291, f 292, f 293, f 294, f 295, f 296, f 297, f 298, f 299, f 300, f 301, f 302, f 303, f 304, f 305, f 306, f 307, f 308, f 309, f 310, f 311, f 312, f 313, f 314, f 315, f 316, f 317, f 318, f 319, f 320, f 321, f 322, f 323, f 324, f 325, f 326, f 327, f 328, f 329, f 330, f 331, f 332, f 333, f 334, f 335, f 336, f 337, f 338, f 339, f 340, f 341, f 342, f 343, f 344, f 345, f 346, f 347, f 348, f 349, f 350, f 351, f 352, f 353, f 354, f 355, f 356, f 357, f 358, f 359, f 360, f 361] := by
 refine ⟨fun i => t.getD i undef, ?_⟩
 have hv : v = t.getD 0 undef := by
  rw [Array.getD_eq_getD_getElem?, h0]; rfl
 subst hv
 exact (frame_list t 362 h).trans rfl
def watN (len : Nat) (w : World) (F R : Nat) : Nat :=
 match w.cell? ⟨R, 0, none⟩, w.cell? ⟨R, 1, none⟩, w.cell? ⟨F, 4, none⟩ with
 | some (.slice _ N _), some (.int _ p), some (.int _ n) => (8 * (len + p - N) - n).toNat
 | _, _, _ => 0
theorem watN_of {w : World} {F : Nat} {d : DS} {r : Br} (h : Dec w F d) (hd : d = d.put r) (hr : r.ok d.src) : watN d.src.length w F d.R = r.at_ := by
 obtain ⟨_, off, N, Q, hN, hQ, h0, _, h1, _⟩ := h.so.s
 have h2 := h.nb
 have e1 : d.pos = r.pos := congrArg DS.pos hd
 have e2 : d.nb = r.nb := congrArg DS.nb hd
 have h3 := hr.1
 unfold watN
 rw [h0, h1, h2, e2]
 simp only
 unfold Br.nb
 omega
def JH (w : World) (F C : Nat) (p : Ps) (d : DS) (k : Nat) (last : Bool) (r : Br) (T : Tab) (D : Option Tab) (x : Cfg × List UInt8) (l : Nat) (a : Act) (w' : World) : Prop :=
 a.tmps.size = 362 ∧ a.tmps[0]? = some (.pointer (some ⟨F, 0, none⟩)) ∧ a.defers = [] ∧
 ∃ d1 H1 r1, St w' F C p d1 H1 k 0 ∧ d1.err = .nilIface ∧ d1.wr < 32768 ∧ d1.fin = last ∧ r1.ok d.src ∧ r1.nb ≤ 22 ∧ d1 = d1.put r1 ∧ Tabs w' F d1 T D ∧ Same d d1 ∧ Frm (SA F d) w w' ∧ r.at_ ≤ r1.at_ ∧
  (l = 0 ∧ SS0 d1 H1 ∧ Flate.Reach d.src x (.huff last r1 T D, H1) ∨
   l = 1 ∧ (d1.ss = 0 ∨ d1.ss = 1) ∧ ∃ n D' : Nat, d1.cl = n ∧ d1.cd = D' ∧ n ≤ 258 ∧ 1 ≤ D' ∧ D' ≤ H1.length ∧ D' ≤ 32768 ∧ Flate.Reach d.src x (.huff last r1 T D, lz H1 D' n))
def muH (F R len : Nat) (l : Nat) (_ : Act) (w : World) : Nat := 2 * (8 * len + 1 - watN len w F R) + l
theorem TabV.keep {w w' : World} {F : Nat} {d d' : DS} {v : Value} {T : Tab} (h : TabV w F d v T) (hf : Frm (SX F d) w w') (hs : Same d d') : TabV w' F d' v T := by
 obtain ⟨B, o, h1, h2, h3, h4, h5, h6, h7, h8⟩ := h
 refine ⟨B, o, h1, ?_, h3, by rw [hs.R]; exact h4, by rw [hs.HB]; exact h5, by rw [hs.BB]; exact h6, by rw [hs.CB]; exact h7, h8⟩
 have hN : LinkB F d' = LinkB F d := by funext b; unfold LinkB; rw [hs.R, hs.HB, hs.BB, hs.CB]
 rw [hN]
 refine h2.keep hf (fun k k1 k2 e => ?_) (fun b hb k e => ?_)
 · rcases e with e | e | e
   · exact h4 e
   · exact h5 e
   · have := h8 e.1; omega
 · rcases e with e | e | e
   · exact hb.2.1 e
   · exact hb.2.2.1 e
   · exact hb.1 e.1
theorem Tabs.keep {w w' : World} {F : Nat} {d d' : DS} {T : Tab} {D : Option Tab} (h : Tabs w F d T D) (hf : Frm (SX F d) w w') (hs : Same d d') (h1 : d'.hl = d.hl) (h2 : d'.hd = d.hd) : Tabs w' F d' T D := by
 cases D with
 | none => exact ⟨by rw [h1]; exact h.1.keep hf hs, h2.trans h.2⟩
 | some D => exact ⟨by rw [h1]; exact h.1.keep hf hs, by rw [h2]; exact h.2.keep hf hs⟩
theorem Tabs.lit {w : World} {F : Nat} {d : DS} {T : Tab} {D : Option Tab} (h : Tabs w F d T D) : TabV w F d d.hl T := by cases D <;> exact h.1
theorem Tabs.ok {w : World} {F : Nat} {d : DS} {T : Tab} {D : Option Tab} (h : Tabs w F d T D) : T.OK ∧ ∀ T', D = some T' → T'.OK := by
 cases D with
 | none => obtain ⟨B, o, _, _, h3, _⟩ := h.1; exact ⟨h3, fun T' e => absurd e (by simp)⟩
 | some D =>
  obtain ⟨B, o, _, _, h3, _⟩ := h.1; obtain ⟨B', o', _, _, h3', _⟩ := h.2; exact ⟨h3, fun T' e => by obtain rfl := Option.some.inj e; exact h3'⟩
structure HI (w0 : World) (F C : Nat) (p : Ps) (d0 : DS) (k : Nat) (last : Bool) (T : Tab) (D : Option Tab) (w : World) (d : DS) (H : List UInt8) (r : Br) : Prop where
 st : St w F C p d H k 0
 err : d.err = .nilIface
 fin : d.fin = last
 ok : r.ok d.src
 nb : r.nb ≤ 22
 put : d = d.put r
 tabs : Tabs w F d T D
 same : Same d0 d
 frm : Frm (SA F d0) w0 w
theorem SBX {F : Nat} {d : DS} {b o : Nat} (h : SB F d.R b o) : SX F d b o := by
 rcases h with ⟨e, h⟩ | h
 · exact .inr (.inr ⟨e, by omega⟩)
 · exact .inl h
section
variable {w0 w w' : World} {F C : Nat} {p : Ps} {d0 d : DS} {k : Nat} {last : Bool} {T : Tab} {D : Option Tab} {H : List UInt8} {r : Br}
theorem HI.bits (h : HI w0 F C p d0 k last T D w d H r) {r' : Br} (hD : Dec w' F (d.put r')) (hf : Frm (SB F d.R) w w') (ho : r'.ok d.src) (hn : r'.nb ≤ 22) : HI w0 F C p d0 k last T D w' (d.put r') H r' := by
 have hx : Frm (SX F d) w w' := hf.mono fun b o e => SBX e
 have hs : Same d (d.put r') := ⟨rfl, rfl, rfl, rfl, rfl, rfl⟩
 exact ⟨h.st.of hD hx (SX.ok h.st) hs ⟨rfl, rfl, rfl, rfl, rfl⟩, h.err, h.fin, ho, hn, rfl, h.tabs.keep hx hs rfl rfl, h.same.trans hs, h.frm.trans (hx.mono fun b o e => h.same.SA (SX.sa e))⟩
theorem HI.stop (h : HI w0 F C p d0 k last T D w d H r) {d' : DS} {r' : Br} {e : Err} {m : Nat} {x : Cfg × List UInt8} (hd : d' = { d.put r' with err := d'.err }) (hD : Dec w' F d') (hf : Frm (SX F d) w w') (hw : d.wr < 32768) (hv : ErrV p e d'.err)
 (hx : Flate.Reach d.src x (.done e r'.pos, H)) (hm : 0 < m) : StepPost w0 F C p d0 k m x (.returned (.tuple #[])) w' := by
 have hs : Same d d' := by rw [hd]; exact ⟨rfl, rfl, rfl, rfl, rfl, rfl⟩
 refine ⟨rfl, d', H, 0, (.done e r'.pos, H), h.st.of hD hf (SX.ok h.st) hs (by rw [hd]; exact ⟨rfl, rfl, rfl, rfl, rfl⟩), Or.inl ⟨hv, rfl, by rw [hd]; rfl⟩, by rw [← h.same.src]; exact hx, h.same.trans hs, ⟨by rw [hd]; exact hw, fun q => absurd q (by omega)⟩, .inr ?_, h.frm.trans (hf.mono fun b o e => h.same.SA (SX.sa e))⟩
 have : dmu d' = 0 := by
  unfold dmu
  cases e with
  | eof => rw [hv]
  | cut => rw [hv]
  | corrupt => obtain ⟨y, hv⟩ := hv; rw [hv]
 omega
theorem HI.write (h : HI w0 F C p d0 k last T D w d H r) {d' : DS} {V : List UInt8} {g : Nat → UInt8} {n : Nat} (hd : d' = { d with g := g, wr := n }) (hn : n = d.wr + V.length) (hD : Dec w' F d') (hf : Frm (SX F d) w w') (hb : WinB g n (H ++ V)) :
 HI w0 F C p d0 k last T D w' d' (H ++ V) r := by
 have hs : Same d d' := by rw [hd]; exact ⟨rfl, rfl, rfl, rfl, rfl, rfl⟩
 refine ⟨h.st.write hD hf (SX.ok h.st) hs (by rw [hd]; exact hb) (by rw [hd]; exact hn) (by rw [hd]) (by rw [hd]) (by rw [hd]), by rw [hd]; exact h.err, by rw [hd]; exact h.fin, by rw [hd]; exact h.ok, h.nb, ?_, h.tabs.keep hf hs (by rw [hd]) (by rw [hd]), h.same.trans hs,
  h.frm.trans (hf.mono fun b o e => h.same.SA (SX.sa e))⟩
 rw [hd]
 have := h.put
 conv => lhs; rw [this]
 rfl
theorem HI.drewN (h : HI w0 F C p d0 k last T D w d H r) (n : Nat) : HI w0 F C p d0 k last T D (w.drewN n) d H r :=
 have hf : Frm (SX F d) w (w.drewN n) := (Frm.refl _ _).drewN n
 ⟨h.st.of (h.st.dec.drewN n) hf (SX.ok h.st) (Same.refl d) ⟨rfl, rfl, rfl, rfl, rfl⟩, h.err, h.fin, h.ok, h.nb, h.put, h.tabs.keep hf (Same.refl d) rfl rfl, h.same, h.frm.drewN n⟩
theorem HI.left (h : HI w0 F C p d0 k last T D w d H r) {d' : DS} {y z : Int} (hd : d' = { d with cl := y, cd := z }) (hD : Dec w' F d') (hf : Frm (SX F d) w w') : HI w0 F C p d0 k last T D w' d' H r := by
 have hs : Same d d' := by rw [hd]; exact ⟨rfl, rfl, rfl, rfl, rfl, rfl⟩
 refine ⟨h.st.of hD hf (SX.ok h.st) hs (by rw [hd]; exact ⟨rfl, rfl, rfl, rfl, rfl⟩), by rw [hd]; exact h.err, by rw [hd]; exact h.fin, by rw [hd]; exact h.ok, h.nb, ?_, h.tabs.keep hf hs (by rw [hd]) (by rw [hd]), h.same.trans hs, h.frm.trans (hf.mono fun b o e => h.same.SA (SX.sa e))⟩
 rw [hd]
 have := h.put
 conv => lhs; rw [this]
 rfl
theorem HI.jump (h : HI w0 F C p d0 k last T D w d H r) {r0 : Br} {a : Act} {x : Cfg × List UInt8} (h1 : a.tmps.size = 362) (h2 : a.tmps[0]? = some (.pointer (some ⟨F, 0, none⟩))) (h3 : a.defers = []) (hw : d.wr < 32768) (hat : r0.at_ ≤ r.at_) (hs0 : SS0 d H)
 (hx : Flate.Reach d0.src x (.huff last r T D, H)) : JH w0 F C p d0 k last r0 T D x 0 a w :=
 ⟨h1, h2, h3, d, H, r, h.st, h.err, hw, h.fin, by rw [← h.same.src]; exact h.ok, h.nb, h.put, h.tabs, h.same, h.frm, hat, .inl ⟨rfl, hs0, hx⟩⟩
theorem HI.mu (h : HI w0 F C p d0 k last T D w d H r) (l : Nat) (a : Act) : muH F d0.R d0.src.length l a w = 2 * (8 * d0.src.length + 1 - r.at_) + l := by
 unfold muH
 rw [← h.same.R, ← h.same.src, watN_of h.st.dec h.put h.ok]
theorem HI.goto0 (h : HI w0 F C p d0 k last T D w d H r) {r0 r1 : Br} {l : Nat} {x : Cfg × List UInt8} (hw : d.wr < 32768) (hat : r0.at_ ≤ r1.at_) (hlt : r1.at_ < r.at_ ∨ r1.at_ = r.at_ ∧ 0 < l) (hs0 : SS0 d H) (hx : Flate.Reach d0.src x (.huff last r T D, H)) (a : Act) (h1 : a.tmps.size = 362) (h2 : a.tmps[0]? = some (.pointer (some ⟨F, 0, none⟩))) (h3 : a.defers = []) :
 JH w0 F C p d0 k last r0 T D x 0 a w ∧ muH F d0.R d0.src.length 0 a w < 2 * (8 * d0.src.length + 1 - r1.at_) + l := by
 refine ⟨h.jump h1 h2 h3 hw (by omega) hs0 hx, ?_⟩
 rw [h.mu]
 have e1 := h.ok.1
 have e2 := h.ok.2
 rw [h.same.src] at e2
 omega
theorem HI.goto1 (h : HI w0 F C p d0 k last T D w d H r) {r0 r1 : Br} {n D' : Nat} {x : Cfg × List UInt8} (hw : d.wr < 32768) (hat : r0.at_ ≤ r1.at_) (hlt : r1.at_ < r.at_) (hcl : d.cl = (n : Int)) (hcd : d.cd = (D' : Int)) (h5 : n ≤ 258) (h6 : 1 ≤ D')
 (h7 : D' ≤ H.length) (h8 : D' ≤ 32768) (h9 : d.ss = 0 ∨ d.ss = 1) (hx : Flate.Reach d0.src x (.huff last r T D, lz H D' n)) (a : Act) (h1 : a.tmps.size = 362) (h2 : a.tmps[0]? = some (.pointer (some ⟨F, 0, none⟩))) (h3 : a.defers = []) :
 JH w0 F C p d0 k last r0 T D x 1 a w ∧ muH F d0.R d0.src.length 1 a w < 2 * (8 * d0.src.length + 1 - r1.at_) + 0 := by
 refine ⟨⟨h1, h2, h3, d, H, r, h.st, h.err, hw, h.fin, by rw [← h.same.src]; exact h.ok, h.nb, h.put, h.tabs, h.same, h.frm, by omega, .inr ⟨rfl, h9, n, D', hcl, hcd, h5, h6, h7, h8, hx⟩⟩, ?_⟩
 rw [h.mu]
 have e1 := h.ok.1
 have e2 := h.ok.2
 rw [h.same.src] at e2
 omega
theorem HI.flush (h : HI w0 F C p d0 k last T D w d H r) {d' : DS} {s : Int} {x : Cfg × List UInt8} {Hx : List UInt8} {m : Nat} (hD : Dec w' F d')
 (hd : d' = { d.flushed with toRead := .slice (some ⟨d.HB, d.rd, none⟩) (d.wr - d.rd) (32768 - d.rd), step := fnV 82, ss := s }) (hf : Frm (SX F d) w w') (hgt : d.rd < d.wr)
 (hs : s = 0 ∧ Hx = H ∨ s = 1 ∧ ∃ n D' : Nat, d.cl = n ∧ d.cd = D' ∧ n ≤ 258 ∧ 1 ≤ D' ∧ D' ≤ H.length ∧ D' ≤ 32768 ∧ Hx = lz H D' n) (hx : Flate.Reach d0.src x (.huff last r T D, Hx)) :
 StepPost w0 F C p d0 k m x (.returned (.tuple #[])) w' := by
 obtain ⟨fs, fp, fg⟩ := flushed_same d
 obtain ⟨f1, f2, f3, f4, f5, f6, f7, f8, f9, f10, _⟩ := flushed_more d
 have hsm : Same d d' := by rw [hd]; exact ⟨fs.R, fs.base, fs.src, fs.BB, fs.CB, fs.HB⟩
 obtain ⟨g1, g2, g3⟩ := h.st.flush hD hf (SX.ok h.st) hsm (by rw [hd]; exact fg) (by rw [hd]) (by rw [hd]) (by rw [hd]) (by rw [hd])
 refine ⟨rfl, d', H, _, (.huff last r T D, Hx), g1, ⟨by rw [hd]; exact f1.trans h.err, by rw [hd], by rw [hd]; exact f2.trans h.fin, by rw [hsm.src]; exact h.ok, h.nb, ?_, h.tabs.keep hf hsm (by rw [hd]; exact f9) (by rw [hd]; exact f10), ?_⟩, hx, h.same.trans hsm, ⟨g2, fun _ => g3⟩, .inl (by omega),
  h.frm.trans (hf.mono fun b o e => h.same.SA (SX.sa e))⟩
 · have e1 : d.b = r.b d.src := congrArg DS.b h.put; have e2 : d.nb = r.nb := congrArg DS.nb h.put; have e3 : d.roff = r.pos := congrArg DS.roff h.put; have e4 : d.pos = r.pos := congrArg DS.pos h.put; rw [← fs.src, ← f4] at e1; rw [← f5] at e2; rw [← f6] at e3; rw [← fp] at e4; rw [hd]
   generalize d.flushed = q at *
   cases q
   simp only at e1 e2 e3 e4; subst e1 e2 e3 e4; rfl
 · rcases hs with ⟨e1, e2⟩ | ⟨e1, n, D', e2, e3, e4⟩
   · exact .inl ⟨by rw [hd]; exact e1, e2⟩
   · exact .inr ⟨by rw [hd]; exact e1, n, D', by rw [hd]; exact f3.trans e2, by rw [hd]; exact f8.trans e3, e4⟩
end
theorem sym_bad {src : List UInt8} {T : Tab} (f : Nat) : ∀ {n : Nat} {r : Br} {e : Err} {r' : Br}, sym src T f n r = .bad e r' → e = .cut ∨ e = .corrupt := by
 induction f with
 | zero => intro n r e r' h; simp only [sym, Rd.bad.injEq] at h; exact .inr h.1.symm
 | succ f ih =>
  intro n r e r' h; rw [sym] at h
  cases hf : fill src.length n r with
  | mk t q =>
   rw [hf] at h
   cases t with
   | false => simp only [Rd.bad.injEq] at h; exact .inl h.1.symm
   | true =>
    simp only at h; split at h
    · split at h
      · simp only [Rd.bad.injEq] at h; exact .inr h.1.symm
      · exact absurd h (by simp)
    · exact ih h
theorem huffStep_bad {src : List UInt8} {last : Bool} {r : Br} {T : Tab} {D : Option Tab} {H : List UInt8} {e : Err} {r' : Br} (h : symbol src T r = .bad e r') : sstep src (.huff last r T D, H) = (.done e r'.pos, H) := by
 show huffStep src last r T D H = _
 unfold huffStep; rw [h]
theorem huffStep_lit {src : List UInt8} {last : Bool} {r : Br} {T : Tab} {D : Option Tab} {H : List UInt8} {v : Nat} {r' : Br} (h : symbol src T r = .ok v r') (hv : v < 256) : sstep src (.huff last r T D, H) = (.huff last r' T D, H ++ [UInt8.ofNat v]) := by
 show huffStep src last r T D H = _
 unfold huffStep; rw [h]; simp only; rw [if_pos hv]
theorem huffStep_end {src : List UInt8} {last : Bool} {r : Br} {T : Tab} {D : Option Tab} {H : List UInt8} {v : Nat} {r' : Br} (h : symbol src T r = .ok v r') (hv : v = 256) : sstep src (.huff last r T D, H) = (more last r', H) := by
 show huffStep src last r T D H = _
 unfold huffStep; rw [h]; simp only; rw [if_neg (by omega), if_pos hv]
theorem huffStep_pair {src : List UInt8} {last : Bool} {r : Br} {T : Tab} {D : Option Tab} {H : List UInt8} {v : Nat} {r1 : Br} (h : symbol src T r = .ok v r1) (hv : ¬ v < 256) (hv2 : ¬ v = 256) {e : Err} {r' : Br} (hp : pair src D v r1 = .bad e r') :
 sstep src (.huff last r T D, H) = (.done e r'.pos, H) := by
 show huffStep src last r T D H = _
 unfold huffStep; rw [h]; simp only; rw [if_neg hv, if_neg hv2, hp]
theorem pair_none {src : List UInt8} {D : Option Tab} {v : Nat} {r : Br} (h : lenOf v = none) : pair src D v r = .bad .corrupt r := by unfold pair; rw [h]
theorem pair_lx {src : List UInt8} {D : Option Tab} {v lb lx : Nat} {r r' : Br} {e : Err} (h : lenOf v = some (lb, lx)) (hg : getBits src lx r = .bad e r') : pair src D v r = .bad e r' := by
 unfold pair; rw [h]; simp only; rw [hg]
theorem pair_ds {src : List UInt8} {D : Option Tab} {v lb lx x : Nat} {r r' r2 : Br} {e : Err} (h : lenOf v = some (lb, lx)) (hg : getBits src lx r = .ok x r2) (hd : distSym src D r2 = .bad e r') : pair src D v r = .bad e r' := by
 unfold pair; rw [h]; simp only; rw [hg]; simp only; rw [hd]
theorem pair_dn {src : List UInt8} {D : Option Tab} {v lb lx x ds : Nat} {r r2 r3 : Br} (h : lenOf v = some (lb, lx)) (hg : getBits src lx r = .ok x r2) (hd : distSym src D r2 = .ok ds r3) (ho : distOf ds = none) : pair src D v r = .bad .corrupt r3 := by
 unfold pair; rw [h]; simp only; rw [hg]; simp only; rw [hd]; simp only; rw [ho]
theorem pair_dx {src : List UInt8} {D : Option Tab} {v lb lx x ds db dx : Nat} {r r2 r3 r' : Br} {e : Err} (h : lenOf v = some (lb, lx)) (hg : getBits src lx r = .ok x r2) (hd : distSym src D r2 = .ok ds r3) (ho : distOf ds = some (db, dx)) (hx : getBits src dx r3 = .bad e r') :
 pair src D v r = .bad e r' := by
 unfold pair; rw [h]; simp only; rw [hg]; simp only; rw [hd]; simp only; rw [ho]; simp only; rw [hx]
theorem pair_all {src : List UInt8} {D : Option Tab} {v lb lx x ds db dx y : Nat} {r r2 r3 r4 : Br} (h : lenOf v = some (lb, lx)) (hg : getBits src lx r = .ok x r2) (hd : distSym src D r2 = .ok ds r3) (ho : distOf ds = some (db, dx)) (hx : getBits src dx r3 = .ok y r4) :
 pair src D v r = .ok (lb + x, db + y) r4 := by
 unfold pair; rw [h]; simp only; rw [hg]; simp only; rw [hd]; simp only; rw [ho]; simp only; rw [hx]
theorem huffStep_far {src : List UInt8} {last : Bool} {r : Br} {T : Tab} {D : Option Tab} {H : List UInt8} {v n f : Nat} {r1 r' : Br} (h : symbol src T r = .ok v r1) (hv : ¬ v < 256) (hv2 : ¬ v = 256) (hp : pair src D v r1 = .ok (n, f) r') (hf : H.length < f) :
 sstep src (.huff last r T D, H) = (.done .corrupt r'.pos, H) := by
 show huffStep src last r T D H = _
 unfold huffStep; rw [h]; simp only; rw [if_neg hv, if_neg hv2, hp]; simp only; rw [if_pos hf]
theorem huffStep_near {src : List UInt8} {last : Bool} {r : Br} {T : Tab} {D : Option Tab} {H : List UInt8} {v n f : Nat} {r1 r' : Br} (h : symbol src T r = .ok v r1) (hv : ¬ v < 256) (hv2 : ¬ v = 256) (hp : pair src D v r1 = .ok (n, f) r') (hf : ¬ H.length < f) :
 sstep src (.huff last r T D, H) = (.huff last r' T D, lz H f n) := by
 show huffStep src last r T D H = _
 unfold huffStep; rw [h]; simp only; rw [if_neg hv, if_neg hv2, hp]; simp only; rw [if_neg hf]
theorem rev5 (y : Nat) (h : y < 32) : revB 8 (y * 8) = revB 5 y := by
 have : ∀ k : Fin 32, revB 8 (k.1 * 8) = revB 5 k.1 := by decide +kernel
 exact this ⟨y, h⟩
set_option maxHeartbeats 32000000 in
theorem huffmanBlock_any (w : World) (F C : Nat) (p : Ps) (d : DS) (H : List UInt8) (k m : Nat) (last : Bool) (r : Br) (T : Tab) (D : Option Tab) (Hf : List UInt8) (h : St w F C p d H k 0) (he : d.err = .nilIface) (hw : d.wr < 32768) (hfin : d.fin = last)
 (hr : r.ok d.src) (hnb : r.nb ≤ 22) (hd : d = d.put r) (hT : Tabs w F d T D)
 (hs : d.ss = 0 ∧ Hf = H ∨ d.ss = 1 ∧ ∃ n D' : Nat, d.cl = n ∧ d.cd = D' ∧ n ≤ 258 ∧ 1 ≤ D' ∧ D' ≤ H.length ∧ D' ≤ 32768 ∧ Hf = lz H D' n) (hm : 2 * (8 * d.src.length + 1 - r.at_) + 1 ≤ m) :
 Calls Tryz.prog 82 #[.pointer (some ⟨F, 0, none⟩)] w (StepPost w F C p d k m (.huff last r T D, Hf)) := by
 have c46 := h.dec.ss
 have HH := zHi h
 have HS := zHi hs
 have HT := zHi hT
 have HDP := zHi hd
 go_enter Tryz.func82, Tryz.ntmps82
 go_wp2_with fail
 refine wp_scope_labels (JH w F C p d k last r T D (.huff last r T D, Hf)) (muH F d.R d.src.length) ?_ ?_
 · have hJ : ∀ l a, a.tmps.size = 362 → a.tmps[0]? = some (.pointer (some ⟨F, 0, none⟩)) → a.defers = [] → (l = 0 ∧ d.ss = 0 ∨ l = 1 ∧ d.ss = 1) → JH w F C p d k last r T D (.huff last r T D, Hf) l a w := by
    intro l a h1 h2 h3 h4; refine ⟨h1, h2, h3, d, H, r, HH.out, he, hw, hfin, hr, hnb, HDP.out, HT.out, Same.refl d, Frm.refl _ _, Nat.le_refl _, ?_⟩; rcases HS.out with ⟨e1, e2⟩ | ⟨e1, n, D', e2, e3, e4, e5, e6, e7, e9⟩
    · left; exact ⟨by omega, .inl e1, by rw [e2]; exact .refl _⟩
    · right; exact ⟨by omega, .inr e1, n, D', e2, e3, e4, e5, e6, e7, by rw [e9]; exact .refl _⟩
   have HJ := zHi hJ; rcases hs with ⟨s0, _⟩ | ⟨s1, _⟩
   · have e1 : (d.ss == 0) = true := by simp [s0]
     have S0 := zHi s0; clear hJ h hT hd s0; go_wp2_with fail
     go_step3
     exact HJ.out 0 _ rfl rfl rfl (.inl ⟨rfl, S0.out⟩)
   · have e1 : (d.ss == 0) = false := by simp [s1]
     have e2 : (d.ss == 1) = true := by simp [s1]
     have S1 := zHi s1; clear hJ h hT hd s1; go_wp2_with fail
     go_step3
     exact HJ.out 1 _ rfl rfl rfl (.inr ⟨rfl, S1.out⟩)
 · intro l a w1 hJ; obtain ⟨j1, j2, j3, d1, H1, r1, hS, he1, hw1, hf1, hr1, hnb1, hd1, hT1, hs1, hF1, hat, hl⟩ := hJ; have hmu : muH F d.R d.src.length l a w1 = 2 * (8 * d.src.length + 1 - r1.at_) + l := by
    unfold muH; rw [← hs1.R, ← hs1.src, watN_of hS.dec hd1 (by rw [hs1.src]; exact hr1)]
   rw [hmu]; have HH1 := zHi hS; have HF1 := zHi hF1; have HS1 := zHi hs1; have HD1 := zHi hd1; have HT1 := zHi hT1; have HR1 := zHi hr1; clear c46 hS hF1 hs1 hd1 hT1 hmu h hs hT hd; obtain ⟨t, df⟩ := a; simp only at j1 j2 j3; subst j3; obtain ⟨f, rfl⟩ := frame362 t _ j1 j2; clear j1 j2; rcases hl with ⟨rfl, hs01, hre⟩ | ⟨rfl, hss1, n, D', c1, c2, c4, c5, c6, c7, hre⟩
   · refine ⟨_, rfl, ?_⟩; have HS01 := zHi hs01; clear hs01; have hI : HI w F C p d k last T D w1 d1 H1 r1 := ⟨HH1.out, he1, hf1, by rw [HS1.out.src]; exact HR1.out, hnb1, HD1.out, HT1.out, HS1.out, HF1.out⟩
     have HI1 := zHi hI; have hmp : 0 < m := by omega
     obtain ⟨B, o, t1, t2, t3, t4, t5, t6, t7, t8⟩ := hI.tabs.lit; have c50 := hI.st.dec.hl; rw [t1] at c50; have hsrc := HS1.out.src; have hcall := huffSym_any w1 F B o p C (LinkB F d1) d1 r1 T HH1.out.env HH1.out.cR HH1.out.cF (by rw [← HD1.out]; exact HH1.out.dec) hI.ok (by omega) t2 t3 (fun b hb => ⟨hb.1, hb.2.1⟩) t4 t8
     have hgood := symbol_good t3 hI.ok hnb1; rw [hsrc] at hcall hgood; have HCALL := zHi hcall; have HGOOD := zHi hgood; have HRE := zHi hre; have HSRC := zHi hsrc; have c48 := hI.st.dec.err; clear hre hcall hgood t1 t2 t3 t4 t5 t6 t7 t8 hsrc hI; go_wp2_with fail
     refine HCALL.out.mono ?_; intro e w2 hP; have hgood := HGOOD.out
     cases hsym : symbol d.src T r1 with
     | bad er r2 =>
      rw [hsym] at hP hgood; have hst := huffStep_bad (last := last) (D := D) (H := H1) hsym; have hreach : Flate.Reach d1.src (Cfg.huff last r T D, Hf) (.done er r2.pos, H1) := by rw [HSRC.out, ← hst]; exact HRE.out.trans (Flate.Reach.one _ _)
      have HREACH := zHi hreach; rcases sym_bad 20 hsym with rfl | rfl
      · obtain ⟨rfl, hD2, hf2⟩ := hP; have d48 := hD2.err; have g48 := hD2.fr 1048; have HD2 := zHi hD2; have HF2 := zHi hf2; clear hst hreach hsym hgood hD2 hf2; go_wp2_with fail
        rw [jumpsTo_ret]
        go_end0
        exact HI1.out.stop (r' := r2) (e := .cut) (by rfl) (HD2.out.set_err (errAt p.U)) ((HF2.out.mono fun b o e => SBX e).setCell (.inl (.inr (.inr ⟨rfl, by simp⟩))) _) hw1 rfl HREACH.out hmp
      · obtain ⟨rfl, hD2, hf2⟩ := hP; have d48 := hD2.err; have g48 := hD2.fr 1048; have HD2 := zHi hD2; have HF2 := zHi hf2; clear hst hreach hsym hgood hD2 hf2; go_wp2_with fail
        rw [jumpsTo_ret]
        go_end0
        exact HI1.out.stop (r' := r2) (e := .corrupt) (by rfl) (HD2.out.set_err (corruptAt r2.pos)) ((HF2.out.mono fun b o e => e.elim SBX (fun e => .inr (.inr ⟨e.1, by omega⟩))).setCell (.inl (.inr (.inr ⟨rfl, by simp⟩))) _) hw1 ⟨r2.pos, rfl⟩ HREACH.out hmp
     | ok v r2 =>
      rw [hsym] at hP hgood; obtain ⟨rfl, hD2, hf2⟩ := hP; obtain ⟨g1, g2, g3, g4⟩ := hgood; have b1 : (v : Int) < 268435456 := by omega
      have hI2 := HI1.out.bits hD2 hf2 (by rw [HSRC.out]; exact g2) g4
      have HI2 := zHi hI2; have HSYM := zHi hsym; have HG2 := zHi g2; have HG1 := zHi g1; have HG4 := zHi g4; have c9 := hI2.st.dec.wr; have c45 := hI2.st.dec.step; clear hD2 hf2 hI2 hsym g1 g2 g4
      by_cases hv : v < 256
      · have e1 : (v : Int) < 256 := by omega
        obtain ⟨c, hc⟩ : ∃ c, c = UInt8.ofNat v := ⟨_, rfl⟩; have hcv : (c.toNat : Int) = (v : Int) := by rw [hc]; simp; omega
        have hwb := writeByte_any w2 F _ HI2.out.st.dec hw1 c; rw [hcv] at hwb; have HWB := zHi hwb; have HV := zHi hv; have HC := zHi hc; clear hwb hcv hc hv; go_wp2_with fail
        refine HWB.out.mono ?_; rintro e w3 ⟨rfl, hD3, hf3⟩; have hI3 := HI2.out.write (V := [c]) (g := upd d1.g d1.wr c) (n := d1.wr + 1) rfl rfl hD3 (hf3.mono fun b o e => e.elim (fun e => .inr (.inr ⟨e.1, by omega⟩)) (fun e => .inr (.inl e))) (HI2.out.st.win.byte hw1 c)
        obtain ⟨d3, hd3⟩ : ∃ d3 : DS, d3 = { d1.put r2 with g := upd d1.g d1.wr c, wr := d1.wr + 1 } := ⟨_, rfl⟩; rw [show ({ d1.put r2 with g := upd d1.g d1.wr c, wr := d1.wr + 1 } : DS) = d3 from hd3.symm] at hI3
        have hw3 : d3.wr ≤ 32768 := by rw [hd3]; simp only; omega
        have hrd : d3.rd < d3.wr := by rw [hd3]; have := HH1.out.rd; show d1.rd < d1.wr + 1; omega
        have hreach : Flate.Reach d.src (.huff last r T D, Hf) (.huff last r2 T D, H1 ++ [c]) := by
         refine HRE.out.trans ?_; have := Flate.Reach.one d.src (.huff last r1 T D, H1); rw [huffStep_lit HSYM.out HV.out, ← HC.out] at this; exact this
        have HREACH := zHi hreach; have HI3 := zHi hI3; have HS3 := zHi (show SS0 d3 (H1 ++ [c]) from HS01.out.same (by rw [hd3]; rfl) (by rw [hd3]; rfl) (by rw [hd3]; rfl) (by simp))
        clear hD3 hf3 hreach hI3 hd3
        by_cases hfu : d3.wr = 32768
        · have e2 : ((32768 : Int) - (d3.wr : Int) == 0) = true := by simp; omega
          have HFU := zHi hfu; clear hfu; go_wp2_with fail
          refine (availWrite_any w3 F d3 HI3.out.st.dec hw3).mono ?_; rintro e w4 ⟨rfl, m4, rfl⟩; go_wp2_with fail
          refine (readFlush_any _ F d3 (HI3.out.st.dec.drewN m4) hw3 (by omega) HI3.out.st.rd2).mono ?_
          rintro e w6 ⟨rfl, hD6, hf6⟩; rw [show (if d3.wr = 32768 then { d3 with wr := 0, rd := 0, full := true } else { d3 with rd := d3.wr } : DS) = d3.flushed from rfl] at hD6
          have r49 := hD6.toRead; have r45 := hD6.step; have r46 := hD6.ss; have s49 := hD6.fr 1049; have s45 := hD6.fr 1045; have s46 := hD6.fr 1046; have HD6 := zHi hD6; have HF6 := zHi hf6; clear hD6 hf6 c9 c45 c50 c48; go_wp2_with fail
          rw [jumpsTo_ret]
          go_end0
          refine HI3.out.flush (s := 0) (((HD6.out.set_toRead _).set_step _).set_ss 0) rfl ?_ hrd (.inl ⟨rfl, rfl⟩) HREACH.out; exact ((((Frm.refl _ _).drewN m4).trans (HF6.out.mono fun b o e => .inr (.inr ⟨e.1, by omega⟩))).setCell (.inl (.inr (.inr ⟨rfl, by simp⟩))) _).setCell (.inl (.inr (.inr ⟨rfl, by simp⟩))) _ |>.setCell (.inl (.inr (.inr ⟨rfl, by simp⟩))) _
        · have e2 : ((32768 : Int) - (d3.wr : Int) == 0) = false := by simp; omega
          go_wp2_with fail
          refine (availWrite_any w3 F d3 HI3.out.st.dec hw3).mono ?_; rintro e w4 ⟨rfl, m4, rfl⟩; go_wp2_with fail
          go_step3
          have hI4 : HI w F C p d k last T D (w3.drewN m4) d3 (H1 ++ [c]) r2 := HI3.out.drewN m4; exact hI4.goto0 (by omega) hat (.inl (by omega)) HS3.out HREACH.out _ rfl rfl rfl
      · by_cases hv2 : v = 256
        · have e1 : decide ((v : Int) < 256) = false := by simp; omega
          have e2 : ((v : Int) == 256) = true := by simp; omega
          have HV2 := zHi hv2; clear hv hv2; go_wp2_with fail
          refine (finishBlock_any w2 F C p _ H1 k 0 r2 HI2.out.st rfl HI2.out.ok HI2.out.nb he1 hw1 (.inl rfl) (HS01.out.same rfl rfl rfl (Nat.le_refl _))).mono ?_; rintro e w3 ⟨rfl, d3, n3, hS3, hM3, hs3, hw3, hm3, hf3⟩; have hxe : Flate.Reach d.src (.huff last r T D, Hf) (more (d1.put r2).fin r2, H1) := by
           refine HRE.out.trans ?_; have := Flate.Reach.one d.src (.huff last r1 T D, H1); rw [huffStep_end HSYM.out HV2.out] at this; rw [HI2.out.fin]; exact this
          have hbnd : dmu d3 < m := by
           have h1 := HG2.out.1; have h2 := HG2.out.2; have h3 : dmu d3 ≤ 2 * (8 * d1.src.length + 1 - r2.at_) + 1 := hm3; rw [HSRC.out] at h3; omega
          have HXE := zHi hxe; have HM3 := zHi hM3; have hs3' := HI2.out.same.trans hs3; have hf3' := HI2.out.frm.trans (hf3.mono fun b o e => .inl e.1)
          have HS3 := zHi hS3; clear hxe hM3 hS3 hm3 c9 c45 c50 c48; go_wp2_with fail
          rw [jumpsTo_ret]
          go_end0
          exact ⟨rfl, d3, H1, n3, _, HS3.out, HM3.out, HXE.out, hs3', hw3, .inr hbnd, hf3'⟩
        · have e1 : decide ((v : Int) < 256) = false := by simp; omega
          have e2 : ((v : Int) == 256) = false := by simp; omega
          have HV := zHi hv; have HV2 := zHi hv2; have hv3 : 256 < v := by omega
          clear hv hv2 e1; go_upto_region 7 with (fail)
          go_cut [5] (fun s wq => s = .int .i64 0 ∧ w2 = wq)
          case first =>
           go_wp2_with fail
           go_meet
           case rel => exact ⟨rfl, rfl⟩
          obtain ⟨rfl, rfl⟩ := hcut; apply_assumption; refine wp_seq_k ?_; intro K1 hK1; go_cut [4, 5] (fun s4 s5 wq => ∃ lb lx : Nat, lenOf v = some (lb, lx) ∧ s4 = .int .u64 (lx : Int) ∧ s5 = .int .i64 (lb : Int) ∧ w2 = wq)
          case first =>
           as_aux_lemma =>
           by_cases a265 : v < 265
           · have k256 : decide ((v : Int) < 256) = false := by simp; omega
             have k265 : (v : Int) < 265 := by omega
             obtain ⟨lb, hlb⟩ : ∃ lb, lb = v - 254 := ⟨_, rfl⟩; have hlv : (v : Int) - 254 = (lb : Int) := by omega
             have hlo : lenOf v = some (lb, 0) := by unfold lenOf; rw [if_pos (show v < 265 by omega)]; rw [hlb]
             have HLO := zHi hlo; clear hlo hlb hv3 a265; go_wp2_with fail
             go_meet
             case rel => exact ⟨lb, 0, HLO.out, rfl, rfl, rfl⟩
           · skip
             by_cases a269 : v < 269
             · have k256 : decide ((v : Int) < 256) = false := by simp; omega
               have k265 : decide ((v : Int) < 265) = false := by simp; omega
               have k269 : (v : Int) < 269 := by omega
               obtain ⟨lb, hlb⟩ : ∃ lb, lb = v * 2 - 519 := ⟨_, rfl⟩; have hlv : (v : Int) * 2 - 519 = (lb : Int) := by omega
               have hlo : lenOf v = some (lb, 1) := by unfold lenOf; rw [if_neg (show ¬ v < 265 by omega), if_pos (show v < 269 by omega)]; rw [hlb]
               have HLO := zHi hlo; clear hlo hlb hv3 a265 a269; go_wp2_with fail
               go_meet
               case rel => exact ⟨lb, 1, HLO.out, rfl, rfl, rfl⟩
             · skip
               by_cases a273 : v < 273
               · have k256 : decide ((v : Int) < 256) = false := by simp; omega
                 have k265 : decide ((v : Int) < 265) = false := by simp; omega
                 have k269 : decide ((v : Int) < 269) = false := by simp; omega
                 have k273 : (v : Int) < 273 := by omega
                 obtain ⟨lb, hlb⟩ : ∃ lb, lb = v * 4 - 1057 := ⟨_, rfl⟩; have hlv : (v : Int) * 4 - 1057 = (lb : Int) := by omega
                 have hlo : lenOf v = some (lb, 2) := by unfold lenOf; rw [if_neg (show ¬ v < 265 by omega), if_neg (show ¬ v < 269 by omega), if_pos (show v < 273 by omega)]; rw [hlb]
                 have HLO := zHi hlo; clear hlo hlb hv3 a265 a269 a273; go_wp2_with fail
                 go_meet
                 case rel => exact ⟨lb, 2, HLO.out, rfl, rfl, rfl⟩
               · skip
                 by_cases a277 : v < 277
                 · have k256 : decide ((v : Int) < 256) = false := by simp; omega
                   have k265 : decide ((v : Int) < 265) = false := by simp; omega
                   have k269 : decide ((v : Int) < 269) = false := by simp; omega
                   have k273 : decide ((v : Int) < 273) = false := by simp; omega
                   have k277 : (v : Int) < 277 := by omega
                   obtain ⟨lb, hlb⟩ : ∃ lb, lb = v * 8 - 2149 := ⟨_, rfl⟩; have hlv : (v : Int) * 8 - 2149 = (lb : Int) := by omega
                   have hlo : lenOf v = some (lb, 3) := by unfold lenOf; rw [if_neg (show ¬ v < 265 by omega), if_neg (show ¬ v < 269 by omega), if_neg (show ¬ v < 273 by omega), if_pos (show v < 277 by omega)]; rw [hlb]
                   have HLO := zHi hlo; clear hlo hlb hv3 a265 a269 a273 a277; go_wp2_with fail
                   go_meet
                   case rel => exact ⟨lb, 3, HLO.out, rfl, rfl, rfl⟩
                 · skip
                   by_cases a281 : v < 281
                   · have k256 : decide ((v : Int) < 256) = false := by simp; omega
                     have k265 : decide ((v : Int) < 265) = false := by simp; omega
                     have k269 : decide ((v : Int) < 269) = false := by simp; omega
                     have k273 : decide ((v : Int) < 273) = false := by simp; omega
                     have k277 : decide ((v : Int) < 277) = false := by simp; omega
                     have k281 : (v : Int) < 281 := by omega
                     obtain ⟨lb, hlb⟩ : ∃ lb, lb = v * 16 - 4365 := ⟨_, rfl⟩; have hlv : (v : Int) * 16 - 4365 = (lb : Int) := by omega
                     have hlo : lenOf v = some (lb, 4) := by unfold lenOf; rw [if_neg (show ¬ v < 265 by omega), if_neg (show ¬ v < 269 by omega), if_neg (show ¬ v < 273 by omega), if_neg (show ¬ v < 277 by omega), if_pos (show v < 281 by omega)]; rw [hlb]
                     have HLO := zHi hlo; clear hlo hlb hv3 a265 a269 a273 a277 a281; go_wp2_with fail
                     go_meet
                     case rel => exact ⟨lb, 4, HLO.out, rfl, rfl, rfl⟩
                   · skip
                     by_cases a285 : v < 285
                     · have k256 : decide ((v : Int) < 256) = false := by simp; omega
                       have k265 : decide ((v : Int) < 265) = false := by simp; omega
                       have k269 : decide ((v : Int) < 269) = false := by simp; omega
                       have k273 : decide ((v : Int) < 273) = false := by simp; omega
                       have k277 : decide ((v : Int) < 277) = false := by simp; omega
                       have k281 : decide ((v : Int) < 281) = false := by simp; omega
                       have k285 : (v : Int) < 285 := by omega
                       obtain ⟨lb, hlb⟩ : ∃ lb, lb = v * 32 - 8861 := ⟨_, rfl⟩; have hlv : (v : Int) * 32 - 8861 = (lb : Int) := by omega
                       have hlo : lenOf v = some (lb, 5) := by unfold lenOf; rw [if_neg (show ¬ v < 265 by omega), if_neg (show ¬ v < 269 by omega), if_neg (show ¬ v < 273 by omega), if_neg (show ¬ v < 277 by omega), if_neg (show ¬ v < 281 by omega), if_pos (show v < 285 by omega)]; rw [hlb]
                       have HLO := zHi hlo; clear hlo hlb hv3 a265 a269 a273 a277 a281 a285; go_wp2_with fail
                       go_meet
                       case rel => exact ⟨lb, 5, HLO.out, rfl, rfl, rfl⟩
                     · skip
                       by_cases a286 : v < 286
                       · have k256 : decide ((v : Int) < 256) = false := by simp; omega
                         have k265 : decide ((v : Int) < 265) = false := by simp; omega
                         have k269 : decide ((v : Int) < 269) = false := by simp; omega
                         have k273 : decide ((v : Int) < 273) = false := by simp; omega
                         have k277 : decide ((v : Int) < 277) = false := by simp; omega
                         have k281 : decide ((v : Int) < 281) = false := by simp; omega
                         have k285 : decide ((v : Int) < 285) = false := by simp; omega
                         have k286 : (v : Int) < 286 := by omega
                         obtain ⟨lb, hlb⟩ : ∃ lb, lb = 258 := ⟨_, rfl⟩; have hlo : lenOf v = some (lb, 0) := by unfold lenOf; rw [if_neg (show ¬ v < 265 by omega), if_neg (show ¬ v < 269 by omega), if_neg (show ¬ v < 273 by omega), if_neg (show ¬ v < 277 by omega), if_neg (show ¬ v < 281 by omega), if_neg (show ¬ v < 285 by omega), if_pos (show v < 286 by omega)]; rw [hlb]
                         have HLO := zHi hlo; have HLB := zHi hlb; clear hlo hlb hv3 a265 a269 a273 a277 a281 a285 a286; go_wp2_with fail
                         go_meet
                         case rel => exact ⟨lb, 0, HLO.out, rfl, by have := HLB.out; rw [this]; rfl, rfl⟩
                       · skip
                         have k256 : decide ((v : Int) < 256) = false := by simp; omega
                         have k265 : decide ((v : Int) < 265) = false := by simp; omega
                         have k269 : decide ((v : Int) < 269) = false := by simp; omega
                         have k273 : decide ((v : Int) < 273) = false := by simp; omega
                         have k277 : decide ((v : Int) < 277) = false := by simp; omega
                         have k281 : decide ((v : Int) < 281) = false := by simp; omega
                         have k285 : decide ((v : Int) < 285) = false := by simp; omega
                         have k286 : decide ((v : Int) < 286) = false := by simp; omega
                         have hlo : lenOf v = none := by unfold lenOf; rw [if_neg (show ¬ v < 265 by omega), if_neg (show ¬ v < 269 by omega), if_neg (show ¬ v < 273 by omega), if_neg (show ¬ v < 277 by omega), if_neg (show ¬ v < 281 by omega), if_neg (show ¬ v < 285 by omega), if_neg (show ¬ v < 286 by omega)]
                         have HLO := zHi hlo; clear hlo hv3 a265 a269 a273 a277 a281 a285 a286; have m2 : w2.cell? ⟨F, 2, none⟩ = some (.int .i64 (r2.pos : Int)) := HI2.out.st.dec.roff; have m48 := HI2.out.st.dec.err; have n48 := HI2.out.st.dec.fr 1048; go_wp2_with fail
                         rw [jumpsTo_ret]
                         go_end0
                         have hbad := huffStep_pair (last := last) (H := H1) HSYM.out HV.out HV2.out (pair_none (src := d.src) (D := D) (r := r2) HLO.out); exact HI2.out.stop (r' := r2) (e := .corrupt) (by rfl) (HI2.out.st.dec.set_err (corruptAt r2.pos)) ((Frm.refl _ _).setCell (.inl (.inr (.inr ⟨rfl, by simp⟩))) _) hw1 ⟨r2.pos, rfl⟩ (by show Flate.Reach d1.src _ _; rw [HSRC.out]; exact (HRE.out.trans (Flate.Reach.one _ _)).trans (by rw [hbad]; exact .refl _)) hmp
          obtain ⟨lb, lx, hlo, rfl, rfl, rfl⟩ := hcut
          as_aux_lemma =>
          have hll := lenOf_le hlo hv3; have HLL := zHi hll; have HLO := zHi hlo; have b2 : (lx : Int) ≤ 5 := by omega
          have b3 : (lb : Int) ≤ 258 := by have := Nat.two_pow_pos lx; omega
          clear hll hlo; refine hK1 _ _ ?_; refine wp_seq_k ?_; intro K2 hK2; go_cut [5] (fun s wq => ∃ (x : Nat) (r3 : Br), getBits d.src lx r2 = .ok x r3 ∧ s = .int .i64 ((lb + x : Nat) : Int) ∧ HI w F C p d k last T D wq (d1.put r3) H1 r3)
          case first => as_aux_lemma =>
           by_cases h0 : lx = 0
           · have e3 : ((0 : Int) < (lx : Int)) = False := by simp; omega
             have e3' : decide ((0 : Int) < (lx : Int)) = false := by simp; omega
             go_wp2_with fail
             go_meet
             case rel => exact ⟨0, r2, by rw [h0]; exact getBits_zero _ _, rfl, HI2.out⟩
           · have e3 : 0 < lx := by omega
             have b5 : (1 : Int) ≤ (lx : Int) := by omega
             have HH0 := zHi h0; clear h0; go_wp2_with fail
             go_loopw [3] (fun ev wr => MB w2 F (d1.put r2) r2 lx wr) (fun _ wr => leftN (d1.put r2).src.length (d1.put r2).R wr)
             case atStart => exact ⟨r2, HI2.out.st.dec, HI2.out.ok, HI2.out.nb, rfl, Frm.refl _ _⟩
             case round => as_aux_lemma =>
              obtain ⟨r', hD', ho', hn', hfl', hf'⟩ := hrel; obtain ⟨nv, hnv⟩ : ∃ nv, nv = r'.nb := ⟨_, rfl⟩; have q4 : wr.cell? ⟨F, 4, none⟩ = some (.int .u64 (nv : Int)) := by rw [hnv]; exact hD'.nb
              have q48 := hD'.err; have s48 := hD'.fr 1048; have b6 : (nv : Int) ≤ 22 := by omega
              have HNV := zHi hnv
              by_cases hlt : lx ≤ r'.nb
              · have e4 : ¬ nv < lx := by omega
                obtain ⟨bb, hbb⟩ : ∃ bb, bb = r'.b (d1.put r2).src := ⟨_, rfl⟩; obtain ⟨P, hP⟩ : ∃ P : Nat, P = 2 ^ lx := ⟨_, rfl⟩; obtain ⟨x, hx⟩ : ∃ x, x = bb % P := ⟨_, rfl⟩; obtain ⟨b2', hb2'⟩ : ∃ b2, b2 = bb / P := ⟨_, rfl⟩; obtain ⟨nb2, hnb2⟩ : ∃ n, n = r'.nb - lx := ⟨_, rfl⟩; obtain ⟨m1, m2, m3, m4, m5, m6⟩ := MB.has hD' ho' hn' hfl' hf' hlt hP hbb hx hb2' hnb2; have HMH := zHi (zAi m2 (zAi m3 (zAi m4 (zAi m5 m6)))); have q3 : wr.cell? ⟨F, 3, none⟩ = some (.int .u32 (bb : Int)) := by rw [hbb]; exact hD'.b
                have s3 := hD'.fr 3; have s4 := hD'.fr 4; have z3 : (bb : Int) / (P : Int) = (b2' : Int) := by rw [hb2']; rfl
                have z4 : (nv : Int) - (lx : Nat) = (nb2 : Int) := by omega
                have z5 : (bb : Int) ≤ 16777216 := by omega
                have hPl : P ≤ 32 := by
                 have : 2 ^ lx ≤ 2 ^ 5 := Nat.pow_le_pow_right (by omega) (by omega)
                 omega
                have hP1 : 1 ≤ P := by rw [hP]; exact Nat.one_le_two_pow
                have z1 : (2 : Int) ^ lx = (P : Int) := by rw [hP]; simp
                have z2 : bits .and .u32 (bb : Int) ((P : Int) - 1) = (x : Int) := by rw [mask_bits bb lx P hP (by omega) (by omega), hx]
                have z6 : (P : Int) ≤ 32 := by omega
                have z7 : (1 : Int) ≤ (P : Int) := by omega
                have z8 : (x : Int) ≤ 31 := by have := Nat.mod_lt bb hP1; omega
                clear hbb hP hPl hP1 hx hb2' hnb2 hnv hn' hD' ho' hfl' hf' hlt m1 m2 m3 m4 m5 m6; go_wp2_with fail
                go_meet
                case rel =>
                 obtain ⟨m2, m3, m4, m5, m6⟩ := HMH.out; exact ⟨x, _, by rw [← HSRC.out]; exact m2, by congr 1, HI2.out.bits m3 m4 m5 m6⟩
              · have e4 : nv < lx := by omega
                by_cases hp : r'.pos < (d1.put r2).src.length
                · have hmb := MB.call_more hD' ho' hfl' hf' hlt (by omega) hp
                  have HMB := zHi hmb; clear hmb hfl' hf' hD' hn' hnv hlt ho'; go_wp2_with fail
                  refine HMB.out.mono ?_; rintro e wm ⟨rfl, HM⟩; go_wp2_with fail
                  go_roundw
                  case rel => first | exact HM.out.1 | ((repeat apply Exists.intro); exact ⟨HM.out.1, rfl⟩)
                  case measure => exact HM.out.2
                · have hmb := MB.call_end HI2.out.st.env HI2.out.st.cR HI2.out.st.cF hD' ho' hfl' hf' hlt hp; have HMB := zHi hmb; clear hmb hf' hfl' hD' hn' hp hnv hlt ho'; go_wp2_with fail
                  refine HMB.out.mono ?_; rintro e wm ⟨rfl, hDm, HGC⟩; have p48 := hDm.err; have t48 := hDm.fr 1048; have HDm := zHi hDm; clear hDm q48 s48 q4; go_wp2_with fail
                  rw [jumpsTo_ret]
                  go_end0
                  obtain ⟨hgc, hfm⟩ := HGC.out; rw [show (d1.put r2).src = d.src from HSRC.out] at hgc
                  have hbad := huffStep_pair (last := last) (H := H1) HSYM.out HV.out HV2.out (pair_lx (D := D) HLO.out hgc); exact HI2.out.stop (r' := r') (e := .cut) (by rfl) (HDm.out.set_err (errAt p.U)) ((hfm.mono fun b o e => SBX e).setCell (.inl (.inr (.inr ⟨rfl, by simp⟩))) _) hw1 rfl (by show Flate.Reach d1.src _ _; rw [HSRC.out]; exact (HRE.out.trans (Flate.Reach.one _ _)).trans (by rw [hbad]; exact .refl _)) hmp
          obtain ⟨x, r3, hgx, rfl, hI3⟩ := hcut
          generalize wc = w3 at hI3 ⊢
          have HGX := zHi hgx; have HI3 := zHi hI3; clear hgx hI3; refine hK2 _ _ ?_
          as_aux_lemma =>
          refine wp_seq_k ?_; intro K3 hK3; go_cut [6] (fun s wq => s = .int .i64 0 ∧ w3 = wq)
          case first =>
           go_wp2_with fail
           go_meet
           case rel => exact ⟨rfl, rfl⟩
          obtain ⟨rfl, rfl⟩ := hcut; refine hK3 _ _ ?_; refine wp_seq_k ?_; intro K4 hK4; go_cut [6] (fun s wq => ∃ (ds : Nat) (r4 : Br), distSym d.src D r3 = .ok ds r4 ∧ s = .int .i64 (ds : Int) ∧ HI w F C p d k last T D wq (d1.put r4) H1 r4)
          case first => as_aux_lemma =>
           rcases D with _ | Dt
           · skip
             have c51 : w3.cell? ⟨F, 1051, none⟩ = some (.pointer none) := by have h1 := HI3.out.st.dec.hd; rw [HI3.out.tabs.2] at h1; exact h1
             go_wp2_with fail
             go_loopw [3] (fun ev wr => MB w3 F (d1.put r3) r3 5 wr) (fun _ wr => leftN (d1.put r3).src.length (d1.put r3).R wr)
             case atStart => exact ⟨r3, HI3.out.st.dec, HI3.out.ok, HI3.out.nb, rfl, Frm.refl _ _⟩
             case round => as_aux_lemma =>
              obtain ⟨r', hD', ho', hn', hfl', hf'⟩ := hrel; obtain ⟨nv, hnv⟩ : ∃ nv, nv = r'.nb := ⟨_, rfl⟩; have q4 : wr.cell? ⟨F, 4, none⟩ = some (.int .u64 (nv : Int)) := by rw [hnv]; exact hD'.nb
              have q48 := hD'.err; have s48 := hD'.fr 1048; have b6 : (nv : Int) ≤ 22 := by omega
              have HNV := zHi hnv
              by_cases hlt : 5 ≤ r'.nb
              · have e4 : decide ((nv : Int) < 5) = false := by simp; omega
                obtain ⟨bb, hbb⟩ : ∃ bb, bb = r'.b (d1.put r3).src := ⟨_, rfl⟩; obtain ⟨P, hP⟩ : ∃ P : Nat, P = 2 ^ 5 := ⟨_, rfl⟩; obtain ⟨x, hx⟩ : ∃ x, x = bb % P := ⟨_, rfl⟩; obtain ⟨b2', hb2'⟩ : ∃ b2, b2 = bb / P := ⟨_, rfl⟩; obtain ⟨nb2, hnb2⟩ : ∃ n, n = r'.nb - 5 := ⟨_, rfl⟩; obtain ⟨m1, m2, m3, m4, m5, m6⟩ := MB.has hD' ho' hn' hfl' hf' hlt hP hbb hx hb2' hnb2; have HMH := zHi (zAi m2 (zAi m3 (zAi m4 (zAi m5 m6)))); have q3 : wr.cell? ⟨F, 3, none⟩ = some (.int .u32 (bb : Int)) := by rw [hbb]; exact hD'.b
                have s3 := hD'.fr 3; have s4 := hD'.fr 4; have z3 : (bb : Int) / (P : Int) = (b2' : Int) := by rw [hb2']; rfl
                have z4 : (nv : Int) - (5 : Nat) = (nb2 : Int) := by omega
                have z5 : (bb : Int) ≤ 16777216 := by omega
                obtain rfl : P = 32 := hP; have z2 : bits .and .u32 (bb : Int) 31 = (x : Int) := by
                 rw [show (31 : Int) = ((32 : Nat) : Int) - 1 from rfl, mask_bits bb 5 32 rfl (by omega) (by omega), hx]
                have z8 : (x : Int) ≤ 31 := by omega
                obtain ⟨y8, hy8⟩ : ∃ y8, y8 = x * 8 := ⟨_, rfl⟩; have z9 : (x : Int) * 8 = (y8 : Int) := by omega
                have z10 : (y8 : Int) ≤ 248 := by omega
                have z3' : (bb : Int) / 32 = (b2' : Int) := z3; have z4' : (nv : Int) - 5 = (nb2 : Int) := z4; have hr8 := fun w => reverse8_any w y8 (by omega)
                rw [show revB 8 y8 = revB 5 x by rw [hy8]; exact rev5 x (by omega)] at hr8
                have z11 : (revB 5 x : Int) ≤ 31 := by have := revB_lt 5 x; omega
                have HR8 := zHi hr8; clear hbb hx hb2' hnb2 hnv hn' hD' ho' hfl' hf' hlt m1 m2 m3 m4 m5 m6 hr8 hy8 z3 z4; go_wp2_with fail
                refine (HR8.out _).mono ?_; rintro e wm ⟨rfl, rfl⟩; go_wp2_with fail
                go_meet
                case rel =>
                 obtain ⟨m2, m3, m4, m5, m6⟩ := HMH.out; rw [show (d1.put r3).src = d.src from HSRC.out] at m2
                 exact ⟨revB 5 x, _, by unfold distSym; simp only; rw [m2], rfl, HI3.out.bits m3 m4 m5 m6⟩
              · have e4 : decide ((nv : Int) < 5) = true := by simp; omega
                by_cases hp : r'.pos < (d1.put r3).src.length
                · have hmb := MB.call_more hD' ho' hfl' hf' hlt (by omega) hp
                  have HMB := zHi hmb; clear hmb hfl' hf' hD' hn' hnv hlt ho'; go_wp2_with fail
                  refine HMB.out.mono ?_; rintro e wm ⟨rfl, HM⟩; go_wp2_with fail
                  go_roundw
                  case rel => first | exact HM.out.1 | ((repeat apply Exists.intro); exact ⟨HM.out.1, rfl⟩)
                  case measure => exact HM.out.2
                · have hmb := MB.call_end HI3.out.st.env HI3.out.st.cR HI3.out.st.cF hD' ho' hfl' hf' hlt hp; have HMB := zHi hmb; clear hmb hf' hfl' hD' hn' hp hnv hlt ho'; go_wp2_with fail
                  refine HMB.out.mono ?_; rintro e wm ⟨rfl, hDm, HGC⟩; have p48 := hDm.err; have t48 := hDm.fr 1048; have HDm := zHi hDm; clear hDm q48 s48 q4; go_wp2_with fail
                  rw [jumpsTo_ret]
                  go_end0
                  obtain ⟨hgc, hfm⟩ := HGC.out; rw [show (d1.put r3).src = d.src from HSRC.out] at hgc
                  have hbad := huffStep_pair (last := last) (H := H1) HSYM.out HV.out HV2.out (pair_ds (D := none) HLO.out HGX.out (by unfold distSym; simp only; rw [hgc]))
                  exact HI3.out.stop (r' := r') (e := .cut) (by rfl) (HDm.out.set_err (errAt p.U)) ((hfm.mono fun b o e => SBX e).setCell (.inl (.inr (.inr ⟨rfl, by simp⟩))) _) hw1 rfl (by show Flate.Reach d1.src _ _; rw [HSRC.out]; exact (HRE.out.trans (Flate.Reach.one _ _)).trans (by rw [hbad]; exact .refl _)) hmp
           · skip
             obtain ⟨B2, o2, t1, t2, t3, t4, t5, t6, t7, t8⟩ := HI3.out.tabs.2; have c51 := HI3.out.st.dec.hd; rw [t1] at c51; have q48 := HI3.out.st.dec.err; have hcall := huffSym_any w3 F B2 o2 p C (LinkB F (d1.put r3)) (d1.put r3) r3 Dt HI3.out.st.env HI3.out.st.cR HI3.out.st.cF HI3.out.st.dec HI3.out.ok (by have := HI3.out.nb; omega) t2 t3 (fun b hb => ⟨hb.1, hb.2.1⟩) t4 t8
             have hgood := symbol_good t3 HI3.out.ok HI3.out.nb; rw [show (d1.put r3).src = d.src from HSRC.out] at hcall hgood
             have HCALL := zHi hcall; have HGOOD := zHi hgood; clear hcall hgood t1 t2 t3 t4 t5 t6 t7 t8; go_wp2_with fail
             refine HCALL.out.mono ?_; intro e w4 hP; have hgood := HGOOD.out
             cases hsym : symbol d.src Dt r3 with
             | bad er r4 =>
              rw [hsym] at hP; have hdb : distSym d.src (some Dt) r3 = .bad er r4 := hsym; have hbad := huffStep_pair (last := last) (H := H1) HSYM.out HV.out HV2.out (pair_ds HLO.out HGX.out hdb); have HBAD := zHi hbad; clear hgood hdb hbad; rcases sym_bad 20 hsym with rfl | rfl
              · obtain ⟨rfl, hD2, hf2⟩ := hP; have d48 := hD2.err; have g48 := hD2.fr 1048; have HD2 := zHi hD2; have HF2 := zHi hf2; clear hsym hD2 hf2 q48; go_wp2_with fail
                rw [jumpsTo_ret]
                go_end0
                exact HI3.out.stop (r' := r4) (e := .cut) (by rfl) (HD2.out.set_err (errAt p.U)) ((HF2.out.mono fun b o e => SBX e).setCell (.inl (.inr (.inr ⟨rfl, by simp⟩))) _) hw1 rfl (by show Flate.Reach d1.src _ _; rw [HSRC.out]; exact (HRE.out.trans (Flate.Reach.one _ _)).trans (by rw [HBAD.out]; exact .refl _)) hmp
              · obtain ⟨rfl, hD2, hf2⟩ := hP; have d48 := hD2.err; have g48 := hD2.fr 1048; have HD2 := zHi hD2; have HF2 := zHi hf2; clear hsym hD2 hf2 q48; go_wp2_with fail
                rw [jumpsTo_ret]
                go_end0
                exact HI3.out.stop (r' := r4) (e := .corrupt) (by rfl) (HD2.out.set_err (corruptAt r4.pos)) ((HF2.out.mono fun b o e => e.elim SBX (fun e => .inr (.inr ⟨e.1, by omega⟩))).setCell (.inl (.inr (.inr ⟨rfl, by simp⟩))) _) hw1 ⟨r4.pos, rfl⟩ (by show Flate.Reach d1.src _ _; rw [HSRC.out]; exact (HRE.out.trans (Flate.Reach.one _ _)).trans (by rw [HBAD.out]; exact .refl _)) hmp
             | ok ds r4 =>
              rw [hsym] at hP hgood; obtain ⟨rfl, hD2, hf2⟩ := hP; obtain ⟨g5, g6, g7, g8⟩ := hgood; have hI4 := HI3.out.bits hD2 hf2 (by rw [show (d1.put r3).src = d.src from HSRC.out]; exact g6) g8
              have HI4 := zHi hI4; have HDS := zHi (show distSym d.src (some Dt) r3 = .ok ds r4 from hsym)
              clear hD2 hf2 hI4 g5 g6 g7 g8 hsym q48; go_wp2_with fail
              go_meet
              case rel => exact ⟨ds, r4, HDS.out, rfl, HI4.out⟩
          obtain ⟨ds, r4, hds, rfl, hI4⟩ := hcut
          generalize wc = w4 at hI4 ⊢
          have hgl := getBits_good (src := d.src) (n := lx) (r := r2) HG2.out HG4.out; rw [HGX.out] at hgl; obtain ⟨lx1, lx2, lx3, lx4⟩ := hgl; have hgd := distSym_good (src := d.src) (D := D) HI3.out.tabs.ok.2 (r := r3) lx2 lx4; rw [hds] at hgd; obtain ⟨ld1, ld2, ld3, ld4⟩ := hgd; have hat4 : r1.at_ + 1 ≤ r4.at_ := by have := HG1.out; omega
          have b7 : (ds : Int) < 268435456 := by omega
          have HDS := zHi hds; have HI4 := zHi hI4; have HLD2 := zHi ld2; have HLD4 := zHi ld4; clear hds hI4 lx1 lx2 lx3 lx4 ld1 ld2 ld3 ld4; refine hK4 _ _ ?_
          as_aux_lemma =>
          refine wp_seq_k ?_; intro K5 hK5; go_cut [6] (fun s wq => ∃ (db dx y : Nat) (r5 : Br), distOf ds = some (db, dx) ∧ getBits d.src dx r4 = .ok y r5 ∧ s = .int .i64 ((db + y : Nat) : Int) ∧ HI w F C p d k last T D wq (d1.put r5) H1 r5)
          case first => as_aux_lemma =>
           by_cases a4 : ds < 4
           · have e5 : (ds : Int) < 4 := by omega
             have hdo : distOf ds = some (ds + 1, 0) := by unfold distOf; rw [if_pos a4]
             have HDO := zHi hdo; clear hdo a4; go_wp2_with fail
             go_meet
             case rel => exact ⟨ds + 1, 0, 0, r4, HDO.out, getBits_zero _ _, congrArg (Value.int .i64) (by omega), HI4.out⟩
           · by_cases a30 : ds < 30
             · have k4 : decide ((ds : Int) < 4) = false := by simp; omega
               have k30 : (ds : Int) < 30 := by omega
               obtain ⟨q, hq⟩ : ∃ q, q = (ds - 2) / 2 := ⟨_, rfl⟩; have hq1 : 1 ≤ q ∧ q ≤ 13 := by omega
               obtain ⟨hq2, hq3⟩ := hq1; obtain ⟨P, hP⟩ : ∃ P : Nat, P = 2 ^ q := ⟨_, rfl⟩; have hPl : P ≤ 8192 := by
                have : 2 ^ q ≤ 2 ^ 13 := Nat.pow_le_pow_right (by omega) (by omega)
                omega
               have hP1 : 1 ≤ P := by rw [hP]; exact Nat.one_le_two_pow
               obtain ⟨q1, hq1⟩ : ∃ q1, q1 = q + 1 := ⟨_, rfl⟩; obtain ⟨P2, hP2⟩ : ∃ P2 : Nat, P2 = 2 * P := ⟨_, rfl⟩; have z0 : ((ds : Int) - 2) / 2 = (q : Int) := by omega
               have z1 : (2 : Int) ^ q = (P : Int) := by rw [hP]; simp
               have z2 : (2 : Int) ^ q1 = (P2 : Int) := by rw [hq1, hP2, hP, Int.pow_succ]; push_cast; omega
               have z3 : (q : Int) + 1 = (q1 : Int) := by omega
               obtain ⟨o, ho⟩ : ∃ o, o = ds % 2 := ⟨_, rfl⟩; have z4 : bits .and .i64 (ds : Int) 1 = (o : Int) := by
                rw [show (1 : Int) = ((1 : Nat) : Int) from rfl, i64_and_nat _ _ (by omega) (by omega), ho]
                congr 1
                exact Nat.and_one_is_mod ds
               obtain ⟨X, hX⟩ : ∃ X, X = o * P := ⟨_, rfl⟩; have z5 : (o : Int) * (P : Int) = (X : Int) := by rw [hX]; push_cast; rfl
               have z6 : (P : Int) ≤ 8192 := by omega
               have z7 : (1 : Int) ≤ (P : Int) := by omega
               have z8 : (X : Int) ≤ 8192 := by
                have : o * P ≤ 1 * P := Nat.mul_le_mul_right _ (by omega)
                omega
               have z9 : (q1 : Int) ≤ 14 := by omega
               have z10 : (P2 : Int) ≤ 16384 := by omega
               have hdo : distOf ds = some (2 * P + 1 + X, q) := by unfold distOf; rw [if_neg a4, if_pos a30, ← hq, Nat.pow_succ, Nat.mul_comm, ← hP, ← ho, ← hX]
               have HDO := zHi hdo; have b8 : (q : Int) ≤ 13 := by omega
               have b9 : (2 : Int) ≤ (ds : Int) := by omega
               have HP := zHi hP; have HP2 := zHi hP2; have HX := zHi hX; have b10 : (1 : Int) ≤ (q : Int) := by omega
               have q48 := HI4.out.st.dec.err; clear hq hP hq1 hP2 ho hX hdo a4 a30; go_wp2_with fail
               go_loopw [3] (fun ev wr => MB w4 F (d1.put r4) r4 q wr) (fun _ wr => leftN (d1.put r4).src.length (d1.put r4).R wr)
               case atStart => exact ⟨r4, HI4.out.st.dec, HI4.out.ok, HI4.out.nb, rfl, Frm.refl _ _⟩
               case round => as_aux_lemma =>
                obtain ⟨r', hD', ho', hn', hfl', hf'⟩ := hrel; obtain ⟨nv, hnv⟩ : ∃ nv, nv = r'.nb := ⟨_, rfl⟩; have q4 : wr.cell? ⟨F, 4, none⟩ = some (.int .u64 (nv : Int)) := by rw [hnv]; exact hD'.nb
                have q48 := hD'.err; have s48 := hD'.fr 1048; have b6 : (nv : Int) ≤ 22 := by omega
                have HNV := zHi hnv
                by_cases hlt : q ≤ r'.nb
                · have e4 : ¬ nv < q := by omega
                  obtain ⟨bb, hbb⟩ : ∃ bb, bb = r'.b (d1.put r4).src := ⟨_, rfl⟩; obtain ⟨P, hP⟩ : ∃ P : Nat, P = 2 ^ q := ⟨_, rfl⟩; obtain ⟨x, hx⟩ : ∃ x, x = bb % P := ⟨_, rfl⟩; obtain ⟨b2', hb2'⟩ : ∃ b2, b2 = bb / P := ⟨_, rfl⟩; obtain ⟨nb2, hnb2⟩ : ∃ n, n = r'.nb - q := ⟨_, rfl⟩; obtain ⟨m1, m2, m3, m4, m5, m6⟩ := MB.has hD' ho' hn' hfl' hf' hlt hP hbb hx hb2' hnb2; have HMH := zHi (zAi m2 (zAi m3 (zAi m4 (zAi m5 m6)))); have q3 : wr.cell? ⟨F, 3, none⟩ = some (.int .u32 (bb : Int)) := by rw [hbb]; exact hD'.b
                  have s3 := hD'.fr 3; have s4 := hD'.fr 4; have z3 : (bb : Int) / (P : Int) = (b2' : Int) := by rw [hb2']; rfl
                  have z4 : (nv : Int) - (q : Nat) = (nb2 : Int) := by omega
                  have z5 : (bb : Int) ≤ 16777216 := by omega
                  have hPP := HP.out; rw [← hPP] at hP; subst hP; have y1 : bits .and .u32 (bb : Int) ((P : Int) - 1) = (x : Int) := by rw [mask_bits bb q P hPP (by omega) (by omega), hx]
                  have y2 : (x : Int) < (P : Int) := by have := Nat.mod_lt bb (show 0 < P by omega); omega
                  have y3 : bits .or .i64 (X : Int) (x : Int) = ((X + x : Nat) : Int) := by
                   have hxl := Nat.mod_lt bb (show 0 < P by omega)
                   rw [i64_or_nat _ _ (by omega) (by omega), HX.out, HP.out, Nat.mul_comm o, ← Nat.two_pow_add_eq_or_of_lt (by rw [← hPP]; omega)]
                  clear hbb hPP hx hb2' hnb2 hnv hn' hD' ho' hfl' hf' hlt m1 m2 m3 m4 m5 m6; go_wp2_with fail
                  go_meet
                  case rel =>
                   obtain ⟨m2, m3, m4, m5, m6⟩ := HMH.out; rw [show (d1.put r4).src = d.src from HSRC.out] at m2
                   exact ⟨_, _, x, _, HDO.out, m2, congrArg (Value.int .i64) (by have := HP2.out; omega), HI4.out.bits m3 m4 m5 m6⟩
                · have e4 : nv < q := by omega
                  by_cases hp : r'.pos < (d1.put r4).src.length
                  · have hmb := MB.call_more hD' ho' hfl' hf' hlt (by omega) hp
                    have HMB := zHi hmb; clear hmb hfl' hf' hD' hn' hnv hlt ho'; go_wp2_with fail
                    refine HMB.out.mono ?_; rintro e wm ⟨rfl, HM⟩; go_wp2_with fail
                    go_roundw
                    case rel => first | exact HM.out.1 | ((repeat apply Exists.intro); exact ⟨HM.out.1, rfl⟩)
                    case measure => exact HM.out.2
                  · have hmb := MB.call_end HI4.out.st.env HI4.out.st.cR HI4.out.st.cF hD' ho' hfl' hf' hlt hp; have HMB := zHi hmb; clear hmb hf' hfl' hD' hn' hp hnv hlt ho'; go_wp2_with fail
                    refine HMB.out.mono ?_; rintro e wm ⟨rfl, hDm, HGC⟩; have p48 := hDm.err; have t48 := hDm.fr 1048; have HDm := zHi hDm; clear hDm q48 s48 q4; go_wp2_with fail
                    rw [jumpsTo_ret]
                    go_end0
                    obtain ⟨hgc, hfm⟩ := HGC.out; rw [show (d1.put r4).src = d.src from HSRC.out] at hgc
                    have hbad := huffStep_pair (last := last) (H := H1) HSYM.out HV.out HV2.out (pair_dx HLO.out HGX.out HDS.out HDO.out hgc); exact HI4.out.stop (r' := r') (e := .cut) (by rfl) (HDm.out.set_err (errAt p.U)) ((hfm.mono fun b o e => SBX e).setCell (.inl (.inr (.inr ⟨rfl, by simp⟩))) _) hw1 rfl (by show Flate.Reach d1.src _ _; rw [HSRC.out]; exact (HRE.out.trans (Flate.Reach.one _ _)).trans (by rw [hbad]; exact .refl _)) hmp
             · have k4 : decide ((ds : Int) < 4) = false := by simp; omega
               have k30 : decide ((ds : Int) < 30) = false := by simp; omega
               have hdo : distOf ds = none := by unfold distOf; rw [if_neg a4, if_neg a30]
               have HDO := zHi hdo; have m2 : w4.cell? ⟨F, 2, none⟩ = some (.int .i64 (r4.pos : Int)) := HI4.out.st.dec.roff; have m48 := HI4.out.st.dec.err; have n48 := HI4.out.st.dec.fr 1048; clear a4 a30 hdo; go_wp2_with fail
               rw [jumpsTo_ret]
               go_end0
               have hbad := huffStep_pair (last := last) (H := H1) HSYM.out HV.out HV2.out (pair_dn HLO.out HGX.out HDS.out HDO.out); exact HI4.out.stop (r' := r4) (e := .corrupt) (by rfl) (HI4.out.st.dec.set_err (corruptAt r4.pos)) ((Frm.refl _ _).setCell (.inl (.inr (.inr ⟨rfl, by simp⟩))) _) hw1 ⟨r4.pos, rfl⟩ (by show Flate.Reach d1.src _ _; rw [HSRC.out]; exact (HRE.out.trans (Flate.Reach.one _ _)).trans (by rw [hbad]; exact .refl _)) hmp
          obtain ⟨db, dx, y, r5, hdo, hgy, rfl, hI5⟩ := hcut
          generalize wc = w5 at hI5 ⊢
          have hpa := pair_all HLO.out HGX.out HDS.out hdo hgy; have hpg := pair_good (src := d.src) (D := D) HI4.out.tabs.ok.2 (v := v) (r := r2) hv3 HG2.out HG4.out; rw [hpa] at hpg; obtain ⟨⟨pg1, pg2, pg3, pg4⟩, pg5, pg6, pg7⟩ := hpg; simp only at pg1 pg2 pg3 pg4; obtain ⟨n, hn⟩ : ∃ n, n = lb + x := ⟨_, rfl⟩; obtain ⟨ff, hff⟩ : ∃ ff, ff = db + y := ⟨_, rfl⟩; rw [← hn, ← hff] at hpa; rw [← hn] at pg1 pg2; rw [← hff] at pg3 pg4; have hat5 : r1.at_ + 1 ≤ r5.at_ := by have := HG1.out; omega
          have HPA := zHi hpa; have HI5 := zHi hI5; clear hdo hgy hpa hI5 pg5 pg6 pg7; refine hK5 _ _ ?_; rw [← hn, ← hff]; clear hn hff; have b8 : (n : Int) ≤ 258 := by omega
          have b9 : (ff : Int) ≤ 32768 := by omega
          as_aux_lemma =>
          obtain ⟨hz, hhz⟩ : ∃ hz : Nat, hz = if d1.full then 32768 else d1.wr := ⟨_, rfl⟩
          have hlen : hz < ff ↔ H1.length < ff := by
           have e1 := HI5.out.st.ful; have e2 := HI5.out.st.nful; rw [hhz]
           cases hfl : d1.full with
           | true => have := e1 hfl; simp only [if_true]; omega
           | false => have := e2 hfl; simp only [Bool.false_eq_true, if_false]; rw [this]; exact Iff.rfl
          have hhs := histSize_any w5 F _ HI5.out.st.dec; rw [show (if (d1.put r5).full then (32768 : Int) else ((d1.put r5).wr : Int)) = (hz : Int) by rw [hhz]; show (if d1.full then (32768 : Int) else (d1.wr : Int)) = _; split <;> rfl] at hhs
          have HHS := zHi hhs; have HLEN := zHi hlen; have b10 : (hz : Int) ≤ 32768 := by rw [hhz]; split <;> omega
          clear hhs hlen hhz; go_wp2_with fail
          refine HHS.out.mono ?_; rintro e wm ⟨rfl, rfl⟩
          by_cases hfar : hz < ff
          · have m2 : w5.cell? ⟨F, 2, none⟩ = some (.int .i64 (r5.pos : Int)) := HI5.out.st.dec.roff; have m48 := HI5.out.st.dec.err; have n48 := HI5.out.st.dec.fr 1048; have HFAR := zHi (HLEN.out.1 hfar); go_wp2_with fail
            rw [jumpsTo_ret]
            go_end0
            have hbad := huffStep_far (last := last) HSYM.out HV.out HV2.out HPA.out HFAR.out; exact HI5.out.stop (r' := r5) (e := .corrupt) (by rfl) (HI5.out.st.dec.set_err (corruptAt r5.pos)) ((Frm.refl _ _).setCell (.inl (.inr (.inr ⟨rfl, by simp⟩))) _) hw1 ⟨r5.pos, rfl⟩ (by show Flate.Reach d1.src _ _; rw [HSRC.out]; exact (HRE.out.trans (Flate.Reach.one _ _)).trans (by rw [hbad]; exact .refl _)) hmp
          · have hnear : ¬ H1.length < ff := fun e => hfar (HLEN.out.2 e)
            have HNEAR := zHi hnear; have m52 := HI5.out.st.dec.cl; have m53 := HI5.out.st.dec.cd; have n52 := HI5.out.st.dec.fr 1052; have n53 := HI5.out.st.dec.fr 1053; clear hnear; go_wp2_with fail
            go_step3
            have hI6 := HI5.out.left (y := (n : Int)) (z := (ff : Int)) rfl ((HI5.out.st.dec.set_cl (n : Int)).set_cd (ff : Int)) (((Frm.refl _ _).setCell (.inl (.inr (.inr ⟨rfl, by simp⟩))) _).setCell (.inl (.inr (.inr ⟨rfl, by simp⟩))) _)
            have hst := huffStep_near (last := last) HSYM.out HV.out HV2.out HPA.out HNEAR.out; exact hI6.goto1 (n := n) (D' := ff) hw1 hat (by omega) rfl rfl pg2 pg3 (by have := HNEAR.out; omega) pg4 (HS01.out.imp id fun h => h.1) ((HRE.out.trans (Flate.Reach.one _ _)).trans (by rw [hst]; exact .refl _)) _ rfl rfl rfl
   · refine ⟨_, rfl, ?_⟩
     as_aux_lemma =>
     have HSS1 := zHi hss1; clear hss1; have hI : HI w F C p d k last T D w1 d1 H1 r1 := ⟨HH1.out, he1, hf1, by rw [HS1.out.src]; exact HR1.out, hnb1, HD1.out, HT1.out, HS1.out, HF1.out⟩
     have HI1 := zHi hI; have HRE := zHi hre; have c52 := hI.st.dec.cl; have c53 := hI.st.dec.cd; rw [c1] at c52; rw [c2] at c53; have b1 : (n : Int) ≤ 258 := by omega
     have hT : Calls Tryz.prog 94 #[.pointer (some ⟨F, 1037, none⟩), .int .i64 (D' : Int), .int .i64 (n : Int)] w1.drew (fun e w' => ∃ (K : Nat) (g : Nat → UInt8), e = .returned (.int .i64 (K : Int)) ∧
      Hid ((K = 0 ∨ K = n) ∧ Dec w' F { d1 with g := g, wr := d1.wr + K } ∧ WinB g (d1.wr + K) (lz H1 D' K) ∧ Frm (SW F d1.HB) w1 w')) :=
      (tryWriteCopy_any w1.drew F d1 H1 D' n hI.st.dec.drew hI.st.win c5 c6 c7 c4).mono fun e w' ⟨K, g, h1, h2, h3, h4, h5⟩ => ⟨K, g, h2, zHi ⟨h1, h3, h4, (Frm.refl _ _).drew.trans h5⟩⟩
     have HTC := zHi hT; have HC1 := zHi c1; have HC2 := zHi c2; clear hre hI c1 c2 hT; go_upto_region 75 with (fail)
     (refine region_tail 11 (by kernel_rfl) (by kernel_rfl) ?_; simp only [List.take_succ_cons, List.take_zero, List.drop_succ_cons, List.drop_zero]; (repeat still_step); refine wpStill_nil ?_)
     go_wp2_with fail
     refine HTC.out.mono ?_; rintro e w2 ⟨K, g, rfl, HP⟩; clear HTC; obtain ⟨hK, hD3, hB3, hf2⟩ := HP.out; have hx2 : Frm (SX F d1) w1 w2 := hf2.mono fun b o e => e.elim (fun e => .inr (.inr ⟨e.1, by omega⟩)) (fun e => .inr (.inl e))
     by_cases h0 : K = 0
     · have e1 : ((K : Int) == 0) = true := by simp; omega
       have hB0 : WinB g d1.wr H1 := by rw [h0, lz_zero] at hB3; exact hB3
       have hD0 : Dec w2 F { d1 with g := g } := by rw [h0] at hD3; exact hD3
       have hne := HI1.out.st.dec.neHF; have q52 : w2.cell? ⟨F, 1052, none⟩ = some (.int .i64 (n : Int)) := hf2.keep c52 (fun e => e.elim (fun e => by omega) (fun e => hne e.symm))
       have q53 : w2.cell? ⟨F, 1053, none⟩ = some (.int .i64 (D' : Int)) := hf2.keep c53 (fun e => e.elim (fun e => by omega) (fun e => hne e.symm))
       have hT2 : Calls Tryz.prog 95 #[.pointer (some ⟨F, 1037, none⟩), .int .i64 (D' : Int), .int .i64 (n : Int)] w2.drew (fun e w' => ∃ (K : Nat) (g' : Nat → UInt8), e = .returned (.int .i64 (K : Int)) ∧
        Hid ((K ≤ n ∧ (K = n ∨ d1.wr + K = 32768)) ∧ Dec w' F { d1 with g := g', wr := d1.wr + K } ∧ WinB g' (d1.wr + K) (lz H1 D' K) ∧ Frm (SW F d1.HB) w2 w')) :=
        (writeCopy_any w2.drew F { d1 with g := g } H1 D' n hD0.drew hB0 hw1 c5 c6 c7 c4).mono fun e w' ⟨K, g, h1, h2, h3, h4, h5⟩ => ⟨K, g, h2, zHi ⟨h1, h3, h4, (Frm.refl _ _).drew.trans h5⟩⟩
       have HT2 := zHi hT2; clear hK hD3 hB3 hf2 hB0 hD0 hT2 c52 c53 h0; go_upto_region 77 with (fail)
       (refine region_tail 11 (by kernel_rfl) (by kernel_rfl) ?_; simp only [List.take_succ_cons, List.take_zero, List.drop_succ_cons, List.drop_zero]; (repeat still_step); refine wpStill_nil ?_)
       go_wp2_with fail
       refine HT2.out.mono ?_; rintro e w3 ⟨K2, g2, rfl, HP2⟩; clear q52 q53; obtain ⟨⟨hc1, hc2⟩, hD3, hB3, hf3⟩ := HP2.out; have hx3 : Frm (SX F d1) w1 w3 := hx2.trans (hf3.mono fun b o e => e.elim (fun e => .inr (.inr ⟨e.1, by omega⟩)) (fun e => .inr (.inl e)))
       clear hf3; have hl : (lzBytes H1 D' K2).length = K2 := by simp [lzBytes]
       have hI2 : HI w F C p d k last T D w3 { d1 with g := g2, wr := d1.wr + K2 } (lz H1 D' K2) r1 := HI1.out.write (V := lzBytes H1 D' K2) (g := g2) (n := d1.wr + K2) rfl (by rw [hl]) hD3 hx3 hB3
       have q52 := hD3.cl; simp only at q52; rw [HC1.out] at q52; have s52 := hD3.fr 1052; obtain ⟨w4, hw4⟩ : ∃ w4, w4 = w3.setCell ⟨F, 1052, none⟩ (.int .i64 ((n : Int) - (K2 : Int))) := ⟨_, rfl⟩; obtain ⟨d4, hd4⟩ : ∃ d4 : DS, d4 = { d1 with g := g2, wr := d1.wr + K2, cl := (n : Int) - (K2 : Int) } := ⟨_, rfl⟩; have hI4 : HI w F C p d k last T D w4 d4 (lz H1 D' K2) r1 := by
        refine hI2.left (y := (n : Int) - (K2 : Int)) (z := d1.cd) hd4 ?_ ?_
        · rw [hd4, hw4]; exact hD3.set_cl ((n : Int) - (K2 : Int))
        · rw [hw4]; exact (Frm.refl _ _).setCell (.inl (.inr (.inr ⟨rfl, by simp⟩))) _
       have hw5 : d4.wr ≤ 32768 := by rw [hd4]; have := hB3.le; exact this
       have hrd : d4.rd ≤ d4.wr := hI4.st.rd; have hrd2 := hI4.st.rd2; have hw6 : d4.wr = d1.wr + K2 := by rw [hd4]
       have hcl4 : d4.cl = (n : Int) - (K2 : Int) := by rw [hd4]
       have hcd4 : d4.cd = (D' : Int) := by rw [hd4]; exact HC2.out
       have HSS4 := zHi (show d4.ss = d1.ss by rw [hd4])
       have hlen : D' ≤ (lz H1 D' K2).length := by rw [lz_length]; omega
       have hzz : lz (lz H1 D' K2) D' (n - K2) = lz H1 D' n := by rw [lz_add H1 D' K2 (n - K2) c5 c6]; congr 1; omega
       have p52 := hI4.st.dec.cl; rw [hcl4] at p52; have HI4 := zHi hI4; have HW4 := zHi hw4; have HCL4 := zHi hcl4; have HCD4 := zHi hcd4; have HZZ := zHi hzz; have HC12 := zHi (zAi hc1 hc2); have HW6 := zHi hw6; have b6 : (K2 : Int) ≤ (n : Int) := by omega
       clear hl hI2 hI4 hw4 hd4 hcl4 hcd4 hzz hc1 hc2 hD3 hB3 hx3 hw6
       by_cases hfu : d4.wr = 32768
       · have e2 : ((32768 : Int) - (d4.wr : Int) == 0) = true := by simp; omega
         have HFU := zHi hfu; clear hfu; go_wp2_with fail
         rw [← HW4.out]; refine (availWrite_any w4 F d4 HI4.out.st.dec hw5).mono ?_; rintro e w5 ⟨rfl, m5, rfl⟩; go_wp2_with fail
         refine (readFlush_any _ F d4 (HI4.out.st.dec.drewN m5) hw5 hrd hrd2).mono ?_; rintro e w6 ⟨rfl, hD6, hf6⟩; rw [show (if d4.wr = 32768 then { d4 with wr := 0, rd := 0, full := true } else { d4 with rd := d4.wr } : DS) = d4.flushed from rfl] at hD6
         have r49 := hD6.toRead; have r45 := hD6.step; have r46 := hD6.ss; have s49 := hD6.fr 1049; have s45 := hD6.fr 1045; have s46 := hD6.fr 1046; have HD6 := zHi hD6; have HF6 := zHi hf6; clear hD6 hf6 p52 q52 s52; go_wp2_with fail
         rw [jumpsTo_ret]
         go_end0
         refine HI4.out.flush (s := 1) (((HD6.out.set_toRead _).set_step _).set_ss 1) rfl ?_ (by have := HFU.out; omega) (.inr ⟨rfl, n - K2, D', by rw [HCL4.out]; omega, HCD4.out, by omega, c5, hlen, c7, rfl⟩) (by rw [HZZ.out]; exact HRE.out)
         exact ((((Frm.refl _ _).drewN m5).trans (HF6.out.mono fun b o e => .inr (.inr ⟨e.1, by omega⟩))).setCell (.inl (.inr (.inr ⟨rfl, by simp⟩))) _).setCell (.inl (.inr (.inr ⟨rfl, by simp⟩))) _ |>.setCell (.inl (.inr (.inr ⟨rfl, by simp⟩))) _
       · have e2 : ((32768 : Int) - (d4.wr : Int) == 0) = false := by simp; omega
         have e3 : ¬ (0 : Int) < (n : Int) - (K2 : Int) := by have := HC12.out; have := HW6.out; omega
         go_wp2_with fail
         rw [← HW4.out]; refine (availWrite_any w4 F d4 HI4.out.st.dec hw5).mono ?_; rintro e w5 ⟨rfl, m5, rfl⟩; go_wp2_with fail
         go_step3
         have hcn : K2 = n := by have := HC12.out; have := HW6.out; omega
         have hI5 : HI w F C p d k last T D (w4.drewN m5) d4 (lz H1 D' K2) r1 := HI4.out.drewN m5; exact hI5.goto0 (by omega) hat (.inr ⟨rfl, by omega⟩) (by rcases HSS1.out with q | q; exact .inl (HSS4.out.trans q); exact .inr ⟨HSS4.out.trans q, by rw [HCL4.out, hcn]; simp, D', HCD4.out, c5, hlen, c7⟩) (by rw [hcn]; exact HRE.out) _ rfl rfl rfl
     · have e1 : ((K : Int) == 0) = false := by simp; omega
       have hc1 : K ≤ n := by omega
       have hc2 : K = n ∨ d1.wr + K = 32768 := by omega
       have hx3 := hx2; clear hK hf2 hx2 c52 c53 h0; have hl : (lzBytes H1 D' K).length = K := by simp [lzBytes]
       have hI2 : HI w F C p d k last T D w2 { d1 with g := g, wr := d1.wr + K } (lz H1 D' K) r1 := HI1.out.write (V := lzBytes H1 D' K) (g := g) (n := d1.wr + K) rfl (by rw [hl]) hD3 hx3 hB3
       have q52 := hD3.cl; simp only at q52; rw [HC1.out] at q52; have s52 := hD3.fr 1052; obtain ⟨w4, hw4⟩ : ∃ w4, w4 = w2.setCell ⟨F, 1052, none⟩ (.int .i64 ((n : Int) - (K : Int))) := ⟨_, rfl⟩; obtain ⟨d4, hd4⟩ : ∃ d4 : DS, d4 = { d1 with g := g, wr := d1.wr + K, cl := (n : Int) - (K : Int) } := ⟨_, rfl⟩; have hI4 : HI w F C p d k last T D w4 d4 (lz H1 D' K) r1 := by
        refine hI2.left (y := (n : Int) - (K : Int)) (z := d1.cd) hd4 ?_ ?_
        · rw [hd4, hw4]; exact hD3.set_cl ((n : Int) - (K : Int))
        · rw [hw4]; exact (Frm.refl _ _).setCell (.inl (.inr (.inr ⟨rfl, by simp⟩))) _
       have hw5 : d4.wr ≤ 32768 := by rw [hd4]; have := hB3.le; exact this
       have hrd : d4.rd ≤ d4.wr := hI4.st.rd; have hrd2 := hI4.st.rd2; have hw6 : d4.wr = d1.wr + K := by rw [hd4]
       have hcl4 : d4.cl = (n : Int) - (K : Int) := by rw [hd4]
       have hcd4 : d4.cd = (D' : Int) := by rw [hd4]; exact HC2.out
       have HSS4 := zHi (show d4.ss = d1.ss by rw [hd4])
       have hlen : D' ≤ (lz H1 D' K).length := by rw [lz_length]; omega
       have hzz : lz (lz H1 D' K) D' (n - K) = lz H1 D' n := by rw [lz_add H1 D' K (n - K) c5 c6]; congr 1; omega
       have p52 := hI4.st.dec.cl; rw [hcl4] at p52; have HI4 := zHi hI4; have HW4 := zHi hw4; have HCL4 := zHi hcl4; have HCD4 := zHi hcd4; have HZZ := zHi hzz; have HC12 := zHi (zAi hc1 hc2); have HW6 := zHi hw6; have b6 : (K : Int) ≤ (n : Int) := by omega
       clear hl hI2 hI4 hw4 hd4 hcl4 hcd4 hzz hc1 hc2 hD3 hB3 hx3 hw6
       by_cases hfu : d4.wr = 32768
       · have e2 : ((32768 : Int) - (d4.wr : Int) == 0) = true := by simp; omega
         have HFU := zHi hfu; clear hfu; go_wp2_with fail
         rw [← HW4.out]; refine (availWrite_any w4 F d4 HI4.out.st.dec hw5).mono ?_; rintro e w5 ⟨rfl, m5, rfl⟩; go_wp2_with fail
         refine (readFlush_any _ F d4 (HI4.out.st.dec.drewN m5) hw5 hrd hrd2).mono ?_; rintro e w6 ⟨rfl, hD6, hf6⟩; rw [show (if d4.wr = 32768 then { d4 with wr := 0, rd := 0, full := true } else { d4 with rd := d4.wr } : DS) = d4.flushed from rfl] at hD6
         have r49 := hD6.toRead; have r45 := hD6.step; have r46 := hD6.ss; have s49 := hD6.fr 1049; have s45 := hD6.fr 1045; have s46 := hD6.fr 1046; have HD6 := zHi hD6; have HF6 := zHi hf6; clear hD6 hf6 p52 q52 s52; go_wp2_with fail
         rw [jumpsTo_ret]
         go_end0
         refine HI4.out.flush (s := 1) (((HD6.out.set_toRead _).set_step _).set_ss 1) rfl ?_ (by have := HFU.out; omega) (.inr ⟨rfl, n - K, D', by rw [HCL4.out]; omega, HCD4.out, by omega, c5, hlen, c7, rfl⟩) (by rw [HZZ.out]; exact HRE.out)
         exact ((((Frm.refl _ _).drewN m5).trans (HF6.out.mono fun b o e => .inr (.inr ⟨e.1, by omega⟩))).setCell (.inl (.inr (.inr ⟨rfl, by simp⟩))) _).setCell (.inl (.inr (.inr ⟨rfl, by simp⟩))) _ |>.setCell (.inl (.inr (.inr ⟨rfl, by simp⟩))) _
       · have e2 : ((32768 : Int) - (d4.wr : Int) == 0) = false := by simp; omega
         have e3 : ¬ (0 : Int) < (n : Int) - (K : Int) := by have := HC12.out; have := HW6.out; omega
         go_wp2_with fail
         rw [← HW4.out]; refine (availWrite_any w4 F d4 HI4.out.st.dec hw5).mono ?_; rintro e w5 ⟨rfl, m5, rfl⟩; go_wp2_with fail
         go_step3
         have hcn : K = n := by have := HC12.out; have := HW6.out; omega
         have hI5 : HI w F C p d k last T D (w4.drewN m5) d4 (lz H1 D' K) r1 := HI4.out.drewN m5; exact hI5.goto0 (by omega) hat (.inr ⟨rfl, by omega⟩) (by rcases HSS1.out with q | q; exact .inl (HSS4.out.trans q); exact .inr ⟨HSS4.out.trans q, by rw [HCL4.out, hcn]; simp, D', HCD4.out, c5, hlen, c7⟩) (by rw [hcn]; exact HRE.out) _ rfl rfl rfl
end Go.Proofs.YthfncdfcklbigaaGreatDoor
