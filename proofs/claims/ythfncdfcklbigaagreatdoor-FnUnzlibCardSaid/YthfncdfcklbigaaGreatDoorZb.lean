/-
  Several texts in one: Zr.
-/
import Derived.Test.YthfncdfcklbigaaGreatDoorZa
set_option linter.unusedVariables false
set_option linter.unusedSimpArgs false
namespace Go.Proofs.YthfncdfcklbigaaGreatDoor
open Go.RowKit Go.IntWalk Flate
set_option maxRecDepth 100000
abbrev rdrZ (R : Nat) : Value := .iface 48 (.pointer (some ⟨R, 0, none⟩))
structure ZR (w : World) (Z : Nat) (r dv dig err : Value) (s : Nat → UInt8) : Prop where
 r : w.cell? ⟨Z, 0, none⟩ = some r
 d : w.cell? ⟨Z, 1, none⟩ = some dv
 g : w.cell? ⟨Z, 2, none⟩ = some dig
 e : w.cell? ⟨Z, 3, none⟩ = some err
 s : ∀ j, j < 4 → w.cell? ⟨Z, 4 + j, none⟩ = some (byteV (s j))
 fr : ∀ o, w.frozen? ⟨Z, o, none⟩ = false
 n : ∀ o, 8 ≤ o → w.cell? ⟨Z, o, none⟩ = none
theorem zr_laid {w : World} {Z : Nat} {r d0 dig err : Value} {s : Nat → UInt8} (h : ZR w Z r d0 dig err s) (dv : Value) (W : World)
 (hW : W = (((((((w.setCell ⟨Z, 0, none⟩ .nilIface).setCell ⟨Z, 1, none⟩ dv).setCell ⟨Z, 2, none⟩ .nilIface).setCell ⟨Z, 3, none⟩ .nilIface).setCell ⟨Z, 4, none⟩ (.int .u8 0)).setCell ⟨Z, 5, none⟩ (.int .u8 0)).setCell ⟨Z, 6, none⟩ (.int .u8 0)).setCell ⟨Z, 7, none⟩ (.int .u8 0)) :
 ZR W Z .nilIface dv .nilIface .nilIface (fun _ => 0) ∧ Frm (fun b _ => b = Z) w W := by
 obtain ⟨z0, z1, z2, z3, zs, zf, zn⟩ := h
 have z4 : w.cell? ⟨Z, 4, none⟩ = some (byteV (s 0)) := zs 0 (by omega)
 have z5 : w.cell? ⟨Z, 5, none⟩ = some (byteV (s 1)) := zs 1 (by omega)
 have z6 : w.cell? ⟨Z, 6, none⟩ = some (byteV (s 2)) := zs 2 (by omega)
 have z7 : w.cell? ⟨Z, 7, none⟩ = some (byteV (s 3)) := zs 3 (by omega)
 have c : ∀ {w : World} {k o : Nat} {v u : Value}, o ≠ k → w.cell? ⟨Z, o, none⟩ = some u → (w.setCell ⟨Z, k, none⟩ v).cell? ⟨Z, o, none⟩ = some u := fun h1 h2 => (cell_set_off h1).trans h2
 subst hW
 refine ⟨⟨?_, ?_, ?_, ?_, fun j hj => ?_, fun o => ?_, fun o ho => ?_⟩, ((((((((Frm.refl _ w).setCell (.inl rfl) _).setCell (.inl rfl) _).setCell (.inl rfl) _).setCell (.inl rfl) _).setCell (.inl rfl) _).setCell (.inl rfl) _).setCell (.inl rfl) _).setCell (.inl rfl) _⟩
 · exact c (by decide) (c (by decide) (c (by decide) (c (by decide) (c (by decide) (c (by decide) (c (by decide) (set_get z0)))))))
 · exact c (by decide) (c (by decide) (c (by decide) (c (by decide) (c (by decide) (c (by decide) (set_get (c (by decide) z1)))))))
 · exact c (by decide) (c (by decide) (c (by decide) (c (by decide) (c (by decide) (set_get (c (by decide) (c (by decide) z2)))))))
 · exact c (by decide) (c (by decide) (c (by decide) (c (by decide) (set_get (c (by decide) (c (by decide) (c (by decide) z3)))))))
 · match j, hj with
   | 0, _ => exact c (by decide) (c (by decide) (c (by decide) (set_get (c (by decide) (c (by decide) (c (by decide) (c (by decide) z4)))))))
   | 1, _ => exact c (by decide) (c (by decide) (set_get (c (by decide) (c (by decide) (c (by decide) (c (by decide) (c (by decide) z5)))))))
   | 2, _ => exact c (by decide) (set_get (c (by decide) (c (by decide) (c (by decide) (c (by decide) (c (by decide) (c (by decide) z6)))))))
   | 3, _ => exact set_get (c (by decide) (c (by decide) (c (by decide) (c (by decide) (c (by decide) (c (by decide) (c (by decide) z7)))))))
 · rw [World.frozen?_setCell, World.frozen?_setCell, World.frozen?_setCell, World.frozen?_setCell, World.frozen?_setCell, World.frozen?_setCell, World.frozen?_setCell, World.frozen?_setCell]; exact zf o
 · exact (cell_set_off (by omega)).trans ((cell_set_off (by omega)).trans ((cell_set_off (by omega)).trans ((cell_set_off (by omega)).trans ((cell_set_off (by omega)).trans ((cell_set_off (by omega)).trans ((cell_set_off (by omega)).trans ((cell_set_off (by omega)).trans (zn o ho))))))))
section
variable {w : World} {Z : Nat} {r dv dig err : Value} {s : Nat → UInt8}
theorem ZR.keep {S : Nat → Nat → Prop} {w' : World} (h : ZR w Z r dv dig err s) (hf : Frm S w w') (hS : ∀ o, ¬ S Z o) : ZR w' Z r dv dig err s :=
 ⟨hf.keep h.r (hS _), hf.keep h.d (hS _), hf.keep h.g (hS _), hf.keep h.e (hS _), fun j hj => hf.keep (h.s j hj) (hS _), fun o => (hf.froz Z o (cell_lt h.r)).trans (h.fr o), fun o ho => (hf.cell Z o (cell_lt h.r) (hS o)).trans (h.n o ho)⟩
theorem ZR.set_r (h : ZR w Z r dv dig err s) (v : Value) : ZR (w.setCell ⟨Z, 0, none⟩ v) Z v dv dig err s :=
 ⟨set_get h.r, (cell_set_off (by decide)).trans h.d, (cell_set_off (by decide)).trans h.g, (cell_set_off (by decide)).trans h.e, fun j hj => (cell_set_off (by omega)).trans (h.s j hj), fun o => by rw [World.frozen?_setCell]; exact h.fr o, fun o ho => (cell_set_off (by omega)).trans (h.n o ho)⟩
theorem ZR.set_d (h : ZR w Z r dv dig err s) (v : Value) : ZR (w.setCell ⟨Z, 1, none⟩ v) Z r v dig err s :=
 ⟨(cell_set_off (by decide)).trans h.r, set_get h.d, (cell_set_off (by decide)).trans h.g, (cell_set_off (by decide)).trans h.e, fun j hj => (cell_set_off (by omega)).trans (h.s j hj), fun o => by rw [World.frozen?_setCell]; exact h.fr o, fun o ho => (cell_set_off (by omega)).trans (h.n o ho)⟩
theorem ZR.set_g (h : ZR w Z r dv dig err s) (v : Value) : ZR (w.setCell ⟨Z, 2, none⟩ v) Z r dv v err s :=
 ⟨(cell_set_off (by decide)).trans h.r, (cell_set_off (by decide)).trans h.d, set_get h.g, (cell_set_off (by decide)).trans h.e, fun j hj => (cell_set_off (by omega)).trans (h.s j hj), fun o => by rw [World.frozen?_setCell]; exact h.fr o, fun o ho => (cell_set_off (by omega)).trans (h.n o ho)⟩
theorem ZR.set_e (h : ZR w Z r dv dig err s) (v : Value) : ZR (w.setCell ⟨Z, 3, none⟩ v) Z r dv dig v s :=
 ⟨(cell_set_off (by decide)).trans h.r, (cell_set_off (by decide)).trans h.d, (cell_set_off (by decide)).trans h.g, set_get h.e, fun j hj => (cell_set_off (by omega)).trans (h.s j hj), fun o => by rw [World.frozen?_setCell]; exact h.fr o, fun o ho => (cell_set_off (by omega)).trans (h.n o ho)⟩
theorem ZR.read {w' : World} {R : Nat} {base : Option Addr} {src : List UInt8} {pos k n : Nat} (h : ZR w Z r dv dig err s) (hP : ReadPost w R base src pos Z 4 k w') (hRZ : R ≠ Z) (hk : k ≤ n) (hn : n ≤ 4) :
 ZR w' Z r dv dig err (fun j => if j < k then src.getD (pos + j) 0 else s j) ∧ Src w' R base src (pos + k) ∧ Frm (fun b _ => b = Z ∨ b = R) w w' := by
 obtain ⟨h1, h2, h3⟩ := hP
 have k4 : ∀ o, o < 4 → ¬ (Z = R ∨ Z = Z ∧ 4 ≤ o ∧ o < 4 + k) := fun o ho => by omega
 refine ⟨⟨h2.keep h.r (k4 _ (by omega)), h2.keep h.d (k4 _ (by omega)), h2.keep h.g (k4 _ (by omega)), h2.keep h.e (k4 _ (by omega)), fun j hj => ?_, fun o => (h2.froz Z o (cell_lt h.r)).trans (h.fr o), fun o ho => (h2.cell Z o (cell_lt h.r) (by omega)).trans (h.n o ho)⟩, h1, h2.mono fun b o e => e.elim .inr fun e => .inl e.1⟩
 by_cases hjk : j < k
 · simp only [if_pos hjk]; exact h3 j hjk
 · simp only [if_neg hjk]; exact h2.keep (h.s j hj) (by omega)
end
def hdrOk (a b : UInt8) : Bool := decide (a.toNat % 16 = 8 ∧ a.toNat / 16 ≤ 7 ∧ (a.toNat * 256 + b.toNat) % 31 = 0)
def be4At (src : List UInt8) (q : Nat) : Nat := be4 (src.getD q 0).toNat (src.getD (q + 1) 0).toNat (src.getD (q + 2) 0).toNat (src.getD (q + 3) 0).toNat
def zhead (src D : List UInt8) : (Nat × Nat) ⊕ (Nat × List UInt8) :=
 if src.length < 2 then .inl (4, src.length)
 else if hdrOk (src.getD 0 0) (src.getD 1 0) = false then .inl (1, 2)
 else if (src.getD 1 0).toNat / 32 % 2 = 1 then
  if src.length < 6 then .inl (4, src.length) else if be4At src 2 = adler D then .inr (6, D) else .inl (2, 6)
 else .inr (2, [])
def zerr (p : Ps) (f : Nat) : Value := if f = 4 then errAt p.U else if f = 1 then errAt p.H else errAt p.D
def ZRead (p : Ps) (w : World) (Z R : Nat) (base : Option Addr) (src : List UInt8) (pos n : Nat) (r dv dig : Value) (wq : World) : Prop :=
 ∃ (k : Nat) (s' : Nat → UInt8), k = Nat.min (src.length - pos) n ∧ ZR wq Z r dv dig (if k = n then .nilIface else if k = 0 then errAt p.E else errAt p.U) s' ∧ Src wq R base src (pos + k) ∧ (∀ j, j < k → s' j = src.getD (pos + j) 0) ∧ Frm (fun b _ => b = Z ∨ b = R) w wq
def ZFail (p : Ps) (w : World) (Z R : Nat) (base : Option Addr) (src dict : List UInt8) (e : Ending) (w' : World) : Prop :=
 ∃ f q, zhead src dict = .inl (f, q) ∧ e = .returned (zerr p f) ∧ Src w' R base src q ∧ Frm (fun b _ => b = Z ∨ b = R) w w'
theorem ZFail.cut {p : Ps} {w : World} {Z R : Nat} {base : Option Addr} {src dict : List UInt8} {wc w' : World} (h : zhead src dict = .inl (4, src.length)) (hs : Src wc R base src src.length) (hRZ : R ≠ Z) (hfar : ∀ a, base = some a → a.block ≠ Z) (hf : Frm (fun b _ => b = Z ∨ b = R) w wc) (hf' : Frm (fun b _ => b = Z) wc w') : ZFail p w Z R base src dict (.returned (errAt p.U)) w' :=
 ⟨4, src.length, h, rfl, hs.keep hf' (fun o e => hRZ e) (fun a ha j _ e => hfar a ha e), hf.trans (hf'.mono fun b o e => .inl e)⟩
def ZGo (w : World) (Z R : Nat) (base : Option Addr) (src dict : List UInt8) (dv : Value) (hb : Bool) (wq : World) : Prop :=
 ∃ q s, zhead src dict = .inr (q, if hb then dict else []) ∧ ZR wq Z (rdrZ R) dv .nilIface .nilIface s ∧ Src wq R base src q ∧ Frm (fun b _ => b = Z ∨ b = R) w wq
theorem and15u8 (a : Nat) (h : a < 256) : bits .and .u8 (a : Int) 15 = ((a % 16 : Nat) : Int) := by
 have : ∀ k : Fin 256, bits .and .u8 (k.1 : Int) 15 = ((k.1 % 16 : Nat) : Int) := by decide +kernel
 exact this ⟨a, h⟩
theorem and32u8 (a : Nat) (h : a < 256) : bits .and .u8 (a : Int) 32 = if a / 32 % 2 = 1 then 32 else 0 := by
 have : ∀ k : Fin 256, bits .and .u8 (k.1 : Int) 32 = if k.1 / 32 % 2 = 1 then 32 else 0 := by decide +kernel
 exact this ⟨a, h⟩
theorem ZRead.of_drew {p : Ps} {w : World} {Z R : Nat} {base : Option Addr} {src : List UInt8} {pos n : Nat} {r dv dig : Value} {wq : World} (h : ZRead p w.drew Z R base src pos n r dv dig wq) : ZRead p w Z R base src pos n r dv dig wq := by
 obtain ⟨k, s, h1, h2, h3, h4, h5⟩ := h
 exact ⟨k, s, h1, h2, h3, h4, ((Frm.refl _ _).drew).trans h5⟩
theorem readEv2 (p : Ps) (k n : Nat) : (if k = n then Value.nilIface else if k = 0 then errAt p.E else errAt p.U) = .nilIface ∨ ∃ q, (if k = n then Value.nilIface else if k = 0 then errAt p.E else errAt p.U) = errAt q := by
 split
 · exact .inl rfl
 · split
   · exact .inr ⟨_, rfl⟩
   · exact .inr ⟨_, rfl⟩
theorem readZ {w : World} {Z R C : Nat} {p : Ps} {base : Option Addr} {src : List UInt8} {pos n : Nat} {r dv dig err : Value} {s : Nat → UInt8} (hz : ZR w Z r dv dig err s) (hs : Src w R base src pos) (he : Env w C p) (hCR : C ≤ R) (hCZ : C ≤ Z) (hRZ : R ≠ Z) (hfar : ∀ a, base = some a → a.block ≠ Z) (hn1 : 1 ≤ n) (hn : n ≤ 4)
 (ev : Value) (k : Nat) (hk : k = Nat.min (src.length - pos) n) (hev : ev = if k = n then .nilIface else if k = 0 then errAt p.E else errAt p.U) :
 Calls Tryz.prog 55 #[rdrZ R, .slice (some ⟨Z, 4, none⟩) n 4] w fun e w' => e = .returned (.tuple #[.int .i64 (k : Int), ev]) ∧ w'.cell? ⟨Z, 3, none⟩ = some err ∧ w'.frozen? ⟨Z, 3, none⟩ = false ∧ ZRead p w Z R base src pos n r dv dig (w'.setCell ⟨Z, 3, none⟩ ev) := by
 refine (readFull_any w R base src pos Z 4 n 4 C p hs he hCR hCZ hn1 (by omega) hn (Ne.symm hRZ) (fun a ha => Ne.symm (hfar a ha)) (fun j hj => by rw [hz.s j (by omega)]; rfl) (fun j _ => hz.fr _)).mono ?_
 rintro e w' ⟨k', hk', rfl, hP⟩
 obtain rfl : k = k' := by rw [hk, hk']
 have hkn : k ≤ n := by rw [hk]; exact Nat.min_le_right _ _
 obtain ⟨hz', hs', hf'⟩ := hz.read hP hRZ hkn hn
 rw [← hev]
 refine ⟨rfl, hz'.e, hz'.fr 3, k, _, hk, by rw [← hev]; exact hz'.set_e _, ?_, fun j hj => if_pos hj, hf'.setCell (.inl (.inl rfl)) _⟩
 exact hs'.keep (S := fun b _ => b = Z) ((Frm.refl _ _).setCell (.inl rfl) _) (fun o e => hRZ e) (fun a ha j _ e => hfar a ha e)
abbrev decV (F : Nat) : Value := .iface 161 (.pointer (some ⟨F, 0, none⟩))
abbrev digV (A : Nat) : Value := .iface 163 (.pointer (some ⟨A, 0, none⟩))
theorem asResetterZ (a : Addr) (w : World) : (Instr.typeAssert (.iface 161 (.pointer (some a))) 51 123 false).run Tryz.prog w = .ok (.iface 161 (.pointer (some a))) w := by kernel_rfl
def isNilV : Value → Bool
 | .nilIface => true
 | _ => false
def DvOK (w : World) (Z R C : Nat) (base dbase : Option Addr) (O : Nat → Prop) (dv : Value) : Prop :=
 dv = .nilIface ∨ ∃ F d, dv = decV F ∧ Dec w F d ∧ (C ≤ F ∧ C ≤ d.HB ∧ C ≤ d.BB ∧ C ≤ d.CB) ∧ (∀ x ∈ [F, d.R, d.HB, d.BB, d.CB], x ≠ Z ∧ x ≠ R) ∧ (∀ a, d.base = some a → a.block ≠ Z ∧ a.block ≠ R) ∧ (∀ a, base = some a → a.block ∉ [F, d.HB, d.BB, d.CB]) ∧ (∀ a, dbase = some a → a.block ≠ F ∧ a.block ≠ d.HB) ∧ O F ∧ O d.HB ∧ O d.BB ∧ O d.CB
def ZDec (w5 : World) (C : Nat) (p : Ps) (Z R : Nat) (base : Option Addr) (src' D' : List UInt8) (O : Nat → Prop) (wq : World) : Prop :=
 ∃ F d s, Hid (RS F C p d (.next ⟨0, 0⟩, tail32 D') (tail32 D').length wq d (tail32 D') 0 (.next ⟨0, 0⟩, tail32 D')) ∧ d.R = R ∧ d.base = base ∧ d.src = src' ∧ ZR wq Z (rdrZ R) (decV F) .nilIface .nilIface s ∧ ¬ MD F d Z ∧ (∀ b, MD F d b → b < wq.heap.size) ∧ Frm (fun b _ => b = Z ∨ O b) w5 wq ∧ ∀ b, MD F d b → b = R ∨ O b ∨ w5.heap.size ≤ b
def ZDone (w : World) (C : Nat) (p : Ps) (Z R : Nat) (base : Option Addr) (src dict : List UInt8) (isNil : Bool) (O : Nat → Prop) (e : Ending) (w' : World) : Prop :=
 ∃ q D D' F d A s, e = .returned .nilIface ∧ zhead src dict = .inr (q, D) ∧ D' = (if isNil then D else dict) ∧ q ≤ src.length ∧ Hid (RS F C p d (.next ⟨0, 0⟩, tail32 D') (tail32 D').length w' d (tail32 D') 0 (.next ⟨0, 0⟩, tail32 D')) ∧ d.R = R ∧ d.base = base ∧ d.src = src.drop q ∧
  ZR w' Z (rdrZ R) (decV F) (digV A) .nilIface s ∧ Dig w' A [] ∧ ¬ MD F d Z ∧ ¬ MD F d A ∧ A ≠ Z ∧ w.heap.size ≤ A ∧ (∀ b, MD F d b → b < A) ∧ Frm (fun b _ => b = Z ∨ b = R ∨ O b) w w' ∧ ∀ b, MD F d b → b = R ∨ O b ∨ w.heap.size ≤ b
theorem ZR.noTab {w : World} {Z : Nat} {r dv dig err : Value} {s : Nat → UInt8} (h : ZR w Z r dv dig err s) (hr : (∃ t x, r = .iface t x) ∨ r = .nilIface) (hd : (∃ t x, dv = .iface t x) ∨ dv = .nilIface) (hg : (∃ t x, dig = .iface t x) ∨ dig = .nilIface) (he : (∃ t x, err = .iface t x) ∨ err = .nilIface) : NoTab w Z := by
 intro o v hv
 by_cases h8 : 8 ≤ o
 · rw [h.n o h8] at hv; simp at hv
 · have hc : o = 0 ∨ o = 1 ∨ o = 2 ∨ o = 3 ∨ ∃ j, j < 4 ∧ o = 4 + j := by
    rcases (by omega : o = 0 ∨ o = 1 ∨ o = 2 ∨ o = 3 ∨ 4 ≤ o) with e | e | e | e | e
    · exact .inl e
    · exact .inr (.inl e)
    · exact .inr (.inr (.inl e))
    · exact .inr (.inr (.inr (.inl e)))
    · exact .inr (.inr (.inr (.inr ⟨o - 4, by omega, by omega⟩)))
   rcases hc with rfl | rfl | rfl | rfl | ⟨j, hj, rfl⟩
   · rw [h.r] at hv; obtain rfl := Option.some.inj hv; exact hr.elim (fun q => .inr (.inl q)) (fun q => .inr (.inr (.inl q)))
   · rw [h.d] at hv; obtain rfl := Option.some.inj hv; exact hd.elim (fun q => .inr (.inl q)) (fun q => .inr (.inr (.inl q)))
   · rw [h.g] at hv; obtain rfl := Option.some.inj hv; exact hg.elim (fun q => .inr (.inl q)) (fun q => .inr (.inr (.inl q)))
   · rw [h.e] at hv; obtain rfl := Option.some.inj hv; exact he.elim (fun q => .inr (.inl q)) (fun q => .inr (.inr (.inl q)))
   · rw [h.s j hj] at hv; obtain rfl := Option.some.inj hv; exact .inl ⟨_, rfl⟩
theorem Dig.noTab {w : World} {A : Nat} {l : List UInt8} (h : Dig w A l) : NoTab w A := by
 intro o v hv
 by_cases h1 : 1 ≤ o
 · rw [h.n o h1] at hv; simp at hv
 · obtain rfl : o = 0 := by omega
   rw [h.c] at hv; obtain rfl := Option.some.inj hv; exact .inr (.inr (.inr ⟨⟨_, rfl⟩, h.n 1 (Nat.le_refl _)⟩))
theorem RS.md_lt {F C : Nat} {p : Ps} {d0 : DS} {x0 : Cfg × List UInt8} {k : Nat} {w : World} {d : DS} {H : List UInt8} {n : Nat} {x : Cfg × List UInt8} (h : RS F C p d0 x0 k w d H n x) {b : Nat} (hb : MD F d b) : b < w.heap.size := by
 have hD := h.st.dec
 rcases hb with rfl | rfl | rfl | rfl | rfl
 · exact hD.lt
 · exact hD.so.lt
 · exact cell_lt (hD.win 0 (by omega))
 · obtain ⟨v, hv⟩ := Option.isSome_iff_exists.1 (hD.bb 0 (by omega))
   exact cell_lt hv
 · obtain ⟨v, hv⟩ := Option.isSome_iff_exists.1 (hD.cb 0 (by omega))
   exact cell_lt hv
theorem zdec_new {w5 w6 : World} {Z R C F : Nat} {p : Ps} {base : Option Addr} {src' D : List UInt8} {O : Nat → Prop} {d : DS} {s : Nat → UInt8} (hz5 : ZR w5 Z (rdrZ R) .nilIface .nilIface .nilIface s) (hRl : R < w5.heap.size) (hZl : Z < w5.heap.size) (hRZ : R ≠ Z) (hbZ : ∀ a, base = some a → a.block ≠ Z) (hCZ : C ≤ Z) (hF : w5.heap.size ≤ F)
 (hP : Hid (RS F C p d (.next ⟨0, 0⟩, tail32 D) (tail32 D).length w6 d (tail32 D) 0 (.next ⟨0, 0⟩, tail32 D) ∧ d.R = R ∧ d.base = base ∧ d.src = src' ∧ d.HB = F + 3 ∧ d.BB = F + 1 ∧ d.CB = F + 2 ∧ Frm (fun _ _ => False) w5 w6)) :
 w6.cell? ⟨Z, 1, none⟩ = some .nilIface ∧ w6.frozen? ⟨Z, 1, none⟩ = false ∧ ZDec w5 C p Z R base src' D O (w6.setCell ⟨Z, 1, none⟩ (decV F)) := by
 obtain ⟨hRS, hdR, hdb, hds, hdH, hdB, hdC, hf⟩ := hP.out
 have hz6 := hz5.keep hf (fun _ e => e)
 have hmd : ¬ MD F d Z := by
  rintro (e | e | e | e | e) <;> omega
 have hfs : Frm (fun b _ => b = Z) w6 (w6.setCell ⟨Z, 1, none⟩ (decV F)) := (Frm.refl _ _).setCell (.inl rfl) _
 have hnt := hz6.noTab (.inl ⟨_, _, rfl⟩) (.inr rfl) (.inr rfl) (.inr rfl)
 have hRS7 := hRS.nt hfs (fun b o e => by
  subst e; exact ⟨hCZ, hmd, fun a ha => by rw [hdb] at ha; exact hbZ a ha, hnt⟩)
 exact ⟨hz6.d, hz6.fr 1, F, d, s, zHi hRS7, hdR, hdb, hds, hz6.set_d _, hmd, fun b hb => hRS7.md_lt hb, (hf.mono fun _ _ e => e.elim).trans (hfs.mono fun _ _ e => .inl e), fun b hb => by
  rcases hb with e | e | e | e | e <;> omega⟩
set_option maxHeartbeats 40000000 in
theorem zreset_any (w : World) (Z C : Nat) (p : Ps) (he : Env w C p) (hCZ : C ≤ Z) (r dv dig err : Value) (s : Nat → UInt8) (hz : ZR w Z r dv dig err s) (R : Nat) (base : Option Addr) (src : List UInt8) (hR : C ≤ R) (hs : Src w R base src 0) (hRZ : R ≠ Z) (hfar : ∀ a, base = some a → a.block ≠ Z) (hblt : ∀ a, base = some a → a.block < w.heap.size)
 (dbase : Option Addr) (dict : List UInt8) (dcap : Nat) (hdb : Bytes w dbase dict) (hdc : dict.length ≤ dcap) (hdl : dict.length ≤ 4294967296) (hdF : ∀ a, dbase = some a → a.block ≠ Z ∧ a.block ≠ R) (hdlt : ∀ a, dbase = some a → a.block < w.heap.size) (O : Nat → Prop) (hdv : DvOK w Z R C base dbase O dv) :
 Calls Tryz.prog 40 #[.pointer (some ⟨Z, 0, none⟩), rdrZ R, .slice dbase dict.length dcap] w (fun e w' => ZFail p w Z R base src dict e w' ∨ ZDone w C p Z R base src dict (isNilV dv) O e w') := by
 have HDV := zHi (zAi hdv (zAi hblt hdlt))
 replace hdv : dv = .nilIface ∨ ∃ F, dv = .iface 161 (.pointer (some ⟨F, 0, none⟩)) := by
  rcases hdv with h | ⟨F, d, h, _⟩
  · exact .inl h
  · exact .inr ⟨F, h⟩
 clear hblt hdlt
 have HE := zHi he
 have HZ := zHi hz
 have HS := zHi hs
 have HD := zHi (zAi hdb (zAi hdc (zAi hdl hdF)))
 have HA := zHi (zAi hCZ (zAi hR (zAi hdv (zAi hRZ hfar))))
 obtain ⟨n, hn⟩ : ∃ n, n = dict.length := ⟨_, rfl⟩
 rw [← hn]
 have HN := zHi hn
 clear he hz hs hdb hdc hdl hdF hCZ hR hdv hRZ hfar hn
 go_enter Tryz.func40, Tryz.ntmps40
 go_upto_region 1 with (fail)
 go_cut [17] (fun _ wq => ZR wq Z .nilIface dv .nilIface .nilIface (fun _ => 0) ∧ Frm (fun b _ => b = Z) w wq)
 case first =>
  obtain ⟨z0, z1, z2, z3, zs, zf, _⟩ := HZ.out; have z4 : w.cell? ⟨Z, 4, none⟩ = some (byteV (s 0)) := zs 0 (by omega)
  have z5 : w.cell? ⟨Z, 5, none⟩ = some (byteV (s 1)) := zs 1 (by omega)
  have z6 : w.cell? ⟨Z, 6, none⟩ = some (byteV (s 2)) := zs 2 (by omega)
  have z7 : w.cell? ⟨Z, 7, none⟩ = some (byteV (s 3)) := zs 3 (by omega)
  have f0 := zf 0; have f1 := zf 1; have f2 := zf 2; have f3 := zf 3; have f4 := zf 4; have f5 := zf 5; have f6 := zf 6; have f7 := zf 7; clear zf zs; rcases HA.out.2.2.1 with rfl | ⟨F, rfl⟩
  all_goals
   go_wp2_with fail
   go_meet
   case rel =>
    exact zr_laid HZ.out _ _ rfl
 case rest =>
  obtain ⟨hz1, hf1⟩ := hcut; have z0 := hz1.r; have f0 := hz1.fr 0; have HZ1 := zHi (zAi hz1 hf1); clear hz1 hf1; have hta : ∀ w : World, (Instr.typeAssert (rdrZ R) 79 82 true).run Tryz.prog w = .ok (.tuple #[rdrZ R, .bool true]) w := fun w => by kernel_rfl
  apply_assumption; go_upto_region 6 with (fail)
  obtain ⟨w2, hw2⟩ : ∃ w2, w2 = wc.setCell ⟨Z, 0, none⟩ (rdrZ R) := ⟨_, rfl⟩; rw [← hw2]; have hz2 : ZR w2 Z (rdrZ R) dv .nilIface .nilIface (fun _ => 0) := by rw [hw2]; exact HZ1.out.1.set_r _
  have hf2 : Frm (fun b _ => b = Z) w w2 := by rw [hw2]; exact HZ1.out.2.setCell (.inl rfl) _
  have hs2 : Src w2 R base src 0 := HS.out.keep hf2 (fun o e => HA.out.2.2.2.1 e) (fun a ha j _ e => HA.out.2.2.2.2 a ha e)
  have he2 : Env w2 C p := HE.out.keep hf2 (fun b o e => by have := HA.out.1; omega)
  have z0 := hz2.r; have z3 := hz2.e; have f3 := hz2.fr 3; have hRF := readZ (hz2.keep ((Frm.refl (fun _ _ => False) _).drew) (fun _ e => e)) hs2.drew (he2.keep (S := fun _ _ => False) ((Frm.refl _ _).drew) (fun _ _ e => e.elim)) HA.out.2.1 HA.out.1 HA.out.2.2.2.1 HA.out.2.2.2.2 (n := 2) (by omega) (by omega)
  obtain ⟨k, hk⟩ : ∃ k, k = Nat.min (src.length - 0) 2 := ⟨_, rfl⟩; have hev := readEv2 p k 2; have HRF := zHi (fun ev => hRF ev k hk)
  clear hRF hk; have H2 := zHi (zAi hz2 hf2); clear hz2 hf2 hs2 he2 hw2 hta; go_cut [35] (fun _ wq => ZRead p w2 Z R base src 0 2 (rdrZ R) dv .nilIface wq)
  case first =>
   rcases hev with hev | ⟨q, hev⟩
   all_goals
    have HRE := zHi (HRF.out _ hev.symm); clear hev HRF
    go_region_with (go_at_call 55; refine HRE.out.mono ?_; rintro e w3 ⟨rfl, h33, hf3, hZ3⟩)
    go_wp2_with fail
    go_meet
    case rel => exact hZ3.of_drew
  case rest =>
   obtain ⟨k, s1, hk, hz3, hs3, hsj, hf3⟩ := hcut; have H3 := zHi (zAi hk (zAi hz3 (zAi hs3 (zAi hsj hf3)))); have z3 := hz3.e; have f3 := hz3.fr 3; clear hk hz3 hs3 hsj hf3; apply_assumption; have hf03 : Frm (fun b _ => b = Z ∨ b = R) w wc := (H2.out.2.mono fun b o e => .inl e).trans H3.out.2.2.2.2
   have he3 : Env wc C p := HE.out.keep hf03 (fun b o e => by have := HA.out.1; have := HA.out.2.1; omega)
   have cE := he3.eof; have cU := he3.unx; have hg := he3.g; have n0 : Z ≠ 0 := by have := HA.out.1; omega
   have n4 : Z ≠ 4 := by have := HA.out.1; omega
   have HF3 := zHi (zAi hf03 he3); have hs3 := H3.out.2.2.1; have hle := hs3.le; obtain ⟨m1, m2, m3⟩ := min_cases (src.length - 0) 2; rw [← H3.out.1] at m1 m2 m3
   by_cases hk2 : k = 2
   · rw [if_pos hk2] at z3; have q0 : wc.cell? ⟨Z, 4, none⟩ = some (byteV (src.getD 0 0)) := by
      have := H3.out.2.1.s 0 (by omega)
      rwa [H3.out.2.2.2.1 0 (by omega)] at this
     have q1 : wc.cell? ⟨Z, 5, none⟩ = some (byteV (src.getD 1 0)) := by
      have := H3.out.2.1.s 1 (by omega)
      rwa [H3.out.2.2.2.1 1 (by omega)] at this
     have ha : (src.getD 0 0).toNat < 256 := (src.getD 0 0).toBitVec.isLt; have hb : (src.getD 1 0).toNat < 256 := (src.getD 1 0).toBitVec.isLt; simp only [byteV] at q0 q1; obtain ⟨a, haa⟩ : ∃ a, a = (src.getD 0 0).toNat := ⟨_, rfl⟩; obtain ⟨b, hbb⟩ : ∃ b, b = (src.getD 1 0).toNat := ⟨_, rfl⟩; rw [← haa] at q0 ha; rw [← hbb] at q1 hb; have H16 := zHi (uint16_any wc.drew Z 4 4 2 (by omega) a b ha hb q0 q1)
     have HAB := zHi (zAi haa (zAi hbb (zAi hk2 (zAi hs3 (zAi m1 (zAi ha hb)))))); clear haa hbb hs3 hle m1 m2 m3 hf03 he3 hg hk2 ha hb; go_upto_region 11 with (fail)
     (refine region_tail 5 (by kernel_rfl) (by kernel_rfl) ?_; simp only [List.take_succ_cons, List.take_zero, List.drop_succ_cons, List.drop_zero]; (repeat still_step); refine wpStill_nil ?_)
     go_wp2_with fail
     refine H16.out.mono ?_; rintro e w4 ⟨rfl, hf4⟩; have hf4' : Frm (fun _ _ => False) wc w4 := ((Frm.refl _ _).drew).trans hf4
     have q0 := hf4'.keep q0 (fun e => e)
     have q1 := hf4'.keep q1 (fun e => e)
     have HF4 := zHi hf4'; clear hf4 hf4' cE cU z3 f3; obtain ⟨h, hh⟩ : ∃ h, h = a * 256 + b := ⟨_, rfl⟩; rw [← hh]; obtain ⟨A, hA⟩ : ∃ A, A = a % 16 := ⟨_, rfl⟩; obtain ⟨r, hr⟩ : ∃ r, r = h % 31 := ⟨_, rfl⟩; have e1 : bits .and .u8 (a : Int) 15 = (A : Int) := by rw [hA]; exact and15u8 a HAB.out.2.2.2.2.2.1
     have e2 : (h : Int) % 31 = (r : Int) := by omega
     have i1 : (h : Int) ≤ 65535 := by have := HAB.out.2.2.2.2.2; omega
     have i2 : (a : Int) ≤ 255 := by have := HAB.out.2.2.2.2.2; omega
     have i3 : (b : Int) ≤ 255 := by have := HAB.out.2.2.2.2.2; omega
     have HH := zHi (zAi hh (zAi hA hr)); clear hh hA hr; go_upto_region 12 with (fail)
     go_cut [95] (fun c wq => c = .bool (!hdrOk (src.getD 0 0) (src.getD 1 0)) ∧ w4 = wq)
     case first =>
      as_aux_lemma =>
      have hok : hdrOk (src.getD 0 0) (src.getD 1 0) = decide (A = 8 ∧ a / 16 ≤ 7 ∧ r = 0) := by
       unfold hdrOk; rw [← HAB.out.1, ← HAB.out.2.1, ← HH.out.1, ← HH.out.2.1, ← HH.out.2.2]
      have HOK := zHi hok; clear hok
      by_cases c1 : A = 8
      · subst c1
        by_cases c2 : a / 16 ≤ 7
        · have t2 : decide ((7 : Int) < (a : Int) / 16) = false := by simp; omega
          by_cases c3 : r = 0
          · subst c3; have HC := zHi c2; clear c2; go_wp2_with fail
            go_meet
            case rel => exact ⟨by rw [HOK.out]; have := HC.out; simp [this], rfl⟩
          · have t3 : ((r : Int) != 0) = true := by simp; omega
            have HC := zHi (zAi c2 c3); clear c2; go_wp2_with fail
            go_meet
            case rel => exact ⟨by rw [HOK.out]; have := HC.out; simp [this], rfl⟩
        · have t2 : decide ((7 : Int) < (a : Int) / 16) = true := by simp; omega
          have HC := zHi c2; clear c2; go_wp2_with fail
          go_meet
          case rel => exact ⟨by rw [HOK.out]; have := HC.out; simp [this], rfl⟩
      · have t1 : ((A : Int) != 8) = true := by simp; omega
        have HC := zHi c1; go_wp2_with fail
        go_meet
        case rel => exact ⟨by rw [HOK.out]; have := HC.out; simp [this], rfl⟩
     case rest =>
     obtain ⟨rfl, rfl⟩ := hcut; have hz4 : ZR w4 Z (rdrZ R) dv .nilIface .nilIface s1 := by
      have := H3.out.2.1; rw [if_pos HAB.out.2.2.1] at this; exact this.keep HF4.out (fun _ e => e)
     have hs4 : Src w4 R base src 2 := by
      have := HAB.out.2.2.2.1; rw [HAB.out.2.2.1] at this; exact this.keep HF4.out (fun _ e => e) (fun a ha j _ e => e)
     have hf04 : Frm (fun b _ => b = Z ∨ b = R) w w4 := HF3.out.1.trans (HF4.out.mono fun b o e => e.elim)
     have he4 : Env w4 C p := HF3.out.2.keep HF4.out (fun b o e => e.elim)
     have H4 := zHi (zAi hz4 (zAi hs4 (zAi hf04 he4))); have hlen : 2 ≤ src.length := by have := hs4.le; omega
     have HLN := zHi hlen; have z3 := hz4.e; have f3 := hz4.fr 3; have cH := he4.hdr; have nH : Z ≠ 1 := by have := he4.g; have := HA.out.1; omega
     clear hz4 hs4 hf04 he4 hlen n0 n4 e1 e2 i1 i2; apply_assumption
     cases hok : hdrOk (src.getD 0 0) (src.getD 1 0) with
     | false =>
      as_aux_lemma =>
      have HOK := zHi hok; clear hok; go_wp2_with fail
      go_ret
      refine .inl ⟨1, 2, ?_, rfl, ?_, ?_⟩
      · unfold zhead; rw [if_neg (by have := HLN.out; omega), if_pos HOK.out]
      · exact H4.out.2.1.keep (S := fun b _ => b = Z) ((Frm.refl _ _).setCell (.inl rfl) _) (fun o e => HA.out.2.2.2.1 e) (fun a ha j _ e => HA.out.2.2.2.2 a ha e)
      · exact H4.out.2.2.1.setCell (.inl (.inl rfl)) _
     | true =>
      have HOK := zHi hok; clear hok cH nH; have e3 : bits .and .u8 (b : Int) 32 = if b / 32 % 2 = 1 then 32 else 0 := and32u8 b HAB.out.2.2.2.2.2.2
      go_upto_region 15 with (fail)
      go_cut [10] (fun c wq => w4 = wq ∧ c = .bool (decide (b / 32 % 2 = 1)))
      case first =>
       as_aux_lemma =>
       by_cases hd : b / 32 % 2 = 1
       · rw [if_pos hd] at e3; go_wp2_with fail
         go_meet
         case rel => exact ⟨rfl, by simp [hd]⟩
       · rw [if_neg hd] at e3; go_wp2_with fail
         go_meet
         case rel => exact ⟨rfl, by simp [hd]⟩
      case rest =>
      obtain ⟨rfl, rfl⟩ := hcut; clear e3; obtain ⟨hb, hhb⟩ : ∃ hb, hb = decide (b / 32 % 2 = 1) := ⟨_, rfl⟩; rw [← hhb]; have HHB := zHi hhb; clear hhb; apply_assumption
      go_upto_if 111 with (fail)
      go_cut [11] (fun _ wq => ZGo w Z R base src dict dv hb wq)
      case first =>
       cases hb with
       | false =>
        as_aux_lemma =>
        go_wp2_with fail
        go_meet
        case rel =>
         have hd : ¬ b / 32 % 2 = 1 := by have := HHB.out; simpa using this.symm
         refine ⟨2, s1, ?_, H4.out.1, H4.out.2.1, H4.out.2.2.1⟩; unfold zhead; rw [if_neg (by have := HLN.out; omega), if_neg (by rw [HOK.out]; simp), if_neg (by rw [← HAB.out.2.1]; exact hd)]
         rfl
       | true =>
        have hd : b / 32 % 2 = 1 := by have := HHB.out; simpa using this.symm
        have z0 := H4.out.1.r; have hRF := readZ (H4.out.1.keep ((Frm.refl (fun _ _ => False) _).drew) (fun _ e => e)) H4.out.2.1.drew (H4.out.2.2.2.keep (S := fun _ _ => False) ((Frm.refl _ _).drew) (fun _ _ e => e.elim)) HA.out.2.1 HA.out.1 HA.out.2.2.2.1 HA.out.2.2.2.2 (n := 4) (by omega) (by omega)
        obtain ⟨k, hk⟩ : ∃ k, k = Nat.min (src.length - 2) 4 := ⟨_, rfl⟩; have hev := readEv2 p k 4; have HRF := zHi (fun ev => hRF ev k hk)
        have HDD := zHi hd; clear hRF hk hd; go_upto_region 17 with (fail)
        go_cut [112] (fun _ wq => ZRead p w4 Z R base src 2 4 (rdrZ R) dv .nilIface wq)
        case first =>
         rcases hev with hev | ⟨q, hev⟩
         all_goals
          have HRE := zHi (HRF.out _ hev.symm); clear hev HRF
          go_region_with (go_at_call 55; refine HRE.out.mono ?_; rintro e w5 ⟨rfl, h33, hf3, hZ3⟩)
          go_wp2_with fail
          go_meet
          case rel => exact hZ3.of_drew
        case rest =>
        clear hev HRF z0 z3 f3; obtain ⟨k5, s5, hk5, hz5, hs5, hsj5, hf5⟩ := hcut; have z3 := hz5.e; have f3 := hz5.fr 3; have hf05 : Frm (fun b _ => b = Z ∨ b = R) w wc := H4.out.2.2.1.trans hf5
        have he5 : Env wc C p := HE.out.keep hf05 (fun b o e => by have := HA.out.1; have := HA.out.2.1; omega)
        have H5 := zHi (zAi hk5 (zAi hz5 (zAi hs5 (zAi hsj5 (zAi hf05 he5))))); have cE := he5.eof; have cU := he5.unx; have cD := he5.dic; have hg := he5.g; have n0 : Z ≠ 0 := by have := HA.out.1; omega
        have n4 : Z ≠ 4 := by have := HA.out.1; omega
        have n2 : Z ≠ 2 := by have := HA.out.1; omega
        have hle := hs5.le; obtain ⟨m1, m2, m3⟩ := min_cases (src.length - 2) 4; rw [← hk5] at m1 m2 m3; have hl2 := HLN.out; clear hk5 hz5 hsj5 hf5 hf05 he5 hg; apply_assumption
        by_cases hk4 : k5 = 4
        · rw [if_pos hk4] at z3
          as_aux_lemma =>
          have q2 : wc.cell? ⟨Z, 4, none⟩ = some (byteV (src.getD 2 0)) := by
           have := H5.out.2.1.s 0 (by omega)
           rwa [H5.out.2.2.2.1 0 (by omega)] at this
          have q3 : wc.cell? ⟨Z, 5, none⟩ = some (byteV (src.getD 3 0)) := by
           have := H5.out.2.1.s 1 (by omega)
           rwa [H5.out.2.2.2.1 1 (by omega)] at this
          have q4 : wc.cell? ⟨Z, 6, none⟩ = some (byteV (src.getD 4 0)) := by
           have := H5.out.2.1.s 2 (by omega)
           rwa [H5.out.2.2.2.1 2 (by omega)] at this
          have q5 : wc.cell? ⟨Z, 7, none⟩ = some (byteV (src.getD 5 0)) := by
           have := H5.out.2.1.s 3 (by omega)
           rwa [H5.out.2.2.2.1 3 (by omega)] at this
          have H32 := uint32_any wc.drew Z 4 4 4 (by omega) _ _ _ _ (src.getD 2 0).toBitVec.isLt (src.getD 3 0).toBitVec.isLt (src.getD 4 0).toBitVec.isLt (src.getD 5 0).toBitVec.isLt q2 q3 q4 q5
          obtain ⟨g, hgg⟩ : ∃ g, g = be4At src 2 := ⟨_, rfl⟩; have H32' := zHi ((show be4 (src.getD 2 0).toNat (src.getD 3 0).toNat (src.getD 4 0).toNat (src.getD 5 0).toNat = g from hgg.symm) ▸ H32)
          have HG := zHi (zAi hgg (zAi hs5 (zAi hk4 (show 6 ≤ src.length by omega))))
          clear H32 hgg hs5 hle m1 m2 m3 hl2 q2 q3 q4 q5 hk4 cE cU n0 n4; go_upto_region 22 with (fail)
          (refine region_tail 5 (by kernel_rfl) (by kernel_rfl) ?_; simp only [List.take_succ_cons, List.take_zero, List.drop_succ_cons, List.drop_zero]; (repeat still_step); refine wpStill_nil ?_)
          go_wp2_with fail
          refine H32'.out.mono ?_; rintro e w6 ⟨rfl, hf6⟩; have hf56 : Frm (fun _ _ => False) wc w6 := ((Frm.refl _ _).drew).trans hf6
          have z3 := hf56.keep z3 (fun e => e)
          have f3 : w6.frozen? ⟨Z, 3, none⟩ = false := (hf56.froz Z 3 (cell_lt H5.out.2.1.r)).trans f3; have cD := hf56.keep cD (fun e => e)
          have hlt6 := cell_lt z3; have hf06 : Frm (fun b _ => b = Z ∨ b = R) w w6 := H5.out.2.2.2.2.1.trans (hf56.mono fun b o e => e.elim)
          have hds := HD.out.1.keep hf06 (fun a ha j _ e => e.elim (HD.out.2.2.2 a ha).1 (HD.out.2.2.2 a ha).2)
          have hcs := checksum_any w6 dbase dict dcap hds HD.out.2.1 (by have := HD.out.2.2.1; omega)
          rw [← HN.out] at hcs; obtain ⟨A, hA⟩ : ∃ A, A = adler dict := ⟨_, rfl⟩; rw [← hA] at hcs; have HCS := zHi hcs; have HF6 := zHi (zAi hf56 (zAi hf06 hA)); clear hf6 hf56 hf06 hds hcs hA; go_wp2_with fail
          refine HCS.out.mono ?_; rintro e w7 ⟨rfl, hf7⟩; have z3 := hf7.keep z3 (fun e => e)
          have f3 : w7.frozen? ⟨Z, 3, none⟩ = false := (hf7.froz Z 3 hlt6).trans f3; have cD := hf7.keep cD (fun e => e)
          have HF7 := zHi hf7; clear hf7 hlt6
          by_cases hgA : g = A
          · subst hgA; go_wp2_with fail
            go_meet
            case rel =>
             obtain ⟨hgg, hs5, hk4, hl6⟩ := HG.out; obtain ⟨hf56, hf06, hA⟩ := HF6.out; have hf57 : Frm (fun _ _ => False) wc w7 := hf56.trans HF7.out
             refine ⟨6, s5, ?_, ?_, ?_, hf06.trans (HF7.out.mono fun b o e => e.elim)⟩
             · unfold zhead; rw [if_neg (by omega), if_neg (by rw [HOK.out]; simp), if_pos (by rw [← HAB.out.2.1]; exact HDD.out), if_neg (by omega), if_pos (by rw [← hgg, ← hA])]
               rfl
             · have := H5.out.2.1; rw [if_pos hk4] at this; exact this.keep hf57 (fun _ e => e)
             · rw [hk4] at hs5; exact hs5.keep hf57 (fun _ e => e) (fun a ha j _ e => e)
          · have t1 : ((g : Int) != (A : Int)) = true := by simp; omega
            have HGA := zHi hgA; clear hgA; go_wp2_with fail
            go_ret
            obtain ⟨hgg, hs5, hk4, hl6⟩ := HG.out; obtain ⟨hf56, hf06, hA⟩ := HF6.out; have hf57 : Frm (fun _ _ => False) wc w7 := hf56.trans HF7.out
            refine .inl ⟨2, 6, ?_, rfl, ?_, (hf06.trans (HF7.out.mono fun b o e => e.elim)).setCell (.inl (.inl rfl)) _⟩
            · unfold zhead; rw [if_neg (by omega), if_neg (by rw [HOK.out]; simp), if_pos (by rw [← HAB.out.2.1]; exact HDD.out), if_neg (by omega), if_neg (by rw [← hgg, ← hA]; exact HGA.out)]
            · rw [hk4] at hs5; exact (hs5.keep hf57 (fun _ e => e) (fun a ha j _ e => e)).keep (S := fun b _ => b = Z) ((Frm.refl _ _).setCell (.inl rfl) _) (fun o e => HA.out.2.2.2.1 e) (fun a ha j _ e => HA.out.2.2.2.2 a ha e)
        · rw [if_neg hk4] at z3
          as_aux_lemma =>
          have hq1 : zhead src dict = .inl (4, src.length) := by
           unfold zhead; rw [if_neg (by omega), if_neg (by rw [HOK.out]; simp), if_pos (by rw [← HAB.out.2.1]; exact HDD.out), if_pos (by omega)]
          have hq0 : 2 + k5 = src.length := by omega
          have hq2 : Src wc R base src src.length := by rw [hq0] at hs5; exact hs5
          have HQ := zHi (zAi hq1 hq2); clear hq0 hq1 hq2 hs5 hle m1 m2 m3 hl2
          by_cases hk0 : k5 = 0
          · rw [if_pos hk0] at z3; have hq := fun w => eql_same p.E w
            go_wp2_with fail
            (go_quiet (fail))
            go_wp2_with fail
            go_ret
            exact .inl (ZFail.cut HQ.out.1 HQ.out.2 HA.out.2.2.2.1 HA.out.2.2.2.2 H5.out.2.2.2.2.1 (((Frm.refl _ _).drewN _).setCell (.inl rfl) _))
          · rw [if_neg hk0] at z3; have hq := fun n => eql_other (H5.out.2.2.2.2.2.keep (S := fun _ _ => False) ((Frm.refl _ _).drewN n) (fun _ _ e => e.elim)) (x := p.U) (y := p.E) (by simp [Ps.all]) (by simp [Ps.all]) (by have := H5.out.2.2.2.2.2.nodup; simp [Ps.all] at this; exact fun e => this.1.1 e.symm)
            go_wp2_with fail
            (go_quiet (fail))
            go_wp2_with fail
            go_ret
            exact .inl (ZFail.cut HQ.out.1 HQ.out.2 HA.out.2.2.2.1 HA.out.2.2.2.2 H5.out.2.2.2.2.1 ((Frm.refl _ _).drewN _))
      case rest =>
       obtain ⟨q, s5, hzh, hz5, hs5, hf5⟩ := hcut; obtain ⟨w5, rfl⟩ : ∃ x, x = wc := ⟨_, rfl⟩; apply_assumption; have hle5 := hs5.le; have hs50 : Src w5 R base (src.drop q) 0 := hs5.rest q 0 (by omega)
       have he5 : Env w5 C p := HE.out.keep hf5 (fun b o e => by have := HA.out.1; have := HA.out.2.1; omega)
       have hds5 : Bytes w5 dbase dict := HD.out.1.keep hf5 (fun a ha j _ e => e.elim (HD.out.2.2.2 a ha).1 (HD.out.2.2.2 a ha).2)
       have hbl5 : ∀ a, base = some a → a.block < w5.heap.size := fun a ha => Nat.lt_of_lt_of_le (HDV.out.2.1 a ha) hf5.size
       have hdl5 : ∀ a, dbase = some a → a.block < w5.heap.size := fun a ha => Nat.lt_of_lt_of_le (HDV.out.2.2 a ha) hf5.size
       have hRl : R < w5.heap.size := hs5.lt; have hZl : Z < w5.heap.size := cell_lt hz5.r; obtain ⟨D, hD⟩ : ∃ D, D = (if hb = true then dict else []) := ⟨_, rfl⟩
       have hzD : zhead src dict = .inr (q, D) := by rw [hzh, hD]
       have H5 := zHi (zAi hzD (zAi hz5 (zAi hs50 (zAi hf5 (zAi he5 (zAi hds5 (zAi hbl5 (zAi hdl5 (zAi hRl (zAi hZl (zAi hle5 hD))))))))))); have z0 := hz5.r; have z1 := hz5.d; have f1 := hz5.fr 1; clear hzh hz5 hs5 hf5 hle5 hs50 he5 hds5 hbl5 hdl5 hRl hZl hD hzD; refine wp_seq_k ?_; intro K7 hK7; go_cut [168] (fun _ wq => ZDec w5 C p Z R base (src.drop q) (if isNilV dv then D else dict) O wq)
       case first => as_aux_lemma =>
        obtain ⟨hzD, hz5, hs50, hf5, he5, hds5, hbl5, hdl5, hRl, hZl, hle5, hD⟩ := H5.out; rcases HDV.out.1 with rfl | ⟨F, d, rfl, hdec, hC4, hxz, hdbz, hfb, hdF, hO1, hO2, hO3, hO4⟩
        · have key : ∀ (w6 : World) (F : Nat) (d : DS), w5.heap.size ≤ F → Hid (RS F C p d (.next ⟨0, 0⟩, tail32 D) (tail32 D).length w6 d (tail32 D) 0 (.next ⟨0, 0⟩, tail32 D) ∧ d.R = R ∧ d.base = base ∧ d.src = src.drop q ∧ d.HB = F + 3 ∧ d.BB = F + 1 ∧ d.CB = F + 2 ∧ Frm (fun _ _ => False) w5 w6) →
           w6.cell? ⟨Z, 1, none⟩ = some .nilIface ∧ w6.frozen? ⟨Z, 1, none⟩ = false ∧ ZDec w5 C p Z R base (src.drop q) D O (w6.setCell ⟨Z, 1, none⟩ (decV F)) := fun w6 F d hF hP => zdec_new hz5 hRl hZl HA.out.2.2.2.1 HA.out.2.2.2.2 HA.out.1 hF hP
          have KEY := zHi key
          cases hb with
          | true =>
           obtain rfl : D = dict := hD; have hnr := newReaderDict_any w5 C p R base (src.drop q) he5 HA.out.2.1 hs50 hbl5 dbase D dcap hds5 HD.out.2.1 HD.out.2.2.1 hdl5; rw [← HN.out] at hnr; have HNR := zHi hnr; clear key hnr hzD hz5 hs50 hf5 he5 hds5 hbl5 hdl5 hRl hZl hle5; go_wp2_with fail
           refine HNR.out.mono ?_; rintro e w6 ⟨F, d, hF, rfl, hP⟩; obtain ⟨z1', f1', hrel⟩ := KEY.out w6 F d hF hP; have HX := zHi hrel; clear hP hrel hF z1 f1; go_wp2_with fail
           go_meet
           case rel => exact HX.out
          | false =>
           obtain rfl : D = [] := hD; have hnr := newReader_any w5 C p R base (src.drop q) he5 HA.out.2.1 hs50 hbl5; have HNR := zHi hnr; clear key hnr hzD hz5 hs50 hf5 he5 hds5 hbl5 hdl5 hRl hZl hle5; go_wp2_with fail
           refine HNR.out.mono ?_; rintro e w6 ⟨F, d, hF, rfl, hP⟩; obtain ⟨z1', f1', hrel⟩ := KEY.out w6 F d hF hP; have HX := zHi hrel; clear hP hrel hF z1 f1; go_wp2_with fail
           go_meet
           case rel => exact HX.out
        · have hxF := hxz F (by simp)
          have hxR := hxz d.R (by simp)
          have hxH := hxz d.HB (by simp)
          have hxB := hxz d.BB (by simp)
          have hxC := hxz d.CB (by simp)
          have hf5d : Frm (fun b _ => b = Z ∨ b = R) w w5.drew := hf5.drew
          have hdec5 : Dec w5.drew F d := hdec.keep hf5d (fun o e => e.elim (fun e => absurd e hxF.1) (fun e => absurd e hxF.2)) (fun o e => e.elim (fun e => absurd e hxR.1) (fun e => absurd e hxR.2)) (fun o e => e.elim (fun e => absurd e hxH.1) (fun e => absurd e hxH.2)) (fun a ha j _ e => e.elim (hdbz a ha).1 (hdbz a ha).2)
          have hdrew : Frm (fun _ _ => False) w5 w5.drew := (Frm.refl _ _).drew
          have hrs := reset_any w5.drew F C p (he5.keep hdrew (fun _ _ e => e.elim)) d hdec5 hC4.1 hC4.2.1 hC4.2.2.1 hC4.2.2.2 R base (src.drop q) HA.out.2.1 hs50.drew ⟨Ne.symm hxF.2, Ne.symm hxH.2, Ne.symm hxB.2, Ne.symm hxC.2⟩
           (fun a ha => by
            have h1 := hfb a ha; have h2 := hs50.ne a ha; simp only [List.mem_cons, List.not_mem_nil, or_false, not_or] at h1 ⊢; exact ⟨h1.1, h2, h1.2.1, h1.2.2.1, h1.2.2.2⟩)
           dbase dict dcap (hds5.keep hdrew (fun a ha j _ e => e)) HD.out.2.1 HD.out.2.2.1 (fun a ha => (hdF a ha).1) (fun a ha => (hdF a ha).2)
          rw [← HN.out] at hrs; have HRS := zHi hrs; have key : ∀ (w6 : World), Frm (fun b _ => b = F ∨ b = d.HB) w5.drew w6 → (∃ d', RS F C p d' (.next ⟨0, 0⟩, tail32 dict) (tail32 dict).length w6 d' (tail32 dict) 0 (.next ⟨0, 0⟩, tail32 dict) ∧ d'.R = R ∧ d'.base = base ∧ d'.src = src.drop q ∧ d'.HB = d.HB ∧ d'.BB = d.BB ∧ d'.CB = d.CB) → ZDec w5 C p Z R base (src.drop q) dict O w6 := by
           rintro w6 hf6 ⟨d', hRS, q1, q2, q3, q4, q5, q6⟩; refine ⟨F, d', s5, zHi hRS, q1, q2, q3, (hz5.keep hdrew (fun _ e => e)).keep hf6 (fun o e => e.elim (fun e => hxF.1 e.symm) (fun e => hxH.1 e.symm)), ?_, fun b hb => hRS.md_lt hb, (hdrew.mono fun _ _ e => e.elim).trans (hf6.mono fun b o e => .inr (by rcases e with rfl | rfl; exact hO1; exact hO2)), fun b hb => ?_⟩
           rintro (e | e | e | e | e)
           · exact hxF.1 e.symm
           · rw [q1] at e; exact HA.out.2.2.2.1 e.symm
           · rw [q4] at e; exact hxH.1 e.symm
           · rw [q5] at e; exact hxB.1 e.symm
           · rw [q6] at e; exact hxC.1 e.symm
           · rcases hb with e | e | e | e | e
             · rw [e]; exact .inr (.inl hO1)
             · rw [e]; exact .inl q1
             · rw [e, q4]; exact .inr (.inl hO2)
             · rw [e, q5]; exact .inr (.inl hO3)
             · rw [e, q6]; exact .inr (.inl hO4)
          have KEY := zHi key; have has := asResetterZ; clear key hrs hzD hz5 hs50 hf5 he5 hds5 hbl5 hdl5 hRl hZl hle5 hD hdec hC4 hxz hdbz hfb hdF hO1 hO2 hO3 hO4 hxF hxR hxH hxB hxC hf5d hdec5 hdrew; go_upto_region 30 with (fail)
          (refine region_tail 12 (by kernel_rfl) (by kernel_rfl) ?_; simp only [List.take_succ_cons, List.take_zero, List.drop_succ_cons, List.drop_zero]; (repeat still_step); refine wpStill_nil ?_)
          go_wp2_with fail
          refine HRS.out.mono ?_; rintro e w6 ⟨rfl, hf6, hd6⟩; have HX := zHi (KEY.out w6 hf6 hd6); clear hf6 hd6 has; go_wp2_with fail
          go_meet
          case rel => exact HX.out
       case rest =>
        as_aux_lemma =>
        obtain ⟨F, d, s6, hRS, hdR, hdb, hds, hz6, hmd, hlt, hf56, hnw⟩ := hcut; obtain ⟨w6, rfl⟩ : ∃ x, x = wc := ⟨_, rfl⟩; refine hK7 _ _ ?_; have H6 := zHi (zAi hRS (zAi hdR (zAi hdb (zAi hds (zAi hz6 (zAi hmd (zAi hlt (zAi hf56 hnw)))))))); have z2 := hz6.g; have f2 := hz6.fr 2; have hZ6 : Z < w6.heap.size := cell_lt z2; clear hRS hdR hdb hds hz6 hmd hlt hf56 hnw z0 z1 f1; go_wp2_with fail
        refine (digNew_any w6).mono ?_; rintro e w7 ⟨rfl, hdig, hf7⟩; obtain ⟨A, hA⟩ : ∃ A, A = w6.heap.size := ⟨_, rfl⟩; rw [← hA] at hdig ⊢; have z2' := hf7.keep z2 (fun e => e)
        have f2' : w7.frozen? ⟨Z, 2, none⟩ = false := (hf7.froz Z 2 hZ6).trans f2; have H7 := zHi (zAi hdig (zAi hf7 (zAi hA hZ6))); clear hdig hf7 hA z2 f2 hZ6; go_wp2_with fail
        go_ret
        refine .inr ?_; obtain ⟨hzD, hz5, hs50, hf5, he5, hds5, hbl5, hdl5, hRl, hZl, hle5, hD⟩ := H5.out; obtain ⟨hRS, hdR, hdb, hds, hz6, hmd, hlt, hf56, hnw⟩ := H6.out; obtain ⟨hdig, hf7, hA, hZ6⟩ := H7.out; have hAZ : A ≠ Z := by omega
        have hz7 := hz6.keep hf7 (fun _ e => e)
        have hfs : Frm (fun b _ => b = Z) w7 (w7.setCell ⟨Z, 2, none⟩ (digV A)) := (Frm.refl _ _).setCell (.inl rfl) _
        have hnt := hz7.noTab (.inl ⟨_, _, rfl⟩) (.inl ⟨_, _, rfl⟩) (.inr rfl) (.inr rfl); have hRS7 := (hRS.out.nt hf7 (fun b o e => e.elim)).nt hfs (fun b o e => by
         subst e; exact ⟨HA.out.1, hmd, fun a ha => by rw [hdb] at ha; exact HA.out.2.2.2.2 a ha, hnt⟩)
        have hfa : Frm (fun b _ => b = Z ∨ b = R ∨ O b) w (w7.setCell ⟨Z, 2, none⟩ (digV A)) := (((hf5.mono fun b o e => e.elim .inl (fun e => .inr (.inl e))).trans (hf56.mono fun b o e => e.elim .inl (fun e => .inr (.inr e)))).trans (hf7.mono fun _ _ e => e.elim)).trans (hfs.mono fun _ _ e => .inl e)
        exact ⟨q, D, _, F, d, A, s6, rfl, hzD, rfl, hle5, zHi hRS7, hdR, hdb, hds, hz7.set_g _, hdig.keep hfs (fun _ e => hAZ e), hmd, fun h => by have := hlt A h; omega, hAZ, by have := hf5.size; have := hf56.size; omega, fun b hb => by rw [hA]; exact hlt b hb, hfa, fun b hb => (hnw b hb).imp id (Or.imp id fun e => Nat.le_trans hf5.size e)⟩
   · rw [if_neg hk2] at z3
     as_aux_lemma =>
     have hq1 : zhead src dict = .inl (4, src.length) := by unfold zhead; rw [if_pos (by omega)]
     have hq0 : 0 + k = src.length := by omega
     have hq2 : Src wc R base src src.length := by rw [hq0] at hs3; exact hs3
     have HQ := zHi (zAi hq1 hq2); clear hq0 hq1 hq2 hs3 hle m1 m2 m3 hf03 he3 hg
     by_cases hk0 : k = 0
     · rw [if_pos hk0] at z3; have hq := fun w => eql_same p.E w
       go_wp2_with fail
       (go_quiet (fail))
       go_wp2_with fail
       go_ret
       exact .inl (ZFail.cut HQ.out.1 HQ.out.2 HA.out.2.2.2.1 HA.out.2.2.2.2 HF3.out.1 (((Frm.refl _ _).drewN _).setCell (.inl rfl) _))
     · rw [if_neg hk0] at z3; have hq := fun n => eql_other (HF3.out.2.keep (S := fun _ _ => False) ((Frm.refl _ _).drewN n) (fun _ _ e => e.elim)) (x := p.U) (y := p.E) (by simp [Ps.all]) (by simp [Ps.all]) (by have := HF3.out.2.nodup; simp [Ps.all] at this; exact fun e => this.1.1 e.symm)
       go_wp2_with fail
       (go_quiet (fail))
       go_wp2_with fail
       go_ret
       exact .inl (ZFail.cut HQ.out.1 HQ.out.2 HA.out.2.2.2.1 HA.out.2.2.2.2 HF3.out.1 ((Frm.refl _ _).drewN _))
end Go.Proofs.YthfncdfcklbigaaGreatDoor
