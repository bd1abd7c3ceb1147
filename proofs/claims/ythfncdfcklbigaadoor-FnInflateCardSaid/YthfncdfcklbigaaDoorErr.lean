/-
  THE WALKS OF 'errors.Is' AND 'faultOf'.
-/
import Derived.Test.YthfncdfcklbigaaDoorState
import Derived.LaidEql
import Derived.Stop.Asserts
import Derived.RowKitTokens
set_option linter.unusedVariables false
set_option linter.unusedSimpArgs false
namespace Go.Proofs.YthfncdfcklbigaaDoor
open Go.RowKit Go.Extern.Stop Go.Stop Go.Extern Flate
set_option maxRecDepth 100000

theorem isTypeOf (v : Value) (w : World) : (callFunc 78 #[.iface 197 v]).run Tryd.prog w = .ok (.value (.iface 180 (.agg #[.pointer (some ⟨10, 197, none⟩)]))) w := by kernel_rfl
theorem isComparable (w : World) : (callFunc 141 #[.agg #[.pointer (some ⟨10, 197, none⟩)]]).run Tryd.prog w = .ok (.value (.bool true)) w := by kernel_rfl
theorem isMethodComparable (n : Nat) (v : Value) (w : World) : (Go.method (n + 1) 180 v "Comparable").run Tryd.prog w = .ok (141, v) w := by kernel_rfl

theorem noIsE (v : Value) (xT : TypeId) (w : World) : (Instr.typeAssert (.iface 197 v) xT 182 true).run Tryd.prog w = .ok (.tuple #[.nilIface, .bool false]) w := run_typeAssert_lacksB Tryd.underlying182 (by kernel_rfl) (by kernel_rfl) v xT w
theorem noUnwrapE (v : Value) (xT : TypeId) (w : World) : (Instr.typeAssert (.iface 197 v) xT 185 true).run Tryd.prog w = .ok (.tuple #[.nilIface, .bool false]) w := run_typeAssert_lacksB Tryd.underlying185 (by kernel_rfl) (by kernel_rfl) v xT w
theorem noUnwrapsE (v : Value) (xT : TypeId) (w : World) : (Instr.typeAssert (.iface 197 v) xT 186 true).run Tryd.prog w = .ok (.tuple #[.nilIface, .bool false]) w := run_typeAssert_lacksB Tryd.underlying186 (by kernel_rfl) (by kernel_rfl) v xT w
theorem noIsC (v : Value) (xT : TypeId) (w : World) : (Instr.typeAssert (.iface 125 v) xT 182 true).run Tryd.prog w = .ok (.tuple #[.nilIface, .bool false]) w := run_typeAssert_lacksB Tryd.underlying182 (by kernel_rfl) (by kernel_rfl) v xT w
theorem noUnwrapC (v : Value) (xT : TypeId) (w : World) : (Instr.typeAssert (.iface 125 v) xT 185 true).run Tryd.prog w = .ok (.tuple #[.nilIface, .bool false]) w := run_typeAssert_lacksB Tryd.underlying185 (by kernel_rfl) (by kernel_rfl) v xT w
theorem noUnwrapsC (v : Value) (xT : TypeId) (w : World) : (Instr.typeAssert (.iface 125 v) xT 186 true).run Tryd.prog w = .ok (.tuple #[.nilIface, .bool false]) w := run_typeAssert_lacksB Tryd.underlying186 (by kernel_rfl) (by kernel_rfl) v xT w

theorem is_same (p : Addr) (w : World) : Calls Tryd.prog 58 #[errAt p, errAt p] w fun e w' => e = .returned (.bool true) ∧ w = w' := by
  have tT := isTypeOf
  have cT := isComparable
  have mR := isMethodComparable
  have heq := fun w => eql_same p w
  go_enter Tryd.func58, Tryd.ntmps58
  go_wp2
  refine wp_loop_rounds 1 ?_
  rw [rounds_succ]
  go_wp2
  go_ret
  exact ⟨rfl, rfl⟩

theorem is_other {B : Nat} {p : Ps} (w : World) (he : Env w B p) {x y : Addr} (hx : x ∈ p.all) (hy : y ∈ p.all) (hne : x ≠ y) : Calls Tryd.prog 58 #[errAt x, errAt y] w fun e w' => e = .returned (.bool false) ∧ w = w' := by
  have tT := isTypeOf
  have cT := isComparable
  have mR := isMethodComparable
  have nE := noIsE
  have uE := noUnwrapE
  have vE := noUnwrapsE
  have heq := eql_other he hx hy hne
  clear he hx hy hne
  go_enter Tryd.func58, Tryd.ntmps58
  go_wp2
  refine wp_loop_rounds 1 ?_
  rw [rounds_succ]
  go_wp2
  go_ret
  exact ⟨rfl, rfl⟩

theorem is_corrupt (n : Nat) (y : Addr) (w : World) : Calls Tryd.prog 58 #[corruptAt n, errAt y] w fun e w' => e = .returned (.bool false) ∧ w = w' := by
  obtain ⟨ms, hi⟩ := underlyingError
  have tT := isTypeOf
  have cT := isComparable
  have mR := isMethodComparable
  have nE := noIsC
  have uE := noUnwrapC
  have vE := noUnwrapsC
  have hty := run_eql_iface_types (P := Tryd.prog) 125 197 (.int .i64 (n : Int)) (.pointer (some y)) hi (by decide)
  clear hi
  go_enter Tryd.func58, Tryd.ntmps58
  go_wp2
  refine wp_loop_rounds 1 ?_
  rw [rounds_succ]
  go_wp2
  go_ret
  exact ⟨rfl, rfl⟩

/-- The number of a fault. -/
def faultNum : Err → Nat
  | .eof => 0
  | .cut => 4
  | .corrupt => 5

theorem asC_E (v : Value) (xT : TypeId) (w : World) : (Instr.typeAssert (.iface 197 v) xT 125 true).run Tryd.prog w = .ok (.tuple #[.int .i64 0, .bool false]) w := by kernel_rfl
theorem asC_C (v : Value) (xT : TypeId) (w : World) : (Instr.typeAssert (.iface 125 v) xT 125 true).run Tryd.prog w = .ok (.tuple #[v, .bool true]) w := by kernel_rfl
theorem asC_nil (xT : TypeId) (w : World) : (Instr.typeAssert .nilIface xT 125 true).run Tryd.prog w = .ok (.tuple #[.int .i64 0, .bool false]) w := by kernel_rfl

theorem faultOf_nil (w : World) : Calls Tryd.prog 37 #[.nilIface] w fun e w' => e = .returned (.int .i64 0) ∧ w = w' := by
  have a0 := asC_nil
  go_enter Tryd.func37, Tryd.ntmps37
  go_wp2
  go_ret
  exact ⟨rfl, rfl⟩

theorem faultOf_corrupt (w : World) {B : Nat} {p : Ps} (he : Env w B p) (n : Nat) : Calls Tryd.prog 37 #[corruptAt n] w fun e w' => e = .returned (.int .i64 5) ∧ w = w' := by
  have a0 := asC_C
  have c1 := he.hdr
  have c2 := he.dic
  have c3 := he.sum
  have c4 := he.unx
  clear he
  go_enter Tryd.func37, Tryd.ntmps37
  go_wp2_with (go_at_call 58; refine (is_corrupt _ _ _).mono ?_; rintro e w' ⟨rfl, rfl⟩)
  go_ret
  exact ⟨rfl, rfl⟩

theorem faultOf_hdr (w : World) {B : Nat} {p : Ps} (he : Env w B p) : Calls Tryd.prog 37 #[errAt p.H] w fun e w' => e = .returned (.int .i64 1) ∧ w = w' := by
  have a0 := asC_E
  have c1 := he.hdr
  clear he
  go_enter Tryd.func37, Tryd.ntmps37
  go_wp2_with fail
  refine (is_same _ _).mono ?_
  rintro e w' ⟨rfl, rfl⟩
  go_wp2_with fail
  go_ret
  exact ⟨rfl, rfl⟩

theorem faultOf_dic (w : World) {B : Nat} {p : Ps} (he : Env w B p) : Calls Tryd.prog 37 #[errAt p.D] w fun e w' => e = .returned (.int .i64 2) ∧ w = w' := by
  have a0 := asC_E
  have c1 := he.hdr
  have c2 := he.dic
  have hn := he.nodup
  have k1 := is_other w he (x := p.D) (y := p.H) (by simp [Ps.all]) (by simp [Ps.all]) (by intro e; simp [Ps.all, e] at hn)
  have K1 := Lib.hid k1
  clear he hn k1
  go_enter Tryd.func37, Tryd.ntmps37
  go_wp2_with fail
  refine K1.out.mono ?_
  rintro e w' ⟨rfl, rfl⟩
  go_wp2_with fail
  refine (is_same _ _).mono ?_
  rintro e w' ⟨rfl, rfl⟩
  go_wp2_with fail
  go_ret
  exact ⟨rfl, rfl⟩

theorem faultOf_sum (w : World) {B : Nat} {p : Ps} (he : Env w B p) : Calls Tryd.prog 37 #[errAt p.C] w fun e w' => e = .returned (.int .i64 3) ∧ w = w' := by
  have a0 := asC_E
  have c1 := he.hdr
  have c2 := he.dic
  have c3 := he.sum
  have hn := he.nodup
  have k1 := is_other w he (x := p.C) (y := p.H) (by simp [Ps.all]) (by simp [Ps.all]) (by intro e; simp [Ps.all, e] at hn)
  have k2 := is_other w he (x := p.C) (y := p.D) (by simp [Ps.all]) (by simp [Ps.all]) (by intro e; simp [Ps.all, e] at hn)
  have K1 := Lib.hid k1
  have K2 := Lib.hid k2
  clear he hn k1 k2
  go_enter Tryd.func37, Tryd.ntmps37
  go_wp2_with fail
  refine K1.out.mono ?_
  rintro e w' ⟨rfl, rfl⟩
  go_wp2_with fail
  refine K2.out.mono ?_
  rintro e w' ⟨rfl, rfl⟩
  go_wp2_with fail
  refine (is_same _ _).mono ?_
  rintro e w' ⟨rfl, rfl⟩
  go_wp2_with fail
  go_ret
  exact ⟨rfl, rfl⟩

theorem faultOf_unx (w : World) {B : Nat} {p : Ps} (he : Env w B p) : Calls Tryd.prog 37 #[errAt p.U] w fun e w' => e = .returned (.int .i64 4) ∧ w = w' := by
  have a0 := asC_E
  have c1 := he.hdr
  have c2 := he.dic
  have c3 := he.sum
  have c4 := he.unx
  have hn := he.nodup
  have k1 := is_other w he (x := p.U) (y := p.H) (by simp [Ps.all]) (by simp [Ps.all]) (by intro e; simp [Ps.all, e] at hn)
  have k2 := is_other w he (x := p.U) (y := p.D) (by simp [Ps.all]) (by simp [Ps.all]) (by intro e; simp [Ps.all, e] at hn)
  have k3 := is_other w he (x := p.U) (y := p.C) (by simp [Ps.all]) (by simp [Ps.all]) (by intro e; simp [Ps.all, e] at hn)
  have K1 := Lib.hid k1
  have K2 := Lib.hid k2
  have K3 := Lib.hid k3
  clear he hn k1 k2 k3
  go_enter Tryd.func37, Tryd.ntmps37
  go_wp2_with fail
  refine K1.out.mono ?_
  rintro e w' ⟨rfl, rfl⟩
  go_wp2_with fail
  refine K2.out.mono ?_
  rintro e w' ⟨rfl, rfl⟩
  go_wp2_with fail
  refine K3.out.mono ?_
  rintro e w' ⟨rfl, rfl⟩
  go_wp2_with fail
  refine (is_same _ _).mono ?_
  rintro e w' ⟨rfl, rfl⟩
  go_wp2_with fail
  go_ret
  exact ⟨rfl, rfl⟩

end Go.Proofs.YthfncdfcklbigaaDoor
