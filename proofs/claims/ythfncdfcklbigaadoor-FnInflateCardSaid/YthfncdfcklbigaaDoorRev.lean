/-
  THE WALKS OF 'math/bits.Reverse8', 'Reverse16'.
-/
import Derived.Test.YthfncdfcklbigaaDoorKit
import Derived.Test.YthfncdfcklbigaaDoorTab
set_option linter.unusedVariables false
set_option linter.unusedSimpArgs false
namespace Go.Proofs.YthfncdfcklbigaaDoor
open Go.RowKit Flate
set_option maxRecDepth 100000

def rev8tab : ByteArray := ⟨#[0, 128, 64, 192, 32, 160, 96, 224, 16, 144, 80, 208, 48, 176, 112, 240, 8, 136, 72, 200, 40, 168, 104, 232, 24, 152, 88, 216, 56, 184, 120, 248, 4, 132, 68, 196, 36, 164, 100, 228, 20, 148, 84, 212, 52, 180, 116, 244, 12, 140, 76, 204, 44, 172, 108, 236, 28, 156, 92, 220, 60, 188, 124, 252, 2, 130, 66, 194, 34, 162, 98, 226, 18, 146, 82, 210, 50, 178, 114, 242, 10, 138, 74, 202, 42, 170, 106, 234, 26, 154, 90, 218, 58, 186, 122, 250, 6, 134, 70, 198, 38, 166, 102, 230, 22, 150, 86, 214, 54, 182, 118, 246, 14, 142, 78, 206, 46, 174, 110, 238, 30, 158, 94, 222, 62, 190, 126, 254, 1, 129, 65, 193, 33, 161, 97, 225, 17, 145, 81, 209, 49, 177, 113, 241, 9, 137, 73, 201, 41, 169, 105, 233, 25, 153, 89, 217, 57, 185, 121, 249, 5, 133, 69, 197, 37, 165, 101, 229, 21, 149, 85, 213, 53, 181, 117, 245, 13, 141, 77, 205, 45, 173, 109, 237, 29, 157, 93, 221, 61, 189, 125, 253, 3, 131, 67, 195, 35, 163, 99, 227, 19, 147, 83, 211, 51, 179, 115, 243, 11, 139, 75, 203, 43, 171, 107, 235, 27, 155, 91, 219, 59, 187, 123, 251, 7, 135, 71, 199, 39, 167, 103, 231, 23, 151, 87, 215, 55, 183, 119, 247, 15, 143, 79, 207, 47, 175, 111, 239, 31, 159, 95, 223, 63, 191, 127, 255]⟩

theorem rev8_all : ∀ y : Fin 256, ∃ h : y.1 < rev8tab.size, (rev8tab[y.1]'h).toNat = revB 8 y.1 := by decide +kernel

theorem rev8_at (x : Nat) (h : x < rev8tab.size) (hx : x < 256) : (rev8tab[x]'h).toNat = revB 8 x := (rev8_all ⟨x, hx⟩).2

set_option maxHeartbeats 400000 in
theorem reverse8_any (w : World) (x : Nat) (hx : x < 256) :
    Calls Tryd.prog 95 #[.int .u8 (x : Int)] w fun e w' => e = .returned (.int .u8 (revB 8 x : Nat)) ∧ w = w' := by
  go_enter Tryd.func95, Tryd.ntmps95
  go_wp2_with fail
  go_ret
  exact ⟨congrArg (fun n : Nat => Ending.returned (.int .u8 (n : Int))) (rev8_at x _ hx), rfl⟩

theorem rev16_eq (x a b : Nat) (ha : a = revB 8 (x / 256)) (hb : b = revB 8 (x % 256)) :
    bits .or .u16 (IntKind.u16.wrap (a : Int)) (IntKind.u16.wrap (IntKind.u16.wrap (b : Int) * 256)) = ((revB 16 x : Nat) : Int) := by
  have la : a < 256 := by rw [ha]; exact revB_lt 8 _
  have lb : b < 256 := by rw [hb]; exact revB_lt 8 _
  have e1 : IntKind.u16.wrap (a : Int) = (a : Int) := by rw [IntKind.wrap_u16]; omega
  have e2 : IntKind.u16.wrap (IntKind.u16.wrap (b : Int) * 256) = ((b * 256 : Nat) : Int) := by rw [IntKind.wrap_u16, IntKind.wrap_u16]; omega
  have e3 : revB 8 (x % 256) = revB 8 x := revB_mod 8 x
  rw [e1, e2, u16_or_nat _ _ (by omega) (by omega), Nat.or_comm, nat_join 8 _ _ (by omega) (by omega), show (16 : Nat) = 8 + 8 from rfl, revB_add, ← e3, ← hb]
  rw [show (2 : Nat) ^ 8 = 256 from rfl, ← ha]

set_option maxHeartbeats 400000 in
theorem reverse16_any (w : World) (x : Nat) (hx : x < 65536) :
    Calls Tryd.prog 105 #[.int .u16 (x : Int)] w fun e w' => e = .returned (.int .u16 (revB 16 x : Nat)) ∧ ∃ n, w' = w.drewN n := by
  have e0 : bits .and .u16 (x : Int) 255 = ((x % 256 : Nat) : Int) := by rw [show (255 : Int) = ((255 : Nat) : Int) from rfl, u16_and_nat _ _ hx (by omega), nat_mask8]
  have b1 : (x : Int) ≤ 65535 := by omega
  have b2 : (x : Int) / 256 < 256 := by omega
  have b3 : x / 256 < 256 := by omega
  have b4 : (0 : Int) ≤ (x : Int) / 256 := by omega
  have b5 : (0 : Int) ≤ (x : Int) % 256 := by omega
  have b6 : (x : Int) % 256 < 256 := by omega
  have b7 : x % 256 < 256 := by omega
  have b8 : ((x : Int) % 256).toNat = x % 256 := by omega
  go_enter Tryd.func105, Tryd.ntmps105
  go_wp2_with fail
  (go_quiet (fail))
  go_wp2_with fail
  go_ret
  exact ⟨congrArg (fun n : Int => Ending.returned (.int .u16 n)) (rev16_eq x _ _ (rev8_at _ _ b3) (rev8_at _ _ b7)), nq, rfl⟩

end Go.Proofs.YthfncdfcklbigaaDoor
