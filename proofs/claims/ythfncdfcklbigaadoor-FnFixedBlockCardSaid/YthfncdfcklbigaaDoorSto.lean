/-
  'spec.Stored', walked.
-/
import Derived.Test.YthfncdfcklbigaaDoorLaw
import Derived.IntWalk
set_option linter.unusedVariables false
set_option linter.unusedSimpArgs false
namespace Go.Proofs.YthfncdfcklbigaaDoor
open Go.RowKit Go.IntWalk Flate
set_option maxRecDepth 100000

theorem u8_not (x : Nat) (hx : x < 256) : bits .xor .u8 IntKind.u8.max (x : Int) = 255 - (x : Int) := by
  have : ∀ k : Fin 256, bits .xor .u8 IntKind.u8.max (k.1 : Int) = 255 - (k.1 : Int) := by decide +kernel
  exact this ⟨x, hx⟩

theorem head_cells (n : Nat) (hn : n ≤ 65535) (last : Bool) :
    ((stHead last n).map byteV).toArray = #[.int .u8 (if last then 1 else 0), .int .u8 ((n : Int) % 256), .int .u8 ((n : Int) / 256), .int .u8 (bits .xor .u8 IntKind.u8.max ((n : Int) % 256)), .int .u8 (bits .xor .u8 IntKind.u8.max ((n : Int) / 256))] := by
  have h1 : bits .xor .u8 IntKind.u8.max ((n : Int) % 256) = 255 - (n : Int) % 256 := by
    have := u8_not (n % 256) (Nat.mod_lt _ (by omega))
    rw [Int.natCast_emod] at this
    exact this
  have h2 : bits .xor .u8 IntKind.u8.max ((n : Int) / 256) = 255 - (n : Int) / 256 := by
    have := u8_not (n / 256) (by omega)
    rw [Int.natCast_ediv] at this
    exact this
  rw [h1, h2]
  have e1 : (UInt8.ofNat n).toNat = n % 256 := by simp
  have e2 : (UInt8.ofNat (n / 256)).toNat = n / 256 := by simp; omega
  have e3 : (~~~ UInt8.ofNat n).toNat = 255 - n % 256 := by
    have := not_byte (n % 256) (Nat.mod_lt _ (by omega))
    rw [show UInt8.ofNat (n % 256) = UInt8.ofNat n from by apply UInt8.toNat_inj.1; simp] at this
    exact this
  have e4 := not_byte (n / 256) (by omega)
  unfold stHead
  simp only [List.map_cons, List.map_nil, byteV, e1, e2, e3, e4]
  cases last
  · simp; omega
  · simp; omega

theorem stored_bw (w : World) (base : Option Addr) (data : List UInt8) (cap : Nat) (hd : data = [] ∨ Bytes w base data) (hnil : base = none → cap = 0) (hl : data.length ≤ 65535) (last : Bool) :
    Calls Tryd.prog 22 #[.slice base data.length cap, .bool last] w fun e w' => ∃ v, e = .returned v ∧ Own w' w.heap.size v (stHead last data.length ++ data) ∧ Frm (fun _ _ => False) w w' := by
  have hc := head_cells data.length hl last
  have hsl : (stHead last data.length).length = 5 := rfl
  have ho := own_new w (stHead last data.length) (by rw [hsl]; simp [maxLen])
  rw [hc, hsl] at ho
  have hf1 := (Frm.refl (fun _ _ => False) w).alloc (.cells #[.int .u8 (if last then 1 else 0), .int .u8 ((data.length : Int) % 256), .int .u8 ((data.length : Int) / 256), .int .u8 (bits .xor .u8 IntKind.u8.max ((data.length : Int) % 256)), .int .u8 (bits .xor .u8 IntKind.u8.max ((data.length : Int) / 256))] 5)
  obtain ⟨v', w2, hrun, hown, hf2, _⟩ := append_bw _ w.heap.size _ _ ho base data cap (hd.imp id fun h => h.keep hf1 (fun a _ j _ e => e)) hnil (by rw [hsl]; omega) hf1.size
  have hf := ho.fresh hf1 (Nat.le_refl _) hf2
  obtain ⟨n, hn⟩ : ∃ n, n = data.length := ⟨_, rfl⟩
  rw [← hn] at hl hrun ⊢
  rw [← hn] at hown
  have c1 : (n : Int) ≤ 65535 := by omega
  have HE := Lib.hid (And.intro hown hf)
  have hr := fun ty => hrun ty
  clear hl hc hsl ho hf1 hrun hown hf2 hf hn hd hnil
  cases last
  all_goals
    go_enter Tryd.func22, Tryd.ntmps22
    go_wp2_with (at_builtin; refine wpList_append_by (by rfl) (.tmp 23) (.tmp 24) 22 (by rfl) _ _ (by rfl) (by rfl) (hr _) ?_)
    go_ret
    exact ⟨_, rfl, HE.out.1, HE.out.2⟩

theorem stored_any (w : World) (base : Option Addr) (data : List UInt8) (cap : Nat) (hd : Bt w base data cap) (hl : data.length ≤ 65535) (last : Bool) :
    Calls Tryd.prog 22 #[.slice base data.length cap, .bool last] w fun e w' => ∃ v, e = .returned v ∧ Own w' w.heap.size v (stHead last data.length ++ data) ∧ Frm (fun _ _ => False) w w' :=
  stored_bw w base data cap (.inr hd.bytes) hd.nilc hl last

end Go.Proofs.YthfncdfcklbigaaDoor
