/-
  THE PLAIN LAW: no Go in sight: what isTokenByte and zzTokenByte answer of a byte is the same, byte for byte.
-/
import Derived.Lib.Bytealg
import Derived.WalkKit
namespace Go.Proofs.Qxb6609440aMods

/-- what isTokenByte answers -/
def tok (c : Int) : Bool :=
  (decide (97 ≤ c) && decide (c ≤ 122)) || (decide (65 ≤ c) && decide (c ≤ 90)) || (decide (48 ≤ c) && decide (c ≤ 57)) ||
    decide (0 ≤ Lib.indexByte [45, 46, 95, 47, 58, 43, 61, 64, 37, 126, 33, 63, 44] (UInt8.ofNat c.toNat))

/-- what zzTokenByte answers -/
def tab (c : Int) : Bool :=
  if c < 64 then bits BinOp.and IntKind.u64 (12105667148307759104 / 2 ^ c.toNat) 1 == 1
  else if c < 128 then bits BinOp.and IntKind.u64 (5188146764422578175 / 2 ^ (c - 64).toNat) 1 == 1
  else false

theorem tok_tab_nat : ∀ n : Fin 256, tok (n.val : Int) = tab (n.val : Int) := by decide +kernel

theorem tok_tab (c : Int) (h0 : 0 ≤ c) (h1 : c ≤ 255) : tok c = tab c := by
  obtain ⟨n, rfl⟩ := Int.eq_ofNat_of_zero_le h0
  exact tok_tab_nat ⟨n, by omega⟩

theorem tab_low (c : Int) (h : c < 64) : (bits BinOp.and IntKind.u64 (12105667148307759104 / 2 ^ c.toNat) 1 == 1) = tab c := by rw [tab, if_pos h]
theorem tab_high (c : Int) (h0 : 64 ≤ c) (h : c < 128) : (bits BinOp.and IntKind.u64 (5188146764422578175 / 2 ^ (c - 64).toNat) 1 == 1) = tab c := by rw [tab, if_neg (by omega), if_pos h]
theorem tab_none (c : Int) (h : 128 ≤ c) : false = tab c := by rw [tab, if_neg (by omega), if_neg (by omega)]

theorem ret_bool {a b : Bool} (h : a = b) : Ending.returned (.bool a) = .returned (.bool b) := by rw [h]

end Go.Proofs.Qxb6609440aMods
