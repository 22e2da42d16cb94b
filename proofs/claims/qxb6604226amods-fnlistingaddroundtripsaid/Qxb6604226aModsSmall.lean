/-
  THE WALKS OF THE SMALL FUNCTIONS: zzHasSlash (15), zzHasPrefix (13), zzSameStrings (14), strings.CutPrefix (19), strings.IndexByte (20).
-/
import Derived.Test.Qxb6604226aModsChecked
import Derived.Test.Qxb6604226aModsPlain
import Derived.WalkKit
import Derived.WalkSpells
import Derived.WalkLawsBesides
import Derived.Lib.Bytealg
import Derived.Deep.Light
import Derived.Deep.QuietTactic
import Derived.BigQuiet
namespace Go.Proofs.Qxb6604226aMods
open Go.RowKit

set_option maxHeartbeats 1000000 in
set_option maxRecDepth 100000 in
theorem stringslite_any (s : ByteArray) (c : Int) (w : World) :
    Calls Trym.prog 24 #[.string s, .int .u8 c] w fun e w' => e = .returned (.int .i64 (Lib.indexByte s.data.toList c.toNat.toUInt8)) ∧ w' = w := by
  go_enter Trym.func24, Trym.ntmps24
  go_wp2
  rw [run_callFunc_extern Trym.func27 (by kernel_rfl) (by kernel_rfl) (by kernel_rfl) (e := Extern.BytealgIndexByte.indexByte) (by kernel_rfl), Lib.run_indexByteString]
  simp only [Result.andThen]
  rw [Oper.upon_value]
  go_wp2
  go_ret
  exact ⟨rfl, rfl⟩

set_option maxHeartbeats 400000 in
theorem index_any (s : ByteArray) (c : Int) (w : World) :
    Calls Trym.prog 20 #[.string s, .int .u8 c] w fun e w' => e = .returned (.int .i64 (Lib.indexByte s.data.toList c.toNat.toUInt8)) ∧ w' = w := by
  go_enter Trym.func20, Trym.ntmps20
  go_wp2_with (go_at_call 24; refine (stringslite_any _ _ _).mono ?_; rintro e w' ⟨rfl, rfl⟩)
  go_ret
  exact ⟨rfl, rfl⟩

set_option maxHeartbeats 400000 in
theorem slash_any (s : ByteArray) (w : World) (hs : s.size ≤ 1048576) :
    Calls Trym.prog 15 #[.string s] w fun e w' => e = .returned (.bool (slash s)) ∧ w' = w := by
  go_enter Trym.func15, Trym.ntmps15
  go_wp2_with fail
  go_loop [3] (fun i => ∃ k : Nat, k ≤ s.size ∧ i = .int .i64 k ∧ ((s.data.toList.take k).any fun b => b == 47) = false) (fun i => s.size - (intOf i).toNat)
  case atStart => exact ⟨0, Nat.zero_le _, rfl, rfl⟩
  case round =>
    obtain ⟨k, hk, rfl, hall⟩ := hrel
    have HA : Hid (((s.data.toList.take k).any fun b => b == 47) = false) := hall
    clear hall
    by_cases hlt : k < s.size
    · go_wp2
      · go_ret
        exact ⟨ret_bool (slash_yes s k hlt (by assumption)), rfl⟩
      · go_round
        case rel => exact ⟨k + 1, by omega, by go_num, slash_step s k hlt (by assumption) HA.out⟩
        case measure => simp [intOf]; omega
    · go_wp2
      go_ret
      exact ⟨ret_bool (slash_no s k hlt HA.out), rfl⟩

end Go.Proofs.Qxb6604226aMods
