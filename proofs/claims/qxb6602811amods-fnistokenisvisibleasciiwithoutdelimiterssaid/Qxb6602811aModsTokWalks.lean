/-
  THE WALKS: zzBytes (5), zzTchar (6), strings.IndexByte (10) over internal/stringslite.IndexByte (11), isToken (9), ZZIsToken (7).
-/
import Derived.Test.Qxb6602811aModsChecked
import Derived.Test.Qxb6602811aModsPlain
import Derived.WalkKit
import Derived.WalkSpells
import Derived.WalkLawsBesides
import Derived.Lib.Bytealg
import Derived.Deep.Light
namespace Go.Proofs.Qxb6602811aMods
open Go.RowKit

set_option maxHeartbeats 1000000 in
set_option maxRecDepth 100000 in
theorem stringslite_any (s : ByteArray) (c : Int) (w : World) :
    Calls Trym.prog 11 #[.string s, .int .u8 c] w fun e w' => e = .returned (.int .i64 (Lib.indexByte s.data.toList c.toNat.toUInt8)) ∧ w' = w := by
  go_enter Trym.func11, Trym.ntmps11
  go_wp2
  rw [run_callFunc_extern Trym.func12 (by kernel_rfl) (by kernel_rfl) (by kernel_rfl) (e := Extern.BytealgIndexByte.indexByte) (by kernel_rfl), Lib.run_indexByteString]
  simp only [Result.andThen]
  rw [Oper.upon_value]
  go_wp2
  go_ret
  exact ⟨rfl, rfl⟩

set_option maxHeartbeats 400000 in
theorem index_any (s : ByteArray) (c : Int) (w : World) :
    Calls Trym.prog 10 #[.string s, .int .u8 c] w fun e w' => e = .returned (.int .i64 (Lib.indexByte s.data.toList c.toNat.toUInt8)) ∧ w' = w := by
  go_enter Trym.func10, Trym.ntmps10
  go_wp2_with (go_at_call 11; refine (stringslite_any _ _ _).mono ?_; rintro e w' ⟨rfl, rfl⟩)
  go_ret
  exact ⟨rfl, rfl⟩

theorem ret_bool {a b : Bool} (h : a = b) : Ending.returned (.bool a) = .returned (.bool b) := by rw [h]

set_option maxHeartbeats 400000 in
theorem bytes_yes (s : ByteArray) (w : World) (hs : s.size ≤ 1048576) :
    Calls Trym.prog 5 #[.string s] w fun e w' => e = .returned (.bool true) ∧ w' = w := by
  go_enter Trym.func5, Trym.ntmps5
  go_wp2
  go_ret
  exact ⟨rfl, rfl⟩

set_option maxHeartbeats 400000 in
theorem bytes_no (s : ByteArray) (w : World) (hs : ¬ s.size ≤ 1048576) :
    Calls Trym.prog 5 #[.string s] w fun e w' => e = .returned (.bool false) ∧ w' = w := by
  have h : (1048576 : Int) < (s.size : Int) := by omega
  go_enter Trym.func5, Trym.ntmps5
  go_wp2
  go_ret
  exact ⟨rfl, rfl⟩

set_option maxHeartbeats 1000000 in
theorem tchar_any (c : Int) (w : World) (h0 : 0 ≤ c) (h1 : c ≤ 255) :
    Calls Trym.prog 6 #[.int .u8 c] w fun e w' => e = .returned (.bool (tchar c)) ∧ w' = w := by
  go_enter Trym.func6, Trym.ntmps6
  go_wp2
  all_goals
    go_ret
    refine ⟨ret_bool ?_, rfl⟩
    go_light
    try simp only [beq_iff_eq, beq_eq_false_iff_ne] at *
    first
      | (refine (tchar_no c ?_).symm; omega)
      | (refine (tchar_yes c ?_ ?_ ?_).symm <;> omega)

set_option maxHeartbeats 400000 in
theorem tok_empty (s : ByteArray) (w : World) (hs : s.toList.isEmpty = true) :
    Calls Trym.prog 9 #[.string s] w fun e w' => e = .returned (.bool false) ∧ w' = w := by
  go_enter Trym.func9, Trym.ntmps9
  go_wp2
  go_ret
  exact ⟨rfl, rfl⟩

set_option maxHeartbeats 400000 in
theorem tok_some (s : ByteArray) (w : World) (hs : s.toList.isEmpty = false) (hm : s.size ≤ 1048576) :
    Calls Trym.prog 9 #[.string s] w fun e w' => e = .returned (.bool (allT s.data.toList)) ∧ w' = w := by
  go_enter Trym.func9, Trym.ntmps9
  go_wp2_with fail
  go_loop [3] (fun i => ∃ k : Nat, k ≤ s.size ∧ i = .int .i64 k ∧ allT (s.data.toList.take k) = true) (fun i => s.size - (intOf i).toNat)
  case atStart => exact ⟨0, Nat.zero_le _, rfl, rfl⟩
  case round =>
    obtain ⟨k, hk, rfl, hall⟩ := hrel
    have HA : Hid (allT (s.data.toList.take k) = true) := hall
    clear hall
    by_cases hlt : k < s.size
    · go_wp2_with (go_at_call 10; refine (index_any _ _ _).mono ?_; rintro e w' ⟨rfl, rfl⟩)
      all_goals first
        | (go_round
           case rel => go_light; refine ⟨k + 1, by omega, by go_num, step_yes s k hlt HA.out ?_⟩; omega
           case measure => simp [intOf]; omega)
        | (go_ret
           refine ⟨ret_bool (step_no s k hlt ?_), rfl⟩
           go_light
           omega)
    · go_wp2_with fail
      go_ret
      exact ⟨ret_bool (all_done s k hlt HA.out), rfl⟩

set_option maxHeartbeats 400000 in
theorem zz_empty (s : ByteArray) (w : World) (hs : s.toList.isEmpty = true) :
    Calls Trym.prog 7 #[.string s] w fun e w' => e = .returned (.bool false) ∧ w' = w := by
  go_enter Trym.func7, Trym.ntmps7
  go_wp2_with (go_at_call 9; refine (tok_empty _ _ hs).mono ?_; rintro e w' ⟨rfl, rfl⟩)
  go_ret
  exact ⟨rfl, rfl⟩

set_option maxHeartbeats 400000 in
theorem zz_some (s : ByteArray) (w : World) (hs : s.toList.isEmpty = false) (hm : s.size ≤ 1048576) :
    Calls Trym.prog 7 #[.string s] w fun e w' => e = .returned (.bool (allT s.data.toList)) ∧ w' = w := by
  go_enter Trym.func7, Trym.ntmps7
  go_wp2_with (go_at_call 9; refine (tok_some _ _ hs hm).mono ?_; rintro e w' ⟨rfl, rfl⟩)
  go_ret
  exact ⟨rfl, rfl⟩

end Go.Proofs.Qxb6602811aMods
