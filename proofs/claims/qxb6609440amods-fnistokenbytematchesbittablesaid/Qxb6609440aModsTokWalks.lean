/-
  THE WALKS: strings.IndexByte (17) over internal/stringslite.IndexByte (18), isTokenByte (14), ZZisTokenByte (6), zzTokenByte (7).
-/
import Derived.Test.Qxb6609440aModsChecked
import Derived.Test.Qxb6609440aModsPlain
import Derived.WalkKit
import Derived.WalkSpells
import Derived.WalkLawsBesides
import Derived.Lib.Bytealg
import Derived.Deep.Light
namespace Go.Proofs.Qxb6609440aMods
open Go.RowKit

set_option maxHeartbeats 1000000 in
set_option maxRecDepth 100000 in
theorem stringslite_any (s : ByteArray) (c : Int) (w : World) :
    Calls Trym.prog 18 #[.string s, .int .u8 c] w fun e w' => e = .returned (.int .i64 (Lib.indexByte s.data.toList c.toNat.toUInt8)) ∧ w' = w := by
  go_enter Trym.func18, Trym.ntmps18
  go_wp2
  rw [run_callFunc_extern Trym.func19 (by kernel_rfl) (by kernel_rfl) (by kernel_rfl) (e := Extern.BytealgIndexByte.indexByte) (by kernel_rfl), Lib.run_indexByteString]
  simp only [Result.andThen]
  rw [Oper.upon_value]
  go_wp2
  go_ret
  exact ⟨rfl, rfl⟩

set_option maxHeartbeats 400000 in
theorem index_any (s : ByteArray) (c : Int) (w : World) :
    Calls Trym.prog 17 #[.string s, .int .u8 c] w fun e w' => e = .returned (.int .i64 (Lib.indexByte s.data.toList c.toNat.toUInt8)) ∧ w' = w := by
  go_enter Trym.func17, Trym.ntmps17
  go_wp2_with (go_at_call 18; refine (stringslite_any _ _ _).mono ?_; rintro e w' ⟨rfl, rfl⟩)
  go_ret
  exact ⟨rfl, rfl⟩

set_option maxHeartbeats 400000 in
theorem tokenByte_any (c : Int) (w : World) (h0 : 0 ≤ c) (h1 : c ≤ 255) :
    Calls Trym.prog 7 #[.int .u8 c] w fun e w' => e = .returned (.bool (tab c)) ∧ w' = w := by
  go_enter Trym.func7, Trym.ntmps7
  go_wp2
  · go_ret
    exact ⟨ret_bool (tab_low c (by assumption)), rfl⟩
  · go_ret
    exact ⟨ret_bool (tab_high c (by assumption) (by assumption)), rfl⟩
  · go_ret
    exact ⟨ret_bool (tab_none c (by assumption)), rfl⟩

set_option maxHeartbeats 400000 in
theorem isToken_any (c : Int) (w : World) (h0 : 0 ≤ c) (h1 : c ≤ 255) :
    Calls Trym.prog 14 #[.int .u8 c] w fun e w' => e = .returned (.bool (tok c)) ∧ w' = w := by
  go_enter Trym.func14, Trym.ntmps14
  go_wp2_with (go_at_call 17; refine (index_any _ _ _).mono ?_; rintro e w' ⟨rfl, rfl⟩)
  all_goals
    go_ret
    refine ⟨ret_bool ?_, rfl⟩
    go_light
    rw [Bool.eq_iff_iff]
    simp only [tok, Bool.or_eq_true, Bool.and_eq_true, decide_eq_true_eq, true_iff]
    omega

set_option maxHeartbeats 400000 in
theorem zzIsToken_any (c : Int) (w : World) (h0 : 0 ≤ c) (h1 : c ≤ 255) :
    Calls Trym.prog 6 #[.int .u8 c] w fun e w' => e = .returned (.bool (tok c)) ∧ w' = w := by
  go_enter Trym.func6, Trym.ntmps6
  go_wp2_with (go_at_call 14; refine (isToken_any _ _ h0 h1).mono ?_; rintro e w' ⟨rfl, rfl⟩)
  go_ret
  exact ⟨rfl, rfl⟩

end Go.Proofs.Qxb6609440aMods
