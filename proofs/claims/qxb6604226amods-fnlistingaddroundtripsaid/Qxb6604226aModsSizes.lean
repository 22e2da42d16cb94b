/-
  THE WALKS OF THE TWO SIZE CHECKS: zzBytes_FnListingAddExact (6), zzNamesBytes (7). Of their answers only the range is wanted.
-/
import Derived.Test.Qxb6604226aModsChecked
import Derived.Test.Qxb6604226aModsPlain
import Derived.WalkKit
import Derived.WalkSpells
import Derived.WalkLawsBesides
import Derived.Deep.Light
namespace Go.Proofs.Qxb6604226aMods
open Go.RowKit

/-- it returns some bool -/
def SomeBool (e : Ending) : Prop := ∃ b : Bool, e = .returned (.bool b)

set_option maxHeartbeats 400000 in
theorem names_many (ao : Option Addr) (n cap : Nat) (w : World) (hn : 65536 < n) :
    Calls Trym.prog 7 #[.slice ao n cap] w fun e w' => ∃ t : Int, e = .returned (.int .i64 t) ∧ -1 ≤ t ∧ t ≤ 1048576 ∧ w' = w := by
  go_enter Trym.func7, Trym.ntmps7
  go_wp2
  go_ret
  exact ⟨-1, rfl, by omega, by omega, rfl⟩

set_option maxHeartbeats 400000 in
theorem names_none (ao : Option Addr) (cap : Nat) (w : World) :
    Calls Trym.prog 7 #[.slice ao 0 cap] w fun e w' => ∃ t : Int, e = .returned (.int .i64 t) ∧ -1 ≤ t ∧ t ≤ 1048576 ∧ w' = w := by
  go_enter Trym.func7, Trym.ntmps7
  go_wp2
  refine wp_loop_rounds 1 ?_
  rw [rounds_succ]
  go_wp2
  go_ret
  exact ⟨0, rfl, by omega, by omega, rfl⟩

set_option maxHeartbeats 400000 in
theorem names_row (b off n cap : Nat) (Sx : Nat → ByteArray) (w : World) (hn : n ≤ 65536) (hc : ∀ i, i < n → w.cell? ⟨b, off + i, none⟩ = some (.string (Sx i))) :
    Calls Trym.prog 7 #[.slice (some ⟨b, off, none⟩) n cap] w fun e w' => ∃ t : Int, e = .returned (.int .i64 t) ∧ -1 ≤ t ∧ t ≤ 1048576 ∧ w' = w := by
  go_enter Trym.func7, Trym.ntmps7
  go_wp2
  go_loop [3, 4] (fun tot i => ∃ (k : Nat) (t : Int), k ≤ n ∧ i = .int .i64 k ∧ tot = .int .i64 t ∧ 0 ≤ t ∧ t ≤ 1048576) (fun _ i => n - (intOf i).toNat)
  case atStart => exact ⟨0, _, Nat.zero_le _, rfl, rfl, by omega, by omega⟩
  case round =>
    obtain ⟨k, t, hk, rfl, rfl, h0, h1⟩ := hrel
    by_cases hlt : k < n
    · have g1 := hc k hlt
      clear hc
      by_cases hz : (Sx k).size ≤ 1048576
      · by_cases ht : t + (Sx k).size ≤ 1048576
        · go_wp2
          go_round
          case rel => exact ⟨k + 1, _, by omega, by go_num, rfl, by omega, by omega⟩
          case measure => simp [intOf]; omega
        · go_wp2
          go_ret
          exact ⟨-1, rfl, by omega, by omega, rfl⟩
      · go_wp2
        go_ret
        exact ⟨-1, rfl, by omega, by omega, rfl⟩
    · clear hc
      go_wp2
      go_ret
      exact ⟨t, rfl, by omega, by omega, rfl⟩

/-- zzNamesBytes answers -1 or a number up to 1<<20; it only reads. -/
theorem names_any (ao : Option Addr) (n cap B : Nat) (Sx : Nat → ByteArray) (w : World) (h : RowAt w B ao n Sx) :
    Calls Trym.prog 7 #[.slice ao n cap] w fun e w' => ∃ t : Int, e = .returned (.int .i64 t) ∧ -1 ≤ t ∧ t ≤ 1048576 ∧ w' = w := by
  by_cases hn : 65536 < n
  · exact names_many ao n cap w hn
  · rcases h with h | ⟨b, off, rfl, _, hc⟩
    · subst h
      exact names_none ao cap w
    · exact names_row b off n cap Sx w (by omega) hc

set_option maxHeartbeats 400000 in
theorem bytes_off (dir path : ByteArray) (ao : Option Addr) (n cap : Nat) (w : World) (hn : n ≤ 9223372036854775807) (h : ¬ (dir.size ≤ 1048576 ∧ n ≤ 1048576 ∧ dir.size + n ≤ 1048576)) :
    Calls Trym.prog 6 #[.string dir, .slice ao n cap, .string path] w fun e w' => SomeBool e ∧ w' = w := by
  by_cases h1 : dir.size ≤ 1048576
  · by_cases h2 : n ≤ 1048576
    · have h3 : (1048576 : Int) < dir.size + n := by omega
      clear h
      go_enter Trym.func6, Trym.ntmps6
      go_wp2
      go_ret
      exact ⟨⟨_, rfl⟩, rfl⟩
    · clear h
      go_enter Trym.func6, Trym.ntmps6
      go_wp2
      go_ret
      exact ⟨⟨_, rfl⟩, rfl⟩
  · clear h
    go_enter Trym.func6, Trym.ntmps6
    go_wp2
    go_ret
    exact ⟨⟨_, rfl⟩, rfl⟩

set_option maxHeartbeats 400000 in
theorem bytes_none (dir path : ByteArray) (ao : Option Addr) (cap : Nat) (w : World) (h1 : dir.size ≤ 1048576) :
    Calls Trym.prog 6 #[.string dir, .slice ao 0 cap, .string path] w fun e w' => SomeBool e ∧ w' = w := by
  go_enter Trym.func6, Trym.ntmps6
  go_wp2
  refine wp_loop_rounds 1 ?_
  rw [rounds_succ]
  go_wp2
  all_goals
    go_ret
    exact ⟨⟨_, rfl⟩, rfl⟩

set_option maxHeartbeats 400000 in
theorem bytes_row (dir path : ByteArray) (b off n cap : Nat) (Sx : Nat → ByteArray) (w : World) (h1 : dir.size ≤ 1048576) (h2 : n ≤ 1048576) (h3 : dir.size + n ≤ 1048576)
    (hc : ∀ i, i < n → w.cell? ⟨b, off + i, none⟩ = some (.string (Sx i))) :
    Calls Trym.prog 6 #[.string dir, .slice (some ⟨b, off, none⟩) n cap, .string path] w fun e w' => SomeBool e ∧ w' = w := by
  go_enter Trym.func6, Trym.ntmps6
  go_wp2
  go_loop [7, 8] (fun tot i => ∃ (k : Nat) (t : Int), k ≤ n ∧ i = .int .i64 k ∧ tot = .int .i64 t ∧ 0 ≤ t ∧ t ≤ 1048576) (fun _ i => n - (intOf i).toNat)
  case atStart => exact ⟨0, _, Nat.zero_le _, rfl, rfl, by omega, by omega⟩
  case round =>
    obtain ⟨k, t, hk, rfl, rfl, h0, h1⟩ := hrel
    by_cases hlt : k < n
    · have g1 := hc k hlt
      clear hc
      by_cases hz : (Sx k).size ≤ 1048576
      · by_cases ht : t + (Sx k).size ≤ 1048576
        · go_wp2
          go_round
          case rel => exact ⟨k + 1, _, by omega, by go_num, rfl, by omega, by omega⟩
          case measure => simp [intOf]; omega
        · go_wp2
          go_ret
          exact ⟨⟨_, rfl⟩, rfl⟩
      · go_wp2
        go_ret
        exact ⟨⟨_, rfl⟩, rfl⟩
    · clear hc
      go_wp2
      all_goals
        go_ret
        exact ⟨⟨_, rfl⟩, rfl⟩

/-- the size check answers, and only reads -/
theorem bytes_any (dir path : ByteArray) (ao : Option Addr) (n cap B : Nat) (Sx : Nat → ByteArray) (w : World) (hn : n ≤ 9223372036854775807) (h : RowAt w B ao n Sx) :
    Calls Trym.prog 6 #[.string dir, .slice ao n cap, .string path] w fun e w' => SomeBool e ∧ w' = w := by
  by_cases hs : dir.size ≤ 1048576 ∧ n ≤ 1048576 ∧ dir.size + n ≤ 1048576
  · obtain ⟨h1, h2, h3⟩ := hs
    rcases h with h | ⟨b, off, rfl, _, hc⟩
    · subst h
      exact bytes_none dir path ao cap w h1
    · exact bytes_row dir path b off n cap Sx w h1 h2 h3 hc
  · exact bytes_off dir path ao n cap w hn hs

end Go.Proofs.Qxb6604226aMods
