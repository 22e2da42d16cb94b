/-
  MORE WALKS FOR FnListingAddRoundTrip: its size check (16), Directory (17), strings.HasSuffix (22).
-/
import Derived.Test.Qxb6604226aModsSizes
namespace Go.Proofs.Qxb6604226aMods
open Go.RowKit

/-- it returns a string of at most so many bytes -/
def SomeString (e : Ending) (k : Nat) : Prop := ∃ D : ByteArray, e = .returned (.string D) ∧ D.size ≤ k

theorem app_size (d : ByteArray) (hs : d.size ≤ 65536) : (d ++ ⟨#[47]⟩ : ByteArray).size ≤ 65537 := by
  rw [ByteArray.size_append]
  have : (⟨#[47]⟩ : ByteArray).size = 1 := rfl
  omega

set_option maxHeartbeats 400000 in
/-- Directory hands back some text, at most one byte longer. -/
theorem directory_any (d : ByteArray) (w : World) (hs : d.size ≤ 65536) :
    Calls Trym.prog 17 #[.string d] w fun e w' => SomeString e 65537 ∧ w' = w := by
  go_enter Trym.func17, Trym.ntmps17
  go_wp2
  all_goals
    go_ret
    first
      | exact ⟨⟨d, rfl, by omega⟩, rfl⟩
      | exact ⟨⟨d ++ ⟨#[47]⟩, rfl, app_size d hs⟩, rfl⟩

set_option maxHeartbeats 400000 in
theorem bytes2_off (dir name rest : ByteArray) (dp : Bool) (ao : Option Addr) (n cap : Nat) (w : World) (hn : n ≤ 9223372036854775807) (h : ¬ (dir.size ≤ 1048576 ∧ n ≤ 1048576 ∧ dir.size + n ≤ 1048576)) :
    Calls Trym.prog 16 #[.string dir, .slice ao n cap, .string name, .string rest, .bool dp] w fun e w' => SomeBool e ∧ w' = w := by
  by_cases h1 : dir.size ≤ 1048576
  · by_cases h2 : n ≤ 1048576
    · have h3 : (1048576 : Int) < dir.size + n := by omega
      clear h
      go_enter Trym.func16, Trym.ntmps16
      go_wp2
      go_ret
      exact ⟨⟨_, rfl⟩, rfl⟩
    · clear h
      go_enter Trym.func16, Trym.ntmps16
      go_wp2
      go_ret
      exact ⟨⟨_, rfl⟩, rfl⟩
  · clear h
    go_enter Trym.func16, Trym.ntmps16
    go_wp2
    go_ret
    exact ⟨⟨_, rfl⟩, rfl⟩

set_option maxHeartbeats 400000 in
theorem bytes2_none (dir name rest : ByteArray) (dp : Bool) (ao : Option Addr) (cap : Nat) (w : World) (h1 : dir.size ≤ 1048576) :
    Calls Trym.prog 16 #[.string dir, .slice ao 0 cap, .string name, .string rest, .bool dp] w fun e w' => SomeBool e ∧ w' = w := by
  go_enter Trym.func16, Trym.ntmps16
  go_wp2
  refine wp_loop_rounds 1 ?_
  rw [rounds_succ]
  go_wp2
  all_goals
    go_ret
    exact ⟨⟨_, rfl⟩, rfl⟩

set_option maxHeartbeats 400000 in
theorem bytes2_row (dir name rest : ByteArray) (dp : Bool) (b off n cap : Nat) (Sx : Nat → ByteArray) (w : World) (h1 : dir.size ≤ 1048576) (h2 : n ≤ 1048576) (h3 : dir.size + n ≤ 1048576)
    (hc : ∀ i, i < n → w.cell? ⟨b, off + i, none⟩ = some (.string (Sx i))) :
    Calls Trym.prog 16 #[.string dir, .slice (some ⟨b, off, none⟩) n cap, .string name, .string rest, .bool dp] w fun e w' => SomeBool e ∧ w' = w := by
  go_enter Trym.func16, Trym.ntmps16
  go_wp2
  go_loop [11, 12] (fun tot i => ∃ (k : Nat) (t : Int), k ≤ n ∧ i = .int .i64 k ∧ tot = .int .i64 t ∧ 0 ≤ t ∧ t ≤ 1048576) (fun _ i => n - (intOf i).toNat)
  case atStart => exact ⟨0, _, Nat.zero_le _, rfl, rfl, by omega, by omega⟩
  case round =>
    obtain ⟨k, t, hk, rfl, rfl, h0, h1⟩ := hrel
    by_cases hlt : k < n
    · have g1 := hc k hlt
      clear hc
      by_cases hz : (Sx k).size ≤ 1048576
      · by_cases ht : t + (Sx k).size ≤ 1048576
        · go_wp2
          go_round
          case rel => exact ⟨k + 1, _, by omega, by go_num, rfl, by omega, by omega⟩
          case measure => simp [intOf]; omega
        · go_wp2
          go_ret
          exact ⟨⟨_, rfl⟩, rfl⟩
      · go_wp2
        go_ret
        exact ⟨⟨_, rfl⟩, rfl⟩
    · clear hc
      go_wp2
      all_goals
        go_ret
        exact ⟨⟨_, rfl⟩, rfl⟩

/-- the size check answers, and only reads -/
theorem bytes2_any (dir name rest : ByteArray) (dp : Bool) (ao : Option Addr) (n cap B : Nat) (Sx : Nat → ByteArray) (w : World) (hn : n ≤ 9223372036854775807) (h : RowAt w B ao n Sx) :
    Calls Trym.prog 16 #[.string dir, .slice ao n cap, .string name, .string rest, .bool dp] w fun e w' => SomeBool e ∧ w' = w := by
  by_cases hs : dir.size ≤ 1048576 ∧ n ≤ 1048576 ∧ dir.size + n ≤ 1048576
  · obtain ⟨h1, h2, h3⟩ := hs
    rcases h with h | ⟨b, off, rfl, _, hc⟩
    · subst h
      exact bytes2_none dir name rest dp ao cap w h1
    · exact bytes2_row dir name rest dp b off n cap Sx w h1 h2 h3 hc
  · exact bytes2_off dir name rest dp ao n cap w hn hs

end Go.Proofs.Qxb6604226aMods
