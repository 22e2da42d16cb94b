/-
  THE WALKS OF THE SMALL FUNCTIONS: zzHasPrefix (13), zzSameStrings (14), strings.CutPrefix (19).
-/
import Derived.Test.Qxb6604226aModsChecked
import Derived.Test.Qxb6604226aModsPlain
import Derived.WalkKit
import Derived.WalkSpells
import Derived.WalkLawsBesides
import Derived.Lib.Bytealg
import Derived.Deep.Light
import Derived.Deep.QuietTactic
import Derived.BigQuiet
namespace Go.Proofs.Qxb6604226aMods
open Go.RowKit


set_option maxHeartbeats 400000 in
theorem prefix_short (s p : ByteArray) (w : World) (h : ¬ p.size ≤ s.size) :
    Calls Trym.prog 13 #[.string s, .string p] w fun e w' => e = .returned (.bool (Lib.hasPrefix s.data.toList p.data.toList)) ∧ ∃ m, w' = w.drewN m := by
  go_enter Trym.func13, Trym.ntmps13
  go_wp2
  go_ret
  exact ⟨ret_bool (prefix_long s p h), 0, rfl⟩

set_option maxHeartbeats 400000 in
theorem prefix_fits (s p : ByteArray) (w : World) (h : p.size ≤ s.size) (hs : s.size ≤ 1048576) :
    Calls Trym.prog 13 #[.string s, .string p] w fun e w' => e = .returned (.bool (Lib.hasPrefix s.data.toList p.data.toList)) ∧ ∃ m, w' = w.drewN m := by
  go_enter Trym.func13, Trym.ntmps13
  go_wp2_with fail
  go_loopw [5] (fun i wr => ∃ k m : Nat, k ≤ p.size ∧ i = .int .i64 k ∧ wr = w.drewN m ∧ s.data.toList.take k = p.data.toList.take k) (fun i _ => p.size - (intOf i).toNat)
  case atStart => exact ⟨0, 0, Nat.zero_le _, rfl, rfl, rfl⟩
  case round =>
    obtain ⟨k, m, hk, rfl, rfl, hall⟩ := hrel
    have HA : Hid (s.data.toList.take k = p.data.toList.take k) := hall
    clear hall
    by_cases hlt : k < p.size
    · have hlt' : k < s.size := by omega
      go_wp2
      go_quiet (fail)
      go_wp2
      · have hne : ((s[k].toNat : Int) != (p[k].toNat : Int)) = true := by assumption
        go_ret
        exact ⟨ret_bool (prefix_off s p k hlt' hlt (by simpa using hne)), _, World.drewN_drewN ..⟩
      · have hne : ((s[k].toNat : Int) != (p[k].toNat : Int)) = false := by assumption
        go_roundw
        case rel => exact ⟨k + 1, _, by omega, by go_num, rfl, prefix_step s p k hlt' hlt HA.out (by simpa using hne)⟩
        case measure => simp [intOf]; omega
    · go_wp2
      go_ret
      exact ⟨ret_bool (prefix_done s p k hlt HA.out), m, rfl⟩

/-- zzHasPrefix answers as strings.HasPrefix; it only reads (its test draws its order). -/
theorem prefix_any (s p : ByteArray) (w : World) (hs : s.size ≤ 1048576) :
    Calls Trym.prog 13 #[.string s, .string p] w fun e w' => e = .returned (.bool (Lib.hasPrefix s.data.toList p.data.toList)) ∧ ∃ m, w' = w.drewN m := by
  by_cases h : p.size ≤ s.size
  · exact prefix_fits s p w h hs
  · exact prefix_short s p w h

set_option maxHeartbeats 400000 in
theorem same_empty (ao bo : Option Addr) (c1 c2 : Nat) (w : World) :
    Calls Trym.prog 14 #[.slice ao 0 c1, .slice bo 0 c2] w fun e w' => e = .returned (.bool true) ∧ ∃ m, w' = w.drewN m := by
  go_enter Trym.func14, Trym.ntmps14
  go_wp2
  refine wp_loop_rounds 1 ?_
  rw [rounds_succ]
  go_wp2
  go_ret
  exact ⟨rfl, 0, rfl⟩

set_option maxHeartbeats 400000 in
theorem same_row (b1 o1 b2 o2 n c1 c2 : Nat) (Sx : Nat → ByteArray) (w : World) (hn : n ≤ 1048576)
    (h1 : ∀ i, i < n → w.cell? ⟨b1, o1 + i, none⟩ = some (.string (Sx i))) (h2 : ∀ i, i < n → w.cell? ⟨b2, o2 + i, none⟩ = some (.string (Sx i))) :
    Calls Trym.prog 14 #[.slice (some ⟨b1, o1, none⟩) n c1, .slice (some ⟨b2, o2, none⟩) n c2] w fun e w' => e = .returned (.bool true) ∧ ∃ m, w' = w.drewN m := by
  go_enter Trym.func14, Trym.ntmps14
  go_wp2
  go_loopw [5] (fun i wr => ∃ k m : Nat, k ≤ n ∧ i = .int .i64 k ∧ wr = w.drewN m) (fun i _ => n - (intOf i).toNat)
  case atStart => exact ⟨0, 0, Nat.zero_le _, rfl, rfl⟩
  case round =>
    obtain ⟨k, m, hk, rfl, rfl⟩ := hrel
    by_cases hlt : k < n
    · have g1 := h1 k hlt
      have g2 := h2 k hlt
      clear h1 h2
      go_wp2
      go_quiet (fail)
      go_wp2
      go_roundw
      case rel => exact ⟨k + 1, _, by omega, by go_num, rfl⟩
      case measure => simp [intOf]; omega
    · go_wp2
      go_ret
      exact ⟨rfl, m, rfl⟩

/-- zzSameStrings of two rows that hold the same strings: true; it only reads. -/
theorem same_any (ao bo : Option Addr) (n c1 c2 B1 B2 : Nat) (Sx : Nat → ByteArray) (w : World) (hn : n ≤ 1048576) (h1 : RowAt w B1 ao n Sx) (h2 : RowAt w B2 bo n Sx) :
    Calls Trym.prog 14 #[.slice ao n c1, .slice bo n c2] w fun e w' => e = .returned (.bool true) ∧ ∃ m, w' = w.drewN m := by
  by_cases h0 : n = 0
  · subst h0
    exact same_empty ao bo c1 c2 w
  · rcases h1 with h1 | ⟨b1, o1, rfl, _, g1⟩
    · exact absurd h1 h0
    rcases h2 with h2 | ⟨b2, o2, rfl, _, g2⟩
    · exact absurd h2 h0
    exact same_row b1 o1 b2 o2 n c1 c2 Sx w hn g1 g2

set_option maxHeartbeats 1000000 in
/-- strings.CutPrefix where the prefix is there: what lies behind it. -/
theorem cut_hit (s p : ByteArray) (w : World) (h : Lib.hasPrefix s.data.toList p.data.toList = true) :
    Calls Trym.prog 19 #[.string s, .string p] w fun e w' => e = .returned (.tuple #[.string (s.extract p.size s.size), .bool true]) ∧ w' = w := by
  have h1 : p.size ≤ s.size := prefix_le s p h
  have h2 : ((s.extract 0 p.size).toList == p.toList) = true := by
    have e := Lib.hasPrefix_raw s p
    rw [h, Bool.and_eq_true] at e
    exact e.2
  clear h
  go_enter Trym.func19, Trym.ntmps19
  go_wp2
  go_ret2
  exact ⟨rfl, rfl⟩

set_option maxHeartbeats 1000000 in
/-- strings.CutPrefix where the prefix is not there. -/
theorem cut_miss (s p : ByteArray) (w : World) (h : Lib.hasPrefix s.data.toList p.data.toList = false) :
    Calls Trym.prog 19 #[.string s, .string p] w fun e w' => e = .returned (.tuple #[.string s, .bool false]) ∧ w' = w := by
  by_cases h1 : p.size ≤ s.size
  · have h2 : ((s.extract 0 p.size).toList == p.toList) = false := by
      have e := Lib.hasPrefix_raw s p
      rw [h, decide_eq_true h1, Bool.true_and] at e
      exact e
    clear h
    go_enter Trym.func19, Trym.ntmps19
    go_wp2
    go_ret2
    exact ⟨rfl, rfl⟩
  · clear h
    go_enter Trym.func19, Trym.ntmps19
    go_wp2
    go_ret2
    exact ⟨rfl, rfl⟩

end Go.Proofs.Qxb6604226aMods
