/-
  THE WALK OF zzCloneStrings (8): nil stays nil; else a new row that holds the same strings.
-/
import Derived.Test.Qxb6604226aModsChecked
import Derived.Test.Qxb6604226aModsPlain
import Derived.WalkKit
import Derived.WalkSpells
import Derived.WalkLawsBesides
import Derived.Deep.Light
import Derived.Deep.OwnRows
namespace Go.Proofs.Qxb6604226aMods
open Go.RowKit

theorem Trym.info9 : (Trym.prog.info? 9).map (fun i => (i.zero, i.size, i.bytes)) = some (some (.string ByteArray.empty), 1, 16) := by kernel_rfl

set_option maxHeartbeats 400000 in
theorem clone_nil (w : World) :
    Calls Trym.prog 8 #[.slice none 0 0] w fun e w' => e = .returned (.slice none 0 0) ∧ w' = w := by
  have q22 : ∀ (w : World) (a : Option Addr) (n c n' c' : Nat), (binOp .eql 22 (.slice a n c) (.slice none n' c')).run Trym.prog w = .ok (.bool a.isNone) w := fun w a n c n' c' => Lib.run_eql_slice_nil w _ _ a n c n' c' Trym.underlying22
  go_enter Trym.func8, Trym.ntmps8
  go_wp2
  go_ret
  exact ⟨rfl, rfl⟩

/-- what the rounds have laid by now -/
def part (Sx : Nat → ByteArray) (k : Nat) (i : Nat) : Value := if i < k then .string (Sx i) else .string ByteArray.empty

theorem part_step {w : World} {B n k : Nat} {Sx : Nat → ByteArray} (h : w.rowIs B 9 n (part Sx k)) : (w.setCell ⟨B, k, none⟩ (.string (Sx k))).rowIs B 9 n (part Sx (k + 1)) := by
  refine (h.set k (.string (Sx k))).congr fun i hi => ?_
  unfold part
  by_cases e : i = k
  · subst e
    rw [if_pos rfl, if_pos (by omega)]
  · rw [if_neg e]
    by_cases e2 : i < k
    · rw [if_pos e2, if_pos (by omega)]
    · rw [if_neg e2, if_neg (by omega)]

theorem part_done {w : World} {B n : Nat} {Sx : Nat → ByteArray} (h : w.rowIs B 9 n (part Sx n)) : w.rowIs B 9 n (fun i => .string (Sx i)) :=
  h.congr fun i hi => by unfold part; rw [if_pos hi]

set_option maxHeartbeats 400000 in
theorem clone_row (b off n cap : Nat) (Sx : Nat → ByteArray) (w : World) (hn : n ≤ 65536) (hb : b < w.heap.size)
    (hc : ∀ i, i < n → w.cell? ⟨b, off + i, none⟩ = some (.string (Sx i))) :
    Calls Trym.prog 8 #[.slice (some ⟨b, off, none⟩) n cap] w fun e w' => e = .returned (.slice (some ⟨w.heap.size, 0, none⟩) n n) ∧ w'.rowIs w.heap.size 9 n (fun i => .string (Sx i)) ∧ Below w.heap.size w w' := by
  have q22 : ∀ (w : World) (a : Option Addr) (n c n' c' : Nat), (binOp .eql 22 (.slice a n c) (.slice none n' c')).run Trym.prog w = .ok (.bool a.isNone) w := fun w a n c n' c' => Lib.run_eql_slice_nil w _ _ a n c n' c' Trym.underlying22
  have hmk := run_make_row' (P := Trym.prog) 22 9 (.string ByteArray.empty) 16 Trym.underlying22 Trym.info9 rfl .i64 .i64 n (by omega) (by omega)
  go_enter Trym.func8, Trym.ntmps8
  go_wp2
  go_loopw [4] (fun i wr => ∃ k : Nat, k ≤ n ∧ i = .int .i64 k ∧ wr.rowIs w.heap.size 9 n (part Sx k) ∧ Below w.heap.size w wr) (fun i _ => n - (intOf i).toNat)
  case atStart => exact ⟨0, Nat.zero_le _, rfl, (World.rowIs_made _ _ _ _).congr (fun i _ => by simp [part]), (Below.refl _ _).alloc (Nat.le_refl _) _⟩
  case round =>
    obtain ⟨k, hk, rfl, hrow, hbel⟩ := hrel
    by_cases hlt : k < n
    · have g1 := (hbel.cell (p := ⟨b, off + k, none⟩) hb).trans (hc k hlt)
      have g2 := hrow.cell hlt
      have g3 := hrow.frozen k
      clear hc
      go_wp2
      go_roundw
      case rel => exact ⟨k + 1, by omega, by go_num, part_step hrow, hbel.setCell (Nat.le_refl _) _⟩
      case measure => simp [intOf]; omega
    · obtain rfl : k = n := by omega
      clear hc
      go_wp2
      go_ret
      exact ⟨rfl, part_done hrow, hbel⟩

set_option maxHeartbeats 400000 in
theorem clone_zero (x : Addr) (cap : Nat) (w : World) :
    Calls Trym.prog 8 #[.slice (some x) 0 cap] w fun e w' => e = .returned (.slice (some ⟨w.heap.size, 0, none⟩) 0 0) ∧ Below w.heap.size w w' := by
  have q22 : ∀ (w : World) (a : Option Addr) (n c n' c' : Nat), (binOp .eql 22 (.slice a n c) (.slice none n' c')).run Trym.prog w = .ok (.bool a.isNone) w := fun w a n c n' c' => Lib.run_eql_slice_nil w _ _ a n c n' c' Trym.underlying22
  have hmk : ∀ w : World, (Instr.makeSlice 22 (.int .i64 0) (.int .i64 0)).run Trym.prog w = .ok (.slice (some ⟨w.heap.size, 0, none⟩) 0 0) (w.alloc (.cells (madeCells #[.string ByteArray.empty] 0) 9)) :=
    run_make_row' (P := Trym.prog) 22 9 (.string ByteArray.empty) 16 Trym.underlying22 Trym.info9 rfl .i64 .i64 0 (by omega) (by omega)
  go_enter Trym.func8, Trym.ntmps8
  go_wp2
  refine wp_loop_rounds 1 ?_
  rw [rounds_succ]
  go_wp2
  go_ret
  exact ⟨rfl, (Below.refl _ _).alloc (Nat.le_refl _) _⟩

/-- zzCloneStrings: the same strings in a row of the call's own (nil stays nil); nothing old has turned. -/
theorem clone_any (ao : Option Addr) (n cap B : Nat) (Sx : Nat → ByteArray) (w : World) (hn : n ≤ 65536) (hB : B ≤ w.heap.size) (hr : RowAt w B ao n Sx) (hnil : ao = none → n = 0 ∧ cap = 0) :
    Calls Trym.prog 8 #[.slice ao n cap] w fun e w' => ∃ ao', e = .returned (.slice ao' n n) ∧ RowAt w' w'.heap.size ao' n Sx ∧ (ao' = none → n = 0) ∧ Below w.heap.size w w' := by
  cases ao with
  | none =>
    obtain ⟨rfl, rfl⟩ := hnil rfl
    refine (clone_nil w).mono ?_
    rintro e w' ⟨rfl, rfl⟩
    exact ⟨none, rfl, Or.inl rfl, fun _ => rfl, Below.refl _ _⟩
  | some x =>
    by_cases h0 : n = 0
    · subst h0
      refine (clone_zero x cap w).mono ?_
      rintro e w' ⟨rfl, hb⟩
      exact ⟨_, rfl, Or.inl rfl, fun h => (by cases h), hb⟩
    · rcases hr with h | ⟨b, off, hx, hbB, hc⟩
      · exact absurd h h0
      obtain rfl : x = ⟨b, off, none⟩ := by simpa using hx
      refine (clone_row b off n cap Sx w hn (by omega) hc).mono ?_
      rintro e w' ⟨rfl, hrow, hb⟩
      exact ⟨_, rfl, Or.inr ⟨w.heap.size, 0, rfl, hrow.lt, fun i hi => by rw [Nat.zero_add]; exact hrow.cell hi⟩, fun h => (by cases h), hb⟩

end Go.Proofs.Qxb6604226aMods
