/-
  THE WALKS OF THE SMALL FUNCTIONS: the two size checks (11, 16), cloneBytes (12), ZZnewBuffer (13), ZZnewSpan (15), bytes.IndexByte (30).
-/
import Derived.Test.Qxb6612380aModsChecked
import Derived.Test.Qxb6612380aModsPlain
import Derived.WalkKit
import Derived.WalkSpells
import Derived.WalkLawsBesides
import Derived.Deep.Light
import Derived.Deep.OwnRows
import Derived.Deep.QuietTactic
import Derived.BigQuiet
namespace Go.Proofs.Qxb6612380aMods
open Go.RowKit

set_option maxHeartbeats 400000 in
theorem size4_yes (ao : Option Addr) (n cap : Nat) (hi lo st : Int) (w : World) (hn : n ≤ 1048576) :
    Calls Trym.prog 11 #[.slice ao n cap, .int .u64 hi, .int .u64 lo, .int .i64 st] w fun e w' => e = .returned (.bool true) ∧ w' = w := by
  go_enter Trym.func11, Trym.ntmps11
  go_wp2
  go_ret
  exact ⟨rfl, rfl⟩

set_option maxHeartbeats 400000 in
theorem size4_no (ao : Option Addr) (n cap : Nat) (hi lo st : Int) (w : World) (hn : ¬ n ≤ 1048576) :
    Calls Trym.prog 11 #[.slice ao n cap, .int .u64 hi, .int .u64 lo, .int .i64 st] w fun e w' => e = .returned (.bool false) ∧ w' = w := by
  have h : (1048576 : Int) < (n : Int) := by omega
  go_enter Trym.func11, Trym.ntmps11
  go_wp2
  go_ret
  exact ⟨rfl, rfl⟩

set_option maxHeartbeats 400000 in
theorem size5_yes (ao : Option Addr) (n cap : Nat) (w : World) (hn : n ≤ 1048576) :
    Calls Trym.prog 16 #[.slice ao n cap] w fun e w' => e = .returned (.bool true) ∧ w' = w := by
  go_enter Trym.func16, Trym.ntmps16
  go_wp2
  go_ret
  exact ⟨rfl, rfl⟩

set_option maxHeartbeats 400000 in
theorem size5_no (ao : Option Addr) (n cap : Nat) (w : World) (hn : ¬ n ≤ 1048576) :
    Calls Trym.prog 16 #[.slice ao n cap] w fun e w' => e = .returned (.bool false) ∧ w' = w := by
  have h : (1048576 : Int) < (n : Int) := by omega
  go_enter Trym.func16, Trym.ntmps16
  go_wp2
  go_ret
  exact ⟨rfl, rfl⟩

theorem Trym.info5 : (Trym.prog.info? 5).map (fun i => (i.zero, i.size, i.bytes)) = some (some (.int .u8 0), 1, 1) := by kernel_rfl

set_option maxHeartbeats 400000 in
theorem clone_nil (w : World) :
    Calls Trym.prog 12 #[.slice none 0 0] w fun e w' => e = .returned (.slice none 0 0) ∧ w' = w := by
  have q28 : ∀ (w : World) (a : Option Addr) (n c n' c' : Nat), (binOp .eql 28 (.slice a n c) (.slice none n' c')).run Trym.prog w = .ok (.bool a.isNone) w := fun w a n c n' c' => Lib.run_eql_slice_nil w _ _ a n c n' c' Trym.underlying28
  go_enter Trym.func12, Trym.ntmps12
  go_wp2
  go_ret
  exact ⟨rfl, rfl⟩

/-- what the rounds have laid by now -/
def part (Z : Nat → Int) (k : Nat) (i : Nat) : Value := if i < k then .int .u8 (Z i) else .int .u8 0

theorem part_step {w : World} {B n k : Nat} {Z : Nat → Int} (h : w.rowIs B 5 n (part Z k)) : (w.setCell ⟨B, k, none⟩ (.int .u8 (Z k))).rowIs B 5 n (part Z (k + 1)) := by
  refine (h.set k (.int .u8 (Z k))).congr fun i hi => ?_
  unfold part
  by_cases e : i = k
  · subst e
    rw [if_pos rfl, if_pos (by omega)]
  · rw [if_neg e]
    by_cases e2 : i < k
    · rw [if_pos e2, if_pos (by omega)]
    · rw [if_neg e2, if_neg (by omega)]

theorem part_done {w : World} {B n : Nat} {Z : Nat → Int} (h : w.rowIs B 5 n (part Z n)) : w.rowIs B 5 n (fun i => .int .u8 (Z i)) :=
  h.congr fun i hi => by unfold part; rw [if_pos hi]

set_option maxHeartbeats 400000 in
/-- cloneBytes: a new row that holds the same bytes. -/
theorem clone_row (b off n cap : Nat) (Z : Nat → Int) (w : World) (hn : n ≤ 1048576) (hb : b < w.heap.size)
    (hc : ∀ i, i < n → w.cell? ⟨b, off + i, none⟩ = some (.int .u8 (Z i))) :
    Calls Trym.prog 12 #[.slice (some ⟨b, off, none⟩) n cap] w fun e w' => e = .returned (.slice (some ⟨w.heap.size, 0, none⟩) n n) ∧ w'.rowIs w.heap.size 5 n (fun i => .int .u8 (Z i)) ∧ Below w.heap.size w w' := by
  have q28 : ∀ (w : World) (a : Option Addr) (n c n' c' : Nat), (binOp .eql 28 (.slice a n c) (.slice none n' c')).run Trym.prog w = .ok (.bool a.isNone) w := fun w a n c n' c' => Lib.run_eql_slice_nil w _ _ a n c n' c' Trym.underlying28
  have hmk := run_make_row' (P := Trym.prog) 28 5 (.int .u8 0) 1 Trym.underlying28 Trym.info5 rfl .i64 .i64 n (by omega) (by omega)
  go_enter Trym.func12, Trym.ntmps12
  go_wp2
  go_loopw [4] (fun i wr => ∃ k : Nat, k ≤ n ∧ i = .int .i64 k ∧ wr.rowIs w.heap.size 5 n (part Z k) ∧ Below w.heap.size w wr) (fun i _ => n - (intOf i).toNat)
  case atStart => exact ⟨0, Nat.zero_le _, rfl, (World.rowIs_made _ _ _ _).congr (fun i _ => by simp [part]), (Below.refl _ _).alloc (Nat.le_refl _) _⟩
  case round =>
    obtain ⟨k, hk, rfl, hrow, hbel⟩ := hrel
    by_cases hlt : k < n
    · have g1 := (hbel.cell (p := ⟨b, off + k, none⟩) hb).trans (hc k hlt)
      have g2 := hrow.cell hlt
      have g3 := hrow.frozen k
      clear hc
      go_wp2
      go_roundw
      case rel => exact ⟨k + 1, by omega, by go_num, part_step hrow, hbel.setCell (Nat.le_refl _) _⟩
      case measure => simp [intOf]; omega
    · obtain rfl : k = n := by omega
      clear hc
      go_wp2
      go_ret
      exact ⟨rfl, part_done hrow, hbel⟩

set_option maxHeartbeats 400000 in
/-- cloneBytes of an empty slice that is not nil. -/
theorem clone_zero (x : Addr) (cap : Nat) (w : World) :
    Calls Trym.prog 12 #[.slice (some x) 0 cap] w fun e w' => e = .returned (.slice (some ⟨w.heap.size, 0, none⟩) 0 0) ∧ Below w.heap.size w w' := by
  have q28 : ∀ (w : World) (a : Option Addr) (n c n' c' : Nat), (binOp .eql 28 (.slice a n c) (.slice none n' c')).run Trym.prog w = .ok (.bool a.isNone) w := fun w a n c n' c' => Lib.run_eql_slice_nil w _ _ a n c n' c' Trym.underlying28
  have hmk : ∀ w : World, (Instr.makeSlice 28 (.int .i64 0) (.int .i64 0)).run Trym.prog w = .ok (.slice (some ⟨w.heap.size, 0, none⟩) 0 0) (w.alloc (.cells (madeCells #[.int .u8 0] 0) 5)) :=
    run_make_row' (P := Trym.prog) 28 5 (.int .u8 0) 1 Trym.underlying28 Trym.info5 rfl .i64 .i64 0 (by omega) (by omega)
  go_enter Trym.func12, Trym.ntmps12
  go_wp2
  refine wp_loop_rounds 1 ?_
  rw [rounds_succ]
  go_wp2
  go_ret
  exact ⟨rfl, (Below.refl _ _).alloc (Nat.le_refl _) _⟩

set_option maxHeartbeats 400000 in
/-- ZZnewBuffer: a new buffer whose field data holds the slice. -/
theorem new_any (ao : Option Addr) (n cap : Nat) (w : World) :
    Calls Trym.prog 13 #[.slice ao n cap] w fun e w' => e = .returned (.pointer (some ⟨w.heap.size, 0, none⟩)) ∧ w'.cell? ⟨w.heap.size, 0, none⟩ = some (.slice ao n cap) ∧ w.heap.size < w'.heap.size ∧ Below w.heap.size w w' := by
  go_enter Trym.func13, Trym.ntmps13
  go_wp2
  go_ret
  exact ⟨rfl, by simp, by simp, (Below.refl _ _).alloc (Nat.le_refl _) _⟩

set_option maxHeartbeats 1000000 in
set_option maxRecDepth 100000 in
/-- bytes.IndexByte at a slice whose cells are known. -/
theorem index_any (b off n c : Nat) (xs : List Int) (cv : Int) (w : World) (hx : xs.length = n) (hc : ∀ i, i < n → w.cell? ⟨b, off + i, none⟩ = some (.int .u8 (xs.getD i 0))) :
    Calls Trym.prog 30 #[.slice (some ⟨b, off, none⟩) n c, .int .u8 cv] w fun e w' => e = .returned (.int .i64 (Lib.indexByte (Lib.bytesOf xs) cv.toNat.toUInt8)) ∧ w' = w := by
  go_enter Trym.func30, Trym.ntmps30
  go_wp2
  rw [run_callFunc_extern Trym.func32 (by kernel_rfl) (by kernel_rfl) (by kernel_rfl) (e := Extern.BytealgIndexByte.indexByte) (by kernel_rfl), Lib.run_indexByteSlice w b off n c xs hx hc cv]
  simp only [Result.andThen]
  rw [Oper.upon_value]
  go_wp2
  go_ret
  exact ⟨rfl, rfl⟩

set_option maxHeartbeats 400000 in
/-- ZZnewSpan: the three numbers as one value. -/
theorem span_any (hi lo st : Int) (w : World) :
    Calls Trym.prog 15 #[.int .u64 hi, .int .u64 lo, .int .i64 st] w fun e w' => e = .returned (.agg #[.int .u64 hi, .int .u64 lo, .int .i64 st]) ∧ Below w.heap.size w w' := by
  go_enter Trym.func15, Trym.ntmps15
  go_wp2
  exact bodyPost_ret (v := .agg #[.int .u64 hi, .int .u64 lo, .int .i64 st]) (by simp [results, Trym.results15, go_sem]) rfl ⟨rfl, (Below.refl _ _).alloc (Nat.le_refl _) _⟩

theorem index_as (b off n c q : Nat) (xs : List Int) (w : World) (hx : xs.length = n) (hc : ∀ i, i < n → w.cell? ⟨b, off + i, none⟩ = some (.int .u8 (xs.getD i 0))) (hq : Lib.indexByte (Lib.bytesOf xs) 10 = q) :
    Calls Trym.prog 30 #[.slice (some ⟨b, off, none⟩) n c, .int .u8 10] w fun e w' => e = .returned (.int .i64 q) ∧ w' = w := by
  refine (index_any b off n c xs 10 w hx hc).mono ?_
  rintro e w' ⟨rfl, rfl⟩
  exact ⟨ret_int hq, rfl⟩

set_option maxHeartbeats 400000 in
/-- (*buffer).line: the bytes from start on, up to the first newline and with it. -/
theorem line_any (b B n start q : Nat) (Z : Nat → Int) (hi lo : Int) (w : World) (hn : n ≤ 1048576) (hbb : b < w.heap.size) (hB : B < w.heap.size)
    (h0 : w.cell? ⟨b, 0, none⟩ = some (.slice (some ⟨B, 0, none⟩) n n)) (hc : ∀ i, i < n → w.cell? ⟨B, i, none⟩ = some (.int .u8 (Z i)))
    (hz : ∀ i, i < n → 0 ≤ Z i ∧ Z i ≤ 255) (hq : NL Z start n q) :
    Calls Trym.prog 26 #[.pointer (some ⟨b, 0, none⟩), .agg #[.int .u64 hi, .int .u64 lo, .int .i64 start]] w fun e w' =>
      e = .returned (.slice (some ⟨B, start, none⟩) (q + 1) (n - start)) ∧ Below w.heap.size w w' := by
  have hlt : start + q < n := hq.1
  have hix := index_cut Z start n q hz hq
  have h0' : ∀ o, (w.alloc o).cell? ⟨b, 0, none⟩ = some (.slice (some ⟨B, 0, none⟩) n n) := fun o => (World.cell?_alloc_lt _ _ _ hbb).trans h0
  have hcc : ∀ (o : Obj) (m : Nat), ∀ i, i < n - start → ((w.alloc o).drewN m).cell? ⟨B, start + i, none⟩ = some (.int .u8 ((cut Z start (n - start)).getD i 0)) := by
    intro o m i hi'
    rw [World.cell?_drewN, World.cell?_alloc_lt _ _ _ (by exact hB), hc _ (by omega), cut_getD _ _ _ _ hi']
  have HX : Hid (Lib.indexByte (Lib.bytesOf (cut Z start (n - start))) 10 = q) := hix
  have HC : Hid (∀ (o : Obj) (m : Nat), ∀ i, i < n - start → ((w.alloc o).drewN m).cell? ⟨B, start + i, none⟩ = some (.int .u8 ((cut Z start (n - start)).getD i 0))) := hcc
  clear hix hcc hc hz hq
  have hs : (start : Int) ≤ n := by omega
  go_enter Trym.func26, Trym.ntmps26
  go_wp2
  go_quiet (fail)
  go_wp2_with fail
  refine (index_as B start (n - start) (n - start) q (cut Z start (n - start)) _ (cut_length _ _ _) (HC.out _ _) HX.out).mono ?_
  rintro e w' ⟨rfl, hw⟩
  subst w'
  go_wp2
  go_ret
  exact ⟨rfl, below_drewN ((Below.refl _ _).alloc (Nat.le_refl _) _) _⟩

set_option maxHeartbeats 400000 in
/-- ZZbufferLine: the same. -/
theorem bufferLine_any (b B n start q : Nat) (Z : Nat → Int) (hi lo : Int) (w : World) (hn : n ≤ 1048576) (hbb : b < w.heap.size) (hB : B < w.heap.size)
    (h0 : w.cell? ⟨b, 0, none⟩ = some (.slice (some ⟨B, 0, none⟩) n n)) (hc : ∀ i, i < n → w.cell? ⟨B, i, none⟩ = some (.int .u8 (Z i)))
    (hz : ∀ i, i < n → 0 ≤ Z i ∧ Z i ≤ 255) (hq : NL Z start n q) :
    Calls Trym.prog 14 #[.pointer (some ⟨b, 0, none⟩), .agg #[.int .u64 hi, .int .u64 lo, .int .i64 start]] w fun e w' =>
      e = .returned (.slice (some ⟨B, start, none⟩) (q + 1) (n - start)) ∧ Below w.heap.size w w' := by
  have hline := fun o => line_any b B n start q Z hi lo (w.alloc o) hn (by simp; omega) (by simp; omega) ((World.cell?_alloc_lt _ _ _ hbb).trans h0) (fun i hi' => (World.cell?_alloc_lt _ _ _ hB).trans (hc i hi')) hz hq
  clear hc hz hq h0
  go_enter Trym.func14, Trym.ntmps14
  go_wp2_with fail
  refine (hline _).mono ?_
  rintro e w' ⟨rfl, hb⟩
  clear hline
  go_wp2
  go_ret
  exact ⟨rfl, ((Below.refl _ _).alloc (Nat.le_refl _) _).trans (hb.mono (by simp))⟩

set_option maxHeartbeats 400000 in
/-- countNewlines of no bytes. -/
theorem count_zero (ao : Option Addr) (cap : Nat) (w : World) :
    Calls Trym.prog 17 #[.slice ao 0 cap] w fun e w' => e = .returned (.int .i64 0) ∧ w' = w := by
  go_enter Trym.func17, Trym.ntmps17
  go_wp2
  refine wp_loop_rounds 1 ?_
  rw [rounds_succ]
  go_wp2
  go_ret
  exact ⟨rfl, rfl⟩

theorem count_hit (Z : Nat → Int) (k : Nat) (h : (Z k == 10) = true) : ((count Z k : Nat) : Int) + 1 = (count Z (k + 1) : Nat) := by
  have e : Z k = 10 := by simpa using h
  rw [count, if_pos e]
  omega

theorem count_miss (Z : Nat → Int) (k : Nat) (h : (Z k == 10) = false) : ((count Z k : Nat) : Int) = (count Z (k + 1) : Nat) := by
  have e : Z k ≠ 10 := by simpa using h
  rw [count, if_neg e]
  omega

set_option maxHeartbeats 400000 in
/-- countNewlines. -/
theorem count_any (B n cap : Nat) (Z : Nat → Int) (w : World) (hn : n ≤ 1048576) (hc : ∀ i, i < n → w.cell? ⟨B, i, none⟩ = some (.int .u8 (Z i))) :
    Calls Trym.prog 17 #[.slice (some ⟨B, 0, none⟩) n cap] w fun e w' => e = .returned (.int .i64 (count Z n : Nat)) ∧ w' = w := by
  go_enter Trym.func17, Trym.ntmps17
  go_wp2
  go_loop [3, 4] (fun c i => ∃ k : Nat, k ≤ n ∧ i = .int .i64 k ∧ c = .int .i64 (count Z k : Nat)) (fun _ i => n - (intOf i).toNat)
  case atStart => exact ⟨0, Nat.zero_le _, rfl, rfl⟩
  case round =>
    obtain ⟨k, hk, rfl, rfl⟩ := hrel
    have hle := count_le Z k
    by_cases hlt : k < n
    · have g1 := hc k hlt
      clear hc
      go_wp2
      · have h := count_hit Z k (by assumption)
        go_round
        case rel => exact ⟨k + 1, by omega, by go_num, by rw [h]⟩
        case measure => simp [intOf]; omega
      · have h := count_miss Z k (by assumption)
        go_round
        case rel => exact ⟨k + 1, by omega, by go_num, by rw [h]⟩
        case measure => simp [intOf]; omega
    · obtain rfl : k = n := by omega
      clear hc
      go_wp2
      go_ret
      exact ⟨rfl, rfl⟩

end Go.Proofs.Qxb6612380aMods
