/-
  THE WALK OF THE LAW FnLineIsTheRecordAtItsStart (4), out of its callees' contracts.
-/
import Derived.Test.Qxb6612380aModsSmall
namespace Go.Proofs.Qxb6612380aMods
open Go.RowKit

/-- the law's test of a byte of the line -/
theorem nl_test (Z : Nat → Int) (start n q k : Nat) (h : NL Z start n q) (hk : k < q + 1) : (!((Z (start + k) == 10) == ((k : Int) == (q : Int)))) = false := by
  by_cases e : k = q
  · subst e
    rw [h.2.1]
    simp
  · have h1 : Z (start + k) ≠ 10 := h.2.2 k (by omega)
    have e1 : (Z (start + k) == 10) = false := by simpa using h1
    have e2 : ((k : Int) == (q : Int)) = false := beq_eq_false_iff_ne.2 (by omega)
    rw [e1, e2]
    rfl

set_option maxHeartbeats 400000 in
/-- too many bytes -/
theorem line_big (ao : Option Addr) (n cap : Nat) (hi lo st : Int) (w : World) (hn : ¬ n ≤ 1048576) :
    Calls Trym.prog 4 #[.slice ao n cap, .int .u64 hi, .int .u64 lo, .int .i64 st] w fun e w' => e = .returned (.bool true) ∧ Below w.heap.size w w' := by
  go_enter Trym.func4, Trym.ntmps4
  go_wp2_with fail
  refine (size4_no ao n cap hi lo st _ hn).mono ?_
  rintro e w' ⟨rfl, hw⟩
  subst w'
  go_wp2_with fail
  go_ret
  exact ⟨rfl, Below.refl _ _⟩

set_option maxHeartbeats 400000 in
/-- start out of range -/
theorem line_out (ao : Option Addr) (n cap : Nat) (hi lo st : Int) (w : World) (hn : n ≤ 1048576) (hs : st < 0 ∨ (n : Int) ≤ st) :
    Calls Trym.prog 4 #[.slice ao n cap, .int .u64 hi, .int .u64 lo, .int .i64 st] w fun e w' => e = .returned (.bool true) ∧ Below w.heap.size w w' := by
  rcases hs with hs | hs
  all_goals
    go_enter Trym.func4, Trym.ntmps4
    go_wp2_with fail
    refine (size4_yes ao n cap hi lo st _ hn).mono ?_
    rintro e w' ⟨rfl, hw⟩
    subst w'
    go_wp2_with fail
    all_goals
      go_ret
      exact ⟨rfl, Below.refl _ _⟩

set_option maxHeartbeats 1000000 in
theorem line_in (b off n cap start : Nat) (hi lo : Int) (Z : Nat → Int) (w : World) (hn : n ≤ 1048576) (hst : start < n) (hb : b < w.heap.size)
    (hc : ∀ i, i < n → w.cell? ⟨b, off + i, none⟩ = some (.int .u8 (Z i))) (hz : ∀ i, i < n → 0 ≤ Z i ∧ Z i ≤ 255) :
    Calls Trym.prog 4 #[.slice (some ⟨b, off, none⟩) n cap, .int .u64 hi, .int .u64 lo, .int .i64 start] w fun e w' => e = .returned (.bool true) ∧ Below w.heap.size w w' := by
  have g1 := hc (n - 1) (by omega)
  have g2 := hc (start - 1) (by omega)
  have hs0 : (start : Int) < n := by omega
  have HC : Hid (∀ i, i < n → w.cell? ⟨b, off + i, none⟩ = some (.int .u8 (Z i))) := hc
  have HZ : Hid (∀ i, i < n → 0 ≤ Z i ∧ Z i ≤ 255) := hz
  clear hc hz
  go_enter Trym.func4, Trym.ntmps4
  go_wp2_with fail
  refine (size4_yes _ n cap hi lo _ _ hn).mono ?_
  rintro e w' ⟨rfl, hw⟩
  subst w'
  by_cases hend : (Z (n - 1) != 10) = true
  · go_wp2_with fail
    go_ret
    exact ⟨rfl, Below.refl _ _⟩
  have hend' : (Z (n - 1) != 10) = false := by simpa using hend
  obtain ⟨q, hq⟩ := nl_exists Z n (by simpa using hend') (n - start) start rfl hst
  have hql : start + q < n := hq.1
  clear hend
  go_wp2_with fail
  · go_ret
    exact ⟨rfl, Below.refl _ _⟩
  all_goals
    clear g1 g2
    refine (clone_row b off n cap Z _ hn hb HC.out).mono ?_
    rintro e w1 ⟨rfl, hrow, b1⟩
    go_wp2_with fail
    refine (new_any _ n n _).mono ?_
    rintro e w2 ⟨rfl, hb0, hlt2, b2⟩
    go_wp2_with fail
    refine (span_any hi lo start _).mono ?_
    rintro e w3 ⟨rfl, b3⟩
    have s1 := b1.size
    have s2 := b2.size
    have s3 := b3.size
    have hl1 := hrow.lt
    have B3 : Below w.heap.size w w3 := (b1.trans (b2.mono b1.size)).trans (b3.mono (by omega))
    have row3 : ∀ i, i < n → w3.cell? ⟨w.heap.size, i, none⟩ = some (.int .u8 (Z i)) := fun i hi' => ((b3.cell (p := ⟨w.heap.size, i, none⟩) (by show w.heap.size < _; omega)).trans (b2.cell (p := ⟨w.heap.size, i, none⟩) hl1)).trans (hrow.cell hi')
    have buf3 : w3.cell? ⟨w1.heap.size, 0, none⟩ = some (.slice (some ⟨w.heap.size, 0, none⟩) n n) := (b3.cell (p := ⟨w1.heap.size, 0, none⟩) hlt2).trans hb0
    have hline := bufferLine_any w1.heap.size w.heap.size n start q Z hi lo w3 hn (by omega) (by omega) buf3 row3 HZ.out hq
    clear hrow hb0 b1 b2 b3 buf3
    go_wp2_with fail
    refine hline.mono ?_
    rintro e w4 ⟨rfl, b4⟩
    clear hline
    have B4 : Below w.heap.size w w4 := B3.trans (b4.mono (by omega))
    have row4 : ∀ i, i < n → w4.cell? ⟨w.heap.size, i, none⟩ = some (.int .u8 (Z i)) := fun i hi' => (b4.cell (p := ⟨w.heap.size, i, none⟩) (by show w.heap.size < _; omega)).trans (row3 i hi')
    clear row3 B3 b4
    have HQ : Hid (NL Z start n q) := hq
    have hq1 : ((q : Int) + 1 == 0) = false := beq_eq_false_iff_ne.2 (by omega)
    have hq2 : (q : Int) + 1 ≤ (n : Int) - start := by omega
    clear hq
    go_wp2_with fail
    go_loopw [11] (fun i wr => ∃ k m : Nat, k ≤ q + 1 ∧ i = .int .i64 k ∧ wr = w4.drewN m) (fun i _ => q + 1 - (intOf i).toNat)
    case atStart => exact ⟨0, 0, Nat.zero_le _, rfl, rfl⟩
    case round =>
      obtain ⟨k, m, hk, rfl, rfl⟩ := hrel
      by_cases hlt : k < q + 1
      · have c1 := row4 (start + k) (by omega)
        have c2 : (k : Int) < (q : Int) + 1 := by omega
        have c3 : (start : Int) + k < n := by omega
        have hx := nl_test Z start n q k HQ.out hlt
        clear row4
        go_wp2_with fail
        go_quiet (fail)
        go_wp2_with fail
        go_roundw
        case rel => exact ⟨k + 1, _, by omega, by go_num, rfl⟩
        case measure => simp [intOf]; omega
      · clear row4
        go_wp2_with fail
        go_ret
        exact ⟨rfl, below_drewN B4 _⟩

/-- the law's walk, whatever comes in -/
theorem line_walk (ao : Option Addr) (n cap : Nat) (hi lo st : Int) (Z : Nat → Int) (w : World)
    (h : n = 0 ∨ ∃ b off, ao = some ⟨b, off, none⟩ ∧ b < w.heap.size ∧ ∀ i, i < n → w.cell? ⟨b, off + i, none⟩ = some (.int .u8 (Z i))) (hz : ∀ i, i < n → 0 ≤ Z i ∧ Z i ≤ 255) :
    Calls Trym.prog 4 #[.slice ao n cap, .int .u64 hi, .int .u64 lo, .int .i64 st] w fun e w' => e = .returned (.bool true) ∧ Below w.heap.size w w' := by
  by_cases hn : n ≤ 1048576
  · by_cases hs : st < 0 ∨ (n : Int) ≤ st
    · exact line_out ao n cap hi lo st w hn hs
    · rcases h with h | ⟨b, off, rfl, hb, hc⟩
      · omega
      · obtain ⟨start, rfl⟩ := Int.eq_ofNat_of_zero_le (show 0 ≤ st by omega)
        exact line_in b off n cap start hi lo Z w hn (by omega) hb hc hz
  · exact line_big ao n cap hi lo st w hn

end Go.Proofs.Qxb6612380aMods
