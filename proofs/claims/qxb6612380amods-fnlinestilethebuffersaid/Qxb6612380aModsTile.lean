/-
  THE WALK OF THE LAW FnLinesTileTheBuffer (5), out of its callees' contracts.
-/
import Derived.Test.Qxb6612380aModsSmall
namespace Go.Proofs.Qxb6612380aMods
open Go.RowKit

/-- WHAT EVERY ROUND KEEPS: the clone's bytes, the buffer's field, all that was there when the call began. -/
structure Keep (w : World) (B bb n : Nat) (Z : Nat → Int) (wr : World) : Prop where
  row : ∀ i, i < n → wr.cell? ⟨B, i, none⟩ = some (.int .u8 (Z i))
  buf : wr.cell? ⟨bb, 0, none⟩ = some (.slice (some ⟨B, 0, none⟩) n n)
  ltB : B < wr.heap.size
  ltb : bb < wr.heap.size
  bel : Below w.heap.size w wr

theorem Keep.step {w wr wr' : World} {B bb n : Nat} {Z : Nat → Int} (h : Keep w B bb n Z wr) (hb : Below wr.heap.size wr wr') : Keep w B bb n Z wr' :=
  ⟨fun i hi => (hb.cell (p := ⟨B, i, none⟩) h.ltB).trans (h.row i hi), (hb.cell (p := ⟨bb, 0, none⟩) h.ltb).trans h.buf, Nat.lt_of_lt_of_le h.ltB hb.size, Nat.lt_of_lt_of_le h.ltb hb.size, h.bel.trans (hb.mono h.bel.size)⟩

theorem Keep.drewN {w wr : World} {B bb n : Nat} {Z : Nat → Int} (h : Keep w B bb n Z wr) (m : Nat) : Keep w B bb n Z (wr.drewN m) :=
  ⟨h.row, h.buf, h.ltB, h.ltb, below_drewN h.bel m⟩

set_option maxHeartbeats 400000 in
/-- too many bytes -/
theorem tile_big (ao : Option Addr) (n cap : Nat) (w : World) (hn : ¬ n ≤ 1048576) :
    Calls Trym.prog 5 #[.slice ao n cap] w fun e w' => e = .returned (.bool true) ∧ Below w.heap.size w w' := by
  go_enter Trym.func5, Trym.ntmps5
  go_wp2_with fail
  refine (size5_no ao n cap _ hn).mono ?_
  rintro e w' ⟨rfl, hw⟩
  subst w'
  go_wp2_with fail
  go_ret
  exact ⟨rfl, Below.refl _ _⟩

set_option maxHeartbeats 400000 in
/-- no bytes; nil -/
theorem tile_nil (w : World) :
    Calls Trym.prog 5 #[.slice none 0 0] w fun e w' => e = .returned (.bool true) ∧ Below w.heap.size w w' := by
  go_enter Trym.func5, Trym.ntmps5
  go_wp2_with fail
  refine (size5_yes none 0 0 _ (by omega)).mono ?_
  rintro e w' ⟨rfl, hw⟩
  subst w'
  go_wp2_with fail
  refine (clone_nil _).mono ?_
  rintro e w' ⟨rfl, hw⟩
  subst w'
  go_wp2_with fail
  refine (new_any none 0 0 _).mono ?_
  rintro e w2 ⟨rfl, _, _, b2⟩
  go_wp2_with fail
  refine wp_loop_rounds 1 ?_
  rw [rounds_succ]
  go_wp2_with fail
  refine (count_zero none 0 _).mono ?_
  rintro e w' ⟨rfl, hw⟩
  subst w'
  go_wp2_with fail
  go_ret
  exact ⟨rfl, b2⟩

set_option maxHeartbeats 400000 in
/-- no bytes; not nil -/
theorem tile_zero (x : Addr) (cap : Nat) (w : World) :
    Calls Trym.prog 5 #[.slice (some x) 0 cap] w fun e w' => e = .returned (.bool true) ∧ Below w.heap.size w w' := by
  go_enter Trym.func5, Trym.ntmps5
  go_wp2_with fail
  refine (size5_yes (some x) 0 cap _ (by omega)).mono ?_
  rintro e w' ⟨rfl, hw⟩
  subst w'
  go_wp2_with fail
  refine (clone_zero x cap _).mono ?_
  rintro e w1 ⟨rfl, b1⟩
  go_wp2_with fail
  refine (new_any _ 0 0 _).mono ?_
  rintro e w2 ⟨rfl, _, _, b2⟩
  go_wp2_with fail
  refine wp_loop_rounds 1 ?_
  rw [rounds_succ]
  go_wp2_with fail
  refine (count_zero _ 0 _).mono ?_
  rintro e w' ⟨rfl, hw⟩
  subst w'
  go_wp2_with fail
  go_ret
  exact ⟨rfl, b1.trans (b2.mono b1.size)⟩

set_option maxHeartbeats 1000000 in
theorem tile_some (b off n cap : Nat) (Z : Nat → Int) (w : World) (hn : n ≤ 1048576) (hpos : 0 < n) (hb : b < w.heap.size)
    (hc : ∀ i, i < n → w.cell? ⟨b, off + i, none⟩ = some (.int .u8 (Z i))) (hz : ∀ i, i < n → 0 ≤ Z i ∧ Z i ≤ 255) :
    Calls Trym.prog 5 #[.slice (some ⟨b, off, none⟩) n cap] w fun e w' => e = .returned (.bool true) ∧ Below w.heap.size w w' := by
  have g1 := hc (n - 1) (by omega)
  have HC : Hid (∀ i, i < n → w.cell? ⟨b, off + i, none⟩ = some (.int .u8 (Z i))) := hc
  have HZ : Hid (∀ i, i < n → 0 ≤ Z i ∧ Z i ≤ 255) := hz
  clear hc hz
  go_enter Trym.func5, Trym.ntmps5
  go_wp2_with fail
  refine (size5_yes _ n cap _ hn).mono ?_
  rintro e w' ⟨rfl, hw⟩
  subst w'
  by_cases hend : (Z (n - 1) != 10) = true
  · go_wp2_with fail
    go_ret
    exact ⟨rfl, Below.refl _ _⟩
  have hend' : (Z (n - 1) != 10) = false := by simpa using hend
  have hE : Z (n - 1) = 10 := by simpa using hend'
  have HE : Hid (Z (n - 1) = 10) := hE
  clear hE
  clear hend
  go_wp2_with fail
  clear g1 hend'
  refine (clone_row b off n cap Z _ hn hb HC.out).mono ?_
  rintro e w1 ⟨rfl, hrow, b1⟩
  go_wp2_with fail
  refine (new_any _ n n _).mono ?_
  rintro e w2 ⟨rfl, hb0, hlt2, b2⟩
  have K2 : Keep w w.heap.size w1.heap.size n Z w2 :=
    ⟨fun i hi => (b2.cell (p := ⟨w.heap.size, i, none⟩) hrow.lt).trans (hrow.cell hi), hb0, Nat.lt_of_lt_of_le hrow.lt b2.size, hlt2, b1.trans (b2.mono b1.size)⟩
  clear hrow hb0 b1 b2
  go_wp2_with fail
  go_loopw [4, 5] (fun r s wr => ∃ st : Nat, st ≤ n ∧ s = .int .i64 st ∧ r = .int .i64 (count Z st : Nat) ∧ Keep w w.heap.size w1.heap.size n Z wr) (fun _ s _ => n - (intOf s).toNat)
  case atStart => exact ⟨0, Nat.zero_le _, rfl, rfl, K2⟩
  case round =>
    obtain ⟨st, hst, rfl, rfl, K⟩ := hrel
    have hcl := count_le Z st
    by_cases hlt : st < n
    · obtain ⟨q, hq⟩ := nl_exists Z n HE.out (n - st) st rfl hlt
      have hql : st + q < n := hq.1
      have HN : Hid (count Z (st + (q + 1)) = count Z st + 1) := count_line Z st n q hq
      have hlt' : (st : Int) < n := by omega
      go_wp2_with fail
      refine (span_any 0 0 st _).mono ?_
      rintro e w3 ⟨rfl, b3⟩
      have K3 := K.step b3
      have hline := bufferLine_any w1.heap.size w.heap.size n st q Z 0 0 w3 hn K3.ltb K3.ltB K3.buf K3.row HZ.out hq
      clear K b3 hq
      go_wp2_with fail
      refine hline.mono ?_
      rintro e w4 ⟨rfl, b4⟩
      clear hline
      have K4 := K3.step b4
      clear K3 b4
      have hq1 : ((q : Int) + 1 == 0) = false := beq_eq_false_iff_ne.2 (by omega)
      have hq2 : (q : Int) + 1 ≤ (n : Int) - st := by omega
      go_wp2_with fail
      go_loopw [7] (fun i wr => ∃ k m : Nat, k ≤ q + 1 ∧ i = .int .i64 k ∧ wr = w4.drewN m) (fun i _ => q + 1 - (intOf i).toNat)
      case atStart => exact ⟨0, 0, Nat.zero_le _, rfl, rfl⟩
      case round =>
        obtain ⟨k, m, hk, rfl, rfl⟩ := hrel
        by_cases hlt2 : k < q + 1
        · have c1 := K4.row (st + k) (by omega)
          have c2 : (k : Int) < (q : Int) + 1 := by omega
          have c3 : (st : Int) + k < n := by omega
          go_wp2_with fail
          go_quiet (fail)
          go_wp2_with fail
          go_roundw
          case rel => exact ⟨k + 1, _, by omega, by go_num, rfl⟩
          case measure => simp [intOf]; omega
        · have K5 := K4.drewN m
          go_wp2_with fail
          go_roundw
          case rel => exact ⟨st + (q + 1), by omega, by go_num, by rw [HN.out]; go_num, K5⟩
          case measure => simp [intOf]; omega
    · obtain rfl : st = n := by omega
      go_wp2_with fail
      refine (count_any _ st st Z _ hn K.row).mono ?_
      rintro e w' ⟨rfl, hw⟩
      subst w'
      go_wp2_with fail
      go_ret
      exact ⟨rfl, K.bel⟩

/-- the law's walk, whatever comes in -/
theorem tile_walk (ao : Option Addr) (n cap : Nat) (Z : Nat → Int) (w : World) (hnil : ao = none → n = 0 ∧ cap = 0)
    (h : n = 0 ∨ ∃ b off, ao = some ⟨b, off, none⟩ ∧ b < w.heap.size ∧ ∀ i, i < n → w.cell? ⟨b, off + i, none⟩ = some (.int .u8 (Z i))) (hz : ∀ i, i < n → 0 ≤ Z i ∧ Z i ≤ 255) :
    Calls Trym.prog 5 #[.slice ao n cap] w fun e w' => e = .returned (.bool true) ∧ Below w.heap.size w w' := by
  by_cases hn : n ≤ 1048576
  · by_cases h0 : n = 0
    · subst h0
      cases ao with
      | none =>
        obtain ⟨_, rfl⟩ := hnil rfl
        exact tile_nil w
      | some x => exact tile_zero x cap w
    · rcases h with h | ⟨b, off, rfl, hb, hc⟩
      · exact absurd h h0
      · exact tile_some b off n cap Z w hn (by omega) hb hc hz
  · exact tile_big ao n cap w hn

end Go.Proofs.Qxb6612380aMods
