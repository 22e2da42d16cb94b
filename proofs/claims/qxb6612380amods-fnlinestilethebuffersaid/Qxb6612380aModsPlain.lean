/-
  THE PLAIN LAWS: no Go in sight: where the next newline stands; how many newlines there are.
-/
import Derived.Lib.Bytealg
import Derived.Lib.BytesEntry
import Derived.Lib.IndexLaws
import Derived.Below
import Derived.Deep.Draws
namespace Go.Proofs.Qxb6612380aMods
open Go.RowKit

theorem ret_bool {a b : Bool} (h : a = b) : Ending.returned (.bool a) = .returned (.bool b) := by rw [h]
theorem ret_int {k : IntKind} {a b : Int} (h : a = b) : Ending.returned (.int k a) = .returned (.int k b) := by rw [h]

/-- FROM start ON, of n numbers, THE FIRST NEWLINE STANDS q PLACES FURTHER -/
def NL (Z : Nat → Int) (start n q : Nat) : Prop := start + q < n ∧ Z (start + q) = 10 ∧ ∀ j, j < q → Z (start + j) ≠ 10

theorem nl_exists (Z : Nat → Int) (n : Nat) (h1 : Z (n - 1) = 10) : ∀ (m start : Nat), n - start = m → start < n → ∃ q, NL Z start n q
  | 0, start, hm, hlt => by omega
  | m + 1, start, hm, hlt => by
    by_cases h : Z start = 10
    · exact ⟨0, by omega, by simpa using h, fun j hj => absurd hj (Nat.not_lt_zero _)⟩
    · have hne : start + 1 < n := by
        by_cases e : start + 1 < n
        · exact e
        · have : start = n - 1 := by omega
          rw [this] at h
          exact absurd h1 h
      obtain ⟨q, h2, h3, h4⟩ := nl_exists Z n h1 m (start + 1) (by omega) hne
      refine ⟨q + 1, by omega, ?_, fun j hj => ?_⟩
      · rw [show start + (q + 1) = start + 1 + q by omega]
        exact h3
      · cases j with
        | zero => simpa using h
        | succ j =>
          rw [show start + (j + 1) = start + 1 + j by omega]
          exact h4 j (by omega)

/-- the first place is the place that IndexByte gives -/
theorem indexByte_is : ∀ (l : List UInt8) (c : UInt8) (q : Nat), l[q]? = some c → (∀ k, k < q → l[k]? ≠ some c) → Lib.indexByte l c = q
  | [], c, q, h, _ => by simp at h
  | b :: l, c, 0, h, _ => by
    have e : b = c := by simpa using h
    rw [Lib.indexByte, e]
    simp
  | b :: l, c, q + 1, h, hn => by
    have e : (b == c) = false := by
      rw [beq_eq_false_iff_ne]
      intro e
      exact hn 0 (by omega) (by simp [e])
    have ih := indexByte_is l c q (by simpa using h) (fun k hk => by have := hn (k + 1) (by omega); simpa using this)
    rw [Lib.indexByte, e, ih]
    have e2 : (((q : Int)) == -1) = false := by rw [beq_eq_false_iff_ne]; omega
    simp only [e2, Bool.false_eq_true, if_false]
    omega

theorem byte_ten (z : Int) (h0 : 0 ≤ z) (h1 : z ≤ 255) : z.toNat.toUInt8 = 10 ↔ z = 10 := by
  obtain ⟨n, rfl⟩ := Int.eq_ofNat_of_zero_le h0
  rw [Int.toNat_natCast]
  constructor
  · intro h
    have h2 := congrArg UInt8.toNat h
    rw [Nat.toUInt8_eq, UInt8.toNat_ofNat'] at h2
    have h3 : (10 : UInt8).toNat = 10 := rfl
    omega
  · intro h
    have : n = 10 := by omega
    subst this
    rfl

/-- the cells from start on, as a list -/
def cut (Z : Nat → Int) (start m : Nat) : List Int := (List.range m).map fun i => Z (start + i)

theorem cut_length (Z : Nat → Int) (start m : Nat) : (cut Z start m).length = m := by simp [cut]

theorem cut_getD (Z : Nat → Int) (start m i : Nat) (h : i < m) : (cut Z start m).getD i 0 = Z (start + i) := by
  simp [cut, List.getD, h]

theorem index_cut (Z : Nat → Int) (start n q : Nat) (hb : ∀ i, i < n → 0 ≤ Z i ∧ Z i ≤ 255) (h : NL Z start n q) :
    Lib.indexByte (Lib.bytesOf (cut Z start (n - start))) 10 = q := by
  obtain ⟨h1, h2, h3⟩ := h
  have e : ∀ k, k < n - start → (Lib.bytesOf (cut Z start (n - start)))[k]? = some (Z (start + k)).toNat.toUInt8 := by
    intro k hk
    simp [Lib.bytesOf, cut, hk]
  apply indexByte_is
  · rw [e q (by omega), h2]
    rfl
  · intro k hk
    rw [e k (by omega)]
    intro e2
    have e3 : (Z (start + k)).toNat.toUInt8 = 10 := Option.some.inj e2
    have := hb (start + k) (by omega)
    exact h3 k hk ((byte_ten _ this.1 this.2).1 e3)

/-- how many of the first k numbers are newlines -/
def count (Z : Nat → Int) : Nat → Nat
  | 0 => 0
  | k + 1 => count Z k + if Z k = 10 then 1 else 0

theorem count_le (Z : Nat → Int) : ∀ k, count Z k ≤ k
  | 0 => Nat.le_refl _
  | k + 1 => by
    have := count_le Z k
    unfold count
    split <;> omega

theorem count_none (Z : Nat → Int) (start : Nat) : ∀ q, (∀ j, j < q → Z (start + j) ≠ 10) → count Z (start + q) = count Z start
  | 0, _ => rfl
  | q + 1, h => by
    show count Z (start + q + 1) = _
    rw [count, if_neg (h q (by omega)), count_none Z start q (fun j hj => h j (by omega))]
    rfl

/-- a line holds one newline -/
theorem count_line (Z : Nat → Int) (start n q : Nat) (h : NL Z start n q) : count Z (start + (q + 1)) = count Z start + 1 := by
  show count Z (start + q + 1) = _
  rw [count, if_pos h.2.1, count_none Z start q h.2.2]

/-- a cell that is there lies in a block that is there -/
theorem cell_lt {w : World} {a : Addr} {v : Value} (h : w.cell? a = some v) : a.block < w.heap.size := by
  by_cases hb : a.block < w.heap.size
  · exact hb
  · have e : w.heap[a.block]? = none := Array.getElem?_eq_none (by omega)
    simp [World.cell?, e] at h

end Go.Proofs.Qxb6612380aMods
