/-
  THE PLAIN LAWS: no Go in sight: strings as lists of bytes; what a row of strings is in a world.
-/
import Derived.Lib.Bytealg
import Derived.Below
import Derived.Deep.Slices
import Derived.Deep.Draws
import Derived.Lib.IndexLaws
namespace Go.Proofs.Qxb6604226aMods
open Go.RowKit

theorem ret_bool {a b : Bool} (h : a = b) : Ending.returned (.bool a) = .returned (.bool b) := by rw [h]
theorem ret_int {k : IntKind} {a b : Int} (h : a = b) : Ending.returned (.int k a) = .returned (.int k b) := by rw [h]

/-- is there a '/' in s? -/
def slash (s : ByteArray) : Bool := s.data.toList.any fun b => b == 47

theorem any_take_snoc (s : ByteArray) (k : Nat) (h : k < s.size) :
    ((s.data.toList.take (k + 1)).any fun b => b == 47) = ((s.data.toList.take k).any (fun b => b == 47) || (s[k] == 47)) := by
  have h' : k < s.data.toList.length := by rw [← Lib.size_eq]; exact h
  rw [List.take_succ_eq_append_getElem h', List.any_append]
  simp only [List.any_cons, List.any_nil, Bool.or_false]
  rfl

theorem slash_yes (s : ByteArray) (k : Nat) (h : k < s.size) (e : ((s[k].toNat : Int) == 47) = true) : true = slash s := by
  have e1 : s[k] = 47 := by
    have : (s[k].toNat : Int) = 47 := by simpa using e
    apply UInt8.toNat_inj.1
    show s[k].toNat = 47
    omega
  unfold slash
  symm
  rw [List.any_eq_true]
  exact ⟨s[k], List.getElem_mem (l := s.data.toList) (by rw [← Lib.size_eq]; exact h), by rw [e1]; rfl⟩

theorem slash_step (s : ByteArray) (k : Nat) (h : k < s.size) (e : ((s[k].toNat : Int) == 47) = false) (ha : ((s.data.toList.take k).any fun b => b == 47) = false) :
    ((s.data.toList.take (k + 1)).any fun b => b == 47) = false := by
  have e1 : (s[k] == 47) = false := by
    rw [beq_eq_false_iff_ne]
    intro e2
    rw [e2] at e
    revert e
    decide
  rw [any_take_snoc s k h, ha, e1]
  rfl

theorem slash_no (s : ByteArray) (k : Nat) (h : ¬ k < s.size) (ha : ((s.data.toList.take k).any fun b => b == 47) = false) : false = slash s := by
  rw [List.take_of_length_le (by rw [← Lib.size_eq]; omega)] at ha
  exact ha.symm

theorem prefix_iff (s p : ByteArray) : Lib.hasPrefix s.data.toList p.data.toList = true ↔ p.data.toList = s.data.toList.take p.size := by
  unfold Lib.hasPrefix
  rw [List.isPrefixOf_iff_prefix, List.prefix_iff_eq_take, ← Lib.size_eq]

theorem prefix_long (s p : ByteArray) (h : ¬ p.size ≤ s.size) : false = Lib.hasPrefix s.data.toList p.data.toList := by
  symm
  rw [← Bool.not_eq_true, prefix_iff]
  intro e
  have := congrArg List.length e
  rw [← Lib.size_eq, List.length_take, ← Lib.size_eq] at this
  omega

theorem prefix_le (s p : ByteArray) (h : Lib.hasPrefix s.data.toList p.data.toList = true) : p.size ≤ s.size := by
  by_cases h1 : p.size ≤ s.size
  · exact h1
  · rw [← prefix_long s p h1] at h
    cases h

theorem prefix_done (s p : ByteArray) (k : Nat) (h : ¬ k < p.size) (e : s.data.toList.take k = p.data.toList.take k) : true = Lib.hasPrefix s.data.toList p.data.toList := by
  symm
  rw [prefix_iff]
  have h1 := congrArg (List.take p.size) e
  rw [List.take_take, List.take_take, Nat.min_eq_left (by omega)] at h1
  rw [h1, List.take_of_length_le (by rw [← Lib.size_eq]; exact Nat.le_refl _)]

theorem prefix_step (s p : ByteArray) (k : Nat) (h1 : k < s.size) (h2 : k < p.size) (e : s.data.toList.take k = p.data.toList.take k) (he : (s[k].toNat : Int) = (p[k].toNat : Int)) :
    s.data.toList.take (k + 1) = p.data.toList.take (k + 1) := by
  have e1 : s[k] = p[k] := UInt8.toNat_inj.1 (by omega)
  have h1' : k < s.data.toList.length := by rw [← Lib.size_eq]; exact h1
  have h2' : k < p.data.toList.length := by rw [← Lib.size_eq]; exact h2
  rw [List.take_succ_eq_append_getElem h1', List.take_succ_eq_append_getElem h2', e]
  exact congrArg (fun x => p.data.toList.take k ++ [x]) e1

theorem prefix_off (s p : ByteArray) (k : Nat) (h1 : k < s.size) (h2 : k < p.size) (he : (s[k].toNat : Int) ≠ (p[k].toNat : Int)) : false = Lib.hasPrefix s.data.toList p.data.toList := by
  symm
  rw [← Bool.not_eq_true, prefix_iff]
  intro e
  apply he
  have h1' : k < s.data.toList.length := by rw [← Lib.size_eq]; exact h1
  have h2' : k < p.data.toList.length := by rw [← Lib.size_eq]; exact h2
  have e2 : p.data.toList[k]? = s.data.toList[k]? := by
    rw [e, List.getElem?_take, if_pos h2]
  rw [List.getElem?_eq_getElem h1', List.getElem?_eq_getElem h2'] at e2
  have e3 : p.data.toList[k] = s.data.toList[k] := Option.some.inj e2
  have e4 : p[k] = s[k] := e3
  rw [e4]

theorem prefix_self (s : ByteArray) : Lib.hasPrefix s.data.toList s.data.toList = true := by
  rw [prefix_iff, List.take_of_length_le (by rw [← Lib.size_eq]; exact Nat.le_refl _)]

/-- no '/' is found: there is none -/
theorem name_plain (rest : ByteArray) (q : Int) (hq : q = Lib.indexByte rest.data.toList 47) (h : q < 0) : slash rest = false := by
  have h1 := Lib.indexByte_ge rest.data.toList 47
  have h2 : Lib.indexByte rest.data.toList 47 = -1 := by omega
  unfold slash
  rw [List.any_eq_false]
  intro b hb
  obtain ⟨k, hk⟩ := List.getElem?_of_mem hb
  have h3 := Lib.indexByte_none h2 k
  intro e
  have e1 : b = 47 := by simpa using e
  exact h3 (by rw [hk, e1])

theorem take_data (s : ByteArray) (k : Nat) : (s.extract 0 k).data.toList = s.data.toList.take k := by
  rw [Lib.extract_data, List.drop_zero, Nat.sub_zero]

/-- the '/' is at place q: what is known of the name that goes up to it -/
theorem name_slash (rest : ByteArray) (q : Nat) (hq : (q : Int) = Lib.indexByte rest.data.toList 47) :
    q < rest.size ∧ (rest.extract 0 (q + 1)).size = q + 1 ∧ Lib.hasPrefix rest.data.toList (rest.extract 0 (q + 1)).data.toList = true ∧ slash (rest.extract 0 (q + 1)) = true ∧
      (∀ h : q < (rest.extract 0 (q + 1)).size, (((rest.extract 0 (q + 1))[q].toNat : Int) == 47) = true) ∧ slash ((rest.extract 0 (q + 1)).extract 0 q) = false := by
  obtain ⟨h1, h2⟩ := Lib.indexByte_some hq.symm
  have hlt : q < rest.data.toList.length := (List.getElem?_eq_some_iff.1 h1).1
  have hlt' : q < rest.size := by rw [Lib.size_eq]; exact hlt
  have hsz : (rest.extract 0 (q + 1)).size = q + 1 := by
    rw [Lib.size_eq, take_data, List.length_take]
    omega
  have hat : ∀ h : q < (rest.extract 0 (q + 1)).size, (rest.extract 0 (q + 1))[q] = 47 := by
    intro h
    have e : (rest.extract 0 (q + 1)).data.toList[q]? = some 47 := by
      rw [take_data, List.getElem?_take, if_pos (by omega)]
      exact h1
    have h' : q < (rest.extract 0 (q + 1)).data.toList.length := by rw [← Lib.size_eq]; exact h
    rw [List.getElem?_eq_getElem h'] at e
    exact Option.some.inj e
  refine ⟨hlt', hsz, ?_, ?_, ?_, ?_⟩
  · rw [prefix_iff, hsz, take_data]
  · unfold slash
    rw [List.any_eq_true]
    have h : q < (rest.extract 0 (q + 1)).size := by omega
    exact ⟨(rest.extract 0 (q + 1))[q], List.getElem_mem (l := (rest.extract 0 (q + 1)).data.toList) (by rw [← Lib.size_eq]; exact h), by rw [hat h]; rfl⟩
  · intro h
    rw [hat h]
    rfl
  · unfold slash
    rw [List.any_eq_false]
    intro b hb e
    have e1 : b = 47 := by simpa using e
    rw [take_data, take_data] at hb
    obtain ⟨k, hk⟩ := List.getElem?_of_mem hb
    rw [List.getElem?_take] at hk
    split at hk
    · rename_i hkq
      rw [List.getElem?_take, if_pos (by omega)] at hk
      exact h2 k hkq (by rw [hk, e1])
    · cases hk

theorem take_size (s : ByteArray) (k : Nat) : (s.extract 0 k).size ≤ s.size := by
  rw [Lib.size_eq, take_data, List.length_take, ← Lib.size_eq]
  omega

/-- a cell that is there lies in a block that is there -/
theorem cell_lt {w : World} {a : Addr} {v : Value} (h : w.cell? a = some v) : a.block < w.heap.size := by
  by_cases hb : a.block < w.heap.size
  · exact hb
  · have e : w.heap[a.block]? = none := Array.getElem?_eq_none (by omega)
    simp [World.cell?, e] at h

/-- A ROW OF n STRINGS behind a slice's address: there is none to read; or each cell holds its string, in a block below B. -/
def RowAt (w : World) (B : Nat) (ao : Option Addr) (n : Nat) (Sx : Nat → ByteArray) : Prop :=
  n = 0 ∨ ∃ b off, ao = some ⟨b, off, none⟩ ∧ b < B ∧ ∀ i, i < n → w.cell? ⟨b, off + i, none⟩ = some (.string (Sx i))

theorem RowAt.below {w w' : World} {B : Nat} {ao : Option Addr} {n : Nat} {Sx : Nat → ByteArray} (h : RowAt w B ao n Sx) (hb : Below B w w') : RowAt w' B ao n Sx := by
  rcases h with h | ⟨b, off, h1, h2, h3⟩
  · exact Or.inl h
  · exact Or.inr ⟨b, off, h1, h2, fun i hi => (hb.cell (p := ⟨b, off + i, none⟩) h2).trans (h3 i hi)⟩

theorem RowAt.mono {w : World} {B B' : Nat} {ao : Option Addr} {n : Nat} {Sx : Nat → ByteArray} (h : RowAt w B ao n Sx) (hb : B ≤ B') : RowAt w B' ao n Sx := by
  rcases h with h | ⟨b, off, h1, h2, h3⟩
  · exact Or.inl h
  · exact Or.inr ⟨b, off, h1, by omega, h3⟩

theorem RowAt.drewN {w : World} {B : Nat} {ao : Option Addr} {n : Nat} {Sx : Nat → ByteArray} (h : RowAt w B ao n Sx) (m : Nat) : RowAt (w.drewN m) B ao n Sx := h

end Go.Proofs.Qxb6604226aMods
