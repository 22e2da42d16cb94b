/-
  MORE PLAIN LAWS: no Go in sight: what a path made of a directory, a name, a '/' and a rest comes to.
-/
import Derived.Test.Qxb6604226aModsPlain
namespace Go.Proofs.Qxb6604226aMods
open Go.RowKit

theorem app_data (a b : ByteArray) : (a ++ b).data.toList = a.data.toList ++ b.data.toList := by
  rw [ByteArray.data_append, Array.toList_append]

theorem ext_data {a b : ByteArray} (h : a.data.toList = b.data.toList) : a = b := by
  obtain ⟨⟨l⟩⟩ := a
  obtain ⟨⟨k⟩⟩ := b
  have h2 : l = k := h
  rw [h2]

/-- a path that begins with the directory: what lies behind it -/
theorem path_rest (D r : ByteArray) : Lib.hasPrefix (D ++ r).data.toList D.data.toList = true ∧ (D ++ r).extract D.size (D ++ r).size = r := by
  constructor
  · rw [prefix_iff, app_data, List.take_left' (Lib.size_eq D).symm]
  · apply ext_data
    rw [Lib.extract_data, app_data, List.drop_left' (Lib.size_eq D).symm, List.take_of_length_le]
    rw [ByteArray.size_append, ← Lib.size_eq]
    omega

theorem indexByte_absent (l : List UInt8) (c : UInt8) (h : (l.any fun b => b == c) = false) : Lib.indexByte l c = -1 := by
  induction l with
  | nil => rfl
  | cons b l ih =>
    rw [List.any_cons, Bool.or_eq_false_iff] at h
    rw [Lib.indexByte, h.1, ih h.2]
    rfl

theorem indexByte_behind (l r : List UInt8) (c : UInt8) (h : (l.any fun b => b == c) = false) : Lib.indexByte (l ++ c :: r) c = l.length := by
  induction l with
  | nil => rw [List.nil_append, Lib.indexByte]; simp
  | cons b l ih =>
    rw [List.any_cons, Bool.or_eq_false_iff] at h
    rw [List.cons_append, Lib.indexByte, h.1, ih h.2]
    have e : (((l.length : Int)) == -1) = false := by rw [beq_eq_false_iff_ne]; omega
    simp only [e, Bool.false_eq_true, if_false, List.length_cons]
    omega

/-- a name without '/', a '/' and whatever else: the name that Add makes of it -/
theorem deep_name (name rest : ByteArray) (h : slash name = false) :
    ((name.size : Nat) : Int) = Lib.indexByte (name ++ ⟨#[47]⟩ ++ rest).data.toList 47 ∧ (name ++ ⟨#[47]⟩ ++ rest).extract 0 (name.size + 1) = name ++ ⟨#[47]⟩ := by
  constructor
  · rw [app_data, app_data, List.append_assoc]
    show _ = Lib.indexByte (name.data.toList ++ 47 :: rest.data.toList) 47
    rw [indexByte_behind _ _ _ h, ← Lib.size_eq]
  · apply ext_data
    rw [take_data, app_data, List.take_left']
    rw [← Lib.size_eq, ByteArray.size_append]
    rfl

theorem path_deep (D name rest : ByteArray) : D ++ name ++ ⟨#[47]⟩ ++ rest = D ++ (name ++ ⟨#[47]⟩ ++ rest) := by
  apply ext_data
  simp only [app_data, List.append_assoc]

end Go.Proofs.Qxb6604226aMods
