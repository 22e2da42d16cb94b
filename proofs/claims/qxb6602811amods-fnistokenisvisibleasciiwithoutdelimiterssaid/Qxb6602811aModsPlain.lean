/-
  THE PLAIN LAW: no Go in sight. A byte is a tchar as 'isToken' tells it (letters, digits, a short list) just when it is one as 'zzTchar' tells it (visible ASCII, no delimiter).
-/
import Derived.Lib.Bytealg
namespace Go.Proofs.Qxb6602811aMods

/-- the fifteen signs that isToken's constant holds -/
def signs : List UInt8 := [33, 35, 36, 37, 38, 39, 42, 43, 45, 46, 94, 95, 96, 124, 126]

/-- what 'zzTchar' answers -/
def tchar (c : Int) : Bool :=
  decide (33 ≤ c) && decide (c ≤ 126) &&
    !(decide (c = 34) || decide (c = 40) || decide (c = 41) || decide (c = 44) || decide (c = 47) || decide (c = 58) || decide (c = 59) || decide (c = 60) || decide (c = 61) ||
      decide (c = 62) || decide (c = 63) || decide (c = 64) || decide (c = 91) || decide (c = 92) || decide (c = 93) || decide (c = 123) || decide (c = 125))

/-- what a round of 'isToken' asks of the byte -/
def tok (c : Int) : Bool :=
  (decide (97 ≤ c) && decide (c ≤ 122)) || (decide (65 ≤ c) && decide (c ≤ 90)) || (decide (48 ≤ c) && decide (c ≤ 57)) ||
    decide (0 ≤ Lib.indexByte signs c.toNat.toUInt8)

theorem tok_eq_nat : ∀ n : Fin 256, tok (n.val : Int) = tchar (n.val : Int) := by decide +kernel

theorem tok_eq (c : Int) (h0 : 0 ≤ c) (h1 : c ≤ 255) : tok c = tchar c := by
  obtain ⟨n, rfl⟩ := Int.eq_ofNat_of_zero_le h0
  exact tok_eq_nat ⟨n, by omega⟩

theorem tchar_no (c : Int) (h : c < 33 ∨ 126 < c ∨ c = 34 ∨ c = 40 ∨ c = 41 ∨ c = 44 ∨ c = 47 ∨ c = 58 ∨ c = 59 ∨ c = 60 ∨ c = 61 ∨ c = 62 ∨ c = 63 ∨ c = 64 ∨ c = 91 ∨ c = 92 ∨ c = 93 ∨ c = 123 ∨ c = 125) : tchar c = false := by
  simp only [tchar, Bool.and_eq_false_iff, Bool.not_eq_false', Bool.or_eq_true, decide_eq_true_eq, decide_eq_false_iff_not]
  omega

theorem tchar_yes (c : Int) (h0 : 33 ≤ c) (h1 : c ≤ 126) (h : c ≠ 34 ∧ c ≠ 40 ∧ c ≠ 41 ∧ c ≠ 44 ∧ c ≠ 47 ∧ c ≠ 58 ∧ c ≠ 59 ∧ c ≠ 60 ∧ c ≠ 61 ∧ c ≠ 62 ∧ c ≠ 63 ∧ c ≠ 64 ∧ c ≠ 91 ∧ c ≠ 92 ∧ c ≠ 93 ∧ c ≠ 123 ∧ c ≠ 125) : tchar c = true := by
  simp only [tchar, Bool.and_eq_true, Bool.not_eq_true', Bool.or_eq_false_iff, decide_eq_true_eq, decide_eq_false_iff_not]
  omega

/-- the law's own answer: a string is a token when it is not empty and each byte of it is a tchar -/
def allT (l : List UInt8) : Bool := l.all fun b => tchar (b.toNat : Int)

theorem all_take_snoc (l : List UInt8) (k : Nat) (h : k < l.length) : allT (l.take (k + 1)) = (allT (l.take k) && tchar (l[k].toNat : Int)) := by
  unfold allT
  rw [List.take_succ_eq_append_getElem h, List.all_append]
  simp

theorem all_false_of_take (l : List UInt8) (k : Nat) (h : allT (l.take k) = false) : allT l = false := by
  unfold allT at *
  rw [List.all_eq_false] at *
  obtain ⟨x, hx, hp⟩ := h
  exact ⟨x, List.mem_of_mem_take hx, hp⟩

theorem snoc_bytes (s : ByteArray) (k : Nat) (h : k < s.size) : allT (s.data.toList.take (k + 1)) = (allT (s.data.toList.take k) && tchar (s[k].toNat : Int)) :=
  all_take_snoc s.data.toList k (by simpa using h)

theorem byte_le (b : UInt8) : (b.toNat : Int) ≤ 255 := by have := b.toNat_lt; omega

theorem isEmpty_no (s : ByteArray) (h : 0 < s.size) : s.toList.isEmpty = false := by
  rw [Lib.toList_data]
  simp only [List.isEmpty_eq_false_iff, ne_eq]
  intro e
  have h2 := congrArg List.length e
  rw [← Lib.size_eq, List.length_nil] at h2
  omega

theorem isEmpty_yes (s : ByteArray) (h : ¬ 0 < s.size) : s.toList.isEmpty = true := by
  rw [Lib.toList_data]
  simp only [List.isEmpty_iff]
  apply List.eq_nil_of_length_eq_zero
  rw [← Lib.size_eq]
  omega

theorem law_yes (s : ByteArray) (k : Nat) (hlt : k < s.size) (ha : allT (s.data.toList.take k) = true) (h : tchar (s[k].toNat : Int) = true) : allT (s.data.toList.take (k + 1)) = true := by
  rw [snoc_bytes s k hlt, ha, h]
  rfl

theorem law_no (s : ByteArray) (k : Nat) (hlt : k < s.size) (h : tchar (s[k].toNat : Int) = false) : allT s.data.toList = false :=
  all_false_of_take _ (k + 1) (by rw [snoc_bytes s k hlt, h, Bool.and_false])

/-- a round of isToken that goes on -/
theorem step_yes (s : ByteArray) (k : Nat) (hlt : k < s.size) (ha : allT (s.data.toList.take k) = true)
    (h : (97 ≤ (s[k].toNat : Int) ∧ (s[k].toNat : Int) ≤ 122) ∨ (65 ≤ (s[k].toNat : Int) ∧ (s[k].toNat : Int) ≤ 90) ∨ (48 ≤ (s[k].toNat : Int) ∧ (s[k].toNat : Int) ≤ 57) ∨ 0 ≤ Lib.indexByte [33, 35, 36, 37, 38, 39, 42, 43, 45, 46, 94, 95, 96, 124, 126] s[k]) :
    allT (s.data.toList.take (k + 1)) = true := by
  have hb : (s[k].toNat : Int) ≤ 255 := by have := s[k].toNat_lt; omega
  have e : tok (s[k].toNat : Int) = true := by
    simp only [tok, signs, Int.toNat_natCast, Nat.toUInt8_eq, UInt8.ofNat_toNat, Bool.or_eq_true, Bool.and_eq_true, decide_eq_true_eq]
    omega
  rw [tok_eq _ (by omega) hb] at e
  rw [snoc_bytes s k hlt, ha, e]
  rfl

/-- a round of isToken that answers false -/
theorem step_no (s : ByteArray) (k : Nat) (hlt : k < s.size)
    (h : ¬ ((97 ≤ (s[k].toNat : Int) ∧ (s[k].toNat : Int) ≤ 122) ∨ (65 ≤ (s[k].toNat : Int) ∧ (s[k].toNat : Int) ≤ 90) ∨ (48 ≤ (s[k].toNat : Int) ∧ (s[k].toNat : Int) ≤ 57) ∨ 0 ≤ Lib.indexByte [33, 35, 36, 37, 38, 39, 42, 43, 45, 46, 94, 95, 96, 124, 126] s[k])) :
    false = allT s.data.toList := by
  have hb : (s[k].toNat : Int) ≤ 255 := by have := s[k].toNat_lt; omega
  have e : ¬ tok (s[k].toNat : Int) = true := by
    simp only [tok, signs, Int.toNat_natCast, Nat.toUInt8_eq, UInt8.ofNat_toNat, Bool.or_eq_true, Bool.and_eq_true, decide_eq_true_eq]
    omega
  rw [tok_eq _ (by omega) hb] at e
  refine (all_false_of_take _ (k + 1) ?_).symm
  have e2 : tchar (s[k].toNat : Int) = false := by simpa using e
  rw [snoc_bytes s k hlt, e2, Bool.and_false]

theorem all_done (s : ByteArray) (k : Nat) (hge : ¬ k < s.size) (ha : allT (s.data.toList.take k) = true) : true = allT s.data.toList := by
  rw [List.take_of_length_le (by simp; omega)] at ha
  exact ha.symm

end Go.Proofs.Qxb6602811aMods
