/-
  The plain functions: no Go in sight.
-/
import Derived.Lib.Bytealg
import Derived.Lib.Strings
import Derived.Lib.TrimU
namespace Go.Proofs.Ybulkyw
open Go.Lib (compareBytes)

/-- A decimal digit. -/
def dg (c : UInt8) : Bool := decide (48 ≤ c.toNat) && decide (c.toNat ≤ 57)
/-- One decimal digit or more. -/
def digB (s : ByteArray) : Bool := decide (0 < s.size) && s.data.toList.all dg
/-- A rune that is no decimal digit. -/
def pr (r : Nat) : Bool := decide (r < 48) || decide (57 < r)

/-- strings.IndexFunc at that predicate, from place pos on, by at most so many runes. -/
def ixFrom (s : ByteArray) : Nat → Nat → Int
  | 0, _ => -1
  | f + 1, pos => if pos < s.size then (if pr (Utf8.decode s pos).1 then (pos : Int) else ixFrom s f (pos + (Utf8.decode s pos).2)) else -1

theorem decode_low (s : ByteArray) (i : Nat) (h : (s.get! i).toNat < 128) : Utf8.decode s i = ((s.get! i).toNat, 1) := by
  unfold Utf8.decode
  simp only [Nat.add_zero]
  rw [if_pos h]

theorem decode_high (s : ByteArray) (i : Nat) (h : 128 ≤ (s.get! i).toNat) : 128 ≤ (Utf8.decode s i).1 := by
  unfold Utf8.decode
  simp only [Nat.add_zero]
  rw [if_neg (by omega)]
  have hr : Utf8.runeError = 65533 := rfl
  repeat' split
  all_goals (try rw [hr])
  all_goals (first | decide | assumption | (simp_all; omega))

theorem getD_get (s : ByteArray) (i : Nat) : s.data.toList.getD i 0 = s.get! i := by
  rcases Nat.lt_or_ge i s.size with h | h
  · have h2 : i < s.data.toList.length := by simpa using h
    have h3 : i < s.data.size := h
    simp only [List.getD, List.getElem?_eq_getElem h2, Option.getD_some, ByteArray.get!]
    rw [getElem!_pos s.data i h3]; simp
  · have h2 : s.data.toList.length ≤ i := by simpa using h
    have h3 : ¬ i < s.data.size := by show ¬ i < s.size; omega
    simp only [List.getD, List.getElem?_eq_none h2, Option.getD_none, ByteArray.get!]
    rw [getElem!_neg s.data i h3]; rfl

theorem get_drop (s : ByteArray) (pos : Nat) (h : pos < s.size) : s.data.toList.drop pos = s.get! pos :: s.data.toList.drop (pos + 1) := by
  have h2 : pos < s.data.toList.length := by simpa using h
  rw [List.drop_eq_getElem_cons h2]
  congr 1
  rw [← getD_get s pos]
  simp [List.getD, List.getElem?_eq_getElem h2]

theorem ix_neg (s : ByteArray) : ∀ (f pos : Nat), s.size ≤ pos + f → (decide (ixFrom s f pos < 0)) = (s.data.toList.drop pos).all dg
  | 0, pos, h => by
    have : s.data.toList.drop pos = [] := List.drop_eq_nil_of_le (by simpa using h)
    rw [this]; simp [ixFrom]
  | f + 1, pos, h => by
    unfold ixFrom
    by_cases hp : pos < s.size
    · rw [if_pos hp, get_drop s pos hp, List.all_cons]
      by_cases hd : dg (s.get! pos) = true
      · have hd' := hd
        simp [dg] at hd'
        rw [decode_low s pos (by omega)]
        have : pr (s.get! pos).toNat = false := by simp [pr]; omega
        rw [this, hd]
        simp only [Bool.false_eq_true, if_false, Bool.true_and]
        exact ix_neg s f (pos + 1) (by omega)
      · have hpr : pr (Utf8.decode s pos).1 = true := by
          rcases Nat.lt_or_ge (s.get! pos).toNat 128 with h1 | h1
          · rw [decode_low s pos h1]
            simp [dg] at hd
            simp [pr]; omega
          · have := decode_high s pos h1
            simp [pr]; omega
        rw [hpr]
        have hd2 : dg (s.get! pos) = false := by simpa using hd
        rw [hd2]; simp
    · rw [if_neg hp]
      have : s.data.toList.drop pos = [] := List.drop_eq_nil_of_le (by simp at hp ⊢; exact hp)
      rw [this]; simp
end Go.Proofs.Ybulkyw
