/-
  compareIdentifiers and the model's own; the comparison of two lists of identifiers.
-/
import Derived.Test.YbulkywCmp
namespace Go.Proofs.Ybulkyw
open Go.RowKit
open Go.Lib (compareBytes)

/-- Two identifiers. -/
def idc (a b : ByteArray) : Int := if digB a && digB b then cmpNum a b else if digB a then -1 else if digB b then 1 else compareBytes a.data.toList b.data.toList

set_option maxHeartbeats 400000 in
theorem ident_any (a b : ByteArray) (w : World) :
    Calls Yba.prog 8 #[.string a, .string b] w fun e w' => e = .returned (.int .i64 (idc a b)) ∧ Below w.heap.size w w' := by
  obtain ⟨p, hp⟩ : ∃ p, p = digB a := ⟨_, rfl⟩
  obtain ⟨q, hq⟩ : ∃ q, q = digB b := ⟨_, rfl⟩
  have HI : Hid (idc a b = if p && q then cmpNum a b else if p then -1 else if q then 1 else compareBytes a.data.toList b.data.toList) := by show _ = _; unfold idc; rw [← hp, ← hq]
  have HP : Hid (p = digB a) := hp
  have HQ : Hid (q = digB b) := hq
  clear hp hq
  cases p <;> cases q
  all_goals
    go_enter Yba.func8, Yba.ntmps8
    go_wp2_with fail
    refine (allDigits_any a _).mono ?_
    rw [← HP.out]
    rintro e w1 ⟨rfl, hb1⟩
    go_wp2_with fail
    refine (allDigits_any b _).mono ?_
    rw [← HQ.out]
    rintro e w2 ⟨rfl, hb2⟩
    have hb : Below w.heap.size w w2 := hb1.trans (hb2.mono hb1.size)
    first
      | (go_wp2_with (first | (go_at_call 11; refine (numbers_any a b _).mono ?_; rintro e w3 ⟨rfl, hb3⟩) | (go_at_call 12; refine (compare_any a b _).mono ?_; rintro e w3 ⟨rfl, rfl⟩))
         go_ret
         first
           | exact ⟨by rw [HI.out]; rfl, hb⟩
           | exact ⟨by rw [HI.out]; rfl, hb.trans (hb3.mono hb.size)⟩)

theorem cmpNum_parts (a b : ByteArray) : cmpNum a b = if a.size < b.size then -1 else if b.size < a.size then 1 else compareBytes a.data.toList b.data.toList := by
  unfold cmpNum cmpLen
  by_cases h1 : a.size < b.size
  · simp [h1]
  · by_cases h2 : b.size < a.size
    · simp [h1, h2]
    · simp [h1, h2]

set_option maxHeartbeats 800000 in
theorem id_any (a b : ByteArray) (w : World) (hza : a.size ≤ maxLen) (hzb : b.size ≤ maxLen) :
    Calls Yba.prog 9 #[.string a, .string b] w fun e w' => e = .returned (.int .i64 (idc a b)) ∧ ∃ nq, w' = w.drewN nq := by
  have hza' := hza
  have hzb' := hzb
  unfold maxLen at hza hzb
  obtain ⟨p, hp⟩ : ∃ p, p = digB a := ⟨_, rfl⟩
  obtain ⟨q, hq⟩ : ∃ q, q = digB b := ⟨_, rfl⟩
  have HI : Hid (idc a b = if p && q then (if a.size < b.size then -1 else if b.size < a.size then 1 else compareBytes a.data.toList b.data.toList) else if p then -1 else if q then 1 else compareBytes a.data.toList b.data.toList) := by
    show _ = _; unfold idc; rw [← hp, ← hq, cmpNum_parts]
  have HP : Hid (p = digB a) := hp
  have HQ : Hid (q = digB b) := hq
  clear hp hq
  have HZ : Hid (a.size ≤ maxLen ∧ b.size ≤ maxLen) := ⟨hza', hzb'⟩
  clear hza' hzb'
  rcases Nat.lt_trichotomy a.size b.size with h | h | h <;> cases p <;> cases q
  all_goals
    go_enter Yba.func9, Yba.ntmps9
    go_wp2_with fail
    refine (num_any a _ HZ.out.1).mono ?_
    rw [← HP.out]
    rintro e w1 ⟨rfl, rfl⟩
    go_wp2_with fail
    refine (num_any b _ HZ.out.2).mono ?_
    rw [← HQ.out]
    rintro e w2 ⟨rfl, rfl⟩
    go_wp2_with (go_at_call 14; refine (lex_any a b _ HZ.out.1 HZ.out.2).mono ?_; rintro e w3 ⟨rfl, nq, rfl⟩)
    go_ret
    rw [HI.out]
    first
      | exact ⟨rfl, nq, rfl⟩
      | exact ⟨rfl, 0, rfl⟩
      | (refine ⟨?_, 0, rfl⟩; simp [h]; done)
      | (refine ⟨?_, 0, rfl⟩; simp [h]; omega)
      | (refine ⟨?_, nq, rfl⟩; simp [h]; done)
end Go.Proofs.Ybulkyw
