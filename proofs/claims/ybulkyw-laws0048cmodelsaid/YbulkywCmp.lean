/-
  allDigits, the model's own digits test and its own comparison, strings.Compare, cmp.Compare, cmp.Or, compareNumbers.
-/
import Derived.Test.YbulkywIds
namespace Go.Proofs.Ybulkyw
open Go.RowKit
open Go.Lib (compareBytes)

theorem IndexFunc_any (s : ByteArray) (w : World) :
    Calls Yba.prog 15 #[.string s, .func (.func 16) #[] #[]] w fun e w' => e = .returned (.int .i64 (ixFrom s s.size 0)) ∧ Below w.heap.size w w' := by
  go_enter Yba.func15, Yba.ntmps15
  go_wp2_with (go_at_call 20; refine (indexFunc_any s _).mono ?_; rintro e w' ⟨rfl, hb⟩)
  go_ret
  exact ⟨rfl, hb⟩

theorem digB_empty (s : ByteArray) (h : s.toList.isEmpty = true) : digB s = false := by
  have : s.size = 0 := by
    rw [ByteArray.toList_eq] at h
    simp at h
    show s.data.size = 0
    simp [h]
  simp [digB, this]

theorem digB_ix (s : ByteArray) (h : s.toList.isEmpty = false) : digB s = decide (ixFrom s s.size 0 < 0) := by
  have : 0 < s.size := by
    rw [ByteArray.toList_eq] at h
    rcases Nat.eq_zero_or_pos s.size with h0 | h0
    · exfalso
      have h1 : s.data = #[] := Array.eq_empty_of_size_eq_zero h0
      simp [h1] at h
    · exact h0
  rw [ix_neg s s.size 0 (by omega)]
  simp [digB, this]

set_option maxHeartbeats 400000 in
theorem allDigits_any (s : ByteArray) (w : World) :
    Calls Yba.prog 10 #[.string s] w fun e w' => e = .returned (.bool (digB s)) ∧ Below w.heap.size w w' := by
  cases hs : s.toList.isEmpty
  · have HD : Hid (digB s = decide (ixFrom s s.size 0 < 0)) := digB_ix s hs
    go_enter Yba.func10, Yba.ntmps10
    go_wp2_with (go_at_call 15; refine (IndexFunc_any s _).mono ?_; rintro e w' ⟨rfl, hb⟩)
    go_ret
    exact ⟨by rw [HD.out]; rfl, hb⟩
  · have HD : Hid (digB s = false) := digB_empty s hs
    go_enter Yba.func10, Yba.ntmps10
    go_wp2
    go_ret
    exact ⟨by rw [HD.out]; rfl, Below.refl _ _⟩

theorem drop_byte (s : ByteArray) (k : Nat) (h : k < s.size) : s.data.toList.drop k = s[k] :: s.data.toList.drop (k + 1) := by
  have h2 : k < s.data.toList.length := by simpa using h
  rw [List.drop_eq_getElem_cons h2]
  rfl

set_option maxHeartbeats 400000 in
theorem num_any (s : ByteArray) (w : World) (hz : s.size ≤ maxLen) :
    Calls Yba.prog 13 #[.string s] w fun e w' => e = .returned (.bool (digB s)) ∧ w' = w := by
  unfold maxLen at hz
  rcases Nat.eq_zero_or_pos s.size with h0 | h0
  · have HD : Hid (digB s = false) := by show _ = _; simp [digB, h0]
    have h1 : ((s.size : Int) == 0) = true := by simp [h0]
    go_enter Yba.func13, Yba.ntmps13
    go_wp2
    go_ret
    exact ⟨by rw [HD.out]; rfl, rfl⟩
  · have hd0 : digB s = (s.data.toList.drop 0).all dg := by simp [digB, h0]
    have HD0 : Hid (digB s = (s.data.toList.drop 0).all dg) := hd0
    clear hd0
    have h1 : ((s.size : Int) == 0) = false := beq_eq_false_iff_ne.2 (by omega)
    go_enter Yba.func13, Yba.ntmps13
    go_wp2
    go_loop [3] (fun i => ∃ k : Nat, k ≤ s.size ∧ i = .int .i64 k ∧ Hid (digB s = (s.data.toList.drop k).all dg)) (fun i => s.size - (intOf i).toNat)
    case atStart => exact ⟨0, Nat.zero_le _, rfl, HD0⟩
    case round =>
      obtain ⟨k, hk, rfl, HD⟩ := hrel
      by_cases hlt : k < s.size
      · have HE : Hid (digB s = (dg s[k] && (s.data.toList.drop (k + 1)).all dg)) := by show _ = _; rw [HD.out, drop_byte s k hlt, List.all_cons]
        clear HD
        by_cases hdg : dg s[k] = true
        · have hdg' := hdg
          simp only [dg, Bool.and_eq_true, decide_eq_true_eq] at hdg'
          have HE2 : Hid (digB s = (s.data.toList.drop (k + 1)).all dg) := by show _ = _; rw [HE.out, hdg, Bool.true_and]
          have g1 : (48 : Int) ≤ (s[k].toNat : Int) := by omega
          have g2 : (s[k].toNat : Int) ≤ 57 := by omega
          clear HE hdg hdg'
          go_wp2
          go_round
          case rel => exact ⟨k + 1, by omega, by go_num, HE2⟩
          case measure => simp [intOf]; omega
        · have hdf : dg s[k] = false := by simpa using hdg
          have HE2 : Hid (digB s = false) := by show _ = _; rw [HE.out, hdf, Bool.false_and]
          have g : (s[k].toNat : Int) < 48 ∨ (57 : Int) < (s[k].toNat : Int) := by
            simp only [dg, Bool.and_eq_true, decide_eq_true_eq] at hdg
            omega
          clear HE hdg hdf
          rcases g with g | g
          all_goals
            go_wp2
            go_ret
            exact ⟨by rw [HE2.out]; rfl, rfl⟩
      · have HE : Hid (digB s = true) := by show _ = _; rw [HD.out, List.drop_eq_nil_of_le (by simp; omega)]; rfl
        clear HD
        go_wp2
        go_ret
        exact ⟨by rw [HE.out]; rfl, rfl⟩

/-- The comparison's next step. -/
theorem cb_step (a b : ByteArray) (k : Nat) (ha : k < a.size) (hb : k < b.size) :
    compareBytes (a.data.toList.drop k) (b.data.toList.drop k) = if a[k] < b[k] then -1 else if b[k] < a[k] then 1 else compareBytes (a.data.toList.drop (k + 1)) (b.data.toList.drop (k + 1)) := by
  rw [drop_byte a k ha, drop_byte b k hb]; rfl
theorem cb_end (a b : ByteArray) (k : Nat) (h : k = a.size ∨ k = b.size) (ha : k ≤ a.size) (hb : k ≤ b.size) :
    compareBytes (a.data.toList.drop k) (b.data.toList.drop k) = if a.size < b.size then -1 else if b.size < a.size then 1 else 0 := by
  have la : (a.data.toList.drop k).length = a.size - k := by simp
  have lb : (b.data.toList.drop k).length = b.size - k := by simp
  generalize a.data.toList.drop k = x at *
  generalize b.data.toList.drop k = y at *
  match x, y with
  | [], [] => simp at la lb; rw [if_neg (by omega), if_neg (by omega)]; rfl
  | [], _ :: _ => simp at la lb; rw [if_pos (by omega)]; rfl
  | _ :: _, [] => simp at la lb; rw [if_neg (by omega), if_pos (by omega)]; rfl
  | _ :: _, _ :: _ => simp at la lb; omega

theorem drew2 (w : World) (a b : Nat) : (w.drewN a).drewN b = w.drewN (a + b) := World.drewN_drewN ..
theorem drew3 (w : World) (a b c : Nat) : ((w.drewN a).drewN b).drewN c = w.drewN (a + (b + c)) := by rw [drew2, drew2]

set_option maxHeartbeats 800000 in
theorem lex_any (a b : ByteArray) (w : World) (hza : a.size ≤ maxLen) (hzb : b.size ≤ maxLen) :
    Calls Yba.prog 14 #[.string a, .string b] w fun e w' => e = .returned (.int .i64 (compareBytes a.data.toList b.data.toList)) ∧ ∃ nq, w' = w.drewN nq := by
  unfold maxLen at hza hzb
  rcases Nat.lt_or_ge b.size a.size with hba | hba
  all_goals
    first
      | (have hd : decide (b.size < a.size) = false := by simp; omega)
      | skip
    go_enter Yba.func14, Yba.ntmps14
    go_wp2
    go_loopw [6] (fun i wr => ∃ k q : Nat, k ≤ a.size ∧ k ≤ b.size ∧ i = .int .i64 k ∧ wr = w.drewN q ∧ Hid (compareBytes a.data.toList b.data.toList = compareBytes (a.data.toList.drop k) (b.data.toList.drop k))) (fun i _ => a.size - (intOf i).toNat)
    case atStart => exact ⟨0, 0, Nat.zero_le _, Nat.zero_le _, rfl, rfl, rfl⟩
    case round =>
      obtain ⟨k, q, hka, hkb, rfl, rfl, HD⟩ := hrel
      by_cases hlt : k < a.size ∧ k < b.size
      · obtain ⟨hlt1, hlt2⟩ := hlt
        have HE := cb_step a b k hlt1 hlt2
        rw [← HD.out] at HE
        clear HD
        rcases Nat.lt_trichotomy a[k].toNat b[k].toNat with hc | hc | hc
        · have hc1 : a[k] < b[k] := UInt8.lt_iff_toNat_lt.2 hc
          rw [if_pos hc1] at HE
          have HE2 : Hid (compareBytes a.data.toList b.data.toList = -1) := HE
          have g : (a[k].toNat : Int) < (b[k].toNat : Int) := by omega
          clear HE hc1 hc
          go_wp2
          go_quiet (fail)
          go_wp2
          go_ret
          exact ⟨by rw [HE2.out]; rfl, _, drew2 _ _ _⟩
        · have hc1 : ¬ a[k] < b[k] := fun h => by have := UInt8.lt_iff_toNat_lt.1 h; omega
          have hc2 : ¬ b[k] < a[k] := fun h => by have := UInt8.lt_iff_toNat_lt.1 h; omega
          rw [if_neg hc1, if_neg hc2] at HE
          have HE2 : Hid (compareBytes a.data.toList b.data.toList = compareBytes (a.data.toList.drop (k + 1)) (b.data.toList.drop (k + 1))) := HE
          have g1 : ¬ (a[k].toNat : Int) < (b[k].toNat : Int) := by omega
          have g2 : ¬ (b[k].toNat : Int) < (a[k].toNat : Int) := by omega
          clear HE hc1 hc2 hc
          go_wp2
          go_quiet (fail)
          go_wp2
          go_quiet (fail)
          go_wp2
          go_roundw
          case rel => exact ⟨k + 1, _, by omega, by omega, by go_num, rfl, HE2⟩
          case measure => simp [intOf]; omega
        · have hc1 : ¬ a[k] < b[k] := fun h => by have := UInt8.lt_iff_toNat_lt.1 h; omega
          have hc2 : b[k] < a[k] := UInt8.lt_iff_toNat_lt.2 hc
          rw [if_neg hc1, if_pos hc2] at HE
          have HE2 : Hid (compareBytes a.data.toList b.data.toList = 1) := HE
          have g1 : ¬ (a[k].toNat : Int) < (b[k].toNat : Int) := by omega
          have g2 : (b[k].toNat : Int) < (a[k].toNat : Int) := by omega
          clear HE hc1 hc2 hc
          go_wp2
          go_quiet (fail)
          go_wp2
          go_quiet (fail)
          go_wp2
          go_ret
          exact ⟨by rw [HE2.out]; rfl, _, drew3 _ _ _ _⟩
      · have HE := cb_end a b k (by omega) hka hkb
        rw [← HD.out] at HE
        have HE2 : Hid (compareBytes a.data.toList b.data.toList = if a.size < b.size then -1 else if b.size < a.size then 1 else 0) := HE
        clear HE HD
        go_wp2
        all_goals
          go_ret
          refine ⟨?_, _, rfl⟩
          rw [HE2.out]
          first
            | (rw [if_pos (by omega)]; rfl)
            | (rw [if_neg (by omega), if_pos (by omega)]; rfl)
            | (rw [if_neg (by omega), if_neg (by omega)]; rfl)

set_option maxRecDepth 100000 in
theorem compareString_any (a b : ByteArray) (w : World) :
    Calls Yba.prog 19 #[.string a, .string b] w fun e w' => e = .returned (.int .i64 (compareBytes a.data.toList b.data.toList)) ∧ w' = w := by
  go_enter Yba.func19, Yba.ntmps19
  go_wp2
  rw [run_callFunc_extern Yba.func22 (by kernel_rfl) (by kernel_rfl) (by kernel_rfl) (e := Extern.BytealgCompare.compare) (by kernel_rfl), Lib.run_compareString]
  simp only [Result.andThen]
  rw [Oper.upon_value]
  go_wp2
  go_ret
  exact ⟨rfl, rfl⟩

theorem compare_any (a b : ByteArray) (w : World) :
    Calls Yba.prog 12 #[.string a, .string b] w fun e w' => e = .returned (.int .i64 (compareBytes a.data.toList b.data.toList)) ∧ w' = w := by
  go_enter Yba.func12, Yba.ntmps12
  go_wp2_with (go_at_call 19; refine (compareString_any _ _ _).mono ?_; rintro e w' ⟨rfl, rfl⟩)
  go_ret
  exact ⟨rfl, rfl⟩

/-- How two lengths compare. -/
def cmpLen (x y : Nat) : Int := if x < y then -1 else if y < x then 1 else 0

set_option maxHeartbeats 400000 in
theorem cmp_any (x y : Nat) (w : World) :
    Calls Yba.prog 18 #[.int .i64 x, .int .i64 y] w fun e w' => e = .returned (.int .i64 (cmpLen x y)) ∧ w' = w := by
  rcases Nat.lt_trichotomy x y with h | h | h
  · have HC : Hid (cmpLen x y = -1) := if_pos h
    go_enter Yba.func18, Yba.ntmps18
    go_wp2
    go_ret
    exact ⟨by rw [HC.out]; rfl, rfl⟩
  · subst h
    have HC : Hid (cmpLen x x = 0) := by show _ = _; unfold cmpLen; rw [if_neg (by omega), if_neg (by omega)]
    go_enter Yba.func18, Yba.ntmps18
    go_wp2
    go_ret
    exact ⟨by rw [HC.out]; rfl, rfl⟩
  · have HC : Hid (cmpLen x y = 1) := by show _ = _; unfold cmpLen; rw [if_neg (by omega), if_pos h]
    go_enter Yba.func18, Yba.ntmps18
    go_wp2
    go_ret
    exact ⟨by rw [HC.out]; rfl, rfl⟩

/-- cmp.Or of two. -/
theorem or_first (b : Nat) (x : Int) (w : World) (h0 : w.cell? ⟨b, 0, none⟩ = some (.int .i64 x)) (hx : (x != 0) = true) :
    Calls Yba.prog 17 #[.slice (some ⟨b, 0, none⟩) 2 2] w fun e w' => e = .returned (.int .i64 x) ∧ w' = w := by
  go_enter Yba.func17, Yba.ntmps17
  go_wp2
  refine wp_loop_rounds 1 ?_
  rw [rounds_succ]
  go_wp2
  go_ret
  exact ⟨rfl, rfl⟩
theorem or_second (b : Nat) (y : Int) (w : World) (h0 : w.cell? ⟨b, 0, none⟩ = some (.int .i64 0)) (h1 : w.cell? ⟨b, 1, none⟩ = some (.int .i64 y)) :
    Calls Yba.prog 17 #[.slice (some ⟨b, 0, none⟩) 2 2] w fun e w' => e = .returned (.int .i64 y) ∧ w' = w := by
  cases hy : (y != 0)
  · obtain rfl : y = 0 := by simpa using hy
    go_enter Yba.func17, Yba.ntmps17
    go_wp2
    refine wp_loop_rounds 3 ?_
    rw [rounds_succ]
    go_wp2
    rw [rounds_succ]
    go_wp2
    rw [rounds_succ]
    go_wp2
    go_ret
    exact ⟨rfl, rfl⟩
  · go_enter Yba.func17, Yba.ntmps17
    go_wp2
    refine wp_loop_rounds 2 ?_
    rw [rounds_succ]
    go_wp2
    rw [rounds_succ]
    go_wp2
    go_ret
    exact ⟨rfl, rfl⟩

/-- Two numbers written without leading zeros. -/
def cmpNum (a b : ByteArray) : Int := if cmpLen a.size b.size != 0 then cmpLen a.size b.size else compareBytes a.data.toList b.data.toList

set_option maxHeartbeats 400000 in
theorem numbers_any (a b : ByteArray) (w : World) :
    Calls Yba.prog 11 #[.string a, .string b] w fun e w' => e = .returned (.int .i64 (cmpNum a b)) ∧ Below w.heap.size w w' := by
  obtain ⟨c, hc⟩ : ∃ c, c = cmpLen a.size b.size := ⟨_, rfl⟩
  have HC : Hid (c = cmpLen a.size b.size) := hc
  clear hc
  cases hne : (c != 0)
  · have HN : Hid (cmpNum a b = compareBytes a.data.toList b.data.toList) := by show _ = _; unfold cmpNum; rw [← HC.out, hne]; rfl
    obtain rfl : c = 0 := by simpa using hne
    go_enter Yba.func11, Yba.ntmps11
    go_wp2_with fail
    refine (cmp_any a.size b.size _).mono ?_
    rw [← HC.out]
    rintro e w' ⟨rfl, rfl⟩
    go_wp2_with (go_at_call 12; refine (compare_any _ _ _).mono ?_; rintro e w' ⟨rfl, rfl⟩)
    refine (or_second _ (compareBytes a.data.toList b.data.toList) _ ?_ ?_).mono ?_
    · go_simp
    · go_simp
    rintro e w' ⟨rfl, rfl⟩
    go_wp2
    go_ret
    exact ⟨by rw [HN.out]; rfl, (Below.refl _ _).alloc (Nat.le_refl _) _⟩
  · have HN : Hid (cmpNum a b = c) := by show _ = _; unfold cmpNum; rw [← HC.out, hne]; rfl
    go_enter Yba.func11, Yba.ntmps11
    go_wp2_with fail
    refine (cmp_any a.size b.size _).mono ?_
    rw [← HC.out]
    rintro e w' ⟨rfl, rfl⟩
    go_wp2_with (go_at_call 12; refine (compare_any _ _ _).mono ?_; rintro e w' ⟨rfl, rfl⟩)
    refine (or_first _ c _ ?_ hne).mono ?_
    · go_simp
    rintro e w' ⟨rfl, rfl⟩
    go_wp2
    go_ret
    exact ⟨by rw [HN.out]; rfl, (Below.refl _ _).alloc (Nat.le_refl _) _⟩
end Go.Proofs.Ybulkyw
