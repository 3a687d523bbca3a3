/-
  slices.CompareFunc at compareIdentifiers, comparePre, the model, the law.
-/
import Derived.Test.YbulkywSeq
namespace Go.Proofs.Ybulkyw
open Go.RowKit
open Go.Lib (compareBytes)
set_option linter.unusedVariables false

/-- Two lists of identifiers. -/
def seqCmp : List ByteArray → List ByteArray → Int
  | [], [] => 0
  | [], _ :: _ => -1
  | _ :: _, [] => 1
  | x :: xs, y :: ys => if idc x y != 0 then idc x y else seqCmp xs ys

/-- The n strings of a slice that begins at b, o. -/
structure Strs (b o n : Nat) (A : List ByteArray) (w : World) : Prop where
  len : A.length = n
  cell : ∀ j, j < n → w.cell? ⟨b, o + j, none⟩ = some (.string (A.getD j ByteArray.empty))
  size : ∀ j, j < n → (A.getD j ByteArray.empty).size ≤ maxLen

theorem Strs.later {b o n : Nat} {A : List ByteArray} {w w' : World} (h : Strs b o n A w) (hb : Below w.heap.size w w') : Strs b o n A w' :=
  ⟨h.len, fun j hj => by have h0 := h.cell j hj; rw [hb.cell (World.block_lt_of_cell? _ _ h0)]; exact h0, h.size⟩

theorem drop_str (A : List ByteArray) (k : Nat) (h : k < A.length) : A.drop k = A.getD k ByteArray.empty :: A.drop (k + 1) := by
  rw [List.drop_eq_getElem_cons h]
  congr 1
  simp [List.getD, List.getElem?_eq_getElem h]

theorem seq_step (A B : List ByteArray) (k : Nat) (ha : k < A.length) (hb : k < B.length) :
    seqCmp (A.drop k) (B.drop k) = if idc (A.getD k ByteArray.empty) (B.getD k ByteArray.empty) != 0 then idc (A.getD k ByteArray.empty) (B.getD k ByteArray.empty) else seqCmp (A.drop (k + 1)) (B.drop (k + 1)) := by
  rw [drop_str A k ha, drop_str B k hb]; rfl
theorem seq_end (A B : List ByteArray) (k : Nat) (h : k = A.length ∨ k = B.length) (ha : k ≤ A.length) (hb : k ≤ B.length) :
    seqCmp (A.drop k) (B.drop k) = if A.length < B.length then -1 else if B.length < A.length then 1 else 0 := by
  have la : (A.drop k).length = A.length - k := by simp
  have lb : (B.drop k).length = B.length - k := by simp
  generalize A.drop k = x at *
  generalize B.drop k = y at *
  match x, y with
  | [], [] => simp at la lb; rw [if_neg (by omega), if_neg (by omega)]; rfl
  | [], _ :: _ => simp at la lb; rw [if_pos (by omega)]; rfl
  | _ :: _, [] => simp at la lb; rw [if_neg (by omega), if_pos (by omega)]; rfl
  | _ :: _, _ :: _ => simp at la lb; omega

set_option maxHeartbeats 800000 in
theorem compareFunc_any (b1 o1 n1 c1 b2 o2 n2 c2 : Nat) (A B : List ByteArray) (w : World) (hn1 : n1 ≤ 1024) (hn2 : n2 ≤ 1024) (hA : Strs b1 o1 n1 A w) (hB : Strs b2 o2 n2 B w) :
    Calls Yba.prog 7 #[.slice (some ⟨b1, o1, none⟩) n1 c1, .slice (some ⟨b2, o2, none⟩) n2 c2, .func (.func 8) #[] #[]] w fun e w' => e = .returned (.int .i64 (seqCmp A B)) ∧ Below w.heap.size w w' := by
  have HA : Hid (Strs b1 o1 n1 A w) := hA
  have HB : Hid (Strs b2 o2 n2 B w) := hB
  clear hA hB
  go_enter Yba.func7, Yba.ntmps7
  go_wp2
  go_loopw [13] (fun i wr => ∃ k : Nat, k ≤ n1 ∧ k ≤ n2 ∧ i = .int .i64 k ∧ Below w.heap.size w wr ∧ Hid (seqCmp A B = seqCmp (A.drop k) (B.drop k))) (fun i _ => n1 - (intOf i).toNat)
  case atStart => exact ⟨0, Nat.zero_le _, Nat.zero_le _, rfl, Below.refl _ _, rfl⟩
  case round =>
    obtain ⟨k, hk1, hk2, rfl, hb, HD⟩ := hrel
    by_cases hlt : k < n1
    · obtain ⟨x, hx⟩ : ∃ x, x = A.getD k ByteArray.empty := ⟨_, rfl⟩
      have hcx : wr.cell? ⟨b1, o1 + k, none⟩ = some (.string x) := by rw [hx]; exact (HA.out.later hb).cell k hlt
      by_cases hlt2 : k < n2
      · obtain ⟨y, hy⟩ : ∃ y, y = B.getD k ByteArray.empty := ⟨_, rfl⟩
        have hcy : wr.cell? ⟨b2, o2 + k, none⟩ = some (.string y) := by rw [hy]; exact (HB.out.later hb).cell k hlt2
        have HE := seq_step A B k (by rw [HA.out.len]; exact hlt) (by rw [HB.out.len]; exact hlt2)
        rw [← hx, ← hy, ← HD.out] at HE
        have HE2 : Hid (seqCmp A B = if idc x y != 0 then idc x y else seqCmp (A.drop (k + 1)) (B.drop (k + 1))) := HE
        clear HE HD hx hy
        go_wp2_with fail
        refine (ident_any x y _).mono ?_
        rintro e w2 ⟨rfl, hb2⟩
        obtain ⟨c, hc⟩ : ∃ c, c = idc x y := ⟨_, rfl⟩
        rw [← hc]
        have HF : Hid (seqCmp A B = if c != 0 then c else seqCmp (A.drop (k + 1)) (B.drop (k + 1))) := by show _ = _; rw [hc]; exact HE2.out
        have hb3 : Below w.heap.size w w2 := hb.trans (hb2.mono hb.size)
        clear HE2 hc hcx hcy hb hb2
        cases hcz : (c != 0)
        · have HG : Hid (seqCmp A B = seqCmp (A.drop (k + 1)) (B.drop (k + 1))) := by show _ = _; rw [HF.out, hcz]; rfl
          clear HF
          go_wp2
          go_roundw
          case rel => exact ⟨k + 1, by omega, by omega, by go_num, hb3, HG⟩
          case measure => simp [intOf]; omega
        · have HG : Hid (seqCmp A B = c) := by show _ = _; rw [HF.out, hcz]; rfl
          clear HF
          go_wp2
          go_ret
          exact ⟨by rw [HG.out]; rfl, hb3⟩
      · have HE := seq_end A B k (by rw [HB.out.len]; omega) (by rw [HA.out.len]; omega) (by rw [HB.out.len]; omega)
        rw [← HD.out, HA.out.len, HB.out.len, if_neg (by omega), if_pos (by omega)] at HE
        have HG : Hid (seqCmp A B = 1) := HE
        clear HE HD hx
        go_wp2
        go_ret
        exact ⟨by rw [HG.out]; rfl, hb⟩
    · have HE := seq_end A B k (by rw [HA.out.len]; omega) (by rw [HA.out.len]; omega) (by rw [HB.out.len]; omega)
      rw [← HD.out, HA.out.len, HB.out.len] at HE
      by_cases hnn : n1 < n2
      · rw [if_pos hnn] at HE
        have HG : Hid (seqCmp A B = -1) := HE
        clear HE HD
        go_wp2
        go_ret
        exact ⟨by rw [HG.out]; rfl, hb⟩
      · rw [if_neg hnn, if_neg (by omega)] at HE
        have HG : Hid (seqCmp A B = 0) := HE
        clear HE HD
        go_wp2
        go_ret
        exact ⟨by rw [HG.out]; rfl, hb⟩

set_option maxHeartbeats 800000 in
theorem model_full (b1 o1 n1 c1 b2 o2 n2 c2 : Nat) (A B : List ByteArray) (w : World) (hn1 : n1 ≤ 1024) (hn2 : n2 ≤ 1024) (hp1 : 0 < n1) (hp2 : 0 < n2) (hA : Strs b1 o1 n1 A w) (hB : Strs b2 o2 n2 B w) :
    Calls Yba.prog 6 #[.slice (some ⟨b1, o1, none⟩) n1 c1, .slice (some ⟨b2, o2, none⟩) n2 c2] w fun e w' => e = .returned (.int .i64 (seqCmp A B)) ∧ ∃ nq, w' = w.drewN nq := by
  have HA : Hid (Strs b1 o1 n1 A w) := hA
  have HB : Hid (Strs b2 o2 n2 B w) := hB
  clear hA hB
  have e1 : ((n1 : Int) == 0) = false := beq_eq_false_iff_ne.2 (by omega)
  have e2 : ((n2 : Int) == 0) = false := beq_eq_false_iff_ne.2 (by omega)
  rcases Nat.lt_or_ge n2 n1 with hnn | hnn
  all_goals
    first
      | (have hd : decide (n2 < n1) = false := by simp; omega)
      | skip
    go_enter Yba.func6, Yba.ntmps6
    go_wp2
    go_loopw [6] (fun i wr => ∃ k q : Nat, k ≤ n1 ∧ k ≤ n2 ∧ i = .int .i64 k ∧ wr = w.drewN q ∧ Hid (seqCmp A B = seqCmp (A.drop k) (B.drop k))) (fun i _ => n1 - (intOf i).toNat)
    case atStart => exact ⟨0, 0, Nat.zero_le _, Nat.zero_le _, rfl, rfl, rfl⟩
    case round =>
      obtain ⟨k, q, hk1, hk2, rfl, hw, HD⟩ := hrel
      have HW : Hid (wr = w.drewN q) := hw
      clear hw
      by_cases hlt : k < n1 ∧ k < n2
      · obtain ⟨hlt1, hlt2⟩ := hlt
        obtain ⟨x, hx⟩ : ∃ x, x = A.getD k ByteArray.empty := ⟨_, rfl⟩
        obtain ⟨y, hy⟩ : ∃ y, y = B.getD k ByteArray.empty := ⟨_, rfl⟩
        have hcx : wr.cell? ⟨b1, o1 + k, none⟩ = some (.string x) := by rw [hx, HW.out]; exact HA.out.cell k hlt1
        have hcy : wr.cell? ⟨b2, o2 + k, none⟩ = some (.string y) := by rw [hy, HW.out]; exact HB.out.cell k hlt2
        have HE := seq_step A B k (by rw [HA.out.len]; exact hlt1) (by rw [HB.out.len]; exact hlt2)
        rw [← hx, ← hy, ← HD.out] at HE
        have HZ : Hid (x.size ≤ maxLen ∧ y.size ≤ maxLen) := ⟨by rw [hx]; exact HA.out.size k hlt1, by rw [hy]; exact HB.out.size k hlt2⟩
        obtain ⟨c, hc⟩ : ∃ c, c = idc x y := ⟨_, rfl⟩
        rw [← hc] at HE
        have HF : Hid (seqCmp A B = if c != 0 then c else seqCmp (A.drop (k + 1)) (B.drop (k + 1))) := HE
        have HI : Hid (∀ W : World, Calls Yba.prog 9 #[.string x, .string y] W fun e w' => e = .returned (.int .i64 c) ∧ ∃ nq, w' = W.drewN nq) := fun W => by rw [hc]; exact id_any x y W HZ.out.1 HZ.out.2
        clear HE HD hx hy hc
        cases hcz : (c != 0)
        · have HG : Hid (seqCmp A B = seqCmp (A.drop (k + 1)) (B.drop (k + 1))) := by show _ = _; rw [HF.out, hcz]; rfl
          clear HF
          go_wp2
          go_quiet ((go_at_call 9; exact Calls.quiet_of (HI.out _)))
          go_wp2
          go_roundw
          case rel => exact ⟨k + 1, q + nq, by omega, by omega, by go_num, by rw [HW.out, drew2], HG⟩
          case measure => simp [intOf]; omega
        · have HG : Hid (seqCmp A B = c) := by show _ = _; rw [HF.out, hcz]; rfl
          clear HF
          go_wp2
          go_quiet ((go_at_call 9; exact Calls.quiet_of (HI.out _)))
          go_wp2
          go_ret
          exact ⟨by rw [HG.out]; rfl, q + nq, by rw [HW.out, drew2]⟩
      · have HE := seq_end A B k (by rw [HA.out.len, HB.out.len]; omega) (by rw [HA.out.len]; omega) (by rw [HB.out.len]; omega)
        rw [← HD.out, HA.out.len, HB.out.len] at HE
        have HG : Hid (seqCmp A B = if n1 < n2 then -1 else if n2 < n1 then 1 else 0) := HE
        clear HE HD
        go_wp2
        all_goals
          go_ret
          refine ⟨?_, q, HW.out⟩
          rw [HG.out]
          first
            | (rw [if_pos (by omega)]; rfl)
            | (rw [if_neg (by omega), if_pos (by omega)]; rfl)
            | (rw [if_neg (by omega), if_neg (by omega)]; rfl)

/-- comparePre, and the model, where one of the two is empty: by the lengths alone. -/
def byLen (n1 n2 : Nat) : Int := if n1 = 0 then (if n2 = 0 then 0 else 1) else -1

theorem pre_empty (ao bo : Option Addr) (n1 c1 n2 c2 : Nat) (w : World) (h : n1 = 0 ∨ n2 = 0) :
    Calls Yba.prog 5 #[.slice ao n1 c1, .slice bo n2 c2] w fun e w' => e = .returned (.int .i64 (byLen n1 n2)) ∧ w' = w := by
  rcases Nat.eq_zero_or_pos n1 with h1 | h1
  · subst h1
    rcases Nat.eq_zero_or_pos n2 with h2 | h2
    · subst h2
      go_enter Yba.func5, Yba.ntmps5
      go_wp2
      go_ret
      exact ⟨rfl, rfl⟩
    · have HB : Hid (byLen 0 n2 = 1) := by show _ = _; unfold byLen; rw [if_pos rfl, if_neg (by omega)]
      have e2 : ((n2 : Int) == 0) = false := beq_eq_false_iff_ne.2 (by omega)
      clear h
      go_enter Yba.func5, Yba.ntmps5
      go_wp2
      go_ret
      exact ⟨by rw [HB.out]; rfl, rfl⟩
  · obtain rfl : n2 = 0 := by omega
    have HB : Hid (byLen n1 0 = -1) := by show _ = _; unfold byLen; rw [if_neg (by omega)]
    have e1 : ((n1 : Int) == 0) = false := beq_eq_false_iff_ne.2 (by omega)
    clear h
    go_enter Yba.func5, Yba.ntmps5
    go_wp2
    go_ret
    exact ⟨by rw [HB.out]; rfl, rfl⟩

theorem model_empty (ao bo : Option Addr) (n1 c1 n2 c2 : Nat) (w : World) (h : n1 = 0 ∨ n2 = 0) :
    Calls Yba.prog 6 #[.slice ao n1 c1, .slice bo n2 c2] w fun e w' => e = .returned (.int .i64 (byLen n1 n2)) ∧ w' = w := by
  rcases Nat.eq_zero_or_pos n1 with h1 | h1
  · subst h1
    rcases Nat.eq_zero_or_pos n2 with h2 | h2
    · subst h2
      go_enter Yba.func6, Yba.ntmps6
      go_wp2
      go_ret
      exact ⟨rfl, rfl⟩
    · have HB : Hid (byLen 0 n2 = 1) := by show _ = _; unfold byLen; rw [if_pos rfl, if_neg (by omega)]
      have e2 : ((n2 : Int) == 0) = false := beq_eq_false_iff_ne.2 (by omega)
      clear h
      go_enter Yba.func6, Yba.ntmps6
      go_wp2
      go_ret
      exact ⟨by rw [HB.out]; rfl, rfl⟩
  · obtain rfl : n2 = 0 := by omega
    have HB : Hid (byLen n1 0 = -1) := by show _ = _; unfold byLen; rw [if_neg (by omega)]
    have e1 : ((n1 : Int) == 0) = false := beq_eq_false_iff_ne.2 (by omega)
    clear h
    go_enter Yba.func6, Yba.ntmps6
    go_wp2
    go_ret
    exact ⟨by rw [HB.out]; rfl, rfl⟩

theorem pre_full (b1 o1 n1 c1 b2 o2 n2 c2 : Nat) (A B : List ByteArray) (w : World) (hn1 : n1 ≤ 1024) (hn2 : n2 ≤ 1024) (hp1 : 0 < n1) (hp2 : 0 < n2) (hA : Strs b1 o1 n1 A w) (hB : Strs b2 o2 n2 B w) :
    Calls Yba.prog 5 #[.slice (some ⟨b1, o1, none⟩) n1 c1, .slice (some ⟨b2, o2, none⟩) n2 c2] w fun e w' => e = .returned (.int .i64 (seqCmp A B)) ∧ Below w.heap.size w w' := by
  have HA : Hid (Strs b1 o1 n1 A w) := hA
  have HB : Hid (Strs b2 o2 n2 B w) := hB
  clear hA hB
  have e1 : ((n1 : Int) == 0) = false := beq_eq_false_iff_ne.2 (by omega)
  have e2 : ((n2 : Int) == 0) = false := beq_eq_false_iff_ne.2 (by omega)
  go_enter Yba.func5, Yba.ntmps5
  go_wp2_with fail
  refine (compareFunc_any b1 o1 n1 c1 b2 o2 n2 c2 A B _ hn1 hn2 HA.out HB.out).mono ?_
  rintro e w1 ⟨rfl, hb⟩
  go_wp2
  go_ret
  exact ⟨rfl, hb⟩

/-! The law -/
theorem law_long (ao bo : Option Addr) (n1 c1 n2 c2 : Nat) (w : World) (h : 1024 < n1 ∨ 1024 < n2) (hm1 : n1 ≤ maxLen) (hm2 : n2 ≤ maxLen) :
    Calls Yba.prog 3 #[.slice ao n1 c1, .slice bo n2 c2] w fun e w' => e = .returned (.bool true) ∧ Below w.heap.size w w' := by
  unfold maxLen at hm1 hm2
  by_cases h1 : 1024 < n1
  · go_enter Yba.func3, Yba.ntmps3
    go_wp2
    go_ret
    exact ⟨rfl, Below.refl _ _⟩
  · have h2 : 1024 < n2 := by omega
    clear h
    go_enter Yba.func3, Yba.ntmps3
    go_wp2
    go_ret
    exact ⟨rfl, Below.refl _ _⟩

theorem law_empty (ao bo : Option Addr) (n1 c1 n2 c2 : Nat) (w : World) (h : n1 = 0 ∨ n2 = 0) (hm1 : n1 ≤ 1024) (hm2 : n2 ≤ 1024) :
    Calls Yba.prog 3 #[.slice ao n1 c1, .slice bo n2 c2] w fun e w' => e = .returned (.bool true) ∧ Below w.heap.size w w' := by
  have HH : Hid (n1 = 0 ∨ n2 = 0) := h
  clear h
  go_enter Yba.func3, Yba.ntmps3
  go_wp2_with fail
  refine (pre_empty ao bo n1 c1 n2 c2 _ HH.out).mono ?_
  rintro e w1 ⟨rfl, rfl⟩
  go_wp2_with fail
  refine (model_empty ao bo n1 c1 n2 c2 _ HH.out).mono ?_
  rintro e w1 ⟨rfl, rfl⟩
  go_wp2
  go_ret
  exact ⟨rfl, Below.refl _ _⟩

theorem law_full (b1 o1 n1 c1 b2 o2 n2 c2 : Nat) (A B : List ByteArray) (w : World) (hn1 : n1 ≤ 1024) (hn2 : n2 ≤ 1024) (hp1 : 0 < n1) (hp2 : 0 < n2) (hA : Strs b1 o1 n1 A w) (hB : Strs b2 o2 n2 B w) :
    Calls Yba.prog 3 #[.slice (some ⟨b1, o1, none⟩) n1 c1, .slice (some ⟨b2, o2, none⟩) n2 c2] w fun e w' => e = .returned (.bool true) ∧ Below w.heap.size w w' := by
  have HA : Hid (Strs b1 o1 n1 A w) := hA
  have HB : Hid (Strs b2 o2 n2 B w) := hB
  clear hA hB
  go_enter Yba.func3, Yba.ntmps3
  go_wp2_with fail
  refine (pre_full b1 o1 n1 c1 b2 o2 n2 c2 A B _ hn1 hn2 hp1 hp2 HA.out HB.out).mono ?_
  rintro e w1 ⟨rfl, hb⟩
  go_wp2_with fail
  refine (model_full b1 o1 n1 c1 b2 o2 n2 c2 A B _ hn1 hn2 hp1 hp2 (HA.out.later hb) (HB.out.later hb)).mono ?_
  rintro e w2 ⟨rfl, nq, rfl⟩
  go_wp2
  go_ret
  exact ⟨rfl, below_drewN hb nq⟩
end Go.Proofs.Ybulkyw
