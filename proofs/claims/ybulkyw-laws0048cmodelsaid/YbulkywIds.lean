/-
  The callees on strings by their contracts: strings.IndexFunc at 'no decimal digit', allDigits, strings.Compare, cmp.Compare, cmp.Or, compareNumbers, and the model's own.
-/
import Derived.Test.YbulkywRows
import Derived.Test.YbulkywPlain
import Derived.WalkKit
import Derived.WalkSpells
import Derived.WalkLawsBesides
import Derived.Lib.OthersKept
import Derived.Lib.TrimU
import Derived.Lib.Bytealg
import Derived.Lib.Small
import Derived.Deep.LoopGhost
import Derived.Deep.QuietTactic
import Derived.BigQuiet
import Derived.WalkSmall
namespace Go.Proofs.Ybulkyw
open Go.RowKit
open Go.Lib (compareBytes)

theorem pred_yes (r : Nat) (h : pr r = true) (w : World) : Calls Yba.prog 16 #[.int .i32 (r : Int)] w fun e w' => e = .returned (.bool true) ∧ w' = w := by
  simp [pr] at h
  rcases h with h | h
  · have h1 : (r : Int) < 48 := by omega
    go_enter Yba.func16, Yba.ntmps16
    go_wp2
    go_ret
    exact ⟨rfl, rfl⟩
  · have h1 : (57 : Int) < r := by omega
    have h2 : ¬ (r : Int) < 48 := by omega
    go_enter Yba.func16, Yba.ntmps16
    go_wp2
    go_ret
    exact ⟨rfl, rfl⟩
theorem pred_no (r : Nat) (h : pr r = false) (w : World) : Calls Yba.prog 16 #[.int .i32 (r : Int)] w fun e w' => e = .returned (.bool false) ∧ w' = w := by
  simp [pr] at h
  obtain ⟨h1, h2⟩ := h
  have d1 : decide ((r : Int) < 48) = false := by simp; omega
  have d2 : decide ((57 : Int) < r) = false := by simp; omega
  go_enter Yba.func16, Yba.ntmps16
  go_wp2
  go_ret
  exact ⟨rfl, rfl⟩

set_option maxHeartbeats 800000 in
theorem indexFunc_any (s : ByteArray) (w : World) :
    Calls Yba.prog 20 #[.string s, .func (.func 16) #[] #[], .bool true] w fun e w' => e = .returned (.int .i64 (ixFrom s s.size 0)) ∧ Below w.heap.size w w' := by
  go_enter Yba.func20, Yba.ntmps20
  go_wp2
  go_loopg [] s.size (fun gf wx => ∃ pos : Nat, wx.heap[w.heap.size]? = some (.stringIter s pos) ∧ Below w.heap.size w wx ∧ ixFrom s gf pos = ixFrom s s.size 0 ∧ s.size ≤ pos + gf)
  case atStart => exact ⟨0, World.iter_heap w s 0, (Below.refl _ w).alloc (Nat.le_refl _) _, rfl, by omega⟩
  case round =>
    obtain ⟨pos, hit, hbw, hleft, hfu⟩ := hrel
    by_cases hps : pos < s.size
    · obtain ⟨g', rfl⟩ : ∃ g', gk = g' + 1 := ⟨gk - 1, by omega⟩
      have hnx : ∀ ty, (Instr.next (.pointer (some ⟨w.heap.size, 0, none⟩)) true ty).run Yba.prog wr = _ := fun ty => Lib.run_next_any_at wr w.heap.size s pos ty hit hps
      have hwd := Lib.width_pos s pos
      obtain ⟨R, hR⟩ : ∃ R, (Utf8.decode s pos).1 = R := ⟨_, rfl⟩
      obtain ⟨K, hK⟩ : ∃ K, (Utf8.decode s pos).2 = K := ⟨_, rfl⟩
      simp only [ixFrom, hps, if_true, hR, hK] at hleft
      rw [hR, hK] at hnx
      rw [hK] at hwd
      have hit2 := Lib.iterAt_heap wr w.heap.size s pos (pos + K) hit
      have hbw2 := Lib.below_iterAt hbw (k := w.heap.size) (Nat.le_refl _) s (pos + K)
      obtain ⟨W, hWd⟩ : ∃ W, wr.iterAt w.heap.size s (pos + K) = W := ⟨_, rfl⟩
      rw [hWd] at hnx hit2 hbw2
      cases hsp : pr R
      · rw [hsp] at hleft
        simp only [Bool.false_eq_true, if_false] at hleft
        have HL : Hid (ixFrom s g' (pos + K) = ixFrom s s.size 0) := hleft
        have HP : Hid (pr R = false) := hsp
        clear hleft hsp hR hK hWd hit hbw
        go_wp2_with fail
        refine (pred_no R HP.out _).mono ?_
        rintro e w' ⟨rfl, rfl⟩
        go_wp2
        go_roundg g'
        case measure => omega
        case rel => exact ⟨pos + K, hit2, hbw2, HL.out, by omega⟩
      · rw [hsp] at hleft
        simp only [if_true] at hleft
        have HL : Hid ((pos : Int) = ixFrom s s.size 0) := hleft
        have HP : Hid (pr R = true) := hsp
        clear hleft hsp hR hK hWd hit hbw
        go_wp2_with fail
        refine (pred_yes R HP.out _).mono ?_
        rintro e w' ⟨rfl, rfl⟩
        go_wp2
        go_ret
        exact ⟨by rw [← HL.out] <;> rfl, hbw2⟩
    · have hnx : ∀ ty, (Instr.next (.pointer (some ⟨w.heap.size, 0, none⟩)) true ty).run Yba.prog wr = _ := fun ty => Lib.run_next_end_at wr w.heap.size s pos ty hit hps
      have HL : Hid ((-1 : Int) = ixFrom s s.size 0) := by
        show (-1 : Int) = _
        rw [← hleft]; cases gk <;> simp [ixFrom, hps]
      clear hleft hit
      go_wp2
      go_ret
      exact ⟨by rw [← HL.out] <;> rfl, hbw⟩
end Go.Proofs.Ybulkyw
