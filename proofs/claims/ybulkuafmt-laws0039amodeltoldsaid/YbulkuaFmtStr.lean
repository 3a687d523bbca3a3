/-
  (Decimal).String, walked as far as the law asks: it returns some string; nothing old is written.
-/
import Derived.Test.YbulkuaFmtFacts
import Derived.WalkKit
import Derived.WalkSpells
import Derived.WalkLawsBesides
import Derived.Laws.BytesArg
namespace Go.Proofs.YbulkuaFmt
open Go.RowKit Go.Extern.Stop Go.Stop Go.Extern

/-- The receiver's box in block N, the 21 bytes in block N + 1, all below N as it was. -/
def Buf (N : Nat) (u p : Int) (w wr : World) : Prop :=
  wr.cell? ⟨N, 0, none⟩ = some (.int .i64 u) ∧ wr.cell? ⟨N, 1, none⟩ = some (.int .u8 p) ∧
  (∀ j : Nat, j < 21 → ∃ x : Int, wr.cell? ⟨N + 1, j, none⟩ = some (.int .u8 x)) ∧ (∀ j : Nat, j < 21 → wr.frozen? ⟨N + 1, j, none⟩ = false) ∧ Below N w wr ∧ N + 1 < wr.heap.size

theorem Buf.set {N : Nat} {u p : Int} {w wr : World} (h : Buf N u p w wr) (k : Nat) (x : Int) : Buf N u p w (wr.setCell ⟨N + 1, k, none⟩ (.int .u8 x)) := by
  obtain ⟨h0, h1, h2, h3, h4, h5⟩ := h
  refine ⟨?_, ?_, fun j hj => ?_, fun j hj => ?_, h4.setCell (by simp) _, by simpa using h5⟩
  · rw [World.cell?_setCell_other _ _ _ _ (by simp)]; exact h0
  · rw [World.cell?_setCell_other _ _ _ _ (by simp)]; exact h1
  · by_cases hjk : k = j
    · subst hjk
      obtain ⟨y, hy⟩ := h2 k hj
      exact ⟨x, World.cell?_setCell_same _ _ _ hy⟩
    · obtain ⟨y, hy⟩ := h2 j hj
      exact ⟨y, by rw [World.cell?_setCell_other _ _ _ _ (fun e => hjk (congrArg Addr.off e))]; exact hy⟩
  · rw [World.frozen?_setCell]; exact h3 j hj

theorem Buf.nums {N : Nat} {u p : Int} {w wr : World} (h : Buf N u p w wr) (q : Nat) (hq : q ≤ 21) : ∃ xs : List Int, xs.length = 21 - q ∧ ∀ i, i < 21 - q → wr.cell? ⟨N + 1, q + i, none⟩ = some (.int .u8 (xs.getD i 0)) := by
  have key : ∀ n, n ≤ 21 - q → ∃ xs : List Int, xs.length = n ∧ ∀ i, i < n → wr.cell? ⟨N + 1, q + i, none⟩ = some (.int .u8 (xs.getD i 0)) := by
    intro n
    induction n with
    | zero => intro _; exact ⟨[], rfl, fun i hi => by omega⟩
    | succ n ih =>
      intro hn
      obtain ⟨xs, hl, hx⟩ := ih (by omega)
      obtain ⟨y, hy⟩ := h.2.2.1 (q + n) (by omega)
      refine ⟨xs ++ [y], by simp [hl], fun i hi => ?_⟩
      by_cases hin : i < n
      · rw [hx i hin]; simp [List.getD, List.getElem?_append_left (show i < xs.length by omega)]
      · obtain rfl : i = n := by omega
        rw [hy]; simp [List.getD, ← hl]
  exact key _ (Nat.le_refl _)

theorem mag_neg {u : Int} (h1 : -9223372036854775808 ≤ u) (h : u < 0) : IntKind.u64.wrap (-IntKind.u64.wrap u) = ((-u).toNat : Int) ∧ (-u).toNat ≤ 9223372036854775808 := by
  rw [IntKind.wrap_u64, IntKind.wrap_u64]; omega
theorem mag_pos {u : Int} (h2 : u ≤ 9223372036854775807) (h : 0 ≤ u) : IntKind.u64.wrap u = (u.toNat : Int) ∧ u.toNat ≤ 9223372036854775808 := by
  rw [IntKind.wrap_u64]; omega

theorem pow_small {m p : Nat} (hp : p ≤ 18) (h : m * 10 ^ p ≤ 9223372036854775808) : m < 10 ^ (19 - p) := by
  have h1 : 10 ^ (19 - p) * 10 ^ p = 10 ^ 19 := by rw [← Nat.pow_add]; congr 1; omega
  have h2 : (9223372036854775808 : Nat) < 10 ^ 19 := by decide
  exact Nat.lt_of_mul_lt_mul_right (a := 10 ^ p) (by omega)
theorem pow_tens {m k : Nat} (h : m * 10 ^ k ≤ 9223372036854775808) : m / 10 * 10 ^ (k + 1) ≤ 9223372036854775808 := by
  have h1 : m / 10 * 10 ≤ m := Nat.div_mul_le_self m 10
  calc m / 10 * 10 ^ (k + 1) = (m / 10 * 10) * 10 ^ k := by rw [Nat.pow_succ, Nat.mul_assoc, Nat.mul_comm (10 ^ k) 10]
    _ ≤ m * 10 ^ k := Nat.mul_le_mul_right _ h1
    _ ≤ _ := h

theorem pow_more {m q : Nat} (h : m < 10 ^ (q - 1)) (hne : ((m : Int) / 10 == 0) = false) : 3 ≤ q ∧ m / 10 < 10 ^ (q - 1 - 1) := by
  have h10 : 10 ≤ m := by
    have : ¬ ((m : Int) / 10 = 0) := by simpa using hne
    omega
  have hq : 3 ≤ q := by
    rcases Nat.lt_or_ge q 3 with hlt | hge
    · exfalso
      have : 10 ^ (q - 1) ≤ 10 ^ 1 := Nat.pow_le_pow_right (by decide) (by omega)
      omega
    · exact hge
  refine ⟨hq, ?_⟩
  have e : 10 ^ (q - 1) = 10 ^ (q - 1 - 1) * 10 := by rw [← Nat.pow_succ]; congr 1; omega
  omega

/-- The world in which the first loop begins. -/
theorem Buf.start (u p : Int) (w : World) : Buf w.heap.size u p w ((w.alloc (.cells #[.int .i64 u, .int .u8 p] 23)).alloc (.cells (Array.replicate 21 (.int .u8 0)) 59)) := by
  have e : ∀ j, j < 21 → ((w.alloc (.cells #[.int .i64 u, .int .u8 p] 23)).alloc (.cells (Array.replicate 21 (.int .u8 0)) 59)).cell? ⟨w.heap.size + 1, j, none⟩ = some (.int .u8 0) := by
    intro j hj
    have h0 : ((w.alloc (.cells #[.int .i64 u, .int .u8 p] 23)).alloc (.cells (Array.replicate 21 (.int .u8 0)) 59)).heap[w.heap.size + 1]? = some (.cells (Array.replicate 21 (.int .u8 0)) 59) := by
      show ((w.heap.push _).push _)[w.heap.size + 1]? = _
      rw [Array.getElem?_push, if_pos (by simp)]
    simp only [World.cell?, h0]
    simp [hj]
  refine ⟨by go_simp, by go_simp, fun j hj => ⟨0, e j hj⟩, fun j hj => ?_, ((Below.refl _ _).alloc (Nat.le_refl _) _).alloc (by simp) _, by simp⟩
  have h0 : ((w.alloc (.cells #[.int .i64 u, .int .u8 p] 23)).alloc (.cells (Array.replicate 21 (.int .u8 0)) 59)).heap[w.heap.size + 1]? = some (.cells (Array.replicate 21 (.int .u8 0)) 59) := by
    show ((w.heap.push _).push _)[w.heap.size + 1]? = _
    rw [Array.getElem?_push, if_pos (by simp)]
  simp only [World.frozen?, h0]
  simp

theorem arr21 : Ybaf.prog.arrayLen 59 = 21 := by kernel_rfl
theorem elem59 : Ybaf.prog.elem 59 = 5 := by kernel_rfl
theorem cells5 : Ybaf.prog.cellsOf 5 = 1 := by kernel_rfl
theorem slice21 (N q : Nat) (W : World) (z : Int) (hz : z = q) (hq : q < 21) :
    (Instr.sliceAt 59 (.pointer (some ⟨N, 0, none⟩)) (some (.int .i64 z)) none none).run Ybaf.prog W = .ok (.slice (some ⟨N, q, none⟩) (21 - q) (21 - q)) W := by
  subst hz
  rw [run_sliceAt_array_l (P := Ybaf.prog) W 59 ⟨N, 0, none⟩ (by rw [arr21, elem59]; exact Ybaf.underlying59) .i64 (q : Int) (by omega) (by rw [arr21]; omega)]
  have h1 : (sizeOf 5).run Ybaf.prog W = .ok 1 W := by kernel_rfl
  rw [elem59, h1, arr21]
  simp only [Result.andThen, slicedAt, Int.toNat_natCast, Nat.mul_one]
  rw [if_neg (by omega)]
  simp [Addr.add]
  omega
theorem Buf.text {N : Nat} {u p : Int} {w wr : World} (h : Buf N u p w wr) (q c : Nat) (hq : q ≤ 21) :
    ∃ s, (convert 60 9 (.slice (some ⟨N + 1, q, none⟩) (21 - q) c)).run Ybaf.prog wr = .ok (.string s) wr := by
  obtain ⟨xs, hl, hx⟩ := h.nums q hq
  exact ⟨_, run_convert_bytes_arg wr 60 5 Ybaf.underlying60 Ybaf.underlying5 (N + 1) q (21 - q) c xs hl hx 9 Ybaf.underlying9⟩

set_option maxHeartbeats 400000 in
theorem string_any (u : Int) (p : Nat) (w : World) (hu1 : -9223372036854775808 ≤ u) (hu2 : u ≤ 9223372036854775807) (hp : p ≤ 18) :
    Calls Ybaf.prog 15 #[.agg #[.int .i64 u, .int .u8 p]] w fun e w' => ∃ s, e = .returned (.string s) ∧ Below w.heap.size w w' := by
  rcases Int.lt_or_le u 0 with hu | hu
  all_goals
    go_enter Ybaf.func15, Ybaf.ntmps15
    go_wp2
    go_loopw [3, 5, 16] (fun a b c wr => ∃ (k q m : Nat), k ≤ p ∧ k + q = 21 ∧ Hid (m * 10 ^ k ≤ 9223372036854775808) ∧ m ≤ 9223372036854775808 ∧ a = .int .u64 m ∧ b = .int .i64 q ∧ c = .int .u8 k ∧ Buf w.heap.size u p w wr) (fun _ _ c _ => p - (intOf c).toNat)
    case atStart => first | exact ⟨0, 21, u.toNat, by omega, rfl, by show _ ≤ _; omega, by omega, by go_num, rfl, rfl, Buf.start _ _ _⟩ | exact ⟨0, 21, (-u).toNat, by omega, rfl, by show _ ≤ _; omega, by omega, by rw [(mag_neg hu1 hu).1], rfl, rfl, Buf.start _ _ _⟩
    case round =>
      obtain ⟨k, q, m, hk, hkq, HM, hm, rfl, rfl, rfl, hb⟩ := hrel
      have HB : Hid (Buf w.heap.size u p w wr) := hb
      by_cases hlt : k < p
      · obtain ⟨x, hx⟩ := hb.2.2.1 (q - 1) (by omega)
        have hf := hb.2.2.2.1 (q - 1) (by omega)
        clear hb
        go_wp2
        go_roundw
        case rel => exact ⟨k + 1, q - 1, m / 10, by omega, by omega, pow_tens HM.out, by omega, by go_num, by go_num, by go_num, HB.out.set _ _⟩
        case measure => simp [intOf]; omega
      · obtain rfl : k = p := by omega
        have hmp := pow_small hp HM.out
        by_cases hp0 : 0 < k
        · obtain ⟨x, hx⟩ := hb.2.2.1 (q - 1) (by omega)
          have hf := hb.2.2.2.1 (q - 1) (by omega)
          have hx0 := hb.1
          have hx1 := hb.2.1
          clear hb
          go_wp2
          go_loopw [3, 5] (fun a b wr => ∃ (q m : Nat), 2 ≤ q ∧ q ≤ 21 ∧ Hid (m < 10 ^ (q - 1)) ∧ m ≤ 9223372036854775808 ∧ a = .int .u64 m ∧ b = .int .i64 q ∧ Buf w.heap.size u k w wr) (fun _ b _ => (intOf b).toNat)
          case atStart => exact ⟨q - 1, m, by omega, by omega, by rw [show q - 1 - 1 = 19 - k by omega]; exact hmp, hm, rfl, by go_num, HB.out.set _ _⟩
          case round =>
            clear hx0 hx1 HB HM hmp hx hf
            obtain ⟨q, m, hq2, hq21, HM, hm, rfl, rfl, hb⟩ := hrel
            obtain ⟨x, hx⟩ := hb.2.2.1 (q - 1) (by omega)
            obtain ⟨y, hy⟩ := hb.2.2.1 (q - 1 - 1) (by omega)
            have hf := hb.2.2.2.1 (q - 1) (by omega)
            have hg := hb.2.2.2.1 (q - 1 - 1) (by omega)
            have hx0 := hb.1
            have HB : Hid (Buf w.heap.size u k w wr) := hb
            have hs1 := fun W => slice21 (w.heap.size + 1) (q - 1) W (↑q - 1) (by omega) (by omega)
            have hs2 := fun W => slice21 (w.heap.size + 1) (q - 1 - 1) W (↑q - 1 - 1) (by omega) (by omega)
            obtain ⟨f1, hc1⟩ := Classical.skolem.1 (fun z : Int => (hb.set (q - 1) z).text (q - 1) (21 - (q - 1)) (by omega))
            obtain ⟨f2, hc2⟩ := Classical.skolem.1 (fun z : Int => ((hb.set (q - 1) z).set (q - 1 - 1) 45).text (q - 1 - 1) (21 - (q - 1 - 1)) (by omega))
            clear hb
            go_wp2
            · go_ret
              first
                | exact ⟨_, rfl, ((HB.out.set _ _).set _ _).2.2.2.2.1⟩
                | exact ⟨_, rfl, (HB.out.set _ _).2.2.2.2.1⟩
            · have hne : ((m : Int) / 10 == 0) = false := by assumption
              obtain ⟨hq3, hm3⟩ := pow_more HM.out hne
              go_roundw
              case rel => exact ⟨q - 1, m / 10, by omega, by omega, hm3, by omega, by go_num, by go_num, HB.out.set _ _⟩
              case measure => simp [intOf]; omega

        · have hx0 := hb.1
          have hx1 := hb.2.1
          clear hb
          go_wp2
          go_loopw [3, 5] (fun a b wr => ∃ (q m : Nat), 2 ≤ q ∧ q ≤ 21 ∧ Hid (m < 10 ^ (q - 1)) ∧ m ≤ 9223372036854775808 ∧ a = .int .u64 m ∧ b = .int .i64 q ∧ Buf w.heap.size u k w wr) (fun _ b _ => (intOf b).toNat)
          case atStart => exact ⟨q, m, by omega, by omega, Nat.lt_of_lt_of_le hmp (Nat.pow_le_pow_right (by decide) (by omega)), hm, rfl, by go_num, HB.out⟩
          case round =>
            clear hx0 hx1 HB HM hmp 
            obtain ⟨q, m, hq2, hq21, HM, hm, rfl, rfl, hb⟩ := hrel
            obtain ⟨x, hx⟩ := hb.2.2.1 (q - 1) (by omega)
            obtain ⟨y, hy⟩ := hb.2.2.1 (q - 1 - 1) (by omega)
            have hf := hb.2.2.2.1 (q - 1) (by omega)
            have hg := hb.2.2.2.1 (q - 1 - 1) (by omega)
            have hx0 := hb.1
            have HB : Hid (Buf w.heap.size u k w wr) := hb
            have hs1 := fun W => slice21 (w.heap.size + 1) (q - 1) W (↑q - 1) (by omega) (by omega)
            have hs2 := fun W => slice21 (w.heap.size + 1) (q - 1 - 1) W (↑q - 1 - 1) (by omega) (by omega)
            obtain ⟨f1, hc1⟩ := Classical.skolem.1 (fun z : Int => (hb.set (q - 1) z).text (q - 1) (21 - (q - 1)) (by omega))
            obtain ⟨f2, hc2⟩ := Classical.skolem.1 (fun z : Int => ((hb.set (q - 1) z).set (q - 1 - 1) 45).text (q - 1 - 1) (21 - (q - 1 - 1)) (by omega))
            clear hb
            go_wp2
            · go_ret
              first
                | exact ⟨_, rfl, ((HB.out.set _ _).set _ _).2.2.2.2.1⟩
                | exact ⟨_, rfl, (HB.out.set _ _).2.2.2.2.1⟩
            · have hne : ((m : Int) / 10 == 0) = false := by assumption
              obtain ⟨hq3, hm3⟩ := pow_more HM.out hne
              go_roundw
              case rel => exact ⟨q - 1, m / 10, by omega, by omega, hm3, by omega, by go_num, by go_num, HB.out.set _ _⟩
              case measure => simp [intOf]; omega

end Go.Proofs.YbulkuaFmt
