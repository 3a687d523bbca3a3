/-
  fmt.Errorf by its contracts, at the four formats of the road. fmt's text is left open (whatever F gives): the law asks which error is wrapped, not what it says.
-/
import Derived.Test.YbulkuaFmtStr
namespace Go.Proofs.YbulkuaFmt
open Go.RowKit Go.Extern.Stop Go.Stop Go.Extern

/-- A new *fmt.wrapError lies in block pb: some text, and the error v under it. -/
def Wraps (N pb : Nat) (v : Value) (w' : World) : Prop := N ≤ pb ∧ (∃ t, w'.cell? ⟨pb, 0, none⟩ = some (.string t)) ∧ w'.cell? ⟨pb, 1, none⟩ = some v ∧ pb < w'.heap.size

theorem Wraps.mk (N : Nat) (t : ByteArray) (v : Value) (W : World) (h : N ≤ W.heap.size) : Wraps N W.heap.size v ((W.alloc (.cells #[.string t, v] 84)).drew) := by
  refine ⟨h, ⟨t, by go_simp⟩, by go_simp, by simp⟩

set_option maxHeartbeats 800000 in
/-- fmt.Errorf("%s: %w (at most %d)", d, ErrX, n) -/
theorem errorf_a (F : Interp) (u n : Int) (p blk : Nat) (a : Addr) (s : ByteArray) (w : World) (hF : F.answers w.tape) (hu1 : -9223372036854775808 ≤ u) (hu2 : u ≤ 9223372036854775807) (hp : p ≤ 18)
    (hc0 : w.cell? ⟨blk, 0, none⟩ = some (.iface 23 (.agg #[.int .i64 u, .int .u8 p]))) (hc1 : w.cell? ⟨blk, 1, none⟩ = some (.iface 55 (.pointer (some a)))) (hc2 : w.cell? ⟨blk, 2, none⟩ = some (.iface 3 (.int .i64 n)))
    (ha : w.cell? a = some (.string s)) :
    Calls Ybaf.prog 9 #[.string ⟨#[37, 115, 58, 32, 37, 119, 32, 40, 97, 116, 32, 109, 111, 115, 116, 32, 37, 100, 41]⟩, .slice (some ⟨blk, 0, none⟩) 3 3] w fun e w' =>
      ∃ pb, e = .returned (.iface 42 (.pointer (some ⟨pb, 0, none⟩))) ∧ Wraps w.heap.size pb (.iface 55 (.pointer (some a))) w' ∧ Below w.heap.size w w' := by
  have hF' := answers_open hF
  have hb : blk < w.heap.size := World.block_lt_of_cell? _ _ hc0
  have hba : a.block < w.heap.size := World.block_lt_of_cell? _ _ ha
  go_enter Ybaf.func9, Ybaf.ntmps9
  go_wp2
  apply rows_call Ybaf.nextTurns
  case hr =>
    go_simp
    exact ⟨⟨rfl, rfl, rfl⟩, rfl⟩
  case hi => exact Ybaf.invokeString23 _ _
  case hc =>
    refine (string_any u p _ hu1 hu2 hp).mono fun e w₃ ⟨t, he, hx⟩ => ?_
    subst he
    have hF3 := answers_open (show F.answers w₃.tape by rw [hx.tape]; exact hF)
    have hc03 : w₃.cell? ⟨blk, 0, none⟩ = some (.iface 23 (.agg #[.int .i64 u, .int .u8 p])) := by rw [hx.cell hb]; exact hc0
    have hc13 : w₃.cell? ⟨blk, 1, none⟩ = some (.iface 55 (.pointer (some a))) := by rw [hx.cell hb]; exact hc1
    have hc23 : w₃.cell? ⟨blk, 2, none⟩ = some (.iface 3 (.int .i64 n)) := by rw [hx.cell hb]; exact hc2
    have hop := fun nm => Ybaf.opPlain55_119w nm a s w₃ (by rw [hx.cell hba]; exact ha)
    apply rows_value Ybaf.nextReturned
    case hr =>
      go_simp
      exact ⟨rfl, rfl⟩
    case h =>
      go_wp2
      go_ret
      exact ⟨w₃.heap.size, rfl, Wraps.mk _ _ _ _ hx.size, (hx.alloc hx.size _).drew⟩

set_option maxHeartbeats 800000 in
/-- fmt.Errorf("%s: %w", d, ErrX) -/
theorem errorf_b (F : Interp) (u : Int) (p blk : Nat) (a : Addr) (s : ByteArray) (w : World) (hF : F.answers w.tape) (hu1 : -9223372036854775808 ≤ u) (hu2 : u ≤ 9223372036854775807) (hp : p ≤ 18)
    (hc0 : w.cell? ⟨blk, 0, none⟩ = some (.iface 23 (.agg #[.int .i64 u, .int .u8 p]))) (hc1 : w.cell? ⟨blk, 1, none⟩ = some (.iface 55 (.pointer (some a))))
    (ha : w.cell? a = some (.string s)) :
    Calls Ybaf.prog 9 #[.string ⟨#[37, 115, 58, 32, 37, 119]⟩, .slice (some ⟨blk, 0, none⟩) 2 2] w fun e w' =>
      ∃ pb, e = .returned (.iface 42 (.pointer (some ⟨pb, 0, none⟩))) ∧ Wraps w.heap.size pb (.iface 55 (.pointer (some a))) w' ∧ Below w.heap.size w w' := by
  have hF' := answers_open hF
  have hb : blk < w.heap.size := World.block_lt_of_cell? _ _ hc0
  have hba : a.block < w.heap.size := World.block_lt_of_cell? _ _ ha
  go_enter Ybaf.func9, Ybaf.ntmps9
  go_wp2
  apply rows_call Ybaf.nextTurns
  case hr =>
    go_simp
    exact ⟨⟨rfl, rfl, rfl⟩, rfl⟩
  case hi => exact Ybaf.invokeString23 _ _
  case hc =>
    refine (string_any u p _ hu1 hu2 hp).mono fun e w₃ ⟨t, he, hx⟩ => ?_
    subst he
    have hF3 := answers_open (show F.answers w₃.tape by rw [hx.tape]; exact hF)
    have hc03 : w₃.cell? ⟨blk, 0, none⟩ = some (.iface 23 (.agg #[.int .i64 u, .int .u8 p])) := by rw [hx.cell hb]; exact hc0
    have hc13 : w₃.cell? ⟨blk, 1, none⟩ = some (.iface 55 (.pointer (some a))) := by rw [hx.cell hb]; exact hc1
    have hop := fun nm => Ybaf.opPlain55_119w nm a s w₃ (by rw [hx.cell hba]; exact ha)
    apply rows_value Ybaf.nextReturned
    case hr =>
      go_simp
      exact ⟨rfl, rfl⟩
    case h =>
      go_wp2
      go_ret
      exact ⟨w₃.heap.size, rfl, Wraps.mk _ _ _ _ hx.size, (hx.alloc hx.size _).drew⟩

set_option maxHeartbeats 800000 in
/-- fmt.Errorf("%s %w", name, err), err a *fmt.wrapError -/
theorem errorf_c (F : Interp) (nm : ByteArray) (blk : Nat) (a : Addr) (s : ByteArray) (w : World) (hF : F.answers w.tape)
    (hc0 : w.cell? ⟨blk, 0, none⟩ = some (.iface 9 (.string nm))) (hc1 : w.cell? ⟨blk, 1, none⟩ = some (.iface 42 (.pointer (some a))))
    (ha : w.cell? a = some (.string s)) :
    Calls Ybaf.prog 9 #[.string ⟨#[37, 115, 32, 37, 119]⟩, .slice (some ⟨blk, 0, none⟩) 2 2] w fun e w' =>
      ∃ pb, e = .returned (.iface 42 (.pointer (some ⟨pb, 0, none⟩))) ∧ Wraps w.heap.size pb (.iface 42 (.pointer (some a))) w' ∧ Below w.heap.size w w' := by
  have hF' := answers_open hF
  have hop := fun nm => Ybaf.opPlain42_119w nm a s w ha
  go_enter Ybaf.func9, Ybaf.ntmps9
  go_wp2
  apply rows_value Ybaf.nextTurns
  case hr =>
    go_simp
    exact ⟨rfl, rfl⟩
  case h =>
    go_wp2
    go_ret
    exact ⟨w.heap.size, rfl, Wraps.mk _ _ _ _ (Nat.le_refl _), ((Below.refl _ w).alloc (Nat.le_refl _) _).drew⟩

set_option maxHeartbeats 800000 in
/-- fmt.Errorf("%s %s is not above zero", name, d): a new error that wraps nothing -/
theorem errorf_d (F : Interp) (nm : ByteArray) (u : Int) (p blk : Nat) (w : World) (hF : F.answers w.tape) (hu1 : -9223372036854775808 ≤ u) (hu2 : u ≤ 9223372036854775807) (hp : p ≤ 18)
    (hc0 : w.cell? ⟨blk, 0, none⟩ = some (.iface 9 (.string nm))) (hc1 : w.cell? ⟨blk, 1, none⟩ = some (.iface 23 (.agg #[.int .i64 u, .int .u8 p]))) :
    Calls Ybaf.prog 9 #[.string ⟨#[37, 115, 32, 37, 115, 32, 105, 115, 32, 110, 111, 116, 32, 97, 98, 111, 118, 101, 32, 122, 101, 114, 111]⟩, .slice (some ⟨blk, 0, none⟩) 2 2] w fun e w' =>
      ∃ (pb : Nat) (cs : Array Value), e = .returned (.iface 55 (.pointer (some ⟨pb, 0, none⟩))) ∧ w.heap.size ≤ pb ∧ w'.heap[pb]? = some (.cells cs 57 (0, 0)) ∧ Below w.heap.size w w' := by
  have hF' := answers_open hF
  have hb : blk < w.heap.size := World.block_lt_of_cell? _ _ hc0
  go_enter Ybaf.func9, Ybaf.ntmps9
  go_wp2
  apply rows_call Ybaf.nextTurns
  case hr =>
    go_simp
    exact ⟨⟨rfl, rfl, rfl⟩, rfl⟩
  case hi => exact Ybaf.invokeString23 _ _
  case hc =>
    refine (string_any u p _ hu1 hu2 hp).mono fun e w₃ ⟨t, he, hx⟩ => ?_
    subst he
    have hF3 := answers_open (show F.answers w₃.tape by rw [hx.tape]; exact hF)
    have hc03 : w₃.cell? ⟨blk, 0, none⟩ = some (.iface 9 (.string nm)) := by rw [hx.cell hb]; exact hc0
    have hc13 : w₃.cell? ⟨blk, 1, none⟩ = some (.iface 23 (.agg #[.int .i64 u, .int .u8 p])) := by rw [hx.cell hb]; exact hc1
    apply rows_value Ybaf.nextReturned
    case hr =>
      go_simp
      exact ⟨rfl, rfl⟩
    case h =>
      go_wp2
      go_ret
      exact ⟨w₃.heap.size, _, rfl, hx.size, heap_alloc_new _ _, (hx.alloc hx.size _).drew⟩

end Go.Proofs.YbulkuaFmt
