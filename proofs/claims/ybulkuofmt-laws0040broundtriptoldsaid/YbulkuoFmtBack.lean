/-
  slices.Index over the four texts, UnmarshalText, and the law on the round trip, walked.
-/
import Derived.Test.YbulkuoFmtEvents
import Derived.Deep.QuietTactic
import Derived.BigQuiet
import Derived.WalkSmall
namespace Go.Proofs.YbulkuoFmt
open Go.RowKit Go.Extern.Stop Go.Stop Go.Extern

set_option maxHeartbeats 400000 in
theorem index_ok (i : Nat) (w : World) (hi : i < 4) (hT : Texts w) :
    Calls Ybaf.prog 9 #[.slice (some ⟨0, 0, none⟩) 4 4, .string ⟨(evBytes i).toArray⟩] w fun e w' => e = .returned (.int .i64 i) ∧ w' = w := by
  have h0 : w.cell? ⟨0, 0, none⟩ = some (.string ⟨#[]⟩) := hT 0 (by omega)
  have h1 : w.cell? ⟨0, 1, none⟩ = some (.string ⟨#[115, 116, 97, 114, 116, 101, 100]⟩) := hT 1 (by omega)
  have h2 : w.cell? ⟨0, 2, none⟩ = some (.string ⟨#[99, 111, 109, 112, 108, 101, 116, 101, 100]⟩) := hT 2 (by omega)
  have h3 : w.cell? ⟨0, 3, none⟩ = some (.string ⟨#[115, 116, 111, 112, 112, 101, 100]⟩) := hT 3 (by omega)
  clear hT
  match i, hi with
  | 0, _ =>
    show Calls Ybaf.prog 9 #[.slice (some ⟨0, 0, none⟩) 4 4, .string ⟨#[]⟩] w _
    go_enter Ybaf.func9, Ybaf.ntmps9
    go_wp2
    refine wp_loop_rounds 1 ?_
    rw [rounds_succ]
    go_wp2
    go_ret
    exact ⟨rfl, rfl⟩
  | 1, _ =>
    show Calls Ybaf.prog 9 #[.slice (some ⟨0, 0, none⟩) 4 4, .string ⟨#[115, 116, 97, 114, 116, 101, 100]⟩] w _
    go_enter Ybaf.func9, Ybaf.ntmps9
    go_wp2
    refine wp_loop_rounds 2 ?_
    rw [rounds_succ]
    go_wp2
    rw [rounds_succ]
    go_wp2
    go_ret
    exact ⟨rfl, rfl⟩
  | 2, _ =>
    show Calls Ybaf.prog 9 #[.slice (some ⟨0, 0, none⟩) 4 4, .string ⟨#[99, 111, 109, 112, 108, 101, 116, 101, 100]⟩] w _
    go_enter Ybaf.func9, Ybaf.ntmps9
    go_wp2
    refine wp_loop_rounds 3 ?_
    rw [rounds_succ]
    go_wp2
    rw [rounds_succ]
    go_wp2
    rw [rounds_succ]
    go_wp2
    go_ret
    exact ⟨rfl, rfl⟩
  | 3, _ =>
    show Calls Ybaf.prog 9 #[.slice (some ⟨0, 0, none⟩) 4 4, .string ⟨#[115, 116, 111, 112, 112, 101, 100]⟩] w _
    go_enter Ybaf.func9, Ybaf.ntmps9
    go_wp2
    refine wp_loop_rounds 4 ?_
    rw [rounds_succ]
    go_wp2
    rw [rounds_succ]
    go_wp2
    rw [rounds_succ]
    go_wp2
    rw [rounds_succ]
    go_wp2
    go_ret
    exact ⟨rfl, rfl⟩

set_option maxHeartbeats 400000 in
theorem unmarshal_ok (i b t c : Nat) (x : Int) (w : World) (hi : i < 4) (hT : Texts w) (hx : w.cell? ⟨b, 0, none⟩ = some (.int .i64 x)) (hf : w.frozen? ⟨b, 0, none⟩ = false)
    (hc : ∀ j (hj : j < (evBytes i).length), w.cell? ⟨t, j, none⟩ = some (.int .u8 ((evBytes i)[j].toNat : Int))) :
    Calls Ybaf.prog 7 #[.pointer (some ⟨b, 0, none⟩), .slice (some ⟨t, 0, none⟩) (evBytes i).length c] w fun e w' => e = .returned .nilIface ∧ ∃ nq, w' = (w.drewN nq).setCell ⟨b, 0, none⟩ (.int .i64 i) := by
  have hbk := fun nq => back_ok (w := w.drewN nq) (c := c) hc
  have HT : Hid (Texts w) := hT
  clear hc hT
  go_enter Ybaf.func7, Ybaf.ntmps7
  go_wp2
  go_quiet ((go_at_call 9; exact Calls.quiet_of_same (index_ok i _ hi HT.out)))
  go_wp2
  go_ret
  exact ⟨rfl, nq, rfl⟩

theorem Texts.later {w w' : World} (h : Texts w) (hb : Below w.heap.size w w') : Texts w' := fun i hi => by
  have h0 := h i hi
  rw [hb.cell (World.block_lt_of_cell? _ _ h0)]; exact h0

set_option maxHeartbeats 400000 in
theorem trip_ok (x y : Int) (i : Nat) (w : World) (hx0 : 0 ≤ x) (hx1 : x ≤ 255) (hi : i < 4) (hxi : x % 4 = i) (hT : Texts w) :
    Calls Ybaf.prog 4 #[.int .u8 x, .int .i64 y] w fun e w' => e = .returned (.bool true) ∧ Below w.heap.size w w' := by
  have HT : Hid (Texts w) := hT
  clear hT
  go_enter Ybaf.func4, Ybaf.ntmps4
  go_wp2_with fail
  refine (marshal_ok i _ hi HT.out).mono ?_
  rintro e w1 ⟨c, rfl, hc, hb, hz⟩
  have HC : Hid (∀ j (hj : j < (evBytes i).length), w1.cell? ⟨w.heap.size, j, none⟩ = some (.int .u8 ((evBytes i)[j].toNat : Int))) := hc
  clear hc
  go_wp2_with fail
  refine (unmarshal_ok i _ _ c y _ hi ?_ ?_ ?_ ?_).mono ?_
  · exact (HT.out.later hb).later ((Below.refl _ w1).alloc (Nat.le_refl _) _)
  · go_simp
  · go_simp
  · intro j hj
    rw [World.cell?_alloc_past _ _ _ hz]; exact HC.out j hj
  rintro e w2 ⟨rfl, nq, rfl⟩
  go_wp2
  go_ret
  exact ⟨rfl, (below_drewN (hb.alloc hb.size _) nq).setCell (by simpa using hb.size) _⟩
end Go.Proofs.YbulkuoFmt
