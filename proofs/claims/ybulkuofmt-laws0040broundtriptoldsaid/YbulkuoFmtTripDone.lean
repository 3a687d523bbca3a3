/-
  The law on the round trip lifted to the row, and the told and tied card.
-/
import Derived.Test.YbulkuoFmtBack
import Derived.Test.YbulkuoFmtTie
import Derived.Test.YbulkuoFmtCards
import Derived.ProofKit
import Derived.Stop.JoinedAt
import Derived.Stop.JoinedTold
import Derived.Stop.Texts
import Derived.ShutString
import Derived.WalkSmall
namespace Go.Proofs.YbulkuoFmt
open Go.ChangeShapes Go.WideShapes Go.ChangeAt Go.RowKit
open Go.Extern.Stop Go.Stop Go.Extern

theorem own : ownKnob Ybaf.prog.godebug = none := by kernel_rfl
theorem laidOut : laidOutB Ybaf.pinned.checked.prog = true := by kernel_rfl
theorem stopKnobs : Ybaf.pinned.checked.prog.stopKnobs = [] := by kernel_rfl
theorem quiet (os : Os) : Stop.quiet Ybaf.pinned.checked.prog os := by
  intro k hk
  rw [stopKnobs] at hk
  cases hk

/-! One start that fits: the variable as its initialiser lays it -/
def laidWorld (P : Program) (os : Os) : World :=
  let w0 := World.holding P os ⟨#[], #[], []⟩
  { w0 with heap := w0.heap.modify 0 fun
      | .cells _ t frozen => .cells evCells t frozen
      | o => o }
theorem laid_met (os : Os) (args : Array Value) :
    laidMet Ybaf.prog Rows.lawS0040BRoundTripRow.laid ((laidWorld Ybaf.prog os).forCall (fun _ _ => 0) ⟨#[], args, []⟩).memory :=
  laidMet_of_run (ps := [.cell 0 0, .cell 0 1, .cell 0 2, .cell 0 3]) 8 (by kernel_rfl) (by kernel_rfl) (by kernel_rfl)

set_option maxRecDepth 100000 in
theorem trip_lifted (os : Os) (started : os.Started) (H : Type) (enc : TypeId × Value → H) :
    ReturnsInTold none {} Ybaf.checked os 4 .any Input.okWide ((OpenSpec.ofChange Rows.lawS0040BRoundTripSpec).preRow enc Ybaf.prog Ybaf.f4 Rows.lawS0040BRoundTripRow.domain false Rows.lawS0040BRoundTripRow.laid)
      (fun F => ((OpenSpec.ofChange Rows.lawS0040BRoundTripSpec).at F).post enc Ybaf.prog Ybaf.f4 false true false false) (aloneAtReturn Ybaf.prog) nothingAlways := by
  refine returnsInTold_of_row (C := Ybaf.checked) (s := OpenSpec.ofChange Rows.lawS0040BRoundTripSpec) (by kernel_rfl) own started (by kernel_rfl) Ybaf.func4
    (OpenSpec.witness_stopped_at (enc := enc) (C := Ybaf.checked) false (laidWorld Ybaf.prog os) #[.int .u8 0, .int .i64 0] rfl (by kernel_rfl) (by kernel_rfl) (by kernel_rfl)
      (OpenSpec.preRow_of_B rfl 8 (by kernel_rfl) (by kernel_rfl) (laid_met os _))) ?_
  intro F W base args ds gs before _ hF hval0 hW _ _ _ hL _
  have hval : ∀ (j : Nat) t v, Ybaf.f4.params[j]? = some t → args[j]? = some v → Value.okWide Ybaf.prog W .any base t v := hval0
  have hW' := hW
  obtain ⟨p, q, hA0, hV0, rfl, hfz, hnd⟩ := hW
  have hA : DataW.TrodAll enc Ybaf.prog W 0 (fun _ => true) true Ybaf.f4.params.toList args.toList ds p := hA0
  rw [Ybaf.params4] at hA hval
  obtain ⟨v0, v1, d0, d1, p0, p1, rfl, rfl, rfl, h0, h1⟩ := trodAll_two hA
  obtain ⟨x, rfl, rfl, rfl, wx⟩ := open_int Ybaf.underlying5 (hval 0 5 v0 rfl rfl) h0
  obtain ⟨y, rfl, rfl, rfl, wy⟩ := open_int Ybaf.underlying3 (hval 1 3 v1 rfl rfl) h1
  have hv := var_of_laid hL
  have hT := texts_of_var hv
  have hz : 0 < W.heap.size := World.block_lt_of_cell? _ _ (hT 0 (by omega))
  have vr : ∀ {X : World}, Below W.heap.size W X → ∀ sp : Nat → Bool,
      DataW.TrodVars enc Ybaf.prog X sp Rows.lawS0040BRoundTripSpec.vars [Rows.laid_example_com_shoalwire_shoalwire_internal_tracker_eventTexts] [.cell 0 0, .cell 0 1, .cell 0 2, .cell 0 3] :=
    fun hb sp => var_reads enc (var?_below (g := 0) hb (by kernel_rfl) hz hv) sp
  have hV : DataW.TrodVars enc Ybaf.prog W (fun _ => true) Rows.lawS0040BRoundTripSpec.vars gs q := hV0
  obtain ⟨rfl, rfl⟩ := hV.unique (vr (Below.refl _ _) _)
  clear hA0 hV0 hval0
  have fin : ∀ (e : Ending) (W' : World), (e = .returned (.bool true) ∧ Below W.heap.size W W') → ∃ v, e = .returned v ∧ ((OpenSpec.ofChange Rows.lawS0040BRoundTripSpec).at F.told).post enc Ybaf.checked.prog Ybaf.f4 false true false false W #[.int .u8 x, .int .i64 y] v W' := by
    rintro e W' ⟨rfl, hb⟩
    refine ⟨_, rfl, _, _, _, [], [], [.cell 0 0, .cell 0 1, .cell 0 2, .cell 0 3], hW', ?_, ?_, ?_, hb.frame _, fun h => by cases h⟩
    · exact trodAll_mk1 (shut_bool Ybaf.underlying4 true)
    · exact trodAll_mk2 (shut_int Ybaf.underlying5 wx) (shut_int Ybaf.underlying3 wy)
    · exact vr hb _
  have hx := bounds_u8 wx
  exact (trip_ok x y (x % 4).toNat W hx.1 hx.2 (by omega) (by omega) hT).mono fin

theorem trip_proved : Rows.LawS0040BRoundTripToldSaid :=
  Claim7.holds_of_told_tied_any_at .later 4 Ybaf.f4 _ [] [] _ _ _ _ _ (by kernel_rfl) rfl rfl rfl laidOut (by kernel_rfl) rfl ⟨rfl, rfl, rfl, rfl, rfl, rfl, rfl⟩ rfl rfl (by kernel_rfl) (by kernel_rfl) Ybaf.func4 (by kernel_rfl)
    (of_decide_eq_true (by kernel_rfl)) (of_decide_eq_true (by kernel_rfl)) (by kernel_rfl) rfl stopKnobs.symm (by kernel_rfl)
    (by kernel_rfl) (by kernel_rfl) (by kernel_rfl) (by kernel_rfl) (by kernel_rfl) (by kernel_rfl) (by kernel_rfl) (by kernel_rfl) (by kernel_rfl) rfl (by kernel_rfl) rfl rfl
    rfl rfl
    rfl (by kernel_rfl) (by kernel_rfl) (by kernel_rfl) (by decide) (by kernel_rfl) lawS0040BRoundTrip_row_tie
    (OpenClaim.moreEntering_of (by kernel_rfl) (by kernel_rfl) (by kernel_rfl) (by kernel_rfl) (by kernel_rfl) (by kernel_rfl) (by kernel_rfl) (by kernel_rfl) (by kernel_rfl) (by kernel_rfl))
    ⟨_, WideRow.started_initial, quiet _⟩
    (fun os started _ H enc _ => trip_lifted os started H enc)

#print axioms trip_proved
end Go.Proofs.YbulkuoFmt
