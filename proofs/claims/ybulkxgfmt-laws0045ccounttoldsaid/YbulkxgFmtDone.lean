/-
  The law lifted to the row, and the told and tied card.
-/
import Derived.Test.YbulkxgFmtLaw
import Derived.Test.YbulkxgFmtTie
import Derived.Test.YbulkxgFmtCards
import Derived.ProofKit
import Derived.Stop.JoinedAt
import Derived.Stop.JoinedTold
import Derived.Stop.Texts
import Derived.Stop.LaidErr
import Derived.Stop.LaidTwo
import Derived.ShutString
import Derived.WalkSmall
import Derived.OpenShut
namespace Go.Proofs.YbulkxgFmt
open Go.ChangeShapes Go.WideShapes Go.ChangeAt Go.RowKit Go.Kit
open Go.ChangeMaps (open_string shut_string)
open Go.Extern.Stop Go.Stop Go.Extern

theorem own : ownKnob Ybaf.prog.godebug = none := by kernel_rfl
theorem laidOut : laidOutB Ybaf.pinned.checked.prog = true := by kernel_rfl
theorem stopKnobs : Ybaf.pinned.checked.prog.stopKnobs = [] := by kernel_rfl
theorem quiet (os : Os) : Stop.quiet Ybaf.pinned.checked.prog os := by
  intro k hk
  rw [stopKnobs] at hk
  cases hk
theorem cells122 : Ybaf.prog.cellsOf 122 = 1 := by kernel_rfl
theorem cells9 : Ybaf.prog.cellsOf 9 = 1 := by kernel_rfl
theorem star : "*" ++ "errors.errorString" = "*errors.errorString" := by decide
theorem row120 (u : TypeId) (h : Ybaf.prog.typeName? 3 u = some "*errors.errorString") : u = 120 :=
  typeName_ptr_named (nm := "errors.errorString") (by rw [star]; kernel_rfl) (by kernel_rfl) (by decide) u (by rw [star]; exact h)

/-! One start that fits: the two sentinels as their initialisers lay them -/
def stoppedS : ByteArray := { data := #[114, 101, 97, 100, 105, 110, 103, 32, 115, 116, 111, 112, 112, 101, 100, 32, 98, 121, 32, 97, 110, 32, 101, 120, 112, 97, 110, 115, 105, 111, 110] }
def bytesS : ByteArray := { data := #[45, 45, 109, 97, 120, 45, 116, 111, 116, 97, 108, 45, 98, 121, 116, 101, 115] }
def laidWorld (P : Program) (low : Nat) (os : Os) : World :=
  let w0 := World.holding P os ⟨#[.cells #[.string stoppedS] 122, .cells #[.string bytesS] 122], #[], []⟩
  { w0 with heap := (w0.heap.modify 1 fun
      | .cells _ t frozen => .cells #[.iface 120 (.pointer (some ⟨low, 0, none⟩))] t frozen
      | o => o).modify 0 fun
      | .cells _ t frozen => .cells #[.iface 120 (.pointer (some ⟨low + 1, 0, none⟩))] t frozen
      | o => o }
theorem laid_met (os : Os) (args : Array Value) :
    laidMet Ybaf.prog Rows.lawS0045CCountRow.laid ((laidWorld Ybaf.prog (World.holding Ybaf.prog default ⟨#[], #[], []⟩).heap.size os).forCall (fun _ _ => 0) ⟨#[], args, []⟩).memory :=
  laidMet_of_run (ps := [.cell 1 0, .cell (World.holding Ybaf.prog default ⟨#[], #[], []⟩).heap.size 0, .cell 0 0, .cell ((World.holding Ybaf.prog default ⟨#[], #[], []⟩).heap.size + 1) 0]) 8 (by kernel_rfl) (by kernel_rfl) (by kernel_rfl)

set_option maxRecDepth 100000 in
theorem lifted (os : Os) (started : os.Started) (H : Type) (enc : TypeId × Value → H) :
    ReturnsInTold none {} Ybaf.checked os 3 .any Input.okWide ((OpenSpec.ofChange Rows.lawS0045CCountSpec).preRow enc Ybaf.prog Ybaf.f3 Rows.lawS0045CCountRow.domain false Rows.lawS0045CCountRow.laid)
      (fun F => ((OpenSpec.ofChange Rows.lawS0045CCountSpec).at F).post enc Ybaf.prog Ybaf.f3 false true false false) (aloneAtReturn Ybaf.prog) nothingAlways := by
  refine returnsInTold_of_row (C := Ybaf.checked) (s := OpenSpec.ofChange Rows.lawS0045CCountSpec) (by kernel_rfl) own started (by kernel_rfl) Ybaf.func3
    (OpenSpec.witness_stopped_at (enc := enc) (C := Ybaf.checked) false (laidWorld Ybaf.prog (World.holding Ybaf.prog default ⟨#[], #[], []⟩).heap.size os) #[.int .u8 0, .int .i64 0, .int .i64 0, .int .i64 0] rfl (by kernel_rfl) (by kernel_rfl) (by kernel_rfl)
      (OpenSpec.preRow_of_B rfl 8 (by kernel_rfl) (by kernel_rfl) (laid_met os _))) ?_
  intro F W base args ds gs before _ hF hval0 hW _ _ _ hL _
  have hval : ∀ (j : Nat) t v, Ybaf.f3.params[j]? = some t → args[j]? = some v → Value.okWide Ybaf.prog W .any base t v := hval0
  have hW' := hW
  obtain ⟨p, q, hA0, hV0, rfl, hfz, hnd⟩ := hW
  have hA : DataW.TrodAll enc Ybaf.prog W 0 (fun _ => true) true Ybaf.f3.params.toList args.toList ds p := hA0
  rw [Ybaf.params3] at hA hval
  obtain ⟨v0, v1, v2, v3, d0, d1, d2, d3, p0, p1, p2, p3, rfl, rfl, rfl, h0, h1, h2, h3⟩ := trodAll_four hA
  obtain ⟨x, rfl, rfl, rfl, wx⟩ := open_int Ybaf.underlying5 (hval 0 5 v0 rfl rfl) h0
  obtain ⟨m, rfl, rfl, rfl, wm⟩ := open_int Ybaf.underlying3 (hval 1 3 v1 rfl rfl) h1
  obtain ⟨r, rfl, rfl, rfl, wr⟩ := open_int Ybaf.underlying3 (hval 2 3 v2 rfl rfl) h2
  obtain ⟨n, rfl, rfl, rfl, wn⟩ := open_int Ybaf.underlying3 (hval 3 3 v3 rfl rfl) h3
  obtain ⟨a1, a0, s1, s0, c1, c0, t1, t0, hv1, hv0, hc1, hs1, hz1, hc0, hs0, hz0, hne, hb1, hb0⟩ := laid_sentinels2 (g0 := 1) (g1 := 0) hL (by kernel_rfl) (by kernel_rfl) (by kernel_rfl) (by kernel_rfl) Ybaf.underlying29 row120 Ybaf.underlying120 Ybaf.underlying122 rfl rfl Ybaf.underlying9 cells122 cells9
  have hg0 : W.cell? ⟨0, 0, none⟩ = some (.iface 120 (.pointer (some a0))) := by simpa using World.var?_cell (g := 0) (by kernel_rfl) hv0 0
  have hg1 : W.cell? ⟨1, 0, none⟩ = some (.iface 120 (.pointer (some a1))) := by simpa using World.var?_cell (g := 1) (by kernel_rfl) hv1 0
  have vr : ∀ {X : World}, Below W.heap.size W X → ∀ sp : Nat → Bool,
      DataW.TrodVars enc Ybaf.prog X sp Rows.lawS0045CCountSpec.vars [tok enc (.iface 120 (.pointer (some a0))), tok enc (.iface 120 (.pointer (some a1)))] [.cell 0 0, .cell 1 0] :=
    fun hb sp => vars_read2 enc (by kernel_rfl) (by kernel_rfl) Ybaf.underlying29 (var?_below (g := 0) hb (by kernel_rfl) (World.block_lt_of_cell? _ _ hg0) hv0) trivial (by kernel_rfl) (by kernel_rfl) Ybaf.underlying29 (var?_below (g := 1) hb (by kernel_rfl) (World.block_lt_of_cell? _ _ hg1) hv1) trivial sp
  have hV : DataW.TrodVars enc Ybaf.prog W (fun _ => true) Rows.lawS0045CCountSpec.vars gs q := hV0
  obtain ⟨rfl, rfl⟩ := hV.unique (vr (Below.refl _ _) _)
  clear hA0 hV0 hval0
  have hx := bounds_u8 wx
  have hm := bounds_i64 wm
  have hn := bounds_i64 wn
  have fin : ∀ (e : Ending) (W' : World), (e = .returned (.bool true) ∧ Below W.heap.size W W') → ∃ v, e = .returned v ∧ ((OpenSpec.ofChange Rows.lawS0045CCountSpec).at F.told).post enc Ybaf.checked.prog Ybaf.f3 false true false false W #[.int .u8 x, .int .i64 m, .int .i64 r, .int .i64 n] v W' := by
    rintro e W' ⟨rfl, hb⟩
    refine ⟨_, rfl, _, _, _, [], [], [.cell 0 0, .cell 1 0], hW', ?_, ?_, ?_, hb.frame _, fun h => by cases h⟩
    · exact trodAll_mk1 (shut_bool Ybaf.underlying4 true)
    · exact trodAll_mk4 (shut_int Ybaf.underlying5 wx) (shut_int Ybaf.underlying3 wm) (shut_int Ybaf.underlying3 wr) (shut_int Ybaf.underlying3 wn)
    · exact vr hb _
  obtain ⟨k, hk⟩ : ∃ k : Nat, x % 5 = k := ⟨(x % 5).toNat, by omega⟩
  have hk5 : k < 5 := by omega
  by_cases h02 : k = 0 ∨ k = 2
  · by_cases hnm : n ≤ m
    · exact (law_ok x m r n k W hx.1 hx.2 hm.1 hm.2 hn.1 hn.2 hk h02 hnm).mono fin
    · exact (law_past F.told x m r n k a0 s0 W hF hx.1 hx.2 hm.1 hm.2 hn.1 hn.2 hk h02 (by omega) hg0 hc0).mono fin
  · by_cases h4 : k = 4
    · exact (law_once x m r n W hx.1 hx.2 hm.1 hm.2 (by omega)).mono fin
    · exact (law_again x m r n k W hx.1 hx.2 hm.1 hm.2 hk (by omega)).mono fin

theorem proved : Rows.LawS0045CCountToldSaid :=
  Claim7.holds_of_told_tied_any_at .later 3 Ybaf.f3 _ [] [] _ _ _ _ _ (by kernel_rfl) rfl rfl rfl laidOut (by kernel_rfl) rfl ⟨rfl, rfl, rfl, rfl, rfl, rfl, rfl⟩ rfl rfl (by kernel_rfl) (by kernel_rfl) Ybaf.func3 (by kernel_rfl)
    (of_decide_eq_true (by kernel_rfl)) (of_decide_eq_true (by kernel_rfl)) (by kernel_rfl) rfl stopKnobs.symm (by kernel_rfl)
    (by kernel_rfl) (by kernel_rfl) (by kernel_rfl) (by kernel_rfl) (by kernel_rfl) (by kernel_rfl) (by kernel_rfl) (by kernel_rfl) (by kernel_rfl) rfl (by kernel_rfl) rfl rfl
    rfl rfl
    rfl (by kernel_rfl) (by kernel_rfl) (by kernel_rfl) (by decide) (by kernel_rfl) lawS0045CCount_row_tie
    (OpenClaim.moreEntering_of (by kernel_rfl) (by kernel_rfl) (by kernel_rfl) (by kernel_rfl) (by kernel_rfl) (by kernel_rfl) (by kernel_rfl) (by kernel_rfl) (by kernel_rfl) (by kernel_rfl))
    ⟨_, WideRow.started_initial, quiet _⟩
    (fun os started _ H enc _ => lifted os started H enc)

#print axioms proved
end Go.Proofs.YbulkxgFmt
