/-
  The law lifted to the row, and the told and tied card.
-/
import Derived.Test.YbulkuaFmtLaw
import Derived.Test.YbulkuaFmtTie
import Derived.Test.YbulkuaFmtCards
import Derived.ProofKit
import Derived.Stop.JoinedAt
import Derived.Stop.JoinedTold
import Derived.Stop.Texts
import Derived.Stop.LaidErr
import Derived.Stop.LaidTwo
import Derived.ShutString
import Derived.WalkSmall
import Derived.OpenShut
namespace Go.Proofs.YbulkuaFmt
open Go.ChangeShapes Go.WideShapes Go.ChangeAt Go.RowKit Go.Kit
open Go.ChangeMaps (open_string shut_string)
open Go.Extern.Stop Go.Stop Go.Extern

theorem own : ownKnob Ybaf.prog.godebug = none := by kernel_rfl
theorem laidOut : laidOutB Ybaf.pinned.checked.prog = true := by kernel_rfl
theorem stopKnobs : Ybaf.pinned.checked.prog.stopKnobs = [] := by kernel_rfl
theorem quiet (os : Os) : Stop.quiet Ybaf.pinned.checked.prog os := by
  intro k hk
  rw [stopKnobs] at hk
  cases hk
theorem cells57 : Ybaf.prog.cellsOf 57 = 1 := by kernel_rfl
theorem cells9 : Ybaf.prog.cellsOf 9 = 1 := by kernel_rfl
theorem star : "*" ++ "errors.errorString" = "*errors.errorString" := by decide
theorem row55 (u : TypeId) (h : Ybaf.prog.typeName? 3 u = some "*errors.errorString") : u = 55 :=
  typeName_ptr_named (nm := "errors.errorString") (by rw [star]; kernel_rfl) (by kernel_rfl) (by decide) u (by rw [star]; exact h)

/-! One start that fits: the two sentinels as their initialisers lay them -/
def placesS : ByteArray := { data := #[116, 111, 111, 32, 109, 97, 110, 121, 32, 100, 101, 99, 105, 109, 97, 108, 115] }
def rangeS : ByteArray := { data := #[111, 117, 116, 32, 111, 102, 32, 114, 97, 110, 103, 101] }
def laidWorld (P : Program) (low : Nat) (os : Os) : World :=
  let w0 := World.holding P os ⟨#[.cells #[.string placesS] 57, .cells #[.string rangeS] 57], #[], []⟩
  { w0 with heap := (w0.heap.modify 0 fun
      | .cells _ t frozen => .cells #[.iface 55 (.pointer (some ⟨low, 0, none⟩))] t frozen
      | o => o).modify 1 fun
      | .cells _ t frozen => .cells #[.iface 55 (.pointer (some ⟨low + 1, 0, none⟩))] t frozen
      | o => o }
theorem laid_met (os : Os) (args : Array Value) :
    laidMet Ybaf.prog Rows.lawS0039AModelRow.laid ((laidWorld Ybaf.prog (World.holding Ybaf.prog default ⟨#[], #[], []⟩).heap.size os).forCall (fun _ _ => 0) ⟨#[], args, []⟩).memory :=
  laidMet_of_run (ps := [.cell 0 0, .cell (World.holding Ybaf.prog default ⟨#[], #[], []⟩).heap.size 0, .cell 1 0, .cell ((World.holding Ybaf.prog default ⟨#[], #[], []⟩).heap.size + 1) 0]) 8 (by kernel_rfl) (by kernel_rfl) (by kernel_rfl)

set_option maxRecDepth 100000 in
theorem lifted (os : Os) (started : os.Started) (H : Type) (enc : TypeId × Value → H) :
    ReturnsInTold none {} Ybaf.checked os 3 .any Input.okWide ((OpenSpec.ofChange Rows.lawS0039AModelSpec).preRow enc Ybaf.prog Ybaf.f3 Rows.lawS0039AModelRow.domain false Rows.lawS0039AModelRow.laid)
      (fun F => ((OpenSpec.ofChange Rows.lawS0039AModelSpec).at F).post enc Ybaf.prog Ybaf.f3 false true false false) (aloneAtReturn Ybaf.prog) nothingAlways := by
  refine returnsInTold_of_row (C := Ybaf.checked) (s := OpenSpec.ofChange Rows.lawS0039AModelSpec) (by kernel_rfl) own started (by kernel_rfl) Ybaf.func3
    (OpenSpec.witness_stopped_at (enc := enc) (C := Ybaf.checked) false (laidWorld Ybaf.prog (World.holding Ybaf.prog default ⟨#[], #[], []⟩).heap.size os) #[.int .i64 0, .int .u8 0, .int .u8 0, .string ByteArray.empty] rfl (by kernel_rfl) (by kernel_rfl) (by kernel_rfl)
      (OpenSpec.preRow_of_B rfl 8 (by kernel_rfl) (by kernel_rfl) (laid_met os _))) ?_
  intro F W base args ds gs before _ hF hval0 hW _ _ _ hL _
  have hval : ∀ (j : Nat) t v, Ybaf.f3.params[j]? = some t → args[j]? = some v → Value.okWide Ybaf.prog W .any base t v := hval0
  have hW' := hW
  obtain ⟨p, q, hA0, hV0, rfl, hfz, hnd⟩ := hW
  have hA : DataW.TrodAll enc Ybaf.prog W 0 (fun _ => true) true Ybaf.f3.params.toList args.toList ds p := hA0
  rw [Ybaf.params3] at hA hval
  obtain ⟨v0, v1, v2, v3, d0, d1, d2, d3, p0, p1, p2, p3, rfl, rfl, rfl, h0, h1, h2, h3⟩ := trodAll_four hA
  obtain ⟨u, rfl, rfl, rfl, wu⟩ := open_int Ybaf.underlying2 (hval 0 2 v0 rfl rfl) h0
  obtain ⟨x, rfl, rfl, rfl, wx⟩ := open_int Ybaf.underlying5 (hval 1 5 v1 rfl rfl) h1
  obtain ⟨y, rfl, rfl, rfl, wy⟩ := open_int Ybaf.underlying5 (hval 2 5 v2 rfl rfl) h2
  obtain ⟨nm, rfl, rfl, rfl, wn⟩ := open_string Ybaf.underlying9 (hval 3 9 v3 rfl rfl) h3
  obtain ⟨a0, a1, s0, s1, c0, c1, t0, t1, hv0, hv1, hc0, hs0, hz0, hc1, hs1, hz1, hne, hb0, hb1⟩ := laid_sentinels2 (g0 := 0) (g1 := 1) hL (by kernel_rfl) (by kernel_rfl) (by kernel_rfl) (by kernel_rfl) Ybaf.underlying25 row55 Ybaf.underlying55 Ybaf.underlying57 rfl rfl Ybaf.underlying9 cells57 cells9
  have hg0 : W.cell? ⟨0, 0, none⟩ = some (.iface 55 (.pointer (some a0))) := by simpa using World.var?_cell (g := 0) (by kernel_rfl) hv0 0
  have hg1 : W.cell? ⟨1, 0, none⟩ = some (.iface 55 (.pointer (some a1))) := by simpa using World.var?_cell (g := 1) (by kernel_rfl) hv1 0
  have vr : ∀ {X : World}, Below W.heap.size W X → ∀ sp : Nat → Bool,
      DataW.TrodVars enc Ybaf.prog X sp Rows.lawS0039AModelSpec.vars [tok enc (.iface 55 (.pointer (some a0))), tok enc (.iface 55 (.pointer (some a1)))] [.cell 0 0, .cell 1 0] :=
    fun hb sp => vars_read2 enc (by kernel_rfl) (by kernel_rfl) Ybaf.underlying25 (var?_below (g := 0) hb (by kernel_rfl) (World.block_lt_of_cell? _ _ hg0) hv0) trivial (by kernel_rfl) (by kernel_rfl) Ybaf.underlying25 (var?_below (g := 1) hb (by kernel_rfl) (World.block_lt_of_cell? _ _ hg1) hv1) trivial sp
  have hV : DataW.TrodVars enc Ybaf.prog W (fun _ => true) Rows.lawS0039AModelSpec.vars gs q := hV0
  obtain ⟨rfl, rfl⟩ := hV.unique (vr (Below.refl _ _) _)
  clear hA0 hV0 hval0
  have hLa : Laid2 a0 a1 s0 s1 c0 c1 t0 t1 W := ⟨⟨hg0, hg1, hc0, hc1⟩, hb0, hb1, hne⟩
  have hu := bounds_i64 wu
  have hx := bounds_u8 wx
  have hy := bounds_u8 wy
  have fin : ∀ (e : Ending) (W' : World), (e = .returned (.bool true) ∧ Below W.heap.size W W') → ∃ v, e = .returned v ∧ ((OpenSpec.ofChange Rows.lawS0039AModelSpec).at F.told).post enc Ybaf.checked.prog Ybaf.f3 false true false false W #[.int .i64 u, .int .u8 x, .int .u8 y, .string nm] v W' := by
    rintro e W' ⟨rfl, hb⟩
    refine ⟨_, rfl, _, _, _, [], [], [.cell 0 0, .cell 1 0], hW', ?_, ?_, ?_, hb.frame _, fun h => by cases h⟩
    · exact trodAll_mk1 (shut_bool Ybaf.underlying4 true)
    · exact trodAll_mk4 (shut_int Ybaf.underlying2 wu) (shut_int Ybaf.underlying5 wx) (shut_int Ybaf.underlying5 wy) (shut_string Ybaf.underlying9 wn)
    · exact vr hb _
  obtain ⟨d, hd⟩ : ∃ d : Nat, x % 19 = d := ⟨(x % 19).toNat, by omega⟩
  obtain ⟨k, hk⟩ : ∃ k : Nat, y % 19 = k := ⟨(y % 19).toNat, by omega⟩
  by_cases hkd : k < d
  · exact (law_many F.told nm u x y d k a0 a1 s0 s1 c0 c1 t0 t1 W hF hu.1 hu.2 hx.1 hx.2 hy.1 hy.2 hd hk hkd hLa).mono fin
  · cases hsc : sc (k - d) u with
    | none => exact (law_range F.told nm u x y d k a0 a1 s0 s1 c0 c1 t0 t1 W hF hu.1 hu.2 hx.1 hx.2 hy.1 hy.2 hd hk (by omega) hsc hLa).mono fin
    | some z =>
      by_cases hz : 0 < z
      · exact (law_ok nm u x y d k W z hu.1 hu.2 hx.1 hx.2 hy.1 hy.2 hd hk (by omega) hsc hz).mono fin
      · exact (law_low F.told nm u x y d k a0 a1 s0 s1 c0 c1 t0 t1 W z hF hu.1 hu.2 hx.1 hx.2 hy.1 hy.2 hd hk (by omega) hsc (by omega) hLa).mono fin

theorem proved : Rows.LawS0039AModelToldSaid :=
  Claim7.holds_of_told_tied_any_at .later 3 Ybaf.f3 _ [] [] _ _ _ _ _ (by kernel_rfl) rfl rfl rfl laidOut (by kernel_rfl) rfl ⟨rfl, rfl, rfl, rfl, rfl, rfl, rfl⟩ rfl rfl (by kernel_rfl) (by kernel_rfl) Ybaf.func3 (by kernel_rfl)
    (of_decide_eq_true (by kernel_rfl)) (of_decide_eq_true (by kernel_rfl)) (by kernel_rfl) rfl stopKnobs.symm (by kernel_rfl)
    (by kernel_rfl) (by kernel_rfl) (by kernel_rfl) (by kernel_rfl) (by kernel_rfl) (by kernel_rfl) (by kernel_rfl) (by kernel_rfl) (by kernel_rfl) rfl (by kernel_rfl) rfl rfl
    rfl rfl
    rfl (by kernel_rfl) (by kernel_rfl) (by kernel_rfl) (by decide) (by kernel_rfl) lawS0039AModel_row_tie
    (OpenClaim.moreEntering_of (by kernel_rfl) (by kernel_rfl) (by kernel_rfl) (by kernel_rfl) (by kernel_rfl) (by kernel_rfl) (by kernel_rfl) (by kernel_rfl) (by kernel_rfl) (by kernel_rfl))
    ⟨_, WideRow.started_initial, quiet _⟩
    (fun os started _ H enc _ => lifted os started H enc)

#print axioms proved
end Go.Proofs.YbulkuaFmt
