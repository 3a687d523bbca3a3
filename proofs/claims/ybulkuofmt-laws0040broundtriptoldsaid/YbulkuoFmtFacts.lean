/-
  The closed facts for a walk over fmt's stopped front in this program's translation (after the guide's worked text CheckFmt.lean, turned to this program's numbers), and the variable eventTexts off 'laid'.
-/
import Derived.Test.YbulkuoFmtRows
import Derived.Stop.CallBack
import Derived.Stop.IfaceNil
import GoSem.ClaimData
import Derived.WalkKit
import Derived.WalkSpells
import Derived.WalkLawsBesides
import Derived.OpenShut
namespace Go.Proofs
open Go.Extern.Stop Go.Stop Go.Extern

@[go_sem] theorem Ybaf.call10 (args : Array Value) (w : World) : (callFunc 10 args).run Ybaf.prog w = ((FmtStop.errorf #[9, 38] #[24] args).run Ybaf.prog w).andThen fun v w' => .ok (.value v) w' :=
  run_callFunc_extern Ybaf.func10 (by kernel_rfl) (by kernel_rfl) (by kernel_rfl) (by kernel_rfl) args w
@[go_sem] theorem Ybaf.guard (name : String) (w : World) : (FmtStop.guard name).run Ybaf.prog w = .ok () w := by kernel_rfl
@[go_sem] theorem Ybaf.fmt0 : FmtStop.printed? ⟨#[117, 110, 107, 110, 111, 119, 110, 32, 101, 118, 101, 110, 116, 32, 37, 100]⟩ 1 = some [(0, 100, false)] := by kernel_rfl
@[go_sem] theorem Ybaf.fmt0r (w : World) : (FmtDoors.printed ⟨#[117, 110, 107, 110, 111, 119, 110, 32, 101, 118, 101, 110, 116, 32, 37, 100]⟩ 1).run Ybaf.prog w = .ok [(0, 100, false)] w := by kernel_rfl
def Ybaf.shape3 : List UInt8 := [5, 3, 0, 0, 0, 0, 0, 0, 0, 105, 110, 116]
@[go_sem] theorem Ybaf.op3_100w (name : String) (x : Int) (w : World) : (FmtStop.operand name true 100 false (.iface 3 (.int .i64 x))).run Ybaf.prog w = .ok (Ybaf.shape3, Go.Extern.Stop.digits 8 (x % 2 ^ 64).toNat) w := by kernel_rfl
@[go_sem] theorem Ybaf.ptr41 (w : World) : (FmtStop.ptrTo "errors.errorString").run Ybaf.prog w = .ok 41 w := by kernel_rfl
@[go_sem] theorem Ybaf.elem41 (w : World) : (elemOf 41).run Ybaf.prog w = .ok 43 w := by kernel_rfl
@[go_sem] theorem Ybaf.isError41 (w : World) : (FmtDoors.textMethod 41 "Error").run Ybaf.prog w = .ok true w := by kernel_rfl
end Go.Proofs

namespace Go.Proofs.YbulkuoFmt
open Go.RowKit Go.Extern.Stop Go.Stop Go.Extern

/-- The four texts. -/
def evBytes : Nat → List UInt8
  | 1 => [115, 116, 97, 114, 116, 101, 100]
  | 2 => [99, 111, 109, 112, 108, 101, 116, 101, 100]
  | 3 => [115, 116, 111, 112, 112, 101, 100]
  | _ => []
/-- The variable as a walk reads it. -/
def Texts (w : World) : Prop := ∀ i, i < 4 → w.cell? ⟨0, i, none⟩ = some (.string ⟨(evBytes i).toArray⟩)

theorem bytes_of_list {s : ByteArray} {l : List UInt8} (h : s.data.toList = l) : s = ⟨l.toArray⟩ := by
  cases s with | mk d => simp at h; rw [← h]

theorem cells34 : Ybaf.prog.cellsOf 34 = 4 := by kernel_rfl
theorem cells9 : Ybaf.prog.cellsOf 9 = 1 := by kernel_rfl

/-- What the variable's block holds. -/
def evCells : Array Value := #[.string ⟨(evBytes 0).toArray⟩, .string ⟨(evBytes 1).toArray⟩, .string ⟨(evBytes 2).toArray⟩, .string ⟨(evBytes 3).toArray⟩]

theorem var_of_laid {W : World} (h : laidMetH Ybaf.prog Rows.lawS0040BTableRow.laid W) : W.var? Ybaf.prog (Rows.lawS0040BTableSpec.vars.headD "") = some evCells := by
  obtain ⟨ps, ⟨g, t, cs, f, p, q, hg, ht, hv, hd, _, e⟩, hnd, hrows⟩ := h
  obtain rfl : g = 0 := Option.some.inj (hg.symm.trans (show _ = some 0 by kernel_rfl))
  obtain rfl : t = 34 := Option.some.inj (ht.symm.trans (show _ = some 34 by kernel_rfl))
  obtain ⟨xs, m, rfl, hx, hl, hn, hi⟩ := DataW.trod_array Ybaf.underlying34 hd
  have hx1 := congrArg Prod.fst hx
  simp only [Rows.laid_example_com_shoalwire_shoalwire_internal_tracker_eventTexts, DataW.agg.injEq] at hx1
  rw [cells34] at hl
  rw [cells9] at hi
  match xs, hn with
  | [x0, x1, x2, x3], _ =>
    match hcs : cs.toList, hl with
    | [v0, v1, v2, v3], _ =>
      rw [hcs] at hi
      have i0 := hi 0 (by omega)
      have i1 := hi 1 (by omega)
      have i2 := hi 2 (by omega)
      have i3 := hi 3 (by omega)
      simp at i0 i1 i2 i3 hx1
      obtain ⟨s0, e0, rfl, _⟩ := DataW.trod_string Ybaf.underlying9 i0
      obtain ⟨s1, e1, rfl, _⟩ := DataW.trod_string Ybaf.underlying9 i1
      obtain ⟨s2, e2, rfl, _⟩ := DataW.trod_string Ybaf.underlying9 i2
      obtain ⟨s3, e3, rfl, _⟩ := DataW.trod_string Ybaf.underlying9 i3
      simp at e0 e1 e2 e3 hx1
      obtain ⟨h0, h1, h2, h3⟩ := hx1
      subst e0 e1 e2 e3
      have : cs = evCells := by
        rw [← cs.toArray_toList, hcs]
        rw [bytes_of_list (s := s0) (l := evBytes 0) (by rw [h0]; rfl), bytes_of_list (l := evBytes 1) h1.symm, bytes_of_list (l := evBytes 2) h2.symm, bytes_of_list (l := evBytes 3) h3.symm]
        rfl
      rw [← this]; exact hv

theorem texts_of_var {W : World} (h : W.var? Ybaf.prog (Rows.lawS0040BTableSpec.vars.headD "") = some evCells) : Texts W := by
  intro i hi
  have := World.var?_cell (g := 0) (by kernel_rfl) h i
  rw [this]
  match i, hi with
  | 0, _ => rfl
  | 1, _ => rfl
  | 2, _ => rfl
  | 3, _ => rfl

/-- The variable, read as data. -/
theorem var_reads {H : Type} (enc : TypeId × Value → H) {X : World} (h : X.var? Ybaf.prog (Rows.lawS0040BTableSpec.vars.headD "") = some evCells) (sp : Nat → Bool) :
    DataW.TrodVars enc Ybaf.prog X sp Rows.lawS0040BTableSpec.vars [Rows.laid_example_com_shoalwire_shoalwire_internal_tracker_eventTexts] [.cell 0 0, .cell 0 1, .cell 0 2, .cell 0 3] :=
  ⟨0, 34, evCells, 2, [], [], by kernel_rfl, by kernel_rfl, h, by kernel_rfl, rfl, rfl⟩
end Go.Proofs.YbulkuoFmt
