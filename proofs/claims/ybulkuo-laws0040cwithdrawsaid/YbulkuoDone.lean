/-
  The statement's row out of the law's walk (the frame: the guide's own shell for slices, turned to a slice of rows of bytes).
-/
import Derived.Test.YbulkuoLaw
import Derived.Test.YbulkuoRows
import Derived.Test.YbulkuoChecked
import Derived.ProofKit
import Derived.OpenShut
import Derived.ShutString
import Derived.ChangeOld
import Derived.Below
import Derived.ChangeSlices
import Derived.Deep.Slices
namespace Go.Proofs.Ybulkuo
open Go.ChangeShapes Go.WideShapes Go.ChangeAt Go.RowKit

theorem own : ownKnob Yba.prog.godebug = none := by kernel_rfl
theorem laidOut : laidOutB Yba.prog = true := by kernel_rfl

/-- A row of bytes that came in. -/
theorem row_of {H : Type} {enc : TypeId × Value → H} {W : World} {held : Bool} {fuel : Nat} {cs : List Value} {x : DataW H × List MemPlace}
    (h : DataW.trod enc Yba.prog W 0 (fun _ => true) held fuel 23 cs = some x) : ∃ v Y, cs = [v] ∧ Row W v Y := by
  rcases open_ints Yba.underlying23 Yba.underlying5 (by kernel_rfl) h with ⟨hcs, _⟩ | ⟨a, len, cap, zs, hcs, _, hl, hm, hz, _, hcell, hwf⟩
  · exact ⟨_, [], hcs, none, 0, rfl, fun h => absurd h (by simp)⟩
  · simp at hz
    have hlen : ((zs.take len).map Int.toNat).length = len := by simp; omega
    refine ⟨_, (zs.take len).map Int.toNat, hcs, some a, cap, by rw [hlen], fun h0 => ?_⟩
    rw [hlen] at h0
    obtain ⟨b, off, spot⟩ := a
    have hc := hcell 0 (by omega)
    have hspot : spot = none := by simpa [Addr.add] using World.cell?_spot hc
    subst hspot
    have hadd : ∀ j, (⟨b, off, none⟩ : Addr).add j = ⟨b, off + j, none⟩ := fun j => by unfold Addr.add; split <;> simp_all
    refine ⟨b, off, rfl, by have := World.block_lt_of_cell? W _ hc; rw [hadd] at this; exact this, fun j hj => ?_⟩
    have hj' : j < len := by rw [hlen] at hj; exact hj
    have hw := hwf _ (List.getElem_mem (show j < zs.length by omega))
    have hr : 0 ≤ zs[j]'(by omega) ∧ zs[j]'(by omega) < 256 := by
      have := bounds_u8 hw
      omega
    constructor
    · rw [← hadd, hcell j (by omega)]
      simp [List.getD, show j < zs.length by omega]
      omega
    · simp
      omega

/-- The rows that came in. -/
theorem rows_of {H : Type} {enc : TypeId × Value → H} {W : World} {a : Option Addr} {n c : Nat} {d : DataW H} {p : List MemPlace}
    (h : DataW.Trod enc Yba.prog W 0 (fun _ => true) true 22 (.slice a n c) d p) : ∃ X : List (List Nat), n = X.length ∧ Rows2 W a X := by
  obtain ⟨fuel, hf⟩ := h
  rcases Go.Deep.open_slice Yba.underlying22 hf with ⟨hcs, _⟩ | ⟨x, len, cap, m, q, D, Pl, hcs, _, hl, hm, hmm, _, hel⟩
  · simp [Value.cells] at hcs
    obtain ⟨rfl, rfl, rfl⟩ := hcs
    exact ⟨[], rfl, fun h => absurd h (by simp)⟩
  · simp [Value.cells] at hcs
    obtain ⟨rfl, rfl, rfl⟩ := hcs
    simp at hmm
    have hco : Yba.prog.cellsOf 23 = 1 := by kernel_rfl
    have hall : ∀ i, ∃ z : Value × List Nat, i < n → W.cell? (x.add i) = some z.1 ∧ Row W z.1 z.2 := fun i => by
      by_cases hi : i < n
      · obtain ⟨cs', h1, h2⟩ := hel i (by omega)
        rw [hco, Nat.mul_one] at h1
        obtain ⟨v, Y, e, hr⟩ := row_of h2
        rw [e] at h1
        exact ⟨(v, Y), fun _ => ⟨cell_of_cells?_one h1, hr⟩⟩
      · exact ⟨(.nilIface, []), fun h => absurd h hi⟩
    obtain ⟨F, hF⟩ := Classical.axiomOfChoice hall
    refine ⟨(List.range n).map fun i => (F i).2, by simp, fun h0 => ?_⟩
    have hn : 0 < n := by simpa using h0
    obtain ⟨b, off, spot⟩ := x
    have hc := (hF 0 hn).1
    have hspot : spot = none := by simpa [Addr.add] using World.cell?_spot hc
    subst hspot
    have hadd : ∀ j, (⟨b, off, none⟩ : Addr).add j = ⟨b, off + j, none⟩ := fun j => by unfold Addr.add; split <;> simp_all
    refine ⟨b, off, rfl, by have := World.block_lt_of_cell? W _ hc; rw [hadd] at this; exact this, fun i hi => ?_⟩
    have hi' : i < n := by simpa using hi
    have := hF i hi'
    rw [hadd] at this
    exact ⟨(F i).1, this.1, by simpa using this.2⟩

theorem row_in {H : Type} {enc : TypeId × Value → H} {W : World} {a : Option Addr} {n c : Nat} {d : DataW H} {p : List MemPlace}
    (h : DataW.Trod enc Yba.prog W 0 (fun _ => true) true 23 (.slice a n c) d p) : ∃ Y : List Nat, n = Y.length ∧ Row W (.slice a Y.length c) Y := by
  obtain ⟨fuel, hf⟩ := h
  obtain ⟨v, Y, e, hr⟩ := row_of hf
  simp [Value.cells] at e
  subst e
  obtain ⟨a', c', e2, hx⟩ := hr
  cases e2
  exact ⟨Y, rfl, a, c, rfl, hx⟩

theorem law_any {H : Type} {enc : TypeId × Value → H} {a0 a1 : Option Addr} {n0 c0 n1 c1 : Nat} {d0 d1 : DataW H} {p0 p1 : List MemPlace} (w : World)
    (h0 : DataW.Trod enc Yba.prog w 0 (fun _ => true) true 22 (.slice a0 n0 c0) d0 p0) (h1 : DataW.Trod enc Yba.prog w 0 (fun _ => true) true 23 (.slice a1 n1 c1) d1 p1) :
    Calls Yba.prog 3 #[.slice a0 n0 c0, .slice a1 n1 c1] w fun e w' => e = .returned (.bool true) ∧ Below w.heap.size w w' := by
  by_cases hl : 512 < n0 ∨ 512 < n1
  · exact law_long n0 c0 n1 c1 a0 a1 w hl
  · obtain ⟨X, rfl, hX⟩ := rows_of h0
    obtain ⟨Y, rfl, hY⟩ := row_in h1
    exact law_one c0 c1 a0 a1 X Y w hX hY (by omega) (by omega)

set_option maxRecDepth 100000 in
theorem lifted (os : Os) (started : os.Started) (H : Type) (enc : TypeId × Value → H) :
    ReturnsInHanded {} Yba.checked os 3 .any (Rows.lawS0040CWithdrawSpec.pre6 enc Yba.prog Yba.f3 Rows.lawS0040CWithdrawRow.domain false) (Rows.lawS0040CWithdrawSpec.post enc Yba.prog Yba.f3 false true false false) := by
  refine returnsInHanded_of_change (C := Yba.checked) own started (by kernel_rfl) Yba.func3
    (ChangeSpec.witness6 (enc := enc) (C := Yba.checked) false ⟨#[], #[.slice none 0 0, .slice none 0 0], []⟩ 8 (by kernel_rfl) (by kernel_rfl) (by kernel_rfl) (by kernel_rfl)) ?_
  intro W base args ds gs before hval0 hW hcnd _
  have hval : ∀ (j : Nat) t v, Yba.f3.params[j]? = some t → args[j]? = some v → Value.okWide Yba.prog W .any base t v := hval0
  have hW' := hW
  obtain ⟨p, q, hA0, hV, rfl, hfz, hnd⟩ := hW
  have hA : DataW.TrodAll enc Yba.prog W 0 (fun _ => true) true Yba.f3.params.toList args.toList ds p := hA0
  rw [Yba.params3] at hA hval
  obtain ⟨v0, vs0, d0, ds0, p0, q0, hargs, rfl, rfl, h0, r0⟩ := trodAll_cons hA
  obtain ⟨v1, vs1, d1, ds1, p1, q1, rfl, rfl, rfl, h1, r1⟩ := trodAll_cons r0
  obtain ⟨rfl, rfl, rfl⟩ := trodAll_nil r1
  obtain rfl : args = #[v0, v1] := by cases args; simp_all
  obtain ⟨rfl, rfl⟩ := trodVars_none hV
  obtain ⟨a0, len0, cap0, rfl⟩ := okWide_slice Yba.underlying22 (hval 0 22 v0 rfl rfl)
  obtain ⟨a1, len1, cap1, rfl⟩ := okWide_slice Yba.underlying23 (hval 1 23 v1 rfl rfl)
  have lt0 : ∀ x ∈ p0, x.block < W.heap.size := by obtain ⟨m, hm⟩ := h0; exact DataW.trod_lt m _ _ _ hm
  have lt1 : ∀ x ∈ p1, x.block < W.heap.size := by obtain ⟨m, hm⟩ := h1; exact DataW.trod_lt m _ _ _ hm
  clear hA0 hval0
  refine (law_any W h0 h1).mono fun e W' ⟨he, bel⟩ => ?_
  subst he
  exact ⟨_, rfl, _, _, _, [], _, [], hW', trodAll_mk1 (shut_bool Yba.underlying4 _), (trodAll_cons_mk (Below.trod laidOut (by kernel_rfl) (of_decide_eq_true (by kernel_rfl)) h0 bel lt0) (trodAll_cons_mk (Below.trod laidOut (by kernel_rfl) (of_decide_eq_true (by kernel_rfl)) h1 bel lt1) trodAll_mk0)), rfl, bel.frame _, fun h => by cases h⟩

theorem proved : Rows.LawS0040CWithdrawSaid :=
  OpenClaim.holds_of_wide 3 Yba.f3 rfl rfl rfl rfl rfl rfl rfl ⟨rfl, rfl, rfl, rfl, rfl⟩ rfl rfl rfl rfl rfl (by kernel_rfl) Yba.func3 (by kernel_rfl)
    (of_decide_eq_true (by kernel_rfl)) (by unfold Func.isWrapper; first | (rw [if_pos (by decide +kernel)]; kernel_rfl) | (rw [if_neg (by decide +kernel)]; exact ⟨rfl, rfl⟩))
    (fun os started H enc _ => lifted os started H enc)

end Go.Proofs.Ybulkuo
