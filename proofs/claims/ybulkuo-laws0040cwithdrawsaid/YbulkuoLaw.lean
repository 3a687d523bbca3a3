/-
  The law, walked from its head.
-/
import Derived.Test.YbulkuoT14
namespace Go.Proofs.Ybulkuo
open Go.Shelf Go.RowKit Go.Lib Go.Sort

theorem zero_get {P : Program} {t : TypeId} {n k : Nat} {v : Value} (h : ((P.info? t).bind (·.zero)).map (fun z => (z.cells.size, z.cells[k]?, (match z with | .agg _ => true | _ => false))) = some (n, some v, true)) :
    ∃ cs : Array Value, cs.size = n ∧ cs[k]? = some v ∧ ¬ (cs = #[]) ∧ ∀ w, (zeroValue t).run P w = .ok (.agg cs) w := by
  cases e : P.info? t with
  | none => rw [e] at h; cases h
  | some i =>
    cases e2 : i.zero with
    | none => rw [e] at h; simp [e2] at h
    | some z =>
      rw [e] at h
      cases z <;> simp [e2] at h
      case agg cs =>
        simp [Value.cells] at h
        refine ⟨cs, h.1, h.2, fun e3 => ?_, fun w => by simp [zeroValue, typeInfo, e, e2]⟩
        rw [e3] at h
        simp at h

theorem zero55 : ∃ cs : Array Value, cs.size = 73 ∧ cs[63]? = some (.slice none 0 0) ∧ ¬ (cs = #[]) ∧ ∀ w, (zeroValue 55).run Yba.prog w = .ok (.agg cs) w := zero_get (by kernel_rfl)
theorem zero85 : ∃ cs : Array Value, cs.size = 34 ∧ cs[24]? = some (.map none) ∧ ¬ (cs = #[]) ∧ ∀ w, (zeroValue 85).run Yba.prog w = .ok (.agg cs) w := zero_get (by kernel_rfl)

theorem push6 (a : Array Obj) (x0 x1 x2 x3 x4 x5 : Obj) :
    ((((((a.push x0).push x1).push x2).push x3).push x4).push x5)[a.size]? = some x0 ∧ ((((((a.push x0).push x1).push x2).push x3).push x4).push x5)[a.size + 1]? = some x1 ∧
    ((((((a.push x0).push x1).push x2).push x3).push x4).push x5)[a.size + 2]? = some x2 ∧ ((((((a.push x0).push x1).push x2).push x3).push x4).push x5)[a.size + 3]? = some x3 ∧
    ((((((a.push x0).push x1).push x2).push x3).push x4).push x5)[a.size + 4]? = some x4 ∧ ((((((a.push x0).push x1).push x2).push x3).push x4).push x5)[a.size + 5]? = some x5 := by
  have e : (((((a.push x0).push x1).push x2).push x3).push x4).push x5 = a ++ #[x0, x1, x2, x3, x4, x5] := rfl
  rw [e]
  refine ⟨?_, ?_, ?_, ?_, ?_, ?_⟩ <;> (rw [Array.getElem?_append_right (by omega)]; simp)

theorem pre_made (w : World) (p0 p1 p2 ss : Array Value) (h0 : p0[63]? = some (.slice none 0 0)) (hs : ss[24]? = some (.map (some (w.heap.size + 4)))) (W : World)
    (hW : W = ((((((w.alloc (.cells p0 55)).alloc (.cells p1 55)).alloc (.cells p2 55)).alloc (.cells #[.pointer (some ⟨w.heap.size, 0, none⟩), .pointer (some ⟨w.heap.size + 1, 0, none⟩), .pointer (some ⟨w.heap.size + 2, 0, none⟩)] 24)).alloc (.map #[] 0)).alloc (.cells ss 85))) :
    W.heap.size = w.heap.size + 6 ∧ Pre w.heap.size W #[] 0 ∧ Below w.heap.size w W := by
  have b0 : W.heap[w.heap.size]? = some (.cells p0 55) := by subst hW; exact (push6 w.heap _ _ _ _ _ _).1
  have b1 : W.heap[w.heap.size + 1]? = some (.cells p1 55) := by subst hW; exact (push6 w.heap _ _ _ _ _ _).2.1
  have b2 : W.heap[w.heap.size + 2]? = some (.cells p2 55) := by subst hW; exact (push6 w.heap _ _ _ _ _ _).2.2.1
  have b3 : W.heap[w.heap.size + 3]? = some (.cells #[.pointer (some ⟨w.heap.size, 0, none⟩), .pointer (some ⟨w.heap.size + 1, 0, none⟩), .pointer (some ⟨w.heap.size + 2, 0, none⟩)] 24) := by subst hW; exact (push6 w.heap _ _ _ _ _ _).2.2.2.1
  have b4 : W.heap[w.heap.size + 4]? = some (.map #[] 0) := by subst hW; exact (push6 w.heap _ _ _ _ _ _).2.2.2.2.1
  have b5 : W.heap[w.heap.size + 5]? = some (.cells ss 85) := by subst hW; exact (push6 w.heap _ _ _ _ _ _).2.2.2.2.2
  have hsz : W.heap.size = w.heap.size + 6 := by subst hW; show ((((((w.heap.push _).push _).push _).push _).push _).push _).size = _; simp
  refine ⟨hsz, ⟨fun k hk => ?_, fun k => ?_, ?_, ?_, ?_, b4⟩, ?_⟩
  · have : k = 0 ∨ k = 1 ∨ k = 2 := by omega
    rcases this with rfl | rfl | rfl
    · exact ⟨_, _, b0⟩
    · exact ⟨_, _, b1⟩
    · exact ⟨_, _, b2⟩
  · obtain ⟨k, hk⟩ := k
    have : k = 0 ∨ k = 1 ∨ k = 2 := by omega
    rcases this with rfl | rfl | rfl <;> simp [World.cell?, b3, enc]
  · simp [World.cell?, b5, hs]
  · simp [World.cell?, b0, h0]
  · simp [World.frozen?, b0]
  · subst hW
    exact ((((((Below.refl _ _).alloc (by simp) _).alloc (by simp) _).alloc (by simp; omega) _).alloc (by simp; omega) _).alloc (by simp; omega) _).alloc (by simp; omega) _

set_option maxRecDepth 1000000 in
set_option maxHeartbeats 4000000 in
theorem law_one (c0 c1 : Nat) (a0 a1 : Option Addr) (X : List (List Nat)) (Y : List Nat) (w : World) (hX : Rows2 w a0 X) (hY : Row w (.slice a1 Y.length c1) Y) (hn : X.length ≤ 512) (hy : Y.length ≤ 512) :
    Calls Yba.prog 3 #[.slice a0 X.length c0, .slice a1 Y.length c1] w (Post w) := by
  have HX : Hid (Rows2 w a0 X) := hX
  have HY : Hid (Row w (.slice a1 Y.length c1) Y) := hY
  clear hX hY
  have d1' : ¬ (512 < (X.length : Int)) := by omega
  have d2' : ¬ (512 < (Y.length : Int)) := by omega
  go_enter Yba.func3, Yba.ntmps3
  go_wp2_with fail
  go_loopg [38] X.length (fun gg s38 wr => ∃ t : Nat, s38 = .int .i64 (t : Int) ∧ t ≤ X.length ∧ X.length - t ≤ gg ∧ wr = w ∧ Hid (∀ i, (h : i < X.length) → i < t → X[i].length ≤ 512))
  case atStart => exact ⟨0, rfl, by omega, by omega, rfl, fun _ _ h => absurd h (by omega)⟩
  case round =>
    obtain ⟨t, rfl, ht, hgg, rfl, I1⟩ := hrel
    by_cases hlt : t < X.length
    · have hltz : (t : Int) < (X.length : Int) := by omega
      have htz : (0 : Int) ≤ (t : Int) := Int.natCast_nonneg _
      obtain ⟨b, o, rfl, hbl, hrow⟩ := HX.out (by omega)
      obtain ⟨v, hcv, av, cv, rfl, _⟩ := hrow t hlt
      clear hrow
      by_cases h5 : X[t].length ≤ 512
      · have h5z : ¬ (512 < (X[t].length : Int)) := by omega
        have I2 : Hid (∀ i, (h : i < X.length) → i < t + 1 → X[i].length ≤ 512) := fun i hi hit => by
          by_cases e : i = t
          · subst e; exact h5
          · exact I1.out i hi (by omega)
        generalize X[t].length = m at hcv h5 h5z
        go_wp2
        go_roundg (X.length - (t + 1))
        case measure => omega
        case rel => exact ⟨t + 1, by go_num, by omega, Nat.le_refl _, rfl, I2⟩
      · have h5z : (512 < (X[t].length : Int)) := by omega
        generalize X[t].length = m at hcv h5 h5z
        go_wp2
        go_ret
        exact ⟨rfl, Below.refl _ _⟩
    · obtain rfl : t = X.length := by omega
      have hltz : ¬ (X.length : Int) < (X.length : Int) := by omega
      obtain ⟨z5, z5s, z5o, z5n, hz5⟩ := zero55
      obtain ⟨z8, z8s, z8o, z8n, hz8⟩ := zero85
      have hmm := @run_makeMap Yba.prog
      go_upto_region 14 with fail
      rename_i hK14
      have q10 : ((X.length : Int) + 1) / 2 = (((X.length + 1) / 2 : Nat) : Int) := by omega
      have q11 : (X.length : Int) / 2 = ((X.length / 2 : Nat) : Int) := by omega
      rw [q10, q11]
      obtain ⟨r1, r2, r3⟩ := pre_made wr (z5.setIfInBounds 0 (.string ⟨#[97]⟩)) (z5.setIfInBounds 0 (.string ⟨#[98]⟩)) (z5.setIfInBounds 0 (.string ⟨#[99]⟩)) (z8.setIfInBounds 24 (.map (some (wr.heap.size + 4))))
        (by rw [Array.getElem?_setIfInBounds, if_neg (by omega)]; exact z5o) (by rw [Array.getElem?_setIfInBounds, if_pos rfl, if_pos (by omega)]) _ rfl
      exact tail14 wr _ hK14 wr.heap.size c0 c1 ((X.length + 1) / 2) (X.length / 2) a0 a1 X Y _ r1 r2 HY.out HX.out rfl hn hy (fun i hi => I1.out i hi hi) rfl rfl r3 _ _ _ _ _ _ _ _ _ _ _ _ _ _ _ _ _ _ _ _ _ _ _ _ _ _ _ _ _ _ _ _ _ _ _ _ _ _ _ _ _ _ _ _ _ _ _ _ _ _ _ _ _ _ _ _ _ _ _ _ _ _ _ _ _ _ _ _ _ _ _ _ _ _ _ _ _ _ _ _ _ _ _ _ _ _ _ _ _ _ _ _ _ _ _ _ _ _ _ _ _ _ _ _ _ _ _ _ _ _ _ _ _ _ _ _ _ _ _ _ _ _ _ _ _ _ _ _ _ _ _ _ _ _ _ _ _ _ _ _ _ _ _ _ _ _ _ _ _ _ _ _ _ _ _ _ _ _ _ _ _ _ _ _ _ _ _ _ _ _ _ _ _ _ _ _ _ _ _ _ _ _ _ _ _ _ _ _ _ _ _ _ _ _ _ _ _ _ _ _ _ _ _ _ _ _ _ _ _ _ _ _ _ _ _ _ _ _ _ _ _ _ _ _ _ _ _ _ _ _ _ _ _ _ _ _ _ _ _ _ _ _ _ _ _ _ _ _ _ _ _ _ _ _ _ _ _ _ _ _ _ _ _ _ _ _ _ _ _ _

set_option maxRecDepth 1000000 in
theorem law_long (n0 c0 n1 c1 : Nat) (a0 a1 : Option Addr) (w : World) (h : 512 < n0 ∨ 512 < n1) :
    Calls Yba.prog 3 #[.slice a0 n0 c0, .slice a1 n1 c1] w (Post w) := by
  by_cases h0 : 512 < n0
  · have hz : 512 < (n0 : Int) := by omega
    clear h
    go_enter Yba.func3, Yba.ntmps3
    go_wp2
    go_ret
    exact ⟨rfl, Below.refl _ _⟩
  · have hz : ¬ 512 < (n0 : Int) := by omega
    have hz1 : 512 < (n1 : Int) := by omega
    clear h
    go_enter Yba.func3, Yba.ntmps3
    go_wp2
    go_ret
    exact ⟨rfl, Below.refl _ _⟩

end Go.Proofs.Ybulkuo
