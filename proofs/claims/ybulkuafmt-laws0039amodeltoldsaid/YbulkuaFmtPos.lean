/-
  carried and positive by their contracts.
-/
import Derived.Test.YbulkuaFmtRoad
namespace Go.Proofs.YbulkuaFmt
open Go.RowKit Go.Extern.Stop Go.Stop Go.Extern

/-- withPlaces refuses, with an error that wraps the sentinel at a. -/
def BadWith (u : Int) (p q : Nat) (a : Addr) (W : World) : Prop :=
  Calls Ybaf.prog 12 #[.agg #[.int .i64 u, .int .u8 p], .int .i64 q] W fun e w' =>
      ∃ pb, e = .returned (.tuple #[.agg #[.int .i64 0, .int .u8 0], .iface 42 (.pointer (some ⟨pb, 0, none⟩))]) ∧ Wraps W.heap.size pb (.iface 55 (.pointer (some a))) w' ∧ Below W.heap.size W w'

theorem hid {p : Prop} (h : p) : Hid p := h

theorem Wraps.later {N pb : Nat} {v : Value} {w1 w2 : World} (h : Wraps N pb v w1) (hb : Below w1.heap.size w1 w2) : Wraps N pb v w2 := by
  obtain ⟨h0, ⟨t, h1⟩, h2, h3⟩ := h
  exact ⟨h0, ⟨t, by rw [hb.cell h3]; exact h1⟩, by rw [hb.cell h3]; exact h2, by have := hb.size; omega⟩

set_option maxHeartbeats 400000 in
theorem carried_bad (F : Interp) (nm : ByteArray) (u : Int) (p q : Nat) (a : Addr) (w : World) (hF : F.answers w.tape) (hW : ∀ W, Below w.heap.size w W → BadWith u p q a W) :
    Calls Ybaf.prog 7 #[.string nm, .agg #[.int .i64 u, .int .u8 p], .int .i64 q] w fun e w' =>
      ∃ pb qb, e = .returned (.tuple #[.agg #[.int .i64 0, .int .u8 0], .iface 42 (.pointer (some ⟨pb, 0, none⟩))]) ∧ Wraps w.heap.size pb (.iface 42 (.pointer (some ⟨qb, 0, none⟩))) w' ∧
        Wraps w.heap.size qb (.iface 55 (.pointer (some a))) w' ∧ Below w.heap.size w w' := by
  have HW : Hid (∀ W, Below w.heap.size w W → BadWith u p q a W) := hW
  clear hW
  go_enter Ybaf.func7, Ybaf.ntmps7
  go_wp2_with fail
  refine (HW.out _ (((Below.refl _ _).alloc (Nat.le_refl _) _).alloc (by simp) _)).mono ?_
  rintro e w1 ⟨qb, rfl, hq, hb⟩
  obtain ⟨hc, hf⟩ := bcell hb
  have hz : w.heap.size + 1 + 1 ≤ w1.heap.size := by simpa using hb.size
  have hz1 : w.heap.size < w1.heap.size := by omega
  have hz2 : w.heap.size + 1 < w1.heap.size := by omega
  obtain ⟨t, ht⟩ := hq.2.1
  go_wp2_with fail
  refine (errorf_c F nm _ ⟨qb, 0, none⟩ t _ ?_ ?_ ?_ ?_).mono ?_
  · show F.answers w1.tape
    rw [hb.tape]; exact hF
  · go_simp
  · go_simp
  · have hlt : qb < w1.heap.size := hq.2.2.2
    rw [World.cell?_alloc_past _ _ _ (by simp; omega), World.cell?_alloc_past _ _ _ hlt]; exact ht
  rintro e w2 ⟨pb, rfl, hp, hb2⟩
  obtain ⟨hc2, hf2⟩ := bcell hb2
  have hz3 : w1.heap.size + 1 + 1 ≤ w2.heap.size := by simpa using hb2.size
  have hq2 := hq.later (((Below.refl _ w1).alloc (Nat.le_refl _) (.cells #[.int .i64 0, .int .u8 0] 23)).alloc (by simp) (.cells #[.iface 9 (.string nm), .iface 42 (.pointer (some ⟨qb, 0, none⟩))] 20))
  have hq3 := hq2.later hb2
  have hall : Below w.heap.size w w2 := ((((((Below.refl _ _).alloc (Nat.le_refl _) _).alloc (by simp) _).trans (hb.mono (by simp; omega))).alloc (by omega) _).alloc (by simp; omega) _).trans (hb2.mono (by simp; omega))
  have HQ := hid hq3
  clear ht hq hq2 hq3
  have hx0 : w.heap.size + 1 < w1.heap.size + 1 + 1 := by omega
  have hx1 : w.heap.size + 1 < w1.heap.size + 1 := by omega
  go_wp2
  refine bodyPost_ret (v := .tuple #[.agg #[.int .i64 0, .int .u8 0], .iface 42 (.pointer (some ⟨pb, 0, none⟩))]) ?_ rfl ⟨pb, qb, rfl, ?_, ?_, ?_⟩
  · simp [results, Ybaf.results7, go_sem, hc2, hc, hx0, hx1, hz2]
  · exact ((hp.set (by simp; omega) _ _).set (by simp; omega) _ _).mono (by simp; omega)
  · exact ((HQ.out.set (by simp) _ _).set (by simp) _ _).mono (by simp; omega)
  · exact (hall.setCell (by simp) _).setCell (by simp) _

set_option maxHeartbeats 400000 in
theorem carried_ok (nm : ByteArray) (u v : Int) (p q : Nat) (w : World) (hu1 : -9223372036854775808 ≤ u) (hu2 : u ≤ 9223372036854775807) (hpq : p ≤ q) (hq : q ≤ 18)
    (hsc : sc (q - p) u = some v) :
    Calls Ybaf.prog 7 #[.string nm, .agg #[.int .i64 u, .int .u8 p], .int .i64 q] w fun e w' =>
      e = .returned (.tuple #[.agg #[.int .i64 v, .int .u8 q], .nilIface]) ∧ Below w.heap.size w w' := by
  have HS := hid hsc
  clear hsc
  go_enter Ybaf.func7, Ybaf.ntmps7
  go_wp2_with fail
  refine (with_ok u v p q _ hu1 hu2 hpq hq HS.out).mono ?_
  rintro e w1 ⟨rfl, hb⟩
  obtain ⟨hc, hf⟩ := bcell hb
  have hz : w.heap.size + 1 + 1 ≤ w1.heap.size := by simpa using hb.size
  have hz1 : w.heap.size < w1.heap.size := by omega
  have hz2 : w.heap.size + 1 < w1.heap.size := by omega
  go_wp2
  refine bodyPost_ret (v := .tuple #[.agg #[.int .i64 v, .int .u8 q], .nilIface]) ?_ rfl ⟨rfl, ?_⟩
  · simp [results, Ybaf.results7, go_sem, hc, hz2]
  · exact ((((((Below.refl _ _).alloc (Nat.le_refl _) _).alloc (by simp) _).trans (hb.mono (by simp; omega))).setCell (by simp) _).setCell (by simp) _).alloc (by simp; omega) _

/-- carried refuses. -/
def BadCarried (nm : ByteArray) (u : Int) (p q : Nat) (a : Addr) (w : World) : Prop :=
    Calls Ybaf.prog 7 #[.string nm, .agg #[.int .i64 u, .int .u8 p], .int .i64 q] w fun e w' =>
      ∃ pb qb, e = .returned (.tuple #[.agg #[.int .i64 0, .int .u8 0], .iface 42 (.pointer (some ⟨pb, 0, none⟩))]) ∧ Wraps w.heap.size pb (.iface 42 (.pointer (some ⟨qb, 0, none⟩))) w' ∧
        Wraps w.heap.size qb (.iface 55 (.pointer (some a))) w' ∧ Below w.heap.size w w'

set_option maxHeartbeats 400000 in
theorem positive_bad (nm : ByteArray) (u : Int) (p q : Nat) (a : Addr) (w : World) (hW : ∀ W, Below w.heap.size w W → BadCarried nm u p q a W) :
    Calls Ybaf.prog 4 #[.string nm, .agg #[.int .i64 u, .int .u8 p], .int .i64 q] w fun e w' =>
      ∃ pb qb, e = .returned (.tuple #[.agg #[.int .i64 0, .int .u8 0], .iface 42 (.pointer (some ⟨pb, 0, none⟩))]) ∧ Wraps w.heap.size pb (.iface 42 (.pointer (some ⟨qb, 0, none⟩))) w' ∧
        Wraps w.heap.size qb (.iface 55 (.pointer (some a))) w' ∧ Below w.heap.size w w' := by
  have HW : Hid (∀ W, Below w.heap.size w W → BadCarried nm u p q a W) := hW
  clear hW
  go_enter Ybaf.func4, Ybaf.ntmps4
  go_wp2_with fail
  refine (HW.out _ (((Below.refl _ _).alloc (Nat.le_refl _) _).alloc (by simp) _)).mono ?_
  rintro e w1 ⟨pb, qb, rfl, hp, hq, hb⟩
  obtain ⟨hc, hf⟩ := bcell hb
  have hz : w.heap.size + 1 + 1 ≤ w1.heap.size := by simpa using hb.size
  have hz1 : w.heap.size < w1.heap.size := by omega
  have hz2 : w.heap.size + 1 < w1.heap.size := by omega
  have HP := hid hp
  have HQ := hid hq
  clear hp hq
  go_wp2
  refine bodyPost_ret (v := .tuple #[.agg #[.int .i64 0, .int .u8 0], .iface 42 (.pointer (some ⟨pb, 0, none⟩))]) ?_ rfl ⟨pb, qb, rfl, ?_, ?_, ?_⟩
  · simp [results, Ybaf.results4, go_sem, hc, hz2]
  · exact (((HP.out.set (by simp) _ _).set (by simp) _ _).mono (by simp; omega)).later ((Below.refl _ _).alloc (Nat.le_refl _) _)
  · exact (((HQ.out.set (by simp) _ _).set (by simp) _ _).mono (by simp; omega)).later ((Below.refl _ _).alloc (Nat.le_refl _) _)
  · exact ((((((Below.refl _ _).alloc (Nat.le_refl _) _).alloc (by simp) _).trans (hb.mono (by simp; omega))).setCell (by simp) _).setCell (by simp) _).alloc (by simp; omega) _

set_option maxHeartbeats 400000 in
theorem positive_ok (nm : ByteArray) (u v : Int) (p q : Nat) (w : World) (hu1 : -9223372036854775808 ≤ u) (hu2 : u ≤ 9223372036854775807) (hpq : p ≤ q) (hq : q ≤ 18)
    (hsc : sc (q - p) u = some v) (hv : 0 < v) :
    Calls Ybaf.prog 4 #[.string nm, .agg #[.int .i64 u, .int .u8 p], .int .i64 q] w fun e w' =>
      e = .returned (.tuple #[.agg #[.int .i64 v, .int .u8 q], .nilIface]) ∧ Below w.heap.size w w' := by
  have HS := hid hsc
  clear hsc
  go_enter Ybaf.func4, Ybaf.ntmps4
  go_wp2_with fail
  refine (carried_ok nm u v p q _ hu1 hu2 hpq hq HS.out).mono ?_
  rintro e w1 ⟨rfl, hb⟩
  obtain ⟨hc, hf⟩ := bcell hb
  have hz : w.heap.size + 1 + 1 ≤ w1.heap.size := by simpa using hb.size
  have hz1 : w.heap.size < w1.heap.size := by omega
  have hz2 : w.heap.size + 1 < w1.heap.size := by omega
  have hz3 : w.heap.size + 1 < w1.heap.size + 1 := by omega
  have hz4 : w.heap.size + 1 < w1.heap.size + 1 + 1 := by omega
  go_wp2
  refine bodyPost_ret (v := .tuple #[.agg #[.int .i64 v, .int .u8 q], .nilIface]) ?_ rfl ⟨rfl, ?_⟩
  · simp [results, Ybaf.results4, go_sem, hc, hz2, hz3]
  · exact (((((((Below.refl _ _).alloc (Nat.le_refl _) _).alloc (by simp) _).trans (hb.mono (by simp; omega))).setCell (by simp) _).setCell (by simp) _).alloc (by simp; omega) _).alloc (by simp; omega) _

theorem sign_low (v : Int) (q : Nat) (hv : v ≤ 0) : ∃ s : Int, s ≤ 0 ∧ ∀ w, Calls Ybaf.prog 8 #[.agg #[.int .i64 v, .int .u8 q]] w fun e w' => e = .returned (.int .i64 s) ∧ w' = w.alloc (.cells #[.int .i64 v, .int .u8 q] 23) := by
  refine ⟨_, ?_, fun w => sign_any v q w⟩
  split
  · omega
  · rw [if_neg (by omega)]; omega

set_option maxHeartbeats 400000 in
theorem positive_low (F : Interp) (nm : ByteArray) (u v : Int) (p q : Nat) (w : World) (hF : F.answers w.tape) (hu1 : -9223372036854775808 ≤ u) (hu2 : u ≤ 9223372036854775807) (hpq : p ≤ q) (hq : q ≤ 18)
    (hsc : sc (q - p) u = some v) (hv : v ≤ 0) (hv1 : -9223372036854775808 ≤ v) :
    Calls Ybaf.prog 4 #[.string nm, .agg #[.int .i64 u, .int .u8 p], .int .i64 q] w fun e w' =>
      ∃ (pb : Nat) (cs : Array Value), e = .returned (.tuple #[.agg #[.int .i64 0, .int .u8 0], .iface 55 (.pointer (some ⟨pb, 0, none⟩))]) ∧ w.heap.size ≤ pb ∧ w'.heap[pb]? = some (.cells cs 57 (0, 0)) ∧ Below w.heap.size w w' := by
  have HS := hid hsc
  clear hsc
  obtain ⟨s, hs, hsg⟩ := sign_low v q hv
  have HG := hid hsg
  clear hsg
  go_enter Ybaf.func4, Ybaf.ntmps4
  go_wp2_with fail
  refine (carried_ok nm u v p q _ hu1 hu2 hpq hq HS.out).mono ?_
  rintro e w1 ⟨rfl, hb⟩
  obtain ⟨hc, hf⟩ := bcell hb
  have hz : w.heap.size + 1 + 1 ≤ w1.heap.size := by simpa using hb.size
  have hz1 : w.heap.size < w1.heap.size := by omega
  have hz2 : w.heap.size + 1 < w1.heap.size := by omega
  go_wp2_with (go_at_call 8; refine (HG.out _).mono ?_; rintro e w' ⟨rfl, rfl⟩)
  refine (errorf_d F nm v q _ _ ?_ hv1 (by omega) hq ?_ ?_).mono ?_
  · show F.answers w1.tape
    rw [hb.tape]; exact hF
  · go_simp
  · go_simp
  rintro e w2 ⟨pb, cs, rfl, hpb, hcs, hb2⟩
  obtain ⟨hc2, hf2⟩ := bcell hb2
  have hall : Below w.heap.size w w2 := (((((((Below.refl _ _).alloc (Nat.le_refl _) _).alloc (by simp) _).trans (hb.mono (by simp; omega))).alloc (by omega) _).alloc (by simp; omega) _).alloc (by simp; omega) _).trans (hb2.mono (by simp; omega))
  have hpb2 : w1.heap.size + 1 + 1 + 1 ≤ pb := by simpa using hpb
  have hx0 : w.heap.size + 1 < w1.heap.size + 1 + 1 + 1 := by omega
  have hx1 : w.heap.size + 1 < w1.heap.size + 1 + 1 := by omega
  have hx2 : w.heap.size + 1 < w1.heap.size + 1 := by omega
  have HC := hid hcs
  clear hcs hpb
  go_wp2
  refine bodyPost_ret (v := .tuple #[.agg #[.int .i64 0, .int .u8 0], .iface 55 (.pointer (some ⟨pb, 0, none⟩))]) ?_ rfl ⟨pb, cs, rfl, by omega, ?_, ?_⟩
  · simp [results, Ybaf.results4, go_sem, hc2, hc, hx0, hx1, hx2, hz2]
  · rw [Below.heap_setCell _ _ _ _ (by show pb ≠ w.heap.size + 1; omega), Below.heap_setCell _ _ _ _ (by show pb ≠ w.heap.size + 1; omega)]; exact HC.out
  · exact (hall.setCell (by simp) _).setCell (by simp) _

end Go.Proofs.YbulkuaFmt
