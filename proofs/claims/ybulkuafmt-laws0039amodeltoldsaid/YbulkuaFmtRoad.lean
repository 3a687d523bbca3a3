/-
  withPlaces, carried, positive by their contracts.
-/
import Derived.Test.YbulkuaFmtScale
namespace Go.Proofs.YbulkuaFmt
open Go.RowKit Go.Extern.Stop Go.Stop Go.Extern

/-- The two sentinels as the walk reads them. -/
structure Sents (a0 a1 : Addr) (s0 s1 : ByteArray) (w : World) : Prop where
  g0 : w.cell? ⟨0, 0, none⟩ = some (.iface 55 (.pointer (some a0)))
  g1 : w.cell? ⟨1, 0, none⟩ = some (.iface 55 (.pointer (some a1)))
  c0 : w.cell? a0 = some (.string s0)
  c1 : w.cell? a1 = some (.string s1)

theorem Sents.later {a0 a1 : Addr} {s0 s1 : ByteArray} {w w' : World} (h : Sents a0 a1 s0 s1 w) (hb : Below w.heap.size w w') : Sents a0 a1 s0 s1 w' :=
  ⟨by rw [hb.cell (World.block_lt_of_cell? _ _ h.g0)]; exact h.g0, by rw [hb.cell (World.block_lt_of_cell? _ _ h.g1)]; exact h.g1,
   by rw [hb.cell (World.block_lt_of_cell? _ _ h.c0)]; exact h.c0, by rw [hb.cell (World.block_lt_of_cell? _ _ h.c1)]; exact h.c1⟩

theorem bcell {W w1 : World} (hb : Below W.heap.size W w1) : (∀ b o, b < W.heap.size → w1.cell? ⟨b, o, none⟩ = W.cell? ⟨b, o, none⟩) ∧ (∀ b o, b < W.heap.size → w1.frozen? ⟨b, o, none⟩ = W.frozen? ⟨b, o, none⟩) :=
  ⟨fun _ _ h => hb.cell h, fun _ _ h => hb.frozen h⟩

theorem Wraps.set {N pb k : Nat} {v : Value} {w' : World} (h : Wraps N pb v w') (hk : k < N) (o : Nat) (x : Value) : Wraps N pb v (w'.setCell ⟨k, o, none⟩ x) := by
  obtain ⟨h0, ⟨t, h1⟩, h2, h3⟩ := h
  refine ⟨h0, ⟨t, ?_⟩, ?_, by simpa using h3⟩
  · rw [World.cell?_setCell_other _ _ _ _ (fun e => absurd (congrArg Addr.block e) (by show k ≠ pb; omega))]; exact h1
  · rw [World.cell?_setCell_other _ _ _ _ (fun e => absurd (congrArg Addr.block e) (by show k ≠ pb; omega))]; exact h2
theorem Wraps.mono {N N' pb : Nat} {v : Value} {w' : World} (h : Wraps N pb v w') (hN : N' ≤ N) : Wraps N' pb v w' := ⟨by have := h.1; omega, h.2⟩

set_option maxHeartbeats 400000 in
theorem with_many (F : Interp) (u : Int) (p q : Nat) (a0 a1 : Addr) (s0 s1 : ByteArray) (w : World) (hF : F.answers w.tape) (hu1 : -9223372036854775808 ≤ u) (hu2 : u ≤ 9223372036854775807) (hp : p ≤ 18) (hq : q < p)
    (hS : Sents a0 a1 s0 s1 w) :
    Calls Ybaf.prog 12 #[.agg #[.int .i64 u, .int .u8 p], .int .i64 q] w fun e w' =>
      ∃ pb, e = .returned (.tuple #[.agg #[.int .i64 0, .int .u8 0], .iface 42 (.pointer (some ⟨pb, 0, none⟩))]) ∧ Wraps w.heap.size pb (.iface 55 (.pointer (some a0))) w' ∧ Below w.heap.size w w' := by
  have hg0 := hS.g0
  have hz0 : 0 < w.heap.size := World.block_lt_of_cell? _ _ hS.g0
  go_enter Ybaf.func12, Ybaf.ntmps12
  go_wp2_with (go_at_call 16; refine (places_any u p _ hp).mono ?_; rintro e w' ⟨rfl, rfl⟩)
  refine (errorf_a F u q p _ a0 s0 _ ?_ hu1 hu2 hp ?_ ?_ ?_ ?_).mono ?_
  · exact hF
  · go_simp
  · go_simp
  · go_simp
  · exact (hS.later (((((Below.refl _ _).alloc (Nat.le_refl _) _).alloc (by simp) _).alloc (by simp; omega) _).alloc (by simp; omega) _)).c0
  rintro e w3 ⟨pb, rfl, hw, hb⟩
  obtain ⟨hc, hf⟩ := bcell hb
  have hz : w.heap.size + 1 + 1 + 1 + 1 ≤ w3.heap.size := by simpa using hb.size
  clear hS hg0
  go_wp2
  refine bodyPost_ret (v := .tuple #[.agg #[.int .i64 0, .int .u8 0], .iface 42 (.pointer (some ⟨pb, 0, none⟩))]) ?_ rfl ⟨pb, rfl, ?_, ?_⟩
  · simp [results, Ybaf.results12, go_sem, hc]
  · exact ((hw.set (by simp) _ _).set (by simp) _ _).mono (by simp; omega)
  · exact ((((((((Below.refl _ _).alloc (Nat.le_refl _) _).alloc (by simp) _).alloc (by simp; omega) _).alloc (by simp; omega) _)).trans (hb.mono (by simp; omega))).setCell (by simp) _).setCell (by simp) _
set_option maxHeartbeats 400000 in
theorem with_range (F : Interp) (u : Int) (p q : Nat) (a0 a1 : Addr) (s0 s1 : ByteArray) (w : World) (hF : F.answers w.tape) (hu1 : -9223372036854775808 ≤ u) (hu2 : u ≤ 9223372036854775807) (hpq : p ≤ q) (hq : q ≤ 18)
    (hsc : sc (q - p) u = none) (hS : Sents a0 a1 s0 s1 w) :
    Calls Ybaf.prog 12 #[.agg #[.int .i64 u, .int .u8 p], .int .i64 q] w fun e w' =>
      ∃ pb, e = .returned (.tuple #[.agg #[.int .i64 0, .int .u8 0], .iface 42 (.pointer (some ⟨pb, 0, none⟩))]) ∧ Wraps w.heap.size pb (.iface 55 (.pointer (some a1))) w' ∧ Below w.heap.size w w' := by
  have hg1 := hS.g1
  have hz1 : 1 < w.heap.size := World.block_lt_of_cell? _ _ hS.g1
  have hz2 : 1 < w.heap.size + 1 := by omega
  have hz3 : 1 < w.heap.size + 1 + 1 := by omega
  have hz4 : 1 < w.heap.size + 1 + 1 + 1 := by omega
  go_enter Ybaf.func12, Ybaf.ntmps12
  go_wp2_with (first | (go_at_call 16; refine (places_any u p _ (by omega)).mono ?_; rintro e w' ⟨rfl, rfl⟩) | (go_at_call 17; refine (scaled_any u p q _ hu1 hu2 hpq hq).mono ?_; rintro e w' ⟨rfl, rfl⟩))
  refine (errorf_b F u p _ a1 s1 _ ?_ hu1 hu2 (by omega) ?_ ?_ ?_).mono ?_
  · exact hF
  · go_simp
  · go_simp
  · exact (hS.later ((((((Below.refl _ _).alloc (Nat.le_refl _) _).alloc (by simp) _).alloc (by simp; omega) _).alloc (by simp; omega) _).alloc (by simp; omega) _)).c1
  rintro e w3 ⟨pb, rfl, hw, hb⟩
  obtain ⟨hc, hf⟩ := bcell hb
  have hz : w.heap.size + 1 + 1 + 1 + 1 + 1 ≤ w3.heap.size := by simpa using hb.size
  clear hS hg1
  go_wp2
  refine bodyPost_ret (v := .tuple #[.agg #[.int .i64 0, .int .u8 0], .iface 42 (.pointer (some ⟨pb, 0, none⟩))]) ?_ rfl ⟨pb, rfl, ?_, ?_⟩
  · simp [results, Ybaf.results12, go_sem, hc]
  · exact ((hw.set (by simp) _ _).set (by simp) _ _).mono (by simp; omega)
  · exact ((((((((((Below.refl _ _).alloc (Nat.le_refl _) _).alloc (by simp) _).alloc (by simp; omega) _).alloc (by simp; omega) _)).alloc (by simp; omega) _)).trans (hb.mono (by simp; omega))).setCell (by simp) _).setCell (by simp) _

set_option maxHeartbeats 400000 in
theorem with_ok (u v : Int) (p q : Nat) (w : World) (hu1 : -9223372036854775808 ≤ u) (hu2 : u ≤ 9223372036854775807) (hpq : p ≤ q) (hq : q ≤ 18)
    (hsc : sc (q - p) u = some v) :
    Calls Ybaf.prog 12 #[.agg #[.int .i64 u, .int .u8 p], .int .i64 q] w fun e w' =>
      e = .returned (.tuple #[.agg #[.int .i64 v, .int .u8 q], .nilIface]) ∧ Below w.heap.size w w' := by
  go_enter Ybaf.func12, Ybaf.ntmps12
  go_wp2_with (first | (go_at_call 16; refine (places_any u p _ (by omega)).mono ?_; rintro e w' ⟨rfl, rfl⟩) | (go_at_call 17; refine (scaled_any u p q _ hu1 hu2 hpq hq).mono ?_; rintro e w' ⟨rfl, rfl⟩))
  refine bodyPost_ret (v := .tuple #[.agg #[.int .i64 v, .int .u8 q], .nilIface]) ?_ rfl ⟨rfl, ?_⟩
  · simp [results, Ybaf.results12, go_sem]
  · exact ((((((Below.refl _ _).alloc (Nat.le_refl _) _).alloc (by simp) _).alloc (by simp; omega) _).alloc (by simp; omega) _))

end Go.Proofs.YbulkuaFmt
