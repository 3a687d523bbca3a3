/-
  The session's memory as one predicate, and what keeps it.
-/
import Derived.Test.YbulkuoCalls
import Derived.MapKept
namespace Go.Proofs.Ybulkuo
open Go.Shelf Go.RowKit Go.Lib Go.Sort

def mapObj (N : Nat) : Obj := .map #[{ key := .int .i64 0, val := .pointer (some ⟨N + 7, 0, none⟩), born := 0 }, { key := .int .i64 1, val := .pointer (some ⟨N + 9, 0, none⟩), born := 1 }] 2

/-- The session: three peers, two pieces, n blocks; block i is asked of L i, which the slice V i owns. -/
structure St (N n : Nat) (w : World) (o : Value) (V : Nat → Value) (L : Nat → List (Option (Fin 3))) : Prop where
  size : N + 10 ≤ w.heap.size
  peers : Peers N w
  pcell : ∀ k : Fin 3, w.cell? ⟨N + 3, k.val, none⟩ = some (enc N (some k))
  mp : w.heap[N + 4]? = some (mapObj N)
  sess : w.cell? ⟨N + 5, 24, none⟩ = some (.map (some (N + 4)))
  ap : ∀ r, r < 2 → w.cell? ⟨N + 7 + 2 * r, 3, none⟩ = some (.slice (some ⟨N + 6 + 2 * r, 0, none⟩) ((n + 1 - r) / 2) ((n + 1 - r) / 2))
  opn : w.cell? ⟨N, 63, none⟩ = some o
  opf : w.frozen? ⟨N, 63, none⟩ = false
  ask : ∀ i, i < n → w.cell? ⟨N + 6 + 2 * (i % 2), i / 2 * 2 + 1, none⟩ = some (V i)
  askf : ∀ i, i < n → w.frozen? ⟨N + 6 + 2 * (i % 2), i / 2 * 2 + 1, none⟩ = false
  own : ∀ i, i < n → w.ownsRow (N + 10) 24 1 (V i) (L i).length ((L i).map (enc N))
  apart : ∀ i j, i < n → j < n → i ≠ j → ∀ g, (V i).ownBlock = some g → (V j).ownBlock ≠ some g

theorem look (N r : Nat) (w : World) (hr : r < 2) (h : w.heap[N + 4]? = some (mapObj N)) :
    (Instr.lookup 57 (.map (some (N + 4))) (.int .i64 (r : Int)) false).run Yba.prog w = .ok (.pointer (some ⟨N + 7 + 2 * r, 0, none⟩)) w := by
  have hck : ∀ e, (Instr.checkKey e 10000 3 (.int .i64 (r : Int))).run Yba.prog w = .ok () w := fun e => MapKept.run_checkKey Yba.underlying3 (by simp [MapKept.IsKey]) e 9999
  have hgo := MapKept.run_getObj_map (P := Yba.prog) (show w.heap[N + 4]? = some (.map _ _) from h)
  have hr2 : r = 0 ∨ r = 1 := by omega
  rcases hr2 with rfl | rfl
  · have hfk : (Instr.findKey 3 (.int .i64 ((0 : Nat) : Int)) [{ key := .int .i64 0, val := .pointer (some ⟨N + 7, 0, none⟩), born := 0 }, { key := .int .i64 1, val := .pointer (some ⟨N + 9, 0, none⟩), born := 1 }]).run Yba.prog w = .ok (some (0, .pointer (some ⟨N + 7, 0, none⟩))) w :=
      MapKept.run_findKey Yba.underlying3 (by simp [Instr.findNow, Instr.sameNow])
    simp at hck hfk; simp [Instr.lookup, run_underlying Yba.underlying57, hgo, hck, hfk]
  · have hfk : (Instr.findKey 3 (.int .i64 ((1 : Nat) : Int)) [{ key := .int .i64 0, val := .pointer (some ⟨N + 7, 0, none⟩), born := 0 }, { key := .int .i64 1, val := .pointer (some ⟨N + 9, 0, none⟩), born := 1 }]).run Yba.prog w = .ok (some (1, .pointer (some ⟨N + 9, 0, none⟩))) w :=
      MapKept.run_findKey Yba.underlying3 (by simp [Instr.findNow, Instr.sameNow])
    simp at hck hfk; simp [Instr.lookup, run_underlying Yba.underlying57, hgo, hck, hfk]

/-- The peers taken out. -/
def out (l : List (Option (Fin 3))) : List (Option (Fin 3)) := l.filter fun x => !(x == some 0)

theorem out_out (l : List (Option (Fin 3))) : out (out l) = out l := by simp [out, List.filter_filter]

/-- Blocks of the session that are never written behind the set-up, but N's. -/
theorem St.far {N n : Nat} {w : World} {o : Value} {V : Nat → Value} {L : Nat → List (Option (Fin 3))} (h : St N n w o V L) {w' : World} {S : Nat → Prop} (hc : Chg S w w')
    (hS : ∀ k, k < N + 10 → ¬ S k) (hV : ∀ i, i < n → ∀ g, (V i).ownBlock = some g → ¬ S g) : St N n w' o V L := by
  have hsz := h.size
  have cel : ∀ (b x : Nat), b < N + 10 → w'.cell? ⟨b, x, none⟩ = w.cell? ⟨b, x, none⟩ := fun b x hb => hc.cell (a := ⟨b, x, none⟩) (by show b < _; omega) (hS b hb)
  have fro : ∀ (b x : Nat), b < N + 10 → w'.frozen? ⟨b, x, none⟩ = w.frozen? ⟨b, x, none⟩ := fun b x hb => hc.frozen (a := ⟨b, x, none⟩) (by show b < _; omega) (hS b hb)
  refine ⟨Nat.le_trans hsz hc.size, h.peers.of fun k hk => hc.block _ (by omega) (hS _ (by omega)), fun k => (cel _ _ (by omega)).trans (h.pcell k), (hc.block _ (by omega) (hS _ (by omega))).trans h.mp, (cel _ _ (by omega)).trans h.sess, fun r hr => (cel _ _ (by omega)).trans (h.ap r hr), (cel _ _ (by omega)).trans h.opn, (fro _ _ (by omega)).trans h.opf, fun i hi => (cel _ _ (by omega)).trans (h.ask i hi), fun i hi => (fro _ _ (by omega)).trans (h.askf i hi), fun i hi => ?_, h.apart⟩
  have hown := h.own i hi
  refine ⟨hown.1, ?_⟩
  rcases hown.2 with h0 | ⟨g, cap, cur, e, hb, hg, rest⟩
  · exact .inl h0
  · refine .inr ⟨g, cap, cur, e, hb, ?_, rest⟩
    rw [hc.block g (Array.getElem?_eq_some_iff.1 hg).1 (hV i hi g (by rw [e]; rfl))]
    exact hg

/-- One asked list turned: its cell, its own block, and new blocks. -/
theorem St.turn {N n : Nat} {w : World} {o : Value} {V : Nat → Value} {L : Nat → List (Option (Fin 3))} (h : St N n w o V L) {w' : World} {i : Nat} (hi : i < n) {v' : Value} {l' : List (Option (Fin 3))}
    (hvb : ∀ g, v'.ownBlock = some g → (V i).ownBlock = some g ∨ w.heap.size ≤ g)
    (hc1 : w'.cell? ⟨N + 6 + 2 * (i % 2), i / 2 * 2 + 1, none⟩ = some v')
    (hco : ∀ x, x ≠ i / 2 * 2 + 1 → w'.cell? ⟨N + 6 + 2 * (i % 2), x, none⟩ = w.cell? ⟨N + 6 + 2 * (i % 2), x, none⟩)
    (hfr : ∀ x, w'.frozen? ⟨N + 6 + 2 * (i % 2), x, none⟩ = w.frozen? ⟨N + 6 + 2 * (i % 2), x, none⟩)
    (hown : w'.ownsRow (N + 10) 24 1 v' l'.length (l'.map (enc N)))
    (hchg : Chg (fun k => k = N + 6 + 2 * (i % 2) ∨ (V i).ownBlock = some k) w w') :
    St N n w' o (fun j => if j = i then v' else V j) (fun j => if j = i then l' else L j) := by
  have hsz := h.size
  have hV : ∀ j, j < n → ∀ g, (V j).ownBlock = some g → N + 10 ≤ g ∧ g < w.heap.size := fun j hj g hg => (h.own j hj).lt g hg
  have nS : ∀ k, k < N + 10 → k ≠ N + 6 + 2 * (i % 2) → ¬ (k = N + 6 + 2 * (i % 2) ∨ (V i).ownBlock = some k) := fun k hk hne e => by
    rcases e with e | e
    · exact hne e
    · have := hV i hi k e; omega
  have cel : ∀ (b x : Nat), b < N + 10 → b ≠ N + 6 + 2 * (i % 2) → w'.cell? ⟨b, x, none⟩ = w.cell? ⟨b, x, none⟩ := fun b x hb hne => hchg.cell (a := ⟨b, x, none⟩) (by show b < _; omega) (nS b hb hne)
  have fro : ∀ (b x : Nat), b < N + 10 → b ≠ N + 6 + 2 * (i % 2) → w'.frozen? ⟨b, x, none⟩ = w.frozen? ⟨b, x, none⟩ := fun b x hb hne => hchg.frozen (a := ⟨b, x, none⟩) (by show b < _; omega) (nS b hb hne)
  refine ⟨Nat.le_trans hsz hchg.size, h.peers.of fun k hk => hchg.block _ (by omega) (nS _ (by omega) (by omega)), fun k => (cel _ _ (by omega) (by omega)).trans (h.pcell k), (hchg.block _ (by omega) (nS _ (by omega) (by omega))).trans h.mp, (cel _ _ (by omega) (by omega)).trans h.sess, fun r hr => (cel _ _ (by omega) (by omega)).trans (h.ap r hr), (cel _ _ (by omega) (by omega)).trans h.opn, (fro _ _ (by omega) (by omega)).trans h.opf, fun j hj => ?_, fun j hj => ?_, fun j hj => ?_, fun j k hj hk hne g hg => ?_⟩
  · by_cases e : j = i
    · subst e; rw [if_pos rfl]; exact hc1
    · rw [if_neg e, ← h.ask j hj]
      by_cases e2 : j % 2 = i % 2
      · rw [e2]; exact hco _ (by omega)
      · exact cel _ _ (by omega) (by omega)
  · rw [← h.askf j hj]
    by_cases e2 : j % 2 = i % 2
    · rw [e2]; exact hfr _
    · exact fro _ _ (by omega) (by omega)
  · by_cases e : j = i
    · subst e; simp only [if_true]; exact hown
    · simp only [if_neg e]
      have ho := h.own j hj
      refine ⟨ho.1, ?_⟩
      rcases ho.2 with h0 | ⟨g, cap, cur, e1, hb, hg, rest⟩
      · exact .inl h0
      · refine .inr ⟨g, cap, cur, e1, hb, ?_, rest⟩
        have hgl := (Array.getElem?_eq_some_iff.1 hg).1
        have hob : (V j).ownBlock = some g := by rw [e1]; rfl
        rw [hchg.block g hgl (fun e2 => by
          rcases e2 with e2 | e2
          · omega
          · exact h.apart i j hi hj (fun x => e x.symm) g e2 hob)]
        exact hg
  · by_cases e : j = i
    · subst e
      simp only [if_true] at hg
      rw [if_neg (fun x => hne x.symm)]
      rcases hvb g hg with h1 | h1
      · exact h.apart j k hj hk hne g h1
      · intro h2; have := hV k hk g h2; omega
    · simp only [if_neg e] at hg
      by_cases e2 : k = i
      · subst e2
        simp only [if_true]
        intro h2
        rcases hvb g h2 with h1 | h1
        · exact h.apart j k hj hk hne g hg h1
        · have := hV j hj g hg; omega
      · simp only [if_neg e2]; exact h.apart j k hj hk hne g hg

end Go.Proofs.Ybulkuo
