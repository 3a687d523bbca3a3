/-
  unask's closure, slices.DeleteFunc at nil and at an own row, unask.
-/
import Derived.Test.YbulkuoShelf
import Derived.Lib.SliceRun
import Derived.WalkKit
import Derived.LaidEqlPtr
import Derived.Deep.AppendLies
namespace Go.Proofs.Ybulkuo
open Go.Shelf Go.RowKit Go.Lib Go.Sort

/-- A peer as a value: none is nil, k is the k-th peer's pointer. -/
def enc (N : Nat) : Option (Fin 3) → Value
  | none => .pointer none
  | some k => .pointer (some ⟨N + k.val, 0, none⟩)

theorem enc_ptr (N : Nat) (x : Option (Fin 3)) : ∃ p, enc N x = .pointer p := by cases x <;> exact ⟨_, rfl⟩

theorem enc_one (N : Nat) : OneCell (enc N) := fun x => by cases x <;> rfl

def Peers (N : Nat) (w : World) : Prop := ∀ k, k < 3 → ∃ c t, w.heap[N + k]? = some (.cells c t (0, 0))

theorem Peers.lt {N : Nat} {w : World} (h : Peers N w) : N + 2 < w.heap.size := by
  obtain ⟨c, t, e⟩ := h 2 (by omega)
  exact (Array.getElem?_eq_some_iff.1 e).1

theorem Peers.of {N : Nat} {w w' : World} (h : Peers N w) (hb : ∀ k, k < 3 → w'.heap[N + k]? = w.heap[N + k]?) : Peers N w' := fun k hk => by
  obtain ⟨c, t, e⟩ := h k hk
  exact ⟨c, t, (hb k hk).trans e⟩

theorem info55 : ∃ j, Yba.prog.info? 55 = some j ∧ j.size ≠ 0 := by
  have h : (Yba.prog.info? 55).map (fun i => decide (i.size ≠ 0)) = some true := by kernel_rfl
  cases e : Yba.prog.info? 55 with
  | none => rw [e] at h; cases h
  | some j => rw [e] at h; exact ⟨j, rfl, by simpa using h⟩

theorem eq_nil_some (a : Addr) (w : World) : (binOp .eql 24 (.pointer none) (.pointer (some a))).run Yba.prog w = .ok (.bool false) w := by
  have h : ∀ d : Nat, (Op.equalIn (d + 1) 24 (.pointer none) (.pointer (some a))).run Yba.prog w = .ok false w := fun d => by
    simp [Op.equalIn, run_underlying Yba.underlying24]
  simp only [binOp]
  simp [Op.equal, Op.maxDepth, h 9999]

theorem eq_ptr (N : Nat) (x y : Option (Fin 3)) (w : World) (h : Peers N w) :
    (binOp .eql 24 (enc N x) (enc N y)).run Yba.prog w = .ok (.bool (x == y)) w := by
  obtain ⟨j0, hj0, hs0⟩ := info55
  cases x with
  | none =>
    cases y with
    | none => exact run_eql_pointer_nil w 24 none (by kernel_rfl)
    | some k => exact eq_nil_some _ w
  | some j =>
    cases y with
    | none => exact run_eql_pointer_nil w 24 _ (by kernel_rfl)
    | some k =>
      by_cases e : j = k
      · subst e
        rw [show ((some j : Option (Fin 3)) == some j) = true by simp]
        exact run_eql_ptr_same w _ Yba.underlying24 hj0
      · rw [show ((some j : Option (Fin 3)) == some k) = false by simpa using e]
        obtain ⟨c1, t1, e1⟩ := h j.val j.isLt
        obtain ⟨c2, t2, e2⟩ := h k.val k.isLt
        exact run_eql_ptr_other w Yba.underlying24 hj0 hs0 (fun hh => by simp only [Addr.mk.injEq] at hh; exact e (Fin.ext (by omega))) e1 e2

set_option maxRecDepth 1000000 in
theorem gives7 (N : Nat) (y x : Option (Fin 3)) (B : Nat) (W : World) (hP : Peers N W) (hc : W.cell? ⟨B, 0, none⟩ = some (enc N y)) :
    FnGives Yba.prog 7 #[.pointer (some ⟨B, 0, none⟩)] #[enc N x] (.bool (x == y)) W := by
  show Calls Yba.prog 7 #[enc N x, .pointer (some ⟨B, 0, none⟩)] W _
  have he := eq_ptr N x y W hP
  obtain ⟨px, hx⟩ := enc_ptr N x
  obtain ⟨py, hy⟩ := enc_ptr N y
  rw [hx, hy] at he
  rw [hy] at hc
  rw [hx]
  clear hP hx hy
  generalize (x == y) = r at he ⊢
  go_enter Yba.func7, Yba.ntmps7
  go_wp2
  go_ret
  exact ⟨rfl, 0, rfl⟩

theorem idx_nil (f : Value) (w : World) :
    Calls Yba.prog 8 #[.slice none 0 0, f] w fun e w' => e = .returned (.int .i64 (-1)) ∧ ∃ q, w' = w.drewN q := by
  go_enter Yba.func8, Yba.ntmps8
  go_wp2_with fail
  go_loopg [8] 0 (fun gg s8 wr => s8 = .int .i64 0 ∧ wr = w)
  case atStart => exact ⟨rfl, rfl⟩
  case round =>
    obtain ⟨rfl, rfl⟩ := hrel
    go_wp2
    go_ret
    exact ⟨rfl, 0, rfl⟩

theorem del_nil (f : Value) (w : World) :
    Calls Yba.prog 6 #[.slice none 0 0, f] w fun e w' => e = .returned (.slice none 0 0) ∧ ∃ q, w' = w.drewN q := by
  go_enter Yba.func6, Yba.ntmps6
  go_wp2_with fail
  refine (idx_nil f _).mono ?_
  rintro e w1 ⟨rfl, q, rfl⟩
  go_wp2
  go_ret
  exact ⟨rfl, q, rfl⟩

/-- DeleteFunc at an own row. -/
theorem del_own (N B g cap : Nat) (d : Array (Option (Fin 3))) (y : Option (Fin 3)) (w : World) (hP : Peers N w) (hB : B < w.heap.size) (hne : B ≠ g) (hg : ∀ k, k < 3 → N + k ≠ g)
    (hc : w.cell? ⟨B, 0, none⟩ = some (enc N y)) (hH : Holds (enc N) w g 0 d) (hsz : d.size ≤ 9223372036854775807) (hcap : d.size ≤ cap) :
    Calls Yba.prog 6 #[.slice (some ⟨g, 0, none⟩) d.size cap, .func (.func 7) #[] #[.pointer (some ⟨B, 0, none⟩)]] w fun e w' => e = .returned (.slice (some ⟨g, 0, none⟩) (d.toList.filter fun x => !(x == y)).length cap) ∧
      ∃ q, w' = putRow (enc N) (Sort.ahead w q) g 0 ((d.toList.filter fun x => !(x == y)) ++ List.replicate (d.size - (d.toList.filter fun x => !(x == y)).length) none).toArray := by
  have eg : ∀ args w, (callFunc 7 args).run Yba.prog w = .ok (.enter 7 args) w := enters_of Yba.func7 (by kernel_rfl) rfl
  have hcon := AnyE.slices_DeleteFunc Yba.l6 (enc N) (enc_one N) (fun x => x == y) 7 #[.pointer (some ⟨B, 0, none⟩)] eg none Yba.zeroValue24 g 0 cap d w
    (fun W x hb => gives7 N y x B W (hP.of fun k hk => hb.block _ (by have := hP.lt; omega)) ((hb.cell (p := ⟨B, 0, none⟩) hB).trans hc))
    (fun n os dk x _ => gives7 N y x B _ (hP.of fun k hk => by
      have hlt := hP.lt
      unfold sortWorld
      rw [heap_grow_old _ _ (by rw [size_putRow]; show N + k < w.heap.size; omega)]
      show (w.heap.modify g _)[N + k]? = _
      rw [Array.getElem?_modify, if_neg (fun e => hg k hk e.symm)]) (by
      unfold sortWorld
      rw [cell?_grow _ _ _ (by show B < (putRow _ _ _ _ _).heap.size; rw [size_putRow]; exact hB), cell?_putRow_other _ _ g 0 _ _ (Or.inl hne)]
      exact hc)) hH hsz hcap
  exact hcon

/-- w' is w but for the blocks of S, and for new ones. -/
structure Chg (S : Nat → Prop) (w w' : World) : Prop where
  os : w'.os = w.os
  tape : w'.tape = w.tape
  output : w'.output = w.output
  size : w.heap.size ≤ w'.heap.size
  block : ∀ k, k < w.heap.size → ¬ S k → w'.heap[k]? = w.heap[k]?

theorem Chg.refl (S : Nat → Prop) (w : World) : Chg S w w := ⟨rfl, rfl, rfl, Nat.le_refl _, fun _ _ _ => rfl⟩
theorem Chg.trans {S : Nat → Prop} {a b c : World} (h : Chg S a b) (k : Chg S b c) : Chg S a c :=
  ⟨k.os.trans h.os, k.tape.trans h.tape, k.output.trans h.output, Nat.le_trans h.size k.size, fun i hi hs => (k.block i (Nat.lt_of_lt_of_le hi h.size) hs).trans (h.block i hi hs)⟩
theorem Chg.mono {S T : Nat → Prop} {a b : World} (h : Chg S a b) (hs : ∀ k, k < a.heap.size → S k → T k) : Chg T a b :=
  ⟨h.os, h.tape, h.output, h.size, fun i hi ht => h.block i hi (fun e => ht (hs i hi e))⟩
theorem Chg.alloc (S : Nat → Prop) (w : World) (o : Obj) : Chg S w (w.alloc o) := ⟨rfl, rfl, rfl, by simp, fun k hk _ => Below.heap_alloc w o k hk⟩
theorem Chg.drewN (S : Nat → Prop) (w : World) (q : Nat) : Chg S w (w.drewN q) := ⟨rfl, rfl, rfl, Nat.le_refl _, fun _ _ _ => rfl⟩
theorem Chg.drew (S : Nat → Prop) (w : World) : Chg S w w.drew := ⟨rfl, rfl, rfl, Nat.le_refl _, fun _ _ _ => rfl⟩
theorem Chg.setCell {S : Nat → Prop} (w : World) (a : Addr) (v : Value) (h : S a.block) : Chg S w (w.setCell a v) :=
  ⟨rfl, rfl, rfl, by simp [World.setCell], fun k hk hs => heap_setCell_other w a k v (fun e => hs (e ▸ h))⟩
theorem Chg.grown {S : Nat → Prop} {w w' : World} {r : Option Nat} (h : w.grownBy w' r) (hs : ∀ k, r = some k → S k) : Chg S w w' :=
  ⟨h.os, h.tape, h.output, h.size, fun k hk hn => h.block k hk (fun e => hn (hs k e.symm))⟩
theorem Chg.putRow {S : Nat → Prop} (N : Nat) (w : World) (g : Nat) (d : Array (Option (Fin 3))) (h : S g) : Chg S w (putRow (enc N) w g 0 d) :=
  ⟨rfl, rfl, rfl, by simp, fun k hk hs => by
    show (w.heap.modify g _)[k]? = _
    rw [Array.getElem?_modify, if_neg (fun e : g = k => hs (e ▸ h))]⟩
theorem Chg.cell {S : Nat → Prop} {w w' : World} (h : Chg S w w') {a : Addr} (hl : a.block < w.heap.size) (hs : ¬ S a.block) : w'.cell? a = w.cell? a := World.cell?_of_block (h.block _ hl hs)
theorem Chg.frozen {S : Nat → Prop} {w w' : World} (h : Chg S w w') {a : Addr} (hl : a.block < w.heap.size) (hs : ¬ S a.block) : w'.frozen? a = w.frozen? a := World.frozen?_of_block (h.block _ hl hs)

/-- The row as an array holds what the slice owns. -/
theorem holds_of_owns {N base g cap n : Nat} {d : List (Option (Fin 3))} {w : World} (h : w.ownsRow base 24 1 (.slice (some ⟨g, 0, none⟩) n cap) d.length (d.map (enc N))) :
    n = d.length ∧ d.length ≤ cap ∧ Holds (enc N) w g 0 d.toArray := by
  rcases h.2 with ⟨e, _⟩ | ⟨g', cap', cur, e, hb, hg, hn, hm, hs, ht⟩
  · cases e
  · cases e
    refine ⟨rfl, hn, fun j hj => ?_⟩
    have hj' : j < d.length := by simpa using hj
    constructor
    · have h1 : (cur.toList.take (d.length * 1))[j]? = (d.map (enc N))[j]? := by rw [ht]
      rw [List.getElem?_take_of_lt (by omega)] at h1
      simp only [World.cell?, hg, Nat.zero_add]
      simp at h1 ⊢
      rw [h1]
      simp [hj']
    · simp [World.frozen?, hg]

/-- What the slice owns behind DeleteFunc. -/
theorem owns_put {N base g cap m : Nat} {d r : List (Option (Fin 3))} {w : World} (h : w.ownsRow base 24 1 (.slice (some ⟨g, 0, none⟩) d.length cap) d.length (d.map (enc N)))
    (hm : m = r.length) (hr : r.length ≤ d.length) :
    (putRow (enc N) w g 0 (r ++ List.replicate (d.length - r.length) none).toArray).ownsRow base 24 1 (.slice (some ⟨g, 0, none⟩) m cap) r.length (r.map (enc N)) := by
  subst hm
  rcases h.2 with ⟨e, _⟩ | ⟨g', cap', cur, e, hb, hg, hn, hmx, hs, ht⟩
  · cases e
  · cases e
    refine ⟨by simp, .inr ⟨g, cap, putCells (enc N) 0 (r ++ List.replicate (d.length - r.length) none).toArray cur, rfl, hb, ?_, by omega, hmx, ?_, ?_⟩⟩
    · show (w.heap.modify g _)[g]? = _
      rw [Array.getElem?_modify, if_pos rfl, hg]
      rfl
    · simp [putCells]; omega
    · apply List.ext_getElem?
      intro j
      by_cases hj : j < r.length
      · rw [List.getElem?_take_of_lt (by omega)]
        have hjc : j < cur.size := by omega
        simp only [putCells, Array.getElem?_toList, Array.getElem?_mapIdx]
        rw [Array.getElem?_eq_getElem hjc]
        simp [hj]
        rw [if_pos (by omega)]
        rw [List.getElem?_append_left hj, List.getElem?_eq_getElem hj]
        rfl
      · rw [List.getElem?_eq_none (by simp; omega), List.getElem?_eq_none (by simp; omega)]

theorem filter_len (y : Option (Fin 3)) (d : List (Option (Fin 3))) : (d.filter fun x => !(x == y)).length ≤ d.length := List.length_filter_le _ _

/-- unask, of whatever row: the peer is out; nothing else has turned but the asked cell and the row's own block. -/
theorem unask (N base bb bo : Nat) (v : Value) (d : List (Option (Fin 3))) (y : Option (Fin 3)) (w : World) (hP : Peers N w) (hbase : N + 3 ≤ base) (hlt : bb < w.heap.size)
    (hc : w.cell? ⟨bb, bo + 1, none⟩ = some v) (hf : w.frozen? ⟨bb, bo + 1, none⟩ = false) (hown : w.ownsRow base 24 1 v d.length (d.map (enc N))) (hne : v.ownBlock ≠ some bb) (hlen : d.length ≤ 9223372036854775807) :
    Calls Yba.prog 5 #[.pointer (some ⟨bb, bo, none⟩), enc N y] w fun e w' => e = .returned noResult ∧ ∃ v', v'.ownBlock = v.ownBlock ∧ w'.cell? ⟨bb, bo + 1, none⟩ = some v' ∧
      (∀ o, o ≠ bo + 1 → w'.cell? ⟨bb, o, none⟩ = w.cell? ⟨bb, o, none⟩) ∧ (∀ o, w'.frozen? ⟨bb, o, none⟩ = w.frozen? ⟨bb, o, none⟩) ∧
      w'.ownsRow base 24 1 v' (d.filter fun x => !(x == y)).length ((d.filter fun x => !(x == y)).map (enc N)) ∧ Chg (fun k => k = bb ∨ v.ownBlock = some k) w w' := by
  have hdel : Calls Yba.prog 6 #[v, .func (.func 7) #[] #[.pointer (some ⟨w.heap.size, 0, none⟩)]] (w.alloc (.cells #[enc N y] 24)) fun e w' => ∃ v', e = .returned v' ∧ v'.ownBlock = v.ownBlock ∧ (∃ x y z, v' = .slice x y z) ∧
      w'.ownsRow base 24 1 v' (d.filter fun x => !(x == y)).length ((d.filter fun x => !(x == y)).map (enc N)) ∧ Chg (fun k => v.ownBlock = some k) w w' := by
    have hPa : Peers N (w.alloc (.cells #[enc N y] 24)) := hP.of fun k hk => Below.heap_alloc _ _ _ (by have := hP.lt; omega)
    have hoa := hown.alloc (.cells #[enc N y] 24)
    rcases hown.2 with ⟨rfl, hz⟩ | ⟨g, cap, cur, rfl, hb, hg, _⟩
    · obtain rfl : d = [] := List.eq_nil_of_length_eq_zero hz
      refine (del_nil _ _).mono ?_
      rintro e w1 ⟨rfl, q, rfl⟩
      exact ⟨_, rfl, rfl, ⟨_, _, _, rfl⟩, World.ownsRow_nil _ _ _ _, (Chg.alloc _ _ _).trans (Chg.drewN _ _ _)⟩
    · have hgl : g < w.heap.size := (Array.getElem?_eq_some_iff.1 hg).1
      obtain ⟨_, h2, h3⟩ := holds_of_owns hoa
      have := del_own N w.heap.size g cap d.toArray y _ hPa (by simp) (by omega) (fun k hk => by omega) (by simp) h3 (by simpa using hlen) (by simpa using h2)
      simp only [List.size_toArray] at this
      refine this.mono ?_
      rintro e w1 ⟨rfl, q, rfl⟩
      refine ⟨_, rfl, rfl, ⟨_, _, _, rfl⟩, ?_, ?_⟩
      · exact owns_put (w := Sort.ahead (w.alloc (.cells #[enc N y] 24)) q) hoa rfl (filter_len y d)
      · exact (Chg.alloc _ _ _).trans ((Chg.drewN _ _ q).trans (Chg.putRow _ _ _ _ rfl))
  obtain ⟨py, hy⟩ := enc_ptr N y
  rw [hy] at hdel ⊢
  clear hP hown hy
  go_enter Yba.func5, Yba.ntmps5
  go_wp2_with fail
  refine hdel.mono ?_
  rintro e w1 ⟨v', rfl, hv', ⟨x1, x2, x3, rfl⟩, hown', hchg⟩
  have hc1 : w1.cell? ⟨bb, bo + 1, none⟩ = some v := (hchg.cell (a := ⟨bb, bo + 1, none⟩) hlt hne).trans hc
  have hf1 : w1.frozen? ⟨bb, bo + 1, none⟩ = false := (hchg.frozen (a := ⟨bb, bo + 1, none⟩) hlt hne).trans hf
  have HO : Hid _ := hown'
  have HC : Hid _ := hchg
  clear hown' hchg hdel hc hf
  go_wp2
  refine bodyPost_end (results_none rfl _ _ _) rfl ?_
  have hown' : w1.ownsRow base 24 1 (.slice x1 x2 x3) (d.filter fun x => !(x == y)).length ((d.filter fun x => !(x == y)).map (enc N)) := HO.out
  have hbb : bb < w1.heap.size := Nat.lt_of_lt_of_le hlt HC.out.size
  refine ⟨rfl, _, hv', World.cell?_setCell_same _ _ _ hc1, fun o ho => ?_, fun o => ?_, ?_, ?_⟩
  · rw [World.cell?_setCell_other _ _ _ _ (fun e => ho (by injection e with _ e2; exact e2.symm))]
    exact HC.out.cell (a := ⟨bb, o, none⟩) hlt hne
  · rw [World.frozen?_setCell]
    exact HC.out.frozen (a := ⟨bb, o, none⟩) hlt hne
  · refine hown'.kept (row := some bb) ⟨rfl, rfl, rfl, by simp [World.setCell], fun k hk hs => heap_setCell_other _ _ _ _ (by simpa using hs)⟩ (.inr (by rw [hv']; exact hne))
  · exact (HC.out.mono (fun _ _ h => .inr h)).trans (Chg.setCell _ _ _ (.inl rfl))

end Go.Proofs.Ybulkuo
