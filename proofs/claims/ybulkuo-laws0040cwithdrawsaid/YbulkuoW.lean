/-
  withdrawAllLocked.
-/
import Derived.Test.YbulkuoSt
import Derived.Deep.RegionHeld3
import Derived.Tactics2
import Derived.WalkSpells
import Derived.StillTactics
namespace Go.Proofs.Ybulkuo
open Go.Shelf Go.RowKit Go.Lib Go.Sort

/-- The blocks that withdrawAllLocked may write. -/
def Own (N n : Nat) (V : Nat → Value) (k : Nat) : Prop := k = N ∨ k = N + 6 ∨ k = N + 8 ∨ ∃ i, i < n ∧ (V i).ownBlock = some k

/-- The lists behind t rounds. -/
def Lt (ks : List Nat) (L : Nat → List (Option (Fin 3))) (t i : Nat) : List (Option (Fin 3)) := if i ∈ ks.take t then out (L i) else L i

theorem Lt_zero (ks : List Nat) (L : Nat → List (Option (Fin 3))) : Lt ks L 0 = L := by funext i; simp [Lt]

theorem Lt_succ (ks : List Nat) (L : Nat → List (Option (Fin 3))) (t k : Nat) (hk : ks[t]? = some k) : Lt ks L (t + 1) = fun j => if j = k then out (Lt ks L t k) else Lt ks L t j := by
  funext j
  have : ks.take (t + 1) = ks.take t ++ [k] := by rw [List.take_add_one, hk]; rfl
  unfold Lt
  rw [this]
  by_cases e : j = k
  · subst e
    simp
    split
    · rw [out_out]
    · rfl
  · simp [e]

/-- p.open stored. -/
theorem St.opened {N n : Nat} {w : World} {o : Value} {V : Nat → Value} {L : Nat → List (Option (Fin 3))} (h : St N n w o V L) (o' : Value) : St N n (w.setCell ⟨N, 63, none⟩ o') o' V L := by
  have hsz := h.size
  have cel : ∀ (b x : Nat), b ≠ N → (w.setCell ⟨N, 63, none⟩ o').cell? ⟨b, x, none⟩ = w.cell? ⟨b, x, none⟩ := fun b x hb => World.cell?_setCell_other _ _ _ _ (fun e => hb (by injection e with e1 _; exact e1.symm))
  have blk : ∀ b, b ≠ N → (w.setCell ⟨N, 63, none⟩ o').heap[b]? = w.heap[b]? := fun b hb => heap_setCell_other _ _ _ _ hb
  refine ⟨by simpa [World.setCell] using hsz, fun k hk => ?_, fun k => (cel _ _ (by omega)).trans (h.pcell k), (blk _ (by omega)).trans h.mp, (cel _ _ (by omega)).trans h.sess, fun r hr => (cel _ _ (by omega)).trans (h.ap r hr), World.cell?_setCell_same _ _ _ h.opn, by rw [World.frozen?_setCell]; exact h.opf, fun i hi => (cel _ _ (by omega)).trans (h.ask i hi), fun i hi => by rw [World.frozen?_setCell]; exact h.askf i hi, fun i hi => ?_, h.apart⟩
  · obtain ⟨c, t, e⟩ := h.peers k hk
    by_cases e0 : N + k = N
    · rw [e0] at e ⊢
      exact ⟨_, t, Go.heap_setCell_same w N 63 c t o' e⟩
    · exact ⟨c, t, (blk _ e0).trans e⟩
  · exact (h.own i hi).kept (row := some N) ⟨rfl, rfl, rfl, by simp [World.setCell], fun k hk hs => heap_setCell_other _ _ _ _ (by simpa using hs)⟩ (.inr (fun e => by have := (h.own i hi).lt _ e; omega))

/-- What unask leaves. -/
def Unasked (N base bb bo : Nat) (v : Value) (d : List (Option (Fin 3))) (y : Option (Fin 3)) (w : World) (e : Ending) (w' : World) : Prop :=
  e = .returned noResult ∧ ∃ v', v'.ownBlock = v.ownBlock ∧ w'.cell? ⟨bb, bo + 1, none⟩ = some v' ∧
      (∀ o, o ≠ bo + 1 → w'.cell? ⟨bb, o, none⟩ = w.cell? ⟨bb, o, none⟩) ∧ (∀ o, w'.frozen? ⟨bb, o, none⟩ = w.frozen? ⟨bb, o, none⟩) ∧
      w'.ownsRow base 24 1 v' (d.filter fun x => !(x == y)).length ((d.filter fun x => !(x == y)).map (enc N)) ∧ Chg (fun k => k = bb ∨ v.ownBlock = some k) w w'

/-- What the round's reads want of the world. -/
def Reads (N B r h m : Nat) (w' : World) : Prop := w'.cell? ⟨N + 5, 24, none⟩ = some (.map (some (N + 4))) ∧ w'.cell? ⟨B, 0, none⟩ = some (.int .i64 (r : Int)) ∧ w'.cell? ⟨B, 1, none⟩ = some (.int .i64 (h : Int)) ∧
          w'.cell? ⟨N + 7 + 2 * r, 3, none⟩ = some (.slice (some ⟨N + 6 + 2 * r, 0, none⟩) m m) ∧
          (Instr.lookup 57 (.map (some (N + 4))) (.int .i64 (r : Int)) false).run Yba.prog w' = .ok (.pointer (some ⟨N + 7 + 2 * r, 0, none⟩)) w'

set_option maxRecDepth 1000000 in
set_option maxHeartbeats 4000000 in
/-- One round's call. -/
theorem withdraw (N n ob ocap : Nat) (ks : List Nat) (V : Nat → Value) (L : Nat → List (Option (Fin 3))) (w : World)
    (hS : St N n w (.slice (some ⟨ob, 0, none⟩) ks.length ocap) V L)
    (hk : ∀ t, t < ks.length → ∃ k, ks[t]? = some k ∧ k < n ∧ w.cell? ⟨ob, t * 2, none⟩ = some (.int .i64 ((k % 2 : Nat) : Int)) ∧ w.cell? ⟨ob, t * 2 + 1, none⟩ = some (.int .i64 ((k / 2 : Nat) : Int)))
    (hob : N + 10 ≤ ob) (hobl : ob < w.heap.size) (hoa : ∀ i, i < n → (V i).ownBlock ≠ some ob) (hlen : ks.length ≤ 512) (hL : ∀ i, i < n → (L i).length ≤ 512) (hn : n ≤ 512) :
    Calls Yba.prog 4 #[.pointer (some ⟨N + 5, 0, none⟩), .pointer (some ⟨N, 0, none⟩)] w fun e w' => e = .returned noResult ∧
      ∃ V', St N n w' (.slice none 0 0) V' (Lt ks L ks.length) ∧ (∀ i, i < n → (V' i).ownBlock = (V i).ownBlock) ∧ Chg (Own N n V) w w' := by
  have HS : Hid (St N n w (.slice (some ⟨ob, 0, none⟩) ks.length ocap) V L) := hS
  have HK : Hid _ := hk
  have HA : Hid _ := hoa
  have HL : Hid _ := hL
  have c0 := hS.opn
  clear hS hk hoa hL
  go_enter Yba.func4, Yba.ntmps4
  go_wp2_with fail
  go_loopg [11] ks.length (fun gg s11 wr => ∃ (t : Nat) (V' : Nat → Value), s11 = .int .i64 (t : Int) ∧ t ≤ ks.length ∧ ks.length - t ≤ gg ∧ Hid (St N n wr (.slice (some ⟨ob, 0, none⟩) ks.length ocap) V' (Lt ks L t)) ∧ Hid (∀ i, i < n → (V' i).ownBlock = (V i).ownBlock) ∧ Hid (Chg (Own N n V) w wr))
  case atStart => exact ⟨0, V, rfl, by omega, by omega, (show St N n w _ V (Lt ks L 0) by rw [Lt_zero]; exact HS.out), fun _ _ => rfl, Chg.refl _ _⟩
  case round =>
    obtain ⟨t, V', rfl, ht, hgg, I1, I2, I3⟩ := hrel
    by_cases hlt : t < ks.length
    · have hltz : (t : Int) < (ks.length : Int) := by omega
      have htz : (0 : Int) ≤ (t : Int) := Int.natCast_nonneg _
      obtain ⟨k, hkt, hkn, ck0, ck1⟩ := HK.out t hlt
      have hnS : ¬ Own N n V ob := fun e => by
        rcases e with e | e | e | ⟨i, hi, e⟩
        · omega
        · omega
        · omega
        · exact HA.out i hi e
      have cr0 : wr.cell? ⟨ob, t * 2, none⟩ = some (.int .i64 ((k % 2 : Nat) : Int)) := (I3.out.cell (a := ⟨ob, t * 2, none⟩) hobl hnS).trans ck0
      have cr1 : wr.cell? ⟨ob, t * 2 + 1, none⟩ = some (.int .i64 ((k / 2 : Nat) : Int)) := (I3.out.cell (a := ⟨ob, t * 2 + 1, none⟩) hobl hnS).trans ck1
      have hobr : ob < wr.heap.size := Nat.lt_of_lt_of_le hobl I3.out.size
      have KK : Hid (ks[t]? = some k) := hkt
      have K0 : Hid _ := hnS
      clear ck0 ck1 hkt hnS
      have hsz := I1.out.size
      have hr2 : k % 2 < 2 := Nat.mod_lt _ (by omega)
      have hidx : k / 2 < (n + 1 - k % 2) / 2 := by omega
      obtain ⟨r, hr⟩ : ∃ r, r = k % 2 := ⟨_, rfl⟩
      obtain ⟨h, hh⟩ : ∃ h, h = k / 2 := ⟨_, rfl⟩
      obtain ⟨m, hm⟩ : ∃ m, m = (n + 1 - k % 2) / 2 := ⟨_, rfl⟩
      rw [← hr] at cr0 hr2
      rw [← hh] at cr1 hidx
      rw [← hm] at hidx
      have RH : Hid (r = k % 2 ∧ h = k / 2 ∧ m = (n + 1 - k % 2) / 2) := ⟨hr, hh, hm⟩
      have hSa : St N n (wr.alloc (.cells #[.int .i64 (r : Int), .int .i64 (h : Int)] 94)) (.slice (some ⟨ob, 0, none⟩) ks.length ocap) V' (Lt ks L t) :=
        I1.out.far (Chg.alloc (fun _ => False) _ _) (fun _ _ => id) (fun _ _ _ _ => id)
      have HC1 : Hid (Chg (fun _ => False) wr (wr.alloc (.cells #[.int .i64 (r : Int), .int .i64 (h : Int)] 94))) := Chg.alloc _ _ _
      have e6 : (wr.alloc (.cells #[.int .i64 (r : Int), .int .i64 (h : Int)] 94)).cell? ⟨wr.heap.size, 0, none⟩ = some (.int .i64 (r : Int)) := by simp
      have e7 : (wr.alloc (.cells #[.int .i64 (r : Int), .int .i64 (h : Int)] 94)).cell? ⟨wr.heap.size, 1, none⟩ = some (.int .i64 (h : Int)) := by simp
      have e8 : wr.heap.size < (wr.alloc (.cells #[.int .i64 (r : Int), .int .i64 (h : Int)] 94)).heap.size := by simp
      have e1 := hSa.sess
      have e2 := look N r _ hr2 hSa.mp
      have e3 := hSa.ap r hr2
      rw [hr, ← hm, ← hr] at e3
      have e4 := hSa.ask k hkn
      have e5 := hSa.askf k hkn
      rw [← hr, ← hh] at e4 e5
      have hidz0 : (0 : Int) ≤ (h : Int) := Int.natCast_nonneg _
      have hidz : (h : Int) < (m : Int) := by omega
      have HSa : Hid _ := hSa
      clear hSa hr hh hm
      have l5 : N + 5 < wr.heap.size := by omega
      go_wp2_with fail
      generalize wr.alloc (.cells #[.int .i64 (r : Int), .int .i64 (h : Int)] 94) = W1 at e1 e2 e3 e4 e5 e6 e7 e8 HC1 HSa ⊢
      have hSd : St N n W1.drew (.slice (some ⟨ob, 0, none⟩) ks.length ocap) V' (Lt ks L t) := HSa.out.far (Chg.drew (fun _ => False) _) (fun _ _ => id) (fun _ _ _ _ => id)
      have hle : (Lt ks L t k).length ≤ 512 := by
        unfold Lt
        split
        · exact Nat.le_trans (filter_len _ _) (HL.out k hkn)
        · exact HL.out k hkn
      have hun : Calls Yba.prog 5 #[.pointer (some ⟨N + 6 + 2 * r, h * 2, none⟩), .pointer (some ⟨N, 0, none⟩)] W1.drew (Unasked N (N + 10) (N + 6 + 2 * r) (h * 2) (V' k) (Lt ks L t k) (some 0) W1.drew) :=
        unask N (N + 10) (N + 6 + 2 * r) (h * 2) (V' k) (Lt ks L t k) (some 0) W1.drew hSd.peers (by omega) (by have := hSd.size; omega) e4 e5 (hSd.own k hkn)
          (fun e => by have := (hSd.own k hkn).lt _ e; omega) (by omega)
      have R1 : Hid (Reads N wr.heap.size r h m W1.drew) := ⟨e1, e6, e7, e3, look N r _ hr2 hSd.mp⟩
      have R2 : Hid (∀ w1, Chg (fun j => j = N + 6 + 2 * r ∨ (V' k).ownBlock = some j) W1.drew w1 → Reads N wr.heap.size r h m w1) := fun w1 hc => by
        have hb : ∀ b, (V' k).ownBlock = some b → N + 10 ≤ b ∧ b < wr.heap.size := fun b hb => (I1.out.own k hkn).lt b hb
        have hs1 : wr.heap.size < W1.drew.heap.size := e8
        have cel : ∀ b x, b < W1.drew.heap.size → b ≠ N + 6 + 2 * r → (b < N + 10 ∨ wr.heap.size ≤ b) → w1.cell? ⟨b, x, none⟩ = W1.drew.cell? ⟨b, x, none⟩ := fun b x hl hne ho =>
          hc.cell (a := ⟨b, x, none⟩) hl (fun e => by
            rcases e with e | e
            · exact hne e
            · have := hb b e; omega)
        refine ⟨(cel _ _ (by omega) (by omega) (by omega)).trans e1, (cel _ _ (by omega) (by omega) (by omega)).trans e6, (cel _ _ (by omega) (by omega) (by omega)).trans e7, (cel _ _ (by omega) (by omega) (by omega)).trans e3, look N r _ hr2 ((hc.block _ (by omega) (fun e => ?_)).trans hSd.mp)⟩
        rcases e with e | e
        · omega
        · have := hb _ e; omega
      clear hSd hle e4 e5
      go_region_held3 (fun w' => w'.cell? ⟨N + 5, 24, none⟩ = some (.map (some (N + 4))) ∧ w'.cell? ⟨wr.heap.size, 0, none⟩ = some (.int .i64 (r : Int)) ∧ w'.cell? ⟨wr.heap.size, 1, none⟩ = some (.int .i64 (h : Int)) ∧
          w'.cell? ⟨N + 7 + 2 * r, 3, none⟩ = some (.slice (some ⟨N + 6 + 2 * r, 0, none⟩) m m) ∧
          (Instr.lookup 57 (.map (some (N + 4))) (.int .i64 (r : Int)) false).run Yba.prog w' = .ok (.pointer (some ⟨N + 7 + 2 * r, 0, none⟩)) w')
        (first | exact R1.out | exact R2.out _ hchg)
        ((go_at_call 5; refine Calls.mono hun ?_; rintro e w1 ⟨rfl, v', hv', hc1, hco, hfr, hown, hchg⟩))
      have N1 : Hid (St N n w1 (.slice (some ⟨ob, 0, none⟩) ks.length ocap) (fun j => if j = k then v' else V' j) (Lt ks L (t + 1))) := by
        obtain ⟨hr, hh, _⟩ := RH.out
        have hSd : St N n W1.drew (.slice (some ⟨ob, 0, none⟩) ks.length ocap) V' (Lt ks L t) := HSa.out.far (Chg.drew (fun _ => False) _) (fun _ _ => id) (fun _ _ _ _ => id)
        subst hr hh
        show St _ _ _ _ _ _
        rw [Lt_succ ks L t k KK.out]
        exact hSd.turn hkn (fun g hg => .inl (by rw [← hv']; exact hg)) hc1 hco hfr hown hchg
      have N2 : Hid (∀ i, i < n → ((fun j => if j = k then v' else V' j) i).ownBlock = (V i).ownBlock) := fun i hi => by
        show (if i = k then v' else V' i).ownBlock = _
        by_cases e : i = k
        · rw [if_pos e, hv', ← e]; exact I2.out i hi
        · rw [if_neg e]; exact I2.out i hi
      have N3 : Hid (Chg (Own N n V) w w1) := by
        refine I3.out.trans ((HC1.out.mono (fun _ _ e => e.elim)).trans ((Chg.drew _ _).trans (hchg.mono fun j _ e => ?_)))
        rcases e with e | e
        · have : r = 0 ∨ r = 1 := by omega
          rcases this with rfl | rfl
          · exact .inr (.inl e)
          · exact .inr (.inr (.inl e))
        · exact .inr (.inr (.inr ⟨k, hkn, by rw [← I2.out k hkn]; exact e⟩))
      clear hv' hc1 hco hfr hown hchg R1 R2 hun e1 e2 e3 e6 e7 e8 cr0 cr1
      go_wp2
      go_roundg (ks.length - (t + 1))
      case measure => omega
      case rel => exact ⟨t + 1, _, by go_num, by omega, Nat.le_refl _, N1, N2, N3⟩
    · obtain rfl : t = ks.length := by omega
      have hltz : ¬ (ks.length : Int) < (ks.length : Int) := by omega
      have hc63 := I1.out.opn
      have hf63 := I1.out.opf
      go_wp2
      refine bodyPost_end (results_none rfl _ _ _) rfl ?_
      refine ⟨rfl, V', ?_, I2.out, I3.out.trans (Chg.setCell _ _ _ (.inl rfl))⟩
      have hI := I1.out
      have hsz := hI.size
      exact hI.opened _

set_option maxRecDepth 1000000 in
/-- No open request. -/
theorem withdraw_nil (N n : Nat) (V : Nat → Value) (L : Nat → List (Option (Fin 3))) (w : World) (hS : St N n w (.slice none 0 0) V L) :
    Calls Yba.prog 4 #[.pointer (some ⟨N + 5, 0, none⟩), .pointer (some ⟨N, 0, none⟩)] w fun e w' => e = .returned noResult ∧
      ∃ V', St N n w' (.slice none 0 0) V' (Lt [] L 0) ∧ (∀ i, i < n → (V' i).ownBlock = (V i).ownBlock) ∧ Chg (Own N n V) w w' := by
  have HS : Hid (St N n w (.slice none 0 0) V L) := hS
  have c0 := hS.opn
  have f0 := hS.opf
  clear hS
  go_enter Yba.func4, Yba.ntmps4
  go_wp2_with fail
  go_loopg [11] 0 (fun gg s11 wr => s11 = .int .i64 0 ∧ wr = w)
  case atStart => exact ⟨rfl, rfl⟩
  case round =>
    obtain ⟨rfl, rfl⟩ := hrel
    go_wp2
    refine bodyPost_end (results_none rfl _ _ _) rfl ?_
    exact ⟨rfl, V, by rw [Lt_zero]; exact HS.out.opened _, fun _ _ => rfl, Chg.setCell _ _ _ (.inl rfl)⟩

end Go.Proofs.Ybulkuo
