/-
  The law's middle: touched and p.open are filled.
-/
import Derived.Test.YbulkuoT35
import Derived.Deep.OwnRows
namespace Go.Proofs.Ybulkuo
open Go.Shelf Go.RowKit Go.Lib Go.Sort

/-- The open requests' cells. -/
def refs (ks : List Nat) : List Value := ks.flatMap fun q => [.int .i64 ((q % 2 : Nat) : Int), .int .i64 ((q / 2 : Nat) : Int)]

theorem refs_snoc (ks : List Nat) (q : Nat) : refs (ks ++ [q]) = refs ks ++ [.int .i64 ((q % 2 : Nat) : Int), .int .i64 ((q / 2 : Nat) : Int)] := by simp [refs]

theorem refs_at : ∀ (ks : List Nat) (t k : Nat), ks[t]? = some k → (refs ks)[t * 2]? = some (.int .i64 ((k % 2 : Nat) : Int)) ∧ (refs ks)[t * 2 + 1]? = some (.int .i64 ((k / 2 : Nat) : Int))
  | [], t, k, h => by simp at h
  | a :: r, 0, k, h => by
    simp at h
    subst h
    simp [refs]
  | a :: r, t + 1, k, h => by
    have := refs_at r t k (by simpa using h)
    have e : refs (a :: r) = .int .i64 ((a % 2 : Nat) : Int) :: .int .i64 ((a / 2 : Nat) : Int) :: refs r := by simp [refs]
    rw [e, show (t + 1) * 2 = t * 2 + 1 + 1 by omega]
    exact this

/-- What stands while p.open is filled. -/
structure Op4 (w0 : World) (N n tb : Nat) (V : Nat → Value) (L : Nat → List (Option (Fin 3))) (w : World) (o : Value) (ks : List Nat) : Prop where
  st : St N n w o V L
  own : w.ownsRow (N + 10) 94 2 o ks.length (refs ks)
  ap : ∀ g, o.ownBlock = some g → g ≠ tb ∧ ∀ i, i < n → (V i).ownBlock ≠ some g
  tc : ∀ i, i < n → w.cell? ⟨tb, i, none⟩ = some (.bool (decide (i ∈ ks)))
  tf : ∀ i, i < n → w.frozen? ⟨tb, i, none⟩ = false
  tn : N + 10 ≤ tb ∧ tb < w.heap.size ∧ ∀ i, i < n → (V i).ownBlock ≠ some tb
  bel : Below w0.heap.size w0 w

theorem Op4.step {w0 : World} {N n tb : Nat} {V : Nat → Value} {L : Nat → List (Option (Fin 3))} {w : World} {o : Value} {ks : List Nat} (h : Op4 w0 N n tb V L w o ks) (hN : w0.heap.size ≤ N) {q g cap : Nat} (hq : q < n)
    {b : Obj} {w3 : World} (hg : ((w.setCell ⟨tb, q, none⟩ (.bool true)).alloc b).grownBy w3 o.ownBlock)
    (hown : w3.ownsRow (N + 10) 94 2 (.slice (some ⟨g, 0, none⟩) (ks.length + 1) cap) (ks.length + 1) (refs ks ++ [.int .i64 ((q % 2 : Nat) : Int), .int .i64 ((q / 2 : Nat) : Int)]))
    (hat : o.ownBlock = some g ∨ g = w.heap.size + 1) :
    Op4 w0 N n tb V L (w3.setCell ⟨N, 63, none⟩ (.slice (some ⟨g, 0, none⟩) (ks.length + 1) cap)) (.slice (some ⟨g, 0, none⟩) (ks.length + 1) cap) (ks ++ [q]) := by
  have hsz := h.st.size
  obtain ⟨t1, t2, t3⟩ := h.tn
  have hob : ∀ k, o.ownBlock = some k → N + 10 ≤ k ∧ k < w.heap.size := fun k hk => h.own.lt k hk
  have c1 : Chg (fun k => k = tb) w (w.setCell ⟨tb, q, none⟩ (.bool true)) := Chg.setCell _ _ _ rfl
  have c2 : Chg (fun k => k = tb ∨ o.ownBlock = some k) w w3 := (c1.mono fun _ _ e => .inl e).trans ((Chg.alloc _ _ b).trans (Chg.grown hg fun k e => .inr e))
  have c2' : Chg (fun k => o.ownBlock = some k) (w.setCell ⟨tb, q, none⟩ (.bool true)) w3 := (Chg.alloc _ _ b).trans (Chg.grown hg fun k e => e)
  have htb : ¬ (o.ownBlock = some tb) := fun e => (h.ap tb e).1 rfl
  have hs3 : St N n w3 o V L := h.st.far c2 (fun k hk e => by
    rcases e with e | e
    · omega
    · have := hob k e; omega) (fun i hi g' hg' e => by
    rcases e with e | e
    · exact t3 i hi (e ▸ hg')
    · exact (h.ap g' e).2 i hi hg')
  have hsw : (w.setCell ⟨tb, q, none⟩ (.bool true)).heap.size = w.heap.size := by simp [World.setCell]
  have htl : tb < w3.heap.size := by have := c2.size; omega
  have tcell : ∀ i, w3.cell? ⟨tb, i, none⟩ = (w.setCell ⟨tb, q, none⟩ (.bool true)).cell? ⟨tb, i, none⟩ := fun i => c2'.cell (a := ⟨tb, i, none⟩) (by show tb < _; rw [hsw]; exact t2) htb
  have tfro : ∀ i, w3.frozen? ⟨tb, i, none⟩ = w.frozen? ⟨tb, i, none⟩ := fun i => (c2'.frozen (a := ⟨tb, i, none⟩) (by show tb < _; rw [hsw]; exact t2) htb).trans (World.frozen?_setCell _ _ _ _)
  have hNt : N ≠ tb := by omega
  refine ⟨hs3.opened _, ?_, fun g' hg' => ?_, fun i hi => ?_, fun i hi => ?_, ⟨t1, by simpa [World.setCell] using htl, t3⟩, ?_⟩
  · rw [refs_snoc, List.length_append, List.length_singleton]
    exact hown.kept (row := some N) ⟨rfl, rfl, rfl, by simp [World.setCell], fun k hk hs => heap_setCell_other _ _ _ _ (by simpa using hs)⟩ (.inr (fun e => by have := hown.lt _ e; omega))
  · obtain rfl : g = g' := by simpa [Value.ownBlock] using hg'
    rcases hat with e | e
    · exact h.ap g e
    · exact ⟨by omega, fun i hi e2 => by have := (h.st.own i hi).lt _ e2; omega⟩
  · rw [World.cell?_setCell_other _ _ _ _ (fun e => hNt (by injection e)), tcell]
    by_cases e : i = q
    · subst e
      rw [World.cell?_setCell_same _ _ _ (h.tc i hi)]
      simp
    · rw [World.cell?_setCell_other _ _ _ _ (fun e2 => e (by injection e2 with _ e3; exact e3.symm)), h.tc i hi]
      simp [e]
  · rw [World.frozen?_setCell, tfro]
    exact h.tf i hi
  · refine h.bel.trans (Below.trans (b := w3) ⟨c2.os, c2.tape, c2.output, c2.size, fun k hk => c2.block k (by omega) (fun e => ?_)⟩ ((Below.refl _ _).setCell hN _))
    rcases e with e | e
    · omega
    · have := hob k e; omega

theorem Op4.ownStep {w0 : World} {N n tb : Nat} {V : Nat → Value} {L : Nat → List (Option (Fin 3))} {w : World} {o : Value} {ks : List Nat} (h : Op4 w0 N n tb V L w o ks) (q : Nat) (b : Obj) :
    ((w.setCell ⟨tb, q, none⟩ (.bool true)).alloc b).ownsRow (N + 10) 94 2 o ks.length (refs ks) := by
  refine World.ownsRow.alloc ?_ _
  exact h.own.kept (row := some tb) ⟨rfl, rfl, rfl, by simp [World.setCell], fun k hk hs => heap_setCell_other _ _ _ _ (by simpa using hs)⟩ (.inr (fun e => (h.ap tb e).1 rfl))

theorem Op4.open3 {w0 : World} {N n tb : Nat} {V : Nat → Value} {L : Nat → List (Option (Fin 3))} {w : World} {o : Value} {ks : List Nat} (h : Op4 w0 N n tb V L w o ks) {q : Nat} {b : Obj} {w3 : World}
    (hg : ((w.setCell ⟨tb, q, none⟩ (.bool true)).alloc b).grownBy w3 o.ownBlock) : w3.cell? ⟨N, 63, none⟩ = some o ∧ w3.frozen? ⟨N, 63, none⟩ = false := by
  obtain ⟨t1, t2, _⟩ := h.tn
  have hsz := h.st.size
  have c2 : Chg (fun k => k = tb ∨ o.ownBlock = some k) w w3 := ((Chg.setCell (S := fun k => k = tb) w ⟨tb, q, none⟩ (.bool true) rfl).mono fun _ _ e => .inl e).trans ((Chg.alloc _ _ b).trans (Chg.grown hg fun k e => .inr e))
  have hn : ¬ (N = tb ∨ o.ownBlock = some N) := fun e => by
    rcases e with e | e
    · omega
    · have := h.own.lt N e; omega
  exact ⟨(c2.cell (a := ⟨N, 63, none⟩) (by show N < _; omega) hn).trans h.st.opn, (c2.frozen (a := ⟨N, 63, none⟩) (by show N < _; omega) hn).trans h.st.opf⟩

/-- The call, out of what stands. -/
theorem Op4.call {w0 : World} {N n tb : Nat} {V : Nat → Value} {L : Nat → List (Option (Fin 3))} {w : World} {o : Value} {ks : List Nat} (h : Op4 w0 N n tb V L w o ks) (hk : ∀ q ∈ ks, q < n) (hlen : ks.length ≤ 512) (hL : ∀ i, i < n → (L i).length ≤ 512) (hn : n ≤ 512) :
    Calls Yba.prog 4 #[.pointer (some ⟨N + 5, 0, none⟩), .pointer (some ⟨N, 0, none⟩)] w fun e w' => e = .returned noResult ∧
      ∃ V', St N n w' (.slice none 0 0) V' (Lt ks L ks.length) ∧ (∀ i, i < n → (V' i).ownBlock = (V i).ownBlock) ∧ Chg (Own N n V) w w' := by
  rcases h.own.2 with ⟨rfl, hz⟩ | ⟨g, cap, cur, rfl, hb, hg, hnc, hmx, hcs, htk⟩
  · obtain rfl : ks = [] := List.eq_nil_of_length_eq_zero hz
    exact withdraw_nil N n V L w h.st
  · have hgl := (Array.getElem?_eq_some_iff.1 hg).1
    refine withdraw N n g cap ks V L w h.st (fun t ht => ?_) hb hgl (fun i hi e => (h.ap g rfl).2 i hi e) hlen hL hn
    refine ⟨ks[t], List.getElem?_eq_getElem ht, hk _ (List.getElem_mem _), ?_, ?_⟩
    · have h1 := (refs_at ks t ks[t] (List.getElem?_eq_getElem ht)).1
      rw [← htk, List.getElem?_take_of_lt (by omega)] at h1
      simp only [World.cell?, hg]
      simpa using h1
    · have h1 := (refs_at ks t ks[t] (List.getElem?_eq_getElem ht)).2
      rw [← htk, List.getElem?_take_of_lt (by omega)] at h1
      simp only [World.cell?, hg]
      simpa using h1

theorem Lt_all (ks : List Nat) (L : Nat → List (Option (Fin 3))) (i : Nat) (x : List Nat) (h : L i = ps x) : Lt ks L ks.length i = stay (decide (i ∈ ks)) x := by
  unfold Lt stay
  rw [List.take_length, h]
  by_cases e : i ∈ ks <;> simp [e]

theorem Op4.notOwn {w0 : World} {N n tb : Nat} {V : Nat → Value} {L : Nat → List (Option (Fin 3))} {w : World} {o : Value} {ks : List Nat} (h : Op4 w0 N n tb V L w o ks) : ¬ Own N n V tb := fun e => by
  obtain ⟨t1, t2, t3⟩ := h.tn
  rcases e with e | e | e | ⟨i, hi, e⟩
  · omega
  · omega
  · omega
  · exact t3 i hi e

theorem Op4.ownGe {w0 : World} {N n tb : Nat} {V : Nat → Value} {L : Nat → List (Option (Fin 3))} {w : World} {o : Value} {ks : List Nat} (h : Op4 w0 N n tb V L w o ks) (hN : w0.heap.size = N) : ∀ k, Own N n V k → w0.heap.size ≤ k := fun k e => by
  rcases e with e | e | e | ⟨i, hi, e⟩
  · omega
  · omega
  · omega
  · have := (h.st.own i hi).lt k e; omega

/-- At the start: touched is made. -/
theorem Op4.start {w0 : World} {N n : Nat} {V : Nat → Value} {L : Nat → List (Option (Fin 3))} {w : World} (h : St N n w (.slice none 0 0) V L) (hB : Below w0.heap.size w0 w) (hN : w0.heap.size = N) :
    Op4 w0 N n w.heap.size V L (w.alloc (.cells (madeCells #[.bool false] n) 4)) (.slice none 0 0) [] := by
  have hsz := h.size
  have hrow := World.rowIs_made w (.bool false) n 4
  refine ⟨h.far (Chg.alloc (fun _ => False) _ _) (fun _ _ => id) (fun _ _ _ _ => id), World.ownsRow_nil _ _ _ _, fun g hg => by simp [Value.ownBlock] at hg, fun i hi => ?_, fun i hi => hrow.frozen i, ⟨hsz, by simp, fun i hi e => by have := (h.own i hi).lt _ e; omega⟩, hB.alloc (by omega) _⟩
  rw [hrow.cell hi]
  simp

theorem ps_len (x : List Nat) : (ps x).length = x.length := by simp [ps]

theorem info94 : (Yba.prog.info? 94).map (fun i => (i.zero, i.size, i.bytes)) = some (some (.agg #[.int .i64 0, .int .i64 0]), 2, 16) := by kernel_rfl
theorem info4 : (Yba.prog.info? 4).map (fun i => (i.zero, i.size, i.bytes)) = some (some (.bool false), 1, 1) := by kernel_rfl

set_option maxRecDepth 1000000 in
set_option maxHeartbeats 4000000 in
theorem tail26 (w0 : World) (K : Act → World → Prop) (hK : ∀ a w, Code.wp Yba.prog (restOf Yba.f3.body 26) (bodyPost Yba.prog Yba.f3 (Post w0)) a w → K a w)
    (N c0 c1 m0 m1 : Nat) (a0 a1 : Option Addr) (X : List (List Nat)) (Y : List Nat) (V : Nat → Value) (L : Nat → List (Option (Fin 3))) (w : World)
    (hS : St N X.length w (.slice none 0 0) V L) (hL : ∀ i, (h : i < X.length) → L i = ps X[i]) (hY : Row w0 (.slice a1 Y.length c1) Y) (hXb : Rows2 w0 a0 X) (hN : w0.heap.size = N)
    (hn : X.length ≤ 512) (hy : Y.length ≤ 512) (hm : ∀ i, (h : i < X.length) → X[i].length ≤ 512) (hm0 : m0 = (X.length + 1) / 2) (hm1 : m1 = X.length / 2) (hB : Below w0.heap.size w0 w)
    (s2 s3 s4 s5 s6 s12 s13 s14 s15 s16 s17 s18 s19 s20 s21 s22 s23 s24 s25 s26 s27 s28 s29 s30 s31 s32 s33 s34 s35 s36 s37 s38 s39 s40 s41 s42 s43 s44 s45 s46 s47 s48 s49 s50 s51 s52 s53 s54 s55 s56 s57 s58 s59 s60 s61 s62 s63 s64 s65 s66 s67 s68 s69 s70 s71 s72 s73 s74 s75 s76 s77 s78 s79 s80 s81 s82 s83 s84 s85 s86 s87 s88 s89 s90 s91 s92 s93 s94 s95 s96 s97 s98 s99 s100 s101 s102 s103 s104 s105 s106 s107 s108 s109 s110 s111 s112 s113 s114 s115 s116 s117 s118 s119 s120 s121 s122 s123 s124 s125 s126 s127 s128 s129 s130 s131 s132 s133 s134 s135 s136 s137 s138 s139 s140 s141 s142 s143 s144 s145 s146 s147 s148 s149 s150 s151 s152 s153 s154 s155 s156 s157 s158 s159 s160 s161 s162 s163 s164 s165 s166 s167 s168 s169 s170 s171 s172 s173 s174 s175 s176 s177 s178 s179 s180 s181 s182 s183 s184 s185 s186 s187 s188 s189 s190 s191 s192 s193 s194 s195 s196 s197 s198 s199 s200 s201 s202 s203 s204 s205 s206 s207 s208 s209 s210 s211 s212 s213 s214 s215 s216 s217 s218 s219 s220 s221 s222 s223 s224 s225 s226 s227 s228 s229 s230 s231 s232 s233 s234 s235 s236 s237 s238 s239 s240 s241 s242 s243 s244 s245 s246 s247 s248 s249 s250 s251 s252 s253 s254 s255 s256 s257 s258 s259 s260 s261 s262 s263 s264 s265 s266 s267 s268 s269 s270 s271 s272 s273 s274 s275 s276 : Value) :
    Code.wp Yba.prog (regOf Yba.f3.body 26) (Exit.then K (bodyPost Yba.prog Yba.f3 (Post w0))) ⟨#[.slice a0 X.length c0, .slice a1 Y.length c1, s2, s3, s4, s5, s6, .slice (some ⟨N + 3, 0, none⟩) 3 3, .pointer (some ⟨N, 0, none⟩), .pointer (some ⟨N + 5, 0, none⟩), .int .i64 (m0 : Int), .int .i64 (m1 : Int), s12, s13, s14, s15, s16, s17, s18, s19, s20, s21, s22, s23, s24, s25, s26, s27, s28, s29, s30, s31, s32, s33, s34, s35, s36, s37, s38, s39, s40, s41, s42, s43, s44, s45, s46, s47, s48, s49, s50, s51, s52, s53, s54, s55, s56, s57, s58, s59, s60, s61, s62, s63, s64, s65, s66, s67, s68, s69, s70, s71, s72, s73, s74, s75, s76, s77, s78, s79, s80, s81, s82, s83, s84, s85, s86, s87, s88, s89, s90, s91, s92, s93, s94, s95, s96, s97, s98, s99, s100, s101, s102, s103, s104, s105, s106, s107, s108, s109, s110, s111, s112, s113, s114, s115, s116, s117, s118, s119, s120, s121, s122, s123, s124, s125, s126, s127, s128, s129, s130, s131, s132, s133, s134, s135, s136, s137, s138, s139, s140, s141, s142, s143, s144, s145, s146, s147, s148, s149, s150, s151, s152, s153, s154, s155, s156, s157, s158, s159, s160, s161, s162, s163, s164, s165, s166, s167, s168, s169, s170, s171, s172, s173, s174, s175, s176, s177, s178, s179, s180, s181, s182, s183, s184, s185, s186, s187, s188, s189, s190, s191, s192, s193, s194, s195, s196, s197, s198, s199, s200, s201, s202, s203, s204, s205, s206, s207, s208, s209, s210, s211, s212, s213, s214, s215, s216, s217, s218, s219, s220, s221, s222, s223, s224, s225, s226, s227, s228, s229, s230, s231, s232, s233, s234, s235, s236, s237, s238, s239, s240, s241, s242, s243, s244, s245, s246, s247, s248, s249, s250, s251, s252, s253, s254, s255, s256, s257, s258, s259, s260, s261, s262, s263, s264, s265, s266, s267, s268, s269, s270, s271, s272, s273, s274, s275, s276], []⟩ w := by
  have HS : Hid (St N X.length w (.slice none 0 0) V L) := hS
  have HL : Hid _ := hL
  have HM : Hid _ := hm
  have HY : Hid (Row w0 (.slice a1 Y.length c1) Y) := hY
  have HXB : Hid (Rows2 w0 a0 X) := hXb
  have HB : Hid (Below w0.heap.size w0 w) := hB
  have M0 : Hid (m0 = (X.length + 1) / 2) := hm0
  have M1 : Hid (m1 = X.length / 2) := hm1
  have HN : Hid (w0.heap.size = N) := hN
  obtain ⟨i0, hi0, hz0, hz1, hz2⟩ := info_parts info94
  have hmk := run_make_row' (P := Yba.prog) 78 4 (.bool false) 1 Yba.underlying78 info4 rfl .i64 .i64 X.length (by omega) (by omega) w
  clear hS hL hY hm hm0 hm1 hB hXb hN
  conv at hK => ext a w; arg 1; arg 2; whnf
  conv => arg 2; whnf
  have HLL : Hid (∀ i, i < X.length → (L i).length ≤ 512) := fun i hi => by rw [HL.out i hi, ps_len]; exact HM.out i hi
  by_cases hp : 0 < X.length
  · have hpz : (0 : Int) < (X.length : Int) := by omega
    have hst := Op4.start HS.out HB.out HN.out
    have HST : Hid _ := hst
    clear hst
    have htbl : w.heap.size < (w.alloc (.cells (madeCells #[.bool false] X.length) 4)).heap.size := by simp
    go_wp2_with fail
    generalize w.alloc (.cells (madeCells #[.bool false] X.length) 4) = wa at HST htbl ⊢
    obtain ⟨tb, htb⟩ : ∃ tb, tb = w.heap.size := ⟨_, rfl⟩
    rw [← htb] at HST htbl ⊢
    clear htb hmk
    go_loopg [133] Y.length (fun gg s133 wr => ∃ (k : Nat) (o : Value), s133 = .int .i64 (k : Int) ∧ k ≤ Y.length ∧ Y.length - k ≤ gg ∧ Hid (Op4 w0 N X.length tb V L wr o ((Y.take k).map (· % X.length))))
    case atStart => exact ⟨0, _, rfl, by omega, by omega, HST⟩
    case round =>
      obtain ⟨k, o, rfl, hk, hgg, I⟩ := hrel
      by_cases hlt : k < Y.length
      · have hltz : (k : Int) < (Y.length : Int) := by omega
        have hkz : (0 : Int) ≤ (k : Int) := Int.natCast_nonneg _
        obtain ⟨a, c, e0, hx⟩ := HY.out.later I.out.bel
        obtain ⟨rfl, rfl⟩ : a1 = a ∧ c1 = c := by simpa using e0
        obtain ⟨by', oy, rfl, hbyl, hxc⟩ := hx (by omega)
        obtain ⟨hcy, h256⟩ := hxc k hlt
        have hks : ((Y.take (k + 1)).map (· % X.length)) = ((Y.take k).map (· % X.length)) ++ [Y[k] % X.length] := by
          rw [List.take_succ_eq_append_getElem hlt, List.map_append]; rfl
        have hkl : ((Y.take k).map (· % X.length)).length = k := by simp; omega
        generalize Y[k] = v at hcy h256 hks
        have HKS : Hid _ := hks
        have hq : v % X.length < X.length := Nat.mod_lt _ hp
        have hct := I.out.tc _ hq
        have hft := I.out.tf _ hq
        have hco := I.out.st.opn
        have hfo := I.out.st.opf
        obtain ⟨t1, t2, _⟩ := I.out.tn
        have hsz := I.out.st.size
        have hNt : ¬ (N = tb) := by omega
        have hNt' : ¬ (tb = N) := by omega
        have hNl : N < wr.heap.size := by omega
        have hn0 : ¬ ((X.length : Int) = 0) := by omega
        have hv0 : (0 : Int) ≤ (v : Int) % (X.length : Int) := Int.emod_nonneg _ hn0
        have hv1 : (v : Int) % (X.length : Int) < (X.length : Int) := Int.emod_lt_of_pos _ hpz
        have hvz : (v : Int) < 256 := by omega
        have hvz0 : (0 : Int) ≤ (v : Int) := by omega
        clear hx hxc hks e0
        generalize ((Y.take k).map (· % X.length)) = ks at I hct hkl HKS
        have HHI : Hid (Yba.prog.info? 94 = some i0 ∧ i0.zero = some (.agg #[.int .i64 0, .int .i64 0]) ∧ i0.size = 2 ∧ i0.bytes = 16) := ⟨hi0, hz0, hz1, hz2⟩
        have hk5 : ks.length + 1 ≤ maxLen := by unfold maxLen; omega
        have hq0 : ((v : Int) % (X.length : Int) % 2) = ((v % X.length % 2 : Nat) : Int) := by simp
        have hq1 : ((v : Int) % (X.length : Int) / 2) = ((v % X.length / 2 : Nat) : Int) := by simp
        have HQ : Hid (((v : Int) % (X.length : Int) % 2) = ((v % X.length % 2 : Nat) : Int) ∧ ((v : Int) % (X.length : Int) / 2) = ((v % X.length / 2 : Nat) : Int)) := ⟨hq0, hq1⟩
        clear hq0 hq1
        go_wp2_with (at_builtin; refine wpList_append_lies _ rfl _ _ 50 rfl (N + 10) 94 i0 _ 2 16 Yba.underlying50 HHI.out.1 HHI.out.2.1 HHI.out.2.2.1 HHI.out.2.2.2 rfl (by omega) o ks.length (refs ks) rfl (I.out.ownStep _ _) ⟨wr.heap.size, 0, none⟩ 1 1 [.int .i64 ((v : Int) % (X.length : Int) % 2), .int .i64 ((v : Int) % (X.length : Int) / 2)] rfl rfl (World.news_of_block (cs := #[.int .i64 ((v : Int) % (X.length : Int) % 2), .int .i64 ((v : Int) % (X.length : Int) / 2)]) (t := 94) (fr := (0, 0)) (by simpa using heap_alloc_new (wr.setCell ⟨tb, v % X.length, none⟩ (.bool true)) _)) (by simp [Value.oneCell']) (by omega) hk5 (by omega) (by simp; omega) (wr.heap.size + 1) (by simp) ?_; intro g cap w3 hown3 hgrow3 hat3 hlt3; have hc3 := I.out.open3 hgrow3)
        have hown4 : w3.ownsRow (N + 10) 94 2 (.slice (some ⟨g, 0, none⟩) (ks.length + 1) cap) (ks.length + 1) (refs ks ++ [.int .i64 ((v % X.length % 2 : Nat) : Int), .int .i64 ((v % X.length / 2 : Nat) : Int)]) := by
          rw [← HQ.out.1, ← HQ.out.2]
          first | exact hown3 | (rw [hkl]; exact hown3)
        have hfin := I.out.step (Nat.le_of_eq HN.out) hq hgrow3 hown4 hat3
        rw [hkl, ← HKS.out] at hfin
        have HF : Hid _ := hfin
        clear hfin hown4 hown3 hgrow3 hc3
        go_roundg (Y.length - (k + 1))
        case measure => omega
        case rel => exact ⟨k + 1, _, by go_num, by omega, Nat.le_refl _, HF⟩
      · obtain rfl : k = Y.length := by omega
        have hltz : ¬ (Y.length : Int) < (Y.length : Int) := by omega
        have I2 : Hid (Op4 w0 N X.length tb V L wr o (Y.map (· % X.length))) := by
          have := I.out
          rw [List.take_length] at this
          exact this
        have hcall := I2.out.call (fun q hq => by
          obtain ⟨v, _, rfl⟩ := List.mem_map.1 hq
          exact Nat.mod_lt _ hp) (by simpa using hy) HLL.out hn
        go_upto_region 35 with fail
        rename_i hK35
        exact tail35 w0 _ hK35 N Y.length c0 c1 m0 m1 tb a0 a1 X V (fun i => decide (i ∈ (Y.map (· % X.length)))) _ wr hcall (fun i hi => Lt_all _ L i X[i] (HL.out i hi)) (fun i hi => I2.out.tc i hi) I2.out.notOwn I2.out.tn.2.1 (I2.out.ownGe HN.out) (by have := I2.out.bel.size; exact this) HXB.out hn HM.out M0.out M1.out I2.out.bel _ _ _ _ _ _ _ _ _ _ _ _ _ _ _ _ _ _ _ _ _ _ _ _ _ _ _ _ _ _ _ _ _ _ _ _ _ _ _ _ _ _ _ _ _ _ _ _ _ _ _ _ _ _ _ _ _ _ _ _ _ _ _ _ _ _ _ _ _ _ _ _ _ _ _ _ _ _ _ _ _ _ _ _ _ _ _ _ _ _ _ _ _ _ _ _ _ _ _ _ _ _ _ _ _ _ _ _ _ _ _ _ _ _ _ _ _ _ _ _ _ _ _ _ _ _ _ _ _ _ _ _ _ _ _ _ _ _ _ _ _ _ _ _ _ _ _ _ _ _ _ _ _ _ _ _ _ _ _ _ _ _ _ _ _ _ _ _ _ _ _ _ _ _ _ _ _ _ _ _ _ _ _ _ _ _ _ _ _ _ _ _ _ _ _ _ _ _ _ _ _ _ _ _ _ _ _ _ _ _ _ _ _ _ _ _ _ _ _ _ _ _ _ _ _ _ _ _ _ _ _ _ _ _ _ _ _ _ _ _ _ _ _ _ _ _ _ _ _ _ _ _ _ _ _ _ _ _ _ _ _ _ _ _ _ _ _ _ _
  · have hpz : ¬ (0 : Int) < (X.length : Int) := by omega
    have hst := Op4.start HS.out HB.out HN.out
    have HST : Hid _ := hst
    clear hst
    go_upto_region 35 with fail
    rename_i hK35
    have hcall := HST.out.call (fun q hq => by simp at hq) (by simp) HLL.out hn
    exact tail35 w0 _ hK35 N Y.length c0 c1 m0 m1 w.heap.size a0 a1 X V (fun i => decide (i ∈ ([] : List Nat))) _ _ hcall (fun i hi => Lt_all _ L i X[i] (HL.out i hi)) (fun i hi => HST.out.tc i hi) HST.out.notOwn HST.out.tn.2.1 (HST.out.ownGe HN.out) HST.out.bel.size HXB.out hn HM.out M0.out M1.out HST.out.bel _ _ _ _ _ _ _ _ _ _ _ _ _ _ _ _ _ _ _ _ _ _ _ _ _ _ _ _ _ _ _ _ _ _ _ _ _ _ _ _ _ _ _ _ _ _ _ _ _ _ _ _ _ _ _ _ _ _ _ _ _ _ _ _ _ _ _ _ _ _ _ _ _ _ _ _ _ _ _ _ _ _ _ _ _ _ _ _ _ _ _ _ _ _ _ _ _ _ _ _ _ _ _ _ _ _ _ _ _ _ _ _ _ _ _ _ _ _ _ _ _ _ _ _ _ _ _ _ _ _ _ _ _ _ _ _ _ _ _ _ _ _ _ _ _ _ _ _ _ _ _ _ _ _ _ _ _ _ _ _ _ _ _ _ _ _ _ _ _ _ _ _ _ _ _ _ _ _ _ _ _ _ _ _ _ _ _ _ _ _ _ _ _ _ _ _ _ _ _ _ _ _ _ _ _ _ _ _ _ _ _ _ _ _ _ _ _ _ _ _ _ _ _ _ _ _ _ _ _ _ _ _ _ _ _ _ _ _ _ _ _ _ _ _ _ _ _ _ _ _ _ _ _ _ _ _ _ _ _ _ _ _ _ _ _ _ _ _ _

end Go.Proofs.Ybulkuo
