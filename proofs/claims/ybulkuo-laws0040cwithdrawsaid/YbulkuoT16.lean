/-
  The lists of the peers asked are filled.
-/
import Derived.Test.YbulkuoT26
import Derived.Deep.RegionLaw

namespace Go.Proofs.Ybulkuo
open Go.Shelf Go.RowKit Go.Lib Go.Sort

def cut2 : Code → Option (Code × Code × Code)
  | .seq (.seq a b) c => some (a, b, c)
  | _ => none

def reg16 (b : Option Code) : Code := ((cut2 (restOf b 15)).map (·.1)).getD .skip
def mid16 (b : Option Code) : Code := ((cut2 (restOf b 15)).map (·.2.1)).getD .skip
def rest16 (b : Option Code) : Code := ((cut2 (restOf b 15)).map (·.2.2)).getD .skip

/-- The lists behind i rows and k bytes. -/
def La (X : List (List Nat)) (i k j : Nat) : List (Option (Fin 3)) := if j = i then ps ((X.getD i []).take k) else if j < i then ps (X.getD j []) else []

theorem La_next (X : List (List Nat)) (i : Nat) (x : List Nat) (h : X.getD i [] = x) : La X i x.length = La X (i + 1) 0 := by
  funext j
  unfold La
  by_cases e : j = i
  · subst e
    rw [if_pos rfl, if_neg (by omega), if_pos (by omega), h, List.take_length]
  · by_cases e2 : j < i
    · rw [if_neg e, if_pos e2, if_neg (by omega), if_pos (by omega)]
    · rw [if_neg e, if_neg e2]
      by_cases e3 : j = i + 1
      · rw [if_pos e3]; simp [ps]
      · rw [if_neg e3, if_neg (by omega)]

theorem La_succ (X : List (List Nat)) (i k : Nat) (x : List Nat) (h : X.getD i [] = x) (v : Nat) (hv : x[k]? = some v) :
    La X i (k + 1) = fun j => if j = i then La X i k i ++ [some ⟨v % 3, Nat.mod_lt _ (by omega)⟩] else La X i k j := by
  funext j
  unfold La
  by_cases e : j = i
  · subst e
    rw [if_pos rfl, if_pos rfl, if_pos rfl, h, List.take_add_one, hv]
    simp [ps]
  · rw [if_neg e, if_neg e, if_neg e]

theorem St.appChg {N n : Nat} {w : World} {o : Value} {V : Nat → Value} {L : Nat → List (Option (Fin 3))} {i : Nat} {b : Obj} {w3 : World} (_h : St N n w o V L)
    (hg : ((w.alloc b).drew).grownBy w3 (V i).ownBlock) : Chg (fun k => (V i).ownBlock = some k) w w3 := (Chg.alloc _ _ b).trans ((Chg.drew _ _).trans (Chg.grown hg fun _ e => e))

theorem St.ask3 {N n : Nat} {w : World} {o : Value} {V : Nat → Value} {L : Nat → List (Option (Fin 3))} (h : St N n w o V L) {i : Nat} (hi : i < n) {b : Obj} {w3 : World}
    (hg : ((w.alloc b).drew).grownBy w3 (V i).ownBlock) :
    w3.cell? ⟨N + 6 + 2 * (i % 2), i / 2 * 2 + 1, none⟩ = some (V i) ∧ w3.frozen? ⟨N + 6 + 2 * (i % 2), i / 2 * 2 + 1, none⟩ = false ∧ ∀ k : Fin 3, w3.cell? ⟨N + 3, k.val, none⟩ = some (enc N (some k)) := by
  have hsz := h.size
  have c := h.appChg hg
  have hn : ∀ b, b < N + 10 → ¬ ((V i).ownBlock = some b) := fun b hb e => by have := (h.own i hi).lt _ e; omega
  exact ⟨(c.cell (a := ⟨N + 6 + 2 * (i % 2), _, none⟩) (by show N + 6 + 2 * (i % 2) < _; omega) (hn (N + 6 + 2 * (i % 2)) (by omega))).trans (h.ask i hi), (c.frozen (a := ⟨N + 6 + 2 * (i % 2), _, none⟩) (by show N + 6 + 2 * (i % 2) < _; omega) (hn (N + 6 + 2 * (i % 2)) (by omega))).trans (h.askf i hi),
    fun k => (c.cell (a := ⟨N + 3, k.val, none⟩) (by show N + 3 < _; omega) (hn (N + 3) (by omega))).trans (h.pcell k)⟩

/-- One peer more is asked for block i. -/
theorem St.append {N n : Nat} {w : World} {o : Value} {V : Nat → Value} {L : Nat → List (Option (Fin 3))} (h : St N n w o V L) {i : Nat} (hi : i < n) {b : Obj} {w3 : World} {g cap : Nat} {x : Option (Fin 3)} {v' : Value}
    (hg : ((w.alloc b).drew).grownBy w3 (V i).ownBlock) (hv : v' = .slice (some ⟨g, 0, none⟩) ((L i).length + 1) cap)
    (hown : w3.ownsRow (N + 10) 24 1 v' ((L i).length + 1) ((L i).map (enc N) ++ [enc N x])) (hat : (V i).ownBlock = some g ∨ g = w.heap.size + 1) :
    St N n (w3.setCell ⟨N + 6 + 2 * (i % 2), i / 2 * 2 + 1, none⟩ v') o (fun j => if j = i then v' else V j) (fun j => if j = i then L i ++ [x] else L j) ∧
      Chg (fun k => k = N + 6 + 2 * (i % 2) ∨ (V i).ownBlock = some k) w (w3.setCell ⟨N + 6 + 2 * (i % 2), i / 2 * 2 + 1, none⟩ v') := by
  have hsz := h.size
  have c := h.appChg hg
  obtain ⟨q1, q2, _⟩ := h.ask3 hi hg
  have hn : ¬ ((V i).ownBlock = some (N + 6 + 2 * (i % 2))) := fun e => by have := (h.own i hi).lt _ e; omega
  have c4 : Chg (fun k => k = N + 6 + 2 * (i % 2) ∨ (V i).ownBlock = some k) w (w3.setCell ⟨N + 6 + 2 * (i % 2), i / 2 * 2 + 1, none⟩ v') := (c.mono fun _ _ e => .inr e).trans (Chg.setCell _ _ _ (.inl rfl))
  refine ⟨h.turn hi (fun g' hg' => ?_) (World.cell?_setCell_same _ _ _ q1) (fun y hy => ?_) (fun y => ?_) ?_ c4, c4⟩
  · rw [hv] at hg'
    obtain rfl : g = g' := by simpa [Value.ownBlock] using hg'
    rcases hat with e | e
    · exact .inl e
    · exact .inr (by omega)
  · rw [World.cell?_setCell_other _ _ _ _ (fun e => hy (by injection e with _ e2; exact e2.symm))]
    exact c.cell (a := ⟨N + 6 + 2 * (i % 2), y, none⟩) (by show N + 6 + 2 * (i % 2) < _; omega) hn
  · rw [World.frozen?_setCell]
    exact c.frozen (a := ⟨N + 6 + 2 * (i % 2), y, none⟩) (by show N + 6 + 2 * (i % 2) < _; omega) hn
  · rw [List.length_append, List.length_singleton, List.map_append, List.map_singleton]
    exact hown.kept (row := some (N + 6 + 2 * (i % 2))) ⟨rfl, rfl, rfl, by simp [World.setCell], fun k hk hs => heap_setCell_other _ _ _ _ (by simpa using hs)⟩ (.inr (fun e => by have := hown.lt _ e; omega))

theorem La_len (X : List (List Nat)) (i k : Nat) (x : List Nat) (h : X.getD i [] = x) (hk : k ≤ x.length) : (La X i k i).length = k := by
  unfold La
  rw [if_pos rfl, h]
  simp [ps]; omega

theorem info24 : (Yba.prog.info? 24).map (fun i => (i.zero, i.size, i.bytes)) = some (some (.pointer none), 1, 8) := by kernel_rfl

set_option maxRecDepth 1000000 in
set_option maxHeartbeats 4000000 in
theorem tail16 (w0 : World) (K1 K2 : Act → World → Prop) (hK2 : ∀ a w, Code.wp Yba.prog (rest16 Yba.f3.body) (bodyPost Yba.prog Yba.f3 (Post w0)) a w → K2 a w)
    (hK1 : ∀ a w, Code.wp Yba.prog (mid16 Yba.f3.body) (Exit.then K2 (bodyPost Yba.prog Yba.f3 (Post w0))) a w → K1 a w)
    (N c0 c1 m0 m1 : Nat) (a0 a1 : Option Addr) (X : List (List Nat)) (Y : List Nat) (V : Nat → Value) (w : World)
    (hS : St N X.length w (.slice none 0 0) V (La X 0 0)) (hY : Row w0 (.slice a1 Y.length c1) Y) (hXb : Rows2 w0 a0 X) (hN : w0.heap.size = N)
    (hn : X.length ≤ 512) (hy : Y.length ≤ 512) (hm : ∀ i, (h : i < X.length) → X[i].length ≤ 512) (hm0 : m0 = (X.length + 1) / 2) (hm1 : m1 = X.length / 2) (hB : Below w0.heap.size w0 w)
    (s2 s3 s4 s5 s6 s12 s13 s14 s15 s16 s17 s18 s19 s20 s21 s22 s23 s24 s25 s26 s27 s28 s29 s30 s31 s32 s33 s34 s35 s36 s37 s38 s39 s40 s41 s42 s43 s44 s45 s46 s47 s48 s49 s50 s51 s52 s53 s54 s55 s56 s57 s58 s59 s60 s61 s62 s63 s64 s65 s66 s67 s68 s69 s70 s71 s72 s73 s74 s75 s76 s77 s78 s79 s80 s81 s82 s83 s84 s85 s86 s87 s88 s89 s90 s91 s92 s93 s94 s95 s96 s97 s98 s99 s100 s101 s102 s103 s104 s105 s106 s107 s108 s109 s110 s111 s112 s113 s114 s115 s116 s117 s118 s119 s120 s121 s122 s123 s124 s125 s126 s127 s128 s129 s130 s131 s132 s133 s134 s135 s136 s137 s138 s139 s140 s141 s142 s143 s144 s145 s146 s147 s148 s149 s150 s151 s152 s153 s154 s155 s156 s157 s158 s159 s160 s161 s162 s163 s164 s165 s166 s167 s168 s169 s170 s171 s172 s173 s174 s175 s176 s177 s178 s179 s180 s181 s182 s183 s184 s185 s186 s187 s188 s189 s190 s191 s192 s193 s194 s195 s196 s197 s198 s199 s200 s201 s202 s203 s204 s205 s206 s207 s208 s209 s210 s211 s212 s213 s214 s215 s216 s217 s218 s219 s220 s221 s222 s223 s224 s225 s226 s227 s228 s229 s230 s231 s232 s233 s234 s235 s236 s237 s238 s239 s240 s241 s242 s243 s244 s245 s246 s247 s248 s249 s250 s251 s252 s253 s254 s255 s256 s257 s258 s259 s260 s261 s262 s263 s264 s265 s266 s267 s268 s269 s270 s271 s272 s273 s274 s275 s276 : Value) :
    Code.wp Yba.prog (reg16 Yba.f3.body) (Exit.then K1 (Exit.then K2 (bodyPost Yba.prog Yba.f3 (Post w0)))) ⟨#[.slice a0 X.length c0, .slice a1 Y.length c1, s2, s3, s4, s5, s6, .slice (some ⟨N + 3, 0, none⟩) 3 3, .pointer (some ⟨N, 0, none⟩), .pointer (some ⟨N + 5, 0, none⟩), .int .i64 (m0 : Int), .int .i64 (m1 : Int), s12, s13, s14, s15, s16, s17, s18, s19, s20, s21, s22, s23, s24, s25, s26, s27, s28, s29, s30, s31, s32, s33, s34, s35, s36, s37, s38, s39, s40, s41, s42, s43, s44, s45, s46, s47, s48, s49, s50, s51, s52, s53, s54, s55, s56, s57, s58, s59, s60, s61, s62, s63, s64, s65, s66, s67, s68, s69, s70, s71, s72, s73, s74, s75, s76, s77, s78, s79, s80, s81, s82, s83, s84, s85, s86, s87, s88, s89, s90, s91, s92, s93, s94, s95, s96, s97, s98, s99, s100, s101, s102, s103, s104, s105, s106, s107, s108, s109, s110, s111, s112, s113, s114, s115, s116, s117, s118, s119, s120, s121, s122, s123, s124, s125, s126, s127, s128, s129, s130, s131, s132, s133, s134, s135, s136, s137, s138, s139, s140, s141, s142, s143, s144, s145, s146, s147, s148, s149, s150, s151, s152, s153, s154, s155, s156, s157, s158, s159, s160, s161, s162, s163, s164, s165, s166, s167, s168, s169, s170, s171, s172, s173, s174, s175, s176, s177, s178, s179, s180, s181, s182, s183, s184, s185, s186, s187, s188, s189, s190, s191, s192, s193, s194, s195, s196, s197, s198, s199, s200, s201, s202, s203, s204, s205, s206, s207, s208, s209, s210, s211, s212, s213, s214, s215, s216, s217, s218, s219, s220, s221, s222, s223, s224, s225, s226, s227, s228, s229, s230, s231, s232, s233, s234, s235, s236, s237, s238, s239, s240, s241, s242, s243, s244, s245, s246, s247, s248, s249, s250, s251, s252, s253, s254, s255, s256, s257, s258, s259, s260, s261, s262, s263, s264, s265, s266, s267, s268, s269, s270, s271, s272, s273, s274, s275, s276], []⟩ w := by
  have HS : Hid (St N X.length w (.slice none 0 0) V (La X 0 0)) := hS
  have HM : Hid _ := hm
  have HY : Hid (Row w0 (.slice a1 Y.length c1) Y) := hY
  have HXB : Hid (Rows2 w0 a0 X) := hXb
  have HB : Hid (Below w0.heap.size w0 w) := hB
  have M0 : Hid (m0 = (X.length + 1) / 2) := hm0
  have M1 : Hid (m1 = X.length / 2) := hm1
  have HN : Hid (w0.heap.size = N) := hN
  have HI := info_parts info24
  clear hS hY hm hm0 hm1 hB hXb hN
  conv at hK1 => ext a w; arg 1; arg 2; whnf
  conv at hK2 => ext a w; arg 1; arg 2; whnf
  conv => arg 2; whnf
  go_wp2_with fail
  go_loopg [84] X.length (fun gg s84 wr => ∃ (i : Nat) (V' : Nat → Value), s84 = .int .i64 (i : Int) ∧ i ≤ X.length ∧ X.length - i ≤ gg ∧ Hid (St N X.length wr (.slice none 0 0) V' (La X i 0)) ∧ Hid (Below w0.heap.size w0 wr))
  case atStart => exact ⟨0, V, rfl, by omega, by omega, HS, HB⟩
  case round =>
    obtain ⟨i, V', rfl, hi, hgg, I1, I2⟩ := hrel
    by_cases hlt : i < X.length
    · have hltz : (i : Int) < (X.length : Int) := by omega
      have hiz : (0 : Int) ≤ (i : Int) := Int.natCast_nonneg _
      obtain ⟨b, o, rfl, hbl, hrow⟩ := HXB.out (by omega)
      obtain ⟨v, hcv0, hrowi⟩ := hrow i hlt
      have hcv : wr.cell? ⟨b, o + i, none⟩ = some v := (World.cell?_of_block (a := ⟨b, o + i, none⟩) (I2.out.block b hbl)).trans hcv0
      obtain ⟨av, cv, rfl, hx⟩ := hrowi
      have hml := HM.out i hlt
      obtain ⟨x, hxx⟩ : ∃ x, x = X[i] := ⟨_, rfl⟩
      have hxd : X.getD i [] = x := by rw [hxx]; simp [List.getD, hlt]
      have HXD : Hid (X.getD i [] = x) := hxd
      rw [← hxx] at hcv hml hx
      have HXR : Hid _ := hx
      clear hrow hx hcv0 hxx hxd
      have hlk := look_mod N i _ I1.out.mp
      have hses := I1.out.sess
      have hap := I1.out.ap (i % 2) (Nat.mod_lt _ (by omega))
      obtain ⟨m, hm⟩ : ∃ m, m = (X.length + 1 - i % 2) / 2 := ⟨_, rfl⟩
      rw [← hm] at hap
      have hi0 : (0 : Int) ≤ (i : Int) / 2 := by omega
      have hi1 : (i : Int) / 2 < (m : Int) := by omega
      have hi2 : i / 2 < m := by omega
      clear hm
      go_wp2_with fail
      clear hlk hses hap hcv hi0 hi1 hi2
      go_loopg [104] x.length (fun gg s104 wx => ∃ (k : Nat) (V1 : Nat → Value), s104 = .int .i64 (k : Int) ∧ k ≤ x.length ∧ x.length - k ≤ gg ∧ Hid (St N X.length wx (.slice none 0 0) V1 (La X i k)) ∧ Hid (Below w0.heap.size w0 wx))
      case atStart => exact ⟨0, V', rfl, by omega, by omega, I1, I2⟩
      case round =>
        obtain ⟨k, V1, rfl, hk, hgk, J1, J2⟩ := hrel
        by_cases hkl : k < x.length
        · have hklz : (k : Int) < (x.length : Int) := by omega
          have hkz : (0 : Int) ≤ (k : Int) := Int.natCast_nonneg _
          obtain ⟨bx, ox, rfl, hbxl, hxc⟩ := HXR.out (by omega)
          obtain ⟨hcx0, h256⟩ := hxc k hkl
          have hcx : wr.cell? ⟨bx, ox + k, none⟩ = _ := (World.cell?_of_block (a := ⟨bx, ox + k, none⟩) (J2.out.block bx hbxl)).trans hcx0
          have hvk : x[k]? = some x[k] := List.getElem?_eq_getElem hkl
          clear hxc hcx0
          generalize x[k] = v at hcx h256 hvk
          have HVK : Hid (x[k]? = some v) := hvk
          clear hvk
          have hpc := J1.out.pcell ⟨v % 3, Nat.mod_lt _ (by omega)⟩
          simp only [enc] at hpc
          have hask := J1.out.ask i hlt
          have hsz := J1.out.size
          have l3 : N + 3 < wr.heap.size := by omega
          have l6 : N + 6 + 2 * (i % 2) < wr.heap.size := by omega
          have hll := La_len X i k x HXD.out hk
          have hv0 : (0 : Int) ≤ (v : Int) % 3 := by omega
          have hv1 : (v : Int) % 3 < 3 := by omega
          have hvz : (v : Int) < 256 := by omega
          have hvz0 : (0 : Int) ≤ (v : Int) := by omega
          have hk5 : k + 1 ≤ maxLen := by unfold maxLen; omega
          have hown := J1.out.own i hlt
          rw [hll] at hown
          obtain ⟨ov, hov⟩ : ∃ ov, ov = V1 i := ⟨_, rfl⟩
          rw [← hov] at hask hown
          have HOW : Hid (wr.ownsRow (N + 10) 24 1 ov k ((La X i k i).map (enc N))) := hown
          have HOV : Hid (ov = V1 i) := hov
          have HA3 : Hid (∀ (b : Obj) (w3 : World), ((wr.alloc b).drew).grownBy w3 ov.ownBlock → w3.cell? ⟨N + 6 + 2 * (i % 2), i / 2 * 2 + 1, none⟩ = some ov ∧ w3.frozen? ⟨N + 6 + 2 * (i % 2), i / 2 * 2 + 1, none⟩ = false ∧ w3.cell? ⟨N + 3, v % 3, none⟩ = some (.pointer (some ⟨N + v % 3, 0, none⟩))) := fun b w3 hg => by
            rw [hov] at hg ⊢
            obtain ⟨q1, q2, q3⟩ := J1.out.ask3 hlt hg
            exact ⟨q1, q2, q3 ⟨v % 3, Nat.mod_lt _ (by omega)⟩⟩
          have HLL : Hid _ := hll
          have HIG : Hid (∃ i0, Yba.prog.info? 24 = some i0 ∧ i0.zero = some (.pointer none) ∧ i0.size = 1 ∧ i0.bytes = 8) := HI
          clear hov hown hll HI
          obtain ⟨i0, hi0, hz0, hz1, hz2⟩ := HIG.out
          have HHI : Hid (Yba.prog.info? 24 = some i0 ∧ i0.zero = some (.pointer none) ∧ i0.size = 1 ∧ i0.bytes = 8) := ⟨hi0, hz0, hz1, hz2⟩
          clear hi0 hz0 hz1 hz2 HIG
          go_wp2_with fail
          have hw1 : IntKind.i64.wrap (v : Int) = (v : Int) := by rw [IntKind.wrap_i64]; omega
          have hw2 : Int.tmod (v : Int) 3 = (v : Int) % 3 := Int.tmod_eq_emod_of_nonneg hvz0
          have hw3 : IntKind.i64.wrap ((v : Int) % 3) = (v : Int) % 3 := by rw [IntKind.wrap_i64]; omega
          have hw4 : ((v : Int) % 3).toNat = v % 3 := by omega
          go_region_law ((refine step_append_lies _ (by rfl) _ _ _ (by rfl) (N + 10) 24 i0 _ 1 8 Yba.underlying56 HHI.out.1 HHI.out.2.1 HHI.out.2.2.1 HHI.out.2.2.2 rfl (by omega) ov k _ (by rfl) ((HOW.out.alloc _).drew) ⟨wr.heap.size, 0, none⟩ 1 1 [.pointer (some ⟨N + v % 3, 0, none⟩)] (by rfl) (by rfl) (World.news_of_block (cs := #[.pointer (some ⟨N + v % 3, 0, none⟩)]) (t := 24) (fr := (0, 0)) (heap_alloc_new wr _)) (by simp [Value.oneCell']) (by omega) hk5 (by omega) (by simp; omega) (wr.heap.size + 1) (by simp) ?_; intro g cap w3 hown3 hgrow3 hat3 hlt3; have hc3 := (HA3.out _ _ hgrow3).1; have hf3 := (HA3.out _ _ hgrow3).2.1))
          all_goals
            have hg3 : ((wr.alloc (.cells #[.pointer (some ⟨N + v % 3, 0, none⟩)] 24)).drew).grownBy w3 (V1 i).ownBlock := by rw [← HOV.out]; exact hgrow3
            have hat4 : (V1 i).ownBlock = some g ∨ g = wr.heap.size + 1 := by rw [← HOV.out]; exact hat3
            have hfin := J1.out.append (x := some ⟨v % 3, Nat.mod_lt _ (by omega)⟩) (v' := .slice (some ⟨g, 0, none⟩) (k + 1) cap) hlt hg3 (by rw [HLL.out]) (by rw [HLL.out]; exact hown3) hat4
            rw [← La_succ X i k x HXD.out v HVK.out] at hfin
            have HF : Hid (St N X.length (w3.setCell ⟨N + 6 + 2 * (i % 2), i / 2 * 2 + 1, none⟩ (.slice (some ⟨g, 0, none⟩) (k + 1) cap)) (.slice none 0 0) (fun j => if j = i then .slice (some ⟨g, 0, none⟩) (k + 1) cap else V1 j) (La X i (k + 1))) := hfin.1
            have HG : Hid (Below w0.heap.size w0 (w3.setCell ⟨N + 6 + 2 * (i % 2), i / 2 * 2 + 1, none⟩ (.slice (some ⟨g, 0, none⟩) (k + 1) cap))) := by
              refine J2.out.trans ⟨hfin.2.os, hfin.2.tape, hfin.2.output, hfin.2.size, fun q hq => hfin.2.block q (by have := HN.out; omega) (fun e => ?_)⟩
              have hNN := HN.out
              rcases e with e | e
              · omega
              · have := (J1.out.own i hlt).lt q e; omega
            clear hfin hg3 hat4 hown3 hgrow3 hat3 hc3 hf3 hask hpc hcx
            go_wp2
            go_roundg (x.length - (k + 1))
            case measure => omega
            case rel => exact ⟨k + 1, _, by go_num, by omega, Nat.le_refl _, HF, HG⟩
        · obtain rfl : k = x.length := by omega
          have hkz : ¬ (x.length : Int) < (x.length : Int) := by omega
          have J3 : Hid (St N X.length wr (.slice none 0 0) V1 (La X (i + 1) 0)) := by rw [← La_next X i x HXD.out]; exact J1
          go_wp2
          go_roundg (X.length - (i + 1))
          case measure => omega
          case rel => exact ⟨i + 1, V1, by go_num, by omega, Nat.le_refl _, J3, J2⟩
    · obtain rfl : i = X.length := by omega
      have hltz : ¬ (X.length : Int) < (X.length : Int) := by omega
      go_upto_region 26 with fail
      rename_i hK26
      exact tail26 w0 _ hK26 N c0 c1 m0 m1 a0 a1 X Y V' (La X X.length 0) wr I1.out (fun i hi => by unfold La; rw [if_neg (by omega), if_pos hi]; simp [List.getD, hi]) HY.out HXB.out HN.out hn hy HM.out M0.out M1.out I2.out _ _ _ _ _ _ _ _ _ _ _ _ _ _ _ _ _ _ _ _ _ _ _ _ _ _ _ _ _ _ _ _ _ _ _ _ _ _ _ _ _ _ _ _ _ _ _ _ _ _ _ _ _ _ _ _ _ _ _ _ _ _ _ _ _ _ _ _ _ _ _ _ _ _ _ _ _ _ _ _ _ _ _ _ _ _ _ _ _ _ _ _ _ _ _ _ _ _ _ _ _ _ _ _ _ _ _ _ _ _ _ _ _ _ _ _ _ _ _ _ _ _ _ _ _ _ _ _ _ _ _ _ _ _ _ _ _ _ _ _ _ _ _ _ _ _ _ _ _ _ _ _ _ _ _ _ _ _ _ _ _ _ _ _ _ _ _ _ _ _ _ _ _ _ _ _ _ _ _ _ _ _ _ _ _ _ _ _ _ _ _ _ _ _ _ _ _ _ _ _ _ _ _ _ _ _ _ _ _ _ _ _ _ _ _ _ _ _ _ _ _ _ _ _ _ _ _ _ _ _ _ _ _ _ _ _ _ _ _ _ _ _ _ _ _ _ _ _ _ _ _ _ _ _ _ _ _ _ _ _ _ _ _ _ _ _ _ _ _ _

end Go.Proofs.Ybulkuo
