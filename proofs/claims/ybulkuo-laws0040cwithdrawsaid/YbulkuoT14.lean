/-
  The two pieces are laid.
-/
import Derived.Test.YbulkuoT16
namespace Go.Proofs.Ybulkuo
open Go.Shelf Go.RowKit Go.Lib Go.Sort

theorem info92 : (Yba.prog.info? 92).map (fun i => (i.zero, i.size, i.bytes)) = some (some (.agg #[.pointer none, .slice none 0 0]), 2, 32) := by kernel_rfl

/-- A piece's blocks, and the piece. -/
def blkObj (m : Nat) : Obj := .cells (madeCells #[.pointer none, .slice none 0 0] (m * 2)) 92
def pieceObj (b m : Nat) : Obj := .cells #[.pointer none, .int .i64 0, .slice none 0 0, .slice (some ⟨b, 0, none⟩) m m, .int .i64 0] 89

theorem make87 (m : Nat) (hm : m ≤ 1024) (w : World) :
    (Instr.makeSlice 87 (.int .i64 (m : Int)) (.int .i64 (m : Int))).run Yba.prog w = .ok (.slice (some ⟨w.heap.size, 0, none⟩) m m) (w.alloc (.cells (madeCells #[.pointer none, .slice none 0 0] (m * 2)) 92)) := by
  obtain ⟨i0, hi0, hz0, hz1, hz2⟩ := info_parts info92
  have := run_make (P := Yba.prog) w 87 92 i0 _ Yba.underlying87 hi0 hz0 .i64 .i64 (m : Int) (m : Int) (by omega) (by omega) (by rw [hz2]; omega) (by omega)
  rw [hz1] at this
  simpa [Value.cells] using this

/-- A new key is put. -/
theorem mapput (r : Nat) (k : Int) (v : Value) (w : World) (es : Array MapEntry) (cl : Nat) (h : w.heap[r]? = some (.map es cl)) (hf : Instr.findNow (.int .i64) (.int .i64 k) es.toList 0 = some none) :
    ∃ w', (Instr.mapUpdate 57 (.map (some r)) (.int .i64 k) v).run Yba.prog w = .ok () w' ∧ w'.heap[r]? = some (.map (es.push { key := .int .i64 k, val := v, born := cl }) (cl + 1)) ∧ Chg (fun j => j = r) w w' ∧ w'.heap.size = w.heap.size := by
  have hck : (Instr.checkKey false 10000 3 (.int .i64 k)).run Yba.prog w = .ok () w := MapKept.run_checkKey Yba.underlying3 (by simp [MapKept.IsKey]) false 9999
  have hgo := MapKept.run_getObj_map (P := Yba.prog) h
  have hfk := MapKept.run_findKey (P := Yba.prog) (w := w) Yba.underlying3 hf
  have hso := fun o => MapKept.run_setObj_map (P := Yba.prog) o h
  obtain ⟨q1, q2⟩ := MapKept.heap_set (o' := .map (es.push { key := .int .i64 k, val := v, born := cl }) (cl + 1)) h
  refine ⟨{ w with heap := w.heap.setIfInBounds r (.map (es.push { key := .int .i64 k, val := v, born := cl }) (cl + 1)) }, ?_, q1, ⟨rfl, rfl, rfl, by simp, fun j _ hj => q2 j hj⟩, by simp⟩
  simp [Instr.mapUpdate, run_underlying Yba.underlying57, hgo, hck, hfk, hso]

theorem made_at (m h : Nat) (hh : h < m) : (madeCells #[Value.pointer none, Value.slice none 0 0] (m * 2))[h * 2 + 1]? = some (.slice none 0 0) := by
  simp only [madeCells, Array.getElem?_map, Array.getElem?_range]
  rw [if_pos (by omega)]
  simp [Nat.add_mod]

/-- What stands ahead of the pieces. -/
structure Pre (N : Nat) (w : World) (es : Array MapEntry) (cl : Nat) : Prop where
  peers : Peers N w
  pcell : ∀ k : Fin 3, w.cell? ⟨N + 3, k.val, none⟩ = some (enc N (some k))
  sess : w.cell? ⟨N + 5, 24, none⟩ = some (.map (some (N + 4)))
  opn : w.cell? ⟨N, 63, none⟩ = some (.slice none 0 0)
  opf : w.frozen? ⟨N, 63, none⟩ = false
  mp : w.heap[N + 4]? = some (.map es cl)

theorem Pre.onward {N : Nat} {w w' : World} {es es' : Array MapEntry} {cl cl' : Nat} (h : Pre N w es cl) (hc : Chg (fun j => j = N + 4) w w') (hsz : N + 6 ≤ w.heap.size) (hm : w'.heap[N + 4]? = some (.map es' cl')) : Pre N w' es' cl' := by
  have cel : ∀ (b x : Nat), b < N + 6 → b ≠ N + 4 → w'.cell? ⟨b, x, none⟩ = w.cell? ⟨b, x, none⟩ := fun b x hb hne => hc.cell (a := ⟨b, x, none⟩) (by show b < _; omega) hne
  refine ⟨h.peers.of fun k hk => hc.block _ (by omega) (by omega), fun k => (cel _ _ (by omega) (by omega)).trans (h.pcell k), (cel _ _ (by omega) (by omega)).trans h.sess, (cel _ _ (by omega) (by omega)).trans h.opn, (hc.frozen (a := ⟨N, 63, none⟩) (by show N < _; omega) (by show N ≠ N + 4; omega)).trans h.opf, hm⟩

theorem st_of_pre {N n : Nat} {w : World} (X : List (List Nat)) (hX : X.length = n) (hsz : w.heap.size = N + 10) (h : Pre N w #[{ key := .int .i64 0, val := .pointer (some ⟨N + 7, 0, none⟩), born := 0 }, { key := .int .i64 1, val := .pointer (some ⟨N + 9, 0, none⟩), born := 1 }] 2)
    (h6 : w.heap[N + 6]? = some (blkObj ((n + 1) / 2))) (h7 : w.heap[N + 7]? = some (pieceObj (N + 6) ((n + 1) / 2))) (h8 : w.heap[N + 8]? = some (blkObj (n / 2))) (h9 : w.heap[N + 9]? = some (pieceObj (N + 8) (n / 2))) :
    St N X.length w (.slice none 0 0) (fun _ => .slice none 0 0) (La X 0 0) := by
  subst hX
  refine ⟨by omega, h.peers, h.pcell, h.mp, h.sess, fun r hr => ?_, h.opn, h.opf, fun i hi => ?_, fun i hi => ?_, fun i hi => ?_, fun i j _ _ _ g hg => by simp [Value.ownBlock] at hg⟩
  · have hr2 : r = 0 ∨ r = 1 := by omega
    rcases hr2 with rfl | rfl
    · simp [World.cell?, h7, pieceObj]
    · simp [World.cell?, h9, pieceObj]
  · have hr2 : i % 2 = 0 ∨ i % 2 = 1 := by omega
    rcases hr2 with e | e
    · rw [e]
      simp only [World.cell?, Nat.mul_zero, Nat.add_zero, h6, blkObj]
      simpa using made_at ((X.length + 1) / 2) (i / 2) (by omega)
    · rw [e]
      simp only [World.cell?, Nat.mul_one, h8, blkObj]
      simpa using made_at (X.length / 2) (i / 2) (by omega)
  · have hr2 : i % 2 = 0 ∨ i % 2 = 1 := by omega
    rcases hr2 with e | e
    · rw [e]
      simp [World.frozen?, h6, blkObj]
    · rw [e]
      simp [World.frozen?, h8, blkObj]
  · have : La X 0 0 i = [] := by unfold La; split <;> simp [ps]
    rw [this]
    exact World.ownsRow_nil _ _ _ _

set_option maxRecDepth 1000000 in
set_option maxHeartbeats 4000000 in
theorem tail14 (w0 : World) (K : Act → World → Prop) (hK : ∀ a w, Code.wp Yba.prog (restOf Yba.f3.body 14) (bodyPost Yba.prog Yba.f3 (Post w0)) a w → K a w)
    (N c0 c1 m0 m1 : Nat) (a0 a1 : Option Addr) (X : List (List Nat)) (Y : List Nat) (w : World)
    (hsz : w.heap.size = N + 6) (hpre : Pre N w #[] 0) (hY : Row w0 (.slice a1 Y.length c1) Y) (hXb : Rows2 w0 a0 X) (hN : w0.heap.size = N)
    (hn : X.length ≤ 512) (hy : Y.length ≤ 512) (hm : ∀ i, (h : i < X.length) → X[i].length ≤ 512) (hm0 : m0 = (X.length + 1) / 2) (hm1 : m1 = X.length / 2) (hB : Below w0.heap.size w0 w)
    (s2 s3 s4 s5 s6 s12 s13 s14 s15 s16 s17 s18 s19 s20 s21 s22 s23 s24 s25 s26 s27 s28 s29 s30 s31 s32 s33 s34 s35 s36 s37 s38 s39 s40 s41 s42 s43 s44 s45 s46 s47 s48 s49 s50 s51 s52 s53 s54 s55 s56 s57 s58 s59 s60 s61 s62 s63 s64 s65 s66 s67 s68 s69 s70 s71 s72 s73 s74 s75 s76 s77 s78 s79 s80 s81 s82 s83 s84 s85 s86 s87 s88 s89 s90 s91 s92 s93 s94 s95 s96 s97 s98 s99 s100 s101 s102 s103 s104 s105 s106 s107 s108 s109 s110 s111 s112 s113 s114 s115 s116 s117 s118 s119 s120 s121 s122 s123 s124 s125 s126 s127 s128 s129 s130 s131 s132 s133 s134 s135 s136 s137 s138 s139 s140 s141 s142 s143 s144 s145 s146 s147 s148 s149 s150 s151 s152 s153 s154 s155 s156 s157 s158 s159 s160 s161 s162 s163 s164 s165 s166 s167 s168 s169 s170 s171 s172 s173 s174 s175 s176 s177 s178 s179 s180 s181 s182 s183 s184 s185 s186 s187 s188 s189 s190 s191 s192 s193 s194 s195 s196 s197 s198 s199 s200 s201 s202 s203 s204 s205 s206 s207 s208 s209 s210 s211 s212 s213 s214 s215 s216 s217 s218 s219 s220 s221 s222 s223 s224 s225 s226 s227 s228 s229 s230 s231 s232 s233 s234 s235 s236 s237 s238 s239 s240 s241 s242 s243 s244 s245 s246 s247 s248 s249 s250 s251 s252 s253 s254 s255 s256 s257 s258 s259 s260 s261 s262 s263 s264 s265 s266 s267 s268 s269 s270 s271 s272 s273 s274 s275 s276 : Value) :
    Code.wp Yba.prog (regOf Yba.f3.body 14) (Exit.then K (bodyPost Yba.prog Yba.f3 (Post w0))) ⟨#[.slice a0 X.length c0, .slice a1 Y.length c1, s2, s3, s4, s5, s6, .slice (some ⟨N + 3, 0, none⟩) 3 3, .pointer (some ⟨N, 0, none⟩), .pointer (some ⟨N + 5, 0, none⟩), .int .i64 (m0 : Int), .int .i64 (m1 : Int), s12, s13, s14, s15, s16, s17, s18, s19, s20, s21, s22, s23, s24, s25, s26, s27, s28, s29, s30, s31, s32, s33, s34, s35, s36, s37, s38, s39, s40, s41, s42, s43, s44, s45, s46, s47, s48, s49, s50, s51, s52, s53, s54, s55, s56, s57, s58, s59, s60, s61, s62, s63, s64, s65, s66, s67, s68, s69, s70, s71, s72, s73, s74, s75, s76, s77, s78, s79, s80, s81, s82, s83, s84, s85, s86, s87, s88, s89, s90, s91, s92, s93, s94, s95, s96, s97, s98, s99, s100, s101, s102, s103, s104, s105, s106, s107, s108, s109, s110, s111, s112, s113, s114, s115, s116, s117, s118, s119, s120, s121, s122, s123, s124, s125, s126, s127, s128, s129, s130, s131, s132, s133, s134, s135, s136, s137, s138, s139, s140, s141, s142, s143, s144, s145, s146, s147, s148, s149, s150, s151, s152, s153, s154, s155, s156, s157, s158, s159, s160, s161, s162, s163, s164, s165, s166, s167, s168, s169, s170, s171, s172, s173, s174, s175, s176, s177, s178, s179, s180, s181, s182, s183, s184, s185, s186, s187, s188, s189, s190, s191, s192, s193, s194, s195, s196, s197, s198, s199, s200, s201, s202, s203, s204, s205, s206, s207, s208, s209, s210, s211, s212, s213, s214, s215, s216, s217, s218, s219, s220, s221, s222, s223, s224, s225, s226, s227, s228, s229, s230, s231, s232, s233, s234, s235, s236, s237, s238, s239, s240, s241, s242, s243, s244, s245, s246, s247, s248, s249, s250, s251, s252, s253, s254, s255, s256, s257, s258, s259, s260, s261, s262, s263, s264, s265, s266, s267, s268, s269, s270, s271, s272, s273, s274, s275, s276], []⟩ w := by
  have hmk := make87 m0 (by omega)
  have hmk1 := make87 m1 (by omega)
  have hsess := hpre.sess
  have HP : Hid (Pre N w #[] 0) := hpre
  have HM : Hid _ := hm
  have HY : Hid (Row w0 (.slice a1 Y.length c1) Y) := hY
  have HXB : Hid (Rows2 w0 a0 X) := hXb
  have HB : Hid (Below w0.heap.size w0 w) := hB
  have M0 : Hid (m0 = (X.length + 1) / 2) := hm0
  have M1 : Hid (m1 = X.length / 2) := hm1
  have HN : Hid (w0.heap.size = N) := hN
  clear hpre hY hm hm0 hm1 hB hXb hN
  have hlt5 : N + 5 < w.heap.size := by omega
  obtain ⟨W2, hrun2, hmp2, hch2, hsz2⟩ := mapput (N + 4) 0 (.pointer (some ⟨N + 6 + 1, 0, none⟩)) ((w.alloc (.cells (madeCells #[.pointer none, .slice none 0 0] (m0 * 2)) 92)).alloc (.cells #[.pointer none, .int .i64 0, .slice none 0 0, .slice (some ⟨N + 6, 0, none⟩) m0 m0, .int .i64 0] 89)).drew #[] 0
    (by show ((w.alloc _).alloc _).heap[N + 4]? = _
        rw [Below.heap_alloc _ _ _ (by simp; omega), Below.heap_alloc _ _ _ (by omega)]; exact HP.out.mp) rfl
  have hsz2' : W2.heap.size = N + 8 := by rw [hsz2]; show ((w.alloc _).alloc _).heap.size = _; simp; omega
  have cc2 : Chg (fun j => j = N + 4) w W2 := (Chg.alloc _ _ _).trans ((Chg.alloc _ _ _).trans ((Chg.drew _ _).trans hch2))
  have P2 := HP.out.onward cc2 (by omega) hmp2
  have b6 : W2.heap[N + 6]? = some (blkObj m0) := by
    rw [hch2.block _ (by show _ < ((w.alloc _).alloc _).heap.size; simp; omega) (by omega)]
    show ((w.alloc _).alloc _).heap[N + 6]? = _
    rw [Below.heap_alloc _ _ _ (by simp; omega), ← hsz]
    exact heap_alloc_new w _
  have b7 : W2.heap[N + 7]? = some (pieceObj (N + 6) m0) := by
    rw [hch2.block _ (by show _ < ((w.alloc _).alloc _).heap.size; simp; omega) (by omega)]
    show ((w.alloc _).alloc _).heap[N + 7]? = _
    have := heap_alloc_new (w.alloc (.cells (madeCells #[.pointer none, .slice none 0 0] (m0 * 2)) 92)) (.cells #[.pointer none, .int .i64 0, .slice none 0 0, .slice (some ⟨N + 6, 0, none⟩) m0 m0, .int .i64 0] 89)
    rw [show (w.alloc (.cells (madeCells #[.pointer none, .slice none 0 0] (m0 * 2)) 92)).heap.size = N + 7 by simp; omega] at this
    exact this
  have hs2 := P2.sess
  have HP2 : Hid (Pre N W2 #[{ key := .int .i64 0, val := .pointer (some ⟨N + 7, 0, none⟩), born := 0 }] 1) := P2
  have H6 : Hid (W2.heap[N + 6]? = some (blkObj m0)) := b6
  have H7 : Hid (W2.heap[N + 7]? = some (pieceObj (N + 6) m0)) := b7
  have HC2 : Hid (Chg (fun j => j = N + 4) w W2) := cc2
  clear P2 b6 b7 cc2 hch2 hmp2 hsz2
  conv at hK => ext a w; arg 1; arg 2; whnf
  conv => arg 2; whnf
  go_region_held3 (fun w' => w'.cell? ⟨N + 5, 24, none⟩ = some (.map (some (N + 4)))) (first | exact hs2 | go_keep) (fail)
  clear hrun2 hsess hsz hlt5 hmk
  go_wp2_with fail
  have hlt5 : N + 5 < W2.heap.size := by omega
  obtain ⟨W3, hrun3, hmp3, hch3, hsz3⟩ := mapput (N + 4) 1 (.pointer (some ⟨N + 8 + 1, 0, none⟩)) ((W2.alloc (.cells (madeCells #[.pointer none, .slice none 0 0] (m1 * 2)) 92)).alloc (.cells #[.pointer none, .int .i64 0, .slice none 0 0, .slice (some ⟨N + 8, 0, none⟩) m1 m1, .int .i64 0] 89)).drew #[{ key := .int .i64 0, val := .pointer (some ⟨N + 7, 0, none⟩), born := 0 }] 1
    (by show ((W2.alloc _).alloc _).heap[N + 4]? = _
        rw [Below.heap_alloc _ _ _ (by simp; omega), Below.heap_alloc _ _ _ (by omega)]; exact HP2.out.mp) (by simp [Instr.findNow, Instr.sameNow])
  have hsz3' : W3.heap.size = N + 10 := by rw [hsz3]; show ((W2.alloc _).alloc _).heap.size = _; simp; omega
  have cc3 : Chg (fun j => j = N + 4) W2 W3 := (Chg.alloc _ _ _).trans ((Chg.alloc _ _ _).trans ((Chg.drew _ _).trans hch3))
  have P3 := HP2.out.onward cc3 (by omega) hmp3
  have b8 : W3.heap[N + 8]? = some (blkObj m1) := by
    rw [hch3.block _ (by show _ < ((W2.alloc _).alloc _).heap.size; simp; omega) (by omega)]
    show ((W2.alloc _).alloc _).heap[N + 8]? = _
    rw [Below.heap_alloc _ _ _ (by simp; omega), ← hsz2']
    exact heap_alloc_new W2 _
  have b9 : W3.heap[N + 9]? = some (pieceObj (N + 8) m1) := by
    rw [hch3.block _ (by show _ < ((W2.alloc _).alloc _).heap.size; simp; omega) (by omega)]
    show ((W2.alloc _).alloc _).heap[N + 9]? = _
    have := heap_alloc_new (W2.alloc (.cells (madeCells #[.pointer none, .slice none 0 0] (m1 * 2)) 92)) (.cells #[.pointer none, .int .i64 0, .slice none 0 0, .slice (some ⟨N + 8, 0, none⟩) m1 m1, .int .i64 0] 89)
    rw [show (W2.alloc (.cells (madeCells #[.pointer none, .slice none 0 0] (m1 * 2)) 92)).heap.size = N + 9 by simp; omega] at this
    exact this
  have b6 : W3.heap[N + 6]? = some (blkObj m0) := (cc3.block _ (by omega) (by omega)).trans H6.out
  have b7 : W3.heap[N + 7]? = some (pieceObj (N + 6) m0) := (cc3.block _ (by omega) (by omega)).trans H7.out
  have hs3 := P3.sess
  have HST : Hid (St N X.length W3 (.slice none 0 0) (fun _ => .slice none 0 0) (La X 0 0)) := by
    rw [M0.out] at b6 b7
    rw [M1.out] at b8 b9
    exact st_of_pre X rfl hsz3' P3 b6 b7 b8 b9
  have HB3 : Hid (Below w0.heap.size w0 W3) := by
    have hNN := HN.out
    have c := HC2.out.trans cc3
    exact HB.out.trans ⟨c.os, c.tape, c.output, c.size, fun k hk => c.block k (by have := HB.out.size; omega) (by omega)⟩
  clear P3 b6 b7 b8 b9 cc3 hch3 hmp3 hsz3
  go_region_held3 (fun w' => w'.cell? ⟨N + 5, 24, none⟩ = some (.map (some (N + 4)))) (first | exact hs3 | go_keep) (fail)
  clear hrun3 hs2 hsz2' hlt5 hmk1 hs3
  go_upto_region 16 with fail
  rename_i K2 h2 K1 h1
  exact tail16 w0 K1 K2 h2 h1 N c0 c1 m0 m1 a0 a1 X Y (fun _ => .slice none 0 0) W3 HST.out HY.out HXB.out HN.out hn hy HM.out M0.out M1.out HB3.out _ _ _ _ _ _ _ _ _ _ _ _ _ _ _ _ _ _ _ _ _ _ _ _ _ _ _ _ _ _ _ _ _ _ _ _ _ _ _ _ _ _ _ _ _ _ _ _ _ _ _ _ _ _ _ _ _ _ _ _ _ _ _ _ _ _ _ _ _ _ _ _ _ _ _ _ _ _ _ _ _ _ _ _ _ _ _ _ _ _ _ _ _ _ _ _ _ _ _ _ _ _ _ _ _ _ _ _ _ _ _ _ _ _ _ _ _ _ _ _ _ _ _ _ _ _ _ _ _ _ _ _ _ _ _ _ _ _ _ _ _ _ _ _ _ _ _ _ _ _ _ _ _ _ _ _ _ _ _ _ _ _ _ _ _ _ _ _ _ _ _ _ _ _ _ _ _ _ _ _ _ _ _ _ _ _ _ _ _ _ _ _ _ _ _ _ _ _ _ _ _ _ _ _ _ _ _ _ _ _ _ _ _ _ _ _ _ _ _ _ _ _ _ _ _ _ _ _ _ _ _ _ _ _ _ _ _ _ _ _ _ _ _ _ _ _ _ _ _ _ _ _ _ _ _ _ _ _ _ _ _ _ _ _ _ _ _ _ _ _

end Go.Proofs.Ybulkuo
