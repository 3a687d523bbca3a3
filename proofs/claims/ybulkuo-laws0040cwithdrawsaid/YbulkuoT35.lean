/-
  The law's end: the call of withdrawAllLocked, the counts and the lists looked over.
-/
import Derived.Test.YbulkuoCut
namespace Go.Proofs.Ybulkuo
open Go.Shelf Go.RowKit Go.Lib Go.Sort

theorem neq_nil (w : World) : (binOp .neq 50 (.slice none 0 0) (.slice none 0 0)).run Yba.prog w = .ok (.bool false) w := by
  have h : ∀ d : Nat, (Op.equalIn (d + 1) 50 (.slice none 0 0) (.slice none 0 0)).run Yba.prog w = .ok true w := fun d => by
    simp [Op.equalIn, run_underlying Yba.underlying50]
  simp only [binOp]
  simp [Op.equal, Op.maxDepth, h 9999]

theorem look_mod (N i : Nat) (w : World) (h : w.heap[N + 4]? = some (mapObj N)) :
    (Instr.lookup 57 (.map (some (N + 4))) (.int .i64 ((i : Int) % 2)) false).run Yba.prog w = .ok (.pointer (some ⟨N + 7 + 2 * (i % 2), 0, none⟩)) w := by
  rw [show ((i : Int) % 2) = ((i % 2 : Nat) : Int) by omega]
  exact look N (i % 2) w (Nat.mod_lt _ (by omega)) h

theorem neq_same (a : Addr) (w : World) : (binOp .neq 24 (.pointer (some a)) (.pointer (some a))).run Yba.prog w = .ok (.bool false) w := by
  obtain ⟨j0, hj0, hs0⟩ := info55
  have h : ∀ d : Nat, (Op.equalIn (d + 1) 24 (.pointer (some a)) (.pointer (some a))).run Yba.prog w = .ok true w := fun d => by
    simp [Op.equalIn, run_underlying Yba.underlying24, Go.sizeOf, typeInfo, hj0, run_sameAddr_same]
  simp only [binOp]
  simp [Op.equal, Op.maxDepth, h 9999]

/-- What a slice that owns a list looks like. -/
theorem owns_view {N base : Nat} {v : Value} {l : List (Option (Fin 3))} {w : World} (h : w.ownsRow base 24 1 v l.length (l.map (enc N))) :
    ∃ a cap, v = .slice a l.length cap ∧ ∀ j, (hj : j < l.length) → ∃ g, a = some ⟨g, 0, none⟩ ∧ w.cell? ⟨g, j, none⟩ = some (enc N l[j]) := by
  rcases h.2 with ⟨e, hz⟩ | ⟨g, cap, cur, e, hb, hg, hn, hm, hs, ht⟩
  · exact ⟨none, 0, by rw [hz]; exact e, fun j hj => by omega⟩
  · refine ⟨_, cap, e, fun j hj => ⟨g, rfl, ?_⟩⟩
    subst e
    have := ((holds_of_owns h).2.2 j (by simpa using hj)).1
    simpa [hj] using this

set_option maxRecDepth 1000000 in
set_option maxHeartbeats 4000000 in
theorem tail35 (w0 : World) (K : Act → World → Prop) (hK : ∀ a w, Code.wp Yba.prog (restOf Yba.f3.body 35) (bodyPost Yba.prog Yba.f3 (Post w0)) a w → K a w)
    (N n1 c0 c1 m0 m1 tb : Nat) (a0 a1 : Option Addr) (X : List (List Nat)) (V : Nat → Value) (T : Nat → Bool) (L : Nat → List (Option (Fin 3))) (w : World)
    (hcall : Calls Yba.prog 4 #[.pointer (some ⟨N + 5, 0, none⟩), .pointer (some ⟨N, 0, none⟩)] w fun e w' => e = .returned noResult ∧
      ∃ V', St N X.length w' (.slice none 0 0) V' L ∧ (∀ i, i < X.length → (V' i).ownBlock = (V i).ownBlock) ∧ Chg (Own N X.length V) w w')
    (hL : ∀ i, (h : i < X.length) → L i = stay (T i) X[i]) (hT : ∀ i, i < X.length → w.cell? ⟨tb, i, none⟩ = some (.bool (T i))) (htb : ¬ Own N X.length V tb) (htl : tb < w.heap.size)
    (hV : ∀ k, Own N X.length V k → w0.heap.size ≤ k) (hw0 : w0.heap.size ≤ w.heap.size) (hXb : Rows2 w0 a0 X)
    (hn : X.length ≤ 512) (hm : ∀ i, (h : i < X.length) → X[i].length ≤ 512) (hm0 : m0 = (X.length + 1) / 2) (hm1 : m1 = X.length / 2) (hB : Below w0.heap.size w0 w)
    (s2 s3 s4 s5 s6 s12 s13 s14 s15 s16 s18 s19 s20 s21 s22 s23 s24 s25 s26 s27 s28 s29 s30 s31 s32 s33 s34 s35 s36 s37 s38 s39 s40 s41 s42 s43 s44 s45 s46 s47 s48 s49 s50 s51 s52 s53 s54 s55 s56 s57 s58 s59 s60 s61 s62 s63 s64 s65 s66 s67 s68 s69 s70 s71 s72 s73 s74 s75 s76 s77 s78 s79 s80 s81 s82 s83 s84 s85 s86 s87 s88 s89 s90 s91 s92 s93 s94 s95 s96 s97 s98 s99 s100 s101 s102 s103 s104 s105 s106 s107 s108 s109 s110 s111 s112 s113 s114 s115 s116 s117 s118 s119 s120 s121 s122 s123 s124 s125 s126 s127 s128 s129 s130 s131 s132 s133 s134 s135 s136 s137 s138 s139 s140 s141 s142 s143 s144 s145 s146 s147 s148 s149 s150 s151 s152 s153 s154 s155 s156 s157 s158 s159 s160 s161 s162 s163 s164 s165 s166 s167 s168 s169 s170 s171 s172 s173 s174 s175 s176 s177 s178 s179 s180 s181 s182 s183 s184 s185 s186 s187 s188 s189 s190 s191 s192 s193 s194 s195 s196 s197 s198 s199 s200 s201 s202 s203 s204 s205 s206 s207 s208 s209 s210 s211 s212 s213 s214 s215 s216 s217 s218 s219 s220 s221 s222 s223 s224 s225 s226 s227 s228 s229 s230 s231 s232 s233 s234 s235 s236 s237 s238 s239 s240 s241 s242 s243 s244 s245 s246 s247 s248 s249 s250 s251 s252 s253 s254 s255 s256 s257 s258 s259 s260 s261 s262 s263 s264 s265 s266 s267 s268 s269 s270 s271 s272 s273 s274 s275 s276 : Value) :
    Code.wp Yba.prog (regOf Yba.f3.body 35) (Exit.then K (bodyPost Yba.prog Yba.f3 (Post w0))) ⟨#[.slice a0 X.length c0, .slice a1 n1 c1, s2, s3, s4, s5, s6, .slice (some ⟨N + 3, 0, none⟩) 3 3, .pointer (some ⟨N, 0, none⟩), .pointer (some ⟨N + 5, 0, none⟩), .int .i64 (m0 : Int), .int .i64 (m1 : Int), s12, s13, s14, s15, s16, .slice (some ⟨tb, 0, none⟩) X.length X.length, s18, s19, s20, s21, s22, s23, s24, s25, s26, s27, s28, s29, s30, s31, s32, s33, s34, s35, s36, s37, s38, s39, s40, s41, s42, s43, s44, s45, s46, s47, s48, s49, s50, s51, s52, s53, s54, s55, s56, s57, s58, s59, s60, s61, s62, s63, s64, s65, s66, s67, s68, s69, s70, s71, s72, s73, s74, s75, s76, s77, s78, s79, s80, s81, s82, s83, s84, s85, s86, s87, s88, s89, s90, s91, s92, s93, s94, s95, s96, s97, s98, s99, s100, s101, s102, s103, s104, s105, s106, s107, s108, s109, s110, s111, s112, s113, s114, s115, s116, s117, s118, s119, s120, s121, s122, s123, s124, s125, s126, s127, s128, s129, s130, s131, s132, s133, s134, s135, s136, s137, s138, s139, s140, s141, s142, s143, s144, s145, s146, s147, s148, s149, s150, s151, s152, s153, s154, s155, s156, s157, s158, s159, s160, s161, s162, s163, s164, s165, s166, s167, s168, s169, s170, s171, s172, s173, s174, s175, s176, s177, s178, s179, s180, s181, s182, s183, s184, s185, s186, s187, s188, s189, s190, s191, s192, s193, s194, s195, s196, s197, s198, s199, s200, s201, s202, s203, s204, s205, s206, s207, s208, s209, s210, s211, s212, s213, s214, s215, s216, s217, s218, s219, s220, s221, s222, s223, s224, s225, s226, s227, s228, s229, s230, s231, s232, s233, s234, s235, s236, s237, s238, s239, s240, s241, s242, s243, s244, s245, s246, s247, s248, s249, s250, s251, s252, s253, s254, s255, s256, s257, s258, s259, s260, s261, s262, s263, s264, s265, s266, s267, s268, s269, s270, s271, s272, s273, s274, s275, s276], []⟩ w := by
  have HL : Hid _ := hL
  have HT : Hid _ := hT
  have HM : Hid _ := hm
  have HV : Hid _ := hV
  have HTB : Hid (¬ Own N X.length V tb) := htb
  have HXB : Hid (Rows2 w0 a0 X) := hXb
  have HB : Hid (Below w0.heap.size w0 w) := hB
  have M0 : Hid (m0 = (X.length + 1) / 2) := hm0
  have M1 : Hid (m1 = X.length / 2) := hm1
  clear hL hT hm hm0 hm1 hB hV htb hXb
  conv at hK => ext a w; arg 1; arg 2; whnf
  conv => arg 2; whnf
  go_wp2_with fail
  refine Calls.mono hcall ?_
  rintro e w1 ⟨rfl, V', hS, hVV, hch⟩
  have HS : Hid (St N X.length w1 (.slice none 0 0) V' L) := hS
  have hT1 : Hid (∀ i, i < X.length → w1.cell? ⟨tb, i, none⟩ = some (.bool (T i))) := fun i hi => (hch.cell (a := ⟨tb, i, none⟩) htl HTB.out).trans (HT.out i hi)
  have hB1 : Hid (Below w0.heap.size w0 w1) := HB.out.trans ⟨hch.os, hch.tape, hch.output, hch.size, fun k hk => hch.block k (by omega) (fun e => by have := HV.out k e; omega)⟩
  have hX1 : Hid (Rows2 w1 a0 X) := HXB.out.later hB1.out
  have e1 := hS.sess
  have e2 := hS.opn
  have e3 := hS.mp
  have k0 : (Instr.lookup 57 (.map (some (N + 4))) (.int .i64 0) false).run Yba.prog w1 = .ok (.pointer (some ⟨N + 7, 0, none⟩)) w1 := look N 0 w1 (by omega) hS.mp
  have k1 : (Instr.lookup 57 (.map (some (N + 4))) (.int .i64 1) false).run Yba.prog w1 = .ok (.pointer (some ⟨N + 9, 0, none⟩)) w1 := look N 1 w1 (by omega) hS.mp
  have a0' : w1.cell? ⟨N + 7, 3, none⟩ = some (.slice (some ⟨N + 6, 0, none⟩) m0 m0) := by rw [M0.out]; exact hS.ap 0 (by omega)
  have a1' : w1.cell? ⟨N + 9, 3, none⟩ = some (.slice (some ⟨N + 8, 0, none⟩) m1 m1) := by rw [M1.out]; exact hS.ap 1 (by omega)
  have hneq := neq_nil w1
  have hlen : (Builtin.len_ #[57] 3 #[.map (some (N + 4))]).run Yba.prog w1 = .ok (.int .i64 2) w1 := by
    have hgo := MapKept.run_getObj_map (P := Yba.prog) (show w1.heap[N + 4]? = some (.map _ _) from hS.mp)
    simp [Builtin.len_, run_underlying Yba.underlying57, hgo, goInt]
  clear hS hVV hch hcall e3 HT HTB HV HB HXB
  go_wp2_with fail
  clear hneq hlen k0 k1 a0' a1' e2
  go_loopg [216] X.length (fun gg s216 wr => ∃ i : Nat, s216 = .int .i64 (i : Int) ∧ i ≤ X.length ∧ X.length - i ≤ gg ∧ wr = w1)
  case atStart => exact ⟨0, rfl, by omega, by omega, rfl⟩
  case round =>
    obtain ⟨i, rfl, hi, hgg, rfl⟩ := hrel
    by_cases hlt : i < X.length
    · have hltz : (i : Int) < (X.length : Int) := by omega
      have hiz : (0 : Int) ≤ (i : Int) := Int.natCast_nonneg _
      obtain ⟨b, o, rfl, hbl, hrow⟩ := hX1.out (by omega)
      obtain ⟨v, hcv, av, cv, rfl, hx⟩ := hrow i hlt
      have HXR : Hid _ := hx
      clear hrow hx
      have hti := hT1.out i hlt
      have hask := HS.out.ask i hlt
      have hown := HS.out.own i hlt
      have HO : Hid _ := hown
      clear hown
      have hlk := look_mod N i _ HS.out.mp
      have hap := HS.out.ap (i % 2) (Nat.mod_lt _ (by omega))
      obtain ⟨m, hm⟩ : ∃ m, m = (X.length + 1 - i % 2) / 2 := ⟨_, rfl⟩
      rw [← hm] at hap
      have hi0 : (0 : Int) ≤ (i : Int) / 2 := by omega
      have hi1 : (i : Int) / 2 < (m : Int) := by omega
      have hi2 : i / 2 < m := by omega
      clear hm
      generalize hg : V' i = vi at hask HO
      have VG : Hid (V' i = vi) := hg
      clear hg
      obtain ⟨ga, cap, rfl, hgc⟩ := owns_view HO.out
      have HG : Hid _ := hgc
      clear hgc
      have hLi := HL.out i hlt
      have hml := HM.out i hlt
      obtain ⟨x, hxx⟩ : ∃ x, x = X[i] := ⟨_, rfl⟩
      obtain ⟨l, hll⟩ : ∃ l, l = L i := ⟨_, rfl⟩
      obtain ⟨t, htt⟩ : ∃ t, t = T i := ⟨_, rfl⟩
      rw [← hll, ← htt, ← hxx] at hLi
      rw [← htt] at hti
      rw [← hll] at HG hask
      rw [← hxx] at HXR hcv hml
      have HLI : Hid (l = stay t x) := hLi
      have hPs := HS.out.peers
      have HPs : Hid (Peers N wr) := hPs
      clear hLi hxx hll htt HO hPs
      have hk0 : (stay t (x.take 0)).length = 0 := by simp [stay, ps, out]
      go_wp2_with fail
      go_loopg [24, 238] x.length (fun gg s24 s238 wx => ∃ k : Nat, s238 = .int .i64 (k : Int) ∧ s24 = .int .i64 ((stay t (x.take k)).length : Int) ∧ k ≤ x.length ∧ x.length - k ≤ gg ∧ wx = wr)
      case atStart => exact ⟨0, rfl, by rw [hk0]; rfl, by omega, by omega, rfl⟩
      case round =>
        obtain ⟨k, rfl, rfl, hk, hgk, rfl⟩ := hrel
        by_cases hkl : k < x.length
        · have hklz : (k : Int) < (x.length : Int) := by omega
          have hkz : (0 : Int) ≤ (k : Int) := Int.natCast_nonneg _
          obtain ⟨bx, ox, rfl, hbxl, hxc⟩ := HXR.out (by omega)
          obtain ⟨hcx, h256⟩ := hxc k hkl
          have hsucc := stay_take_succ t x k hkl
          have hat := stay_at t x k hkl
          have hlj : (stay t (x.take k)).length ≤ x.length := by
            unfold stay ps out
            split
            · refine Nat.le_trans (List.length_filter_le _ _) ?_
              simp; omega
            · simp; omega
          generalize x[k] = v at hcx h256 hsucc hat
          have hpc := HS.out.pcell ⟨v % 3, Nat.mod_lt _ (by omega)⟩
          simp only [enc] at hpc
          have hv0 : (0 : Int) ≤ (v : Int) % 3 := by omega
          have hv1 : (v : Int) % 3 < 3 := by omega
          have hvz : (v : Int) < 256 := by omega
          have hvz0 : (0 : Int) ≤ (v : Int) := by omega
          have hat' : (t && (v % 3 == 0)) = false → ∃ g, ga = some ⟨g, 0, none⟩ ∧ wr.cell? ⟨g, (stay t (x.take k)).length, none⟩ = some (.pointer (some ⟨N + v % 3, 0, none⟩)) ∧ (stay t (x.take k)).length < l.length := fun hf => by
            obtain ⟨h1, h2⟩ := hat hf
            rw [← HLI.out] at h1 h2
            obtain ⟨g, eg, hc⟩ := HG.out _ h1
            refine ⟨g, eg, ?_, h1⟩
            rw [hc]
            have := List.getElem?_eq_some_iff.1 h2
            rw [this.2]
            rfl
          have HAT : Hid _ := hat'
          have HSU : Hid _ := hsucc
          clear hat hat' hsucc hxc
          obtain ⟨j, hj⟩ : ∃ j, j = (stay t (x.take k)).length := ⟨_, rfl⟩
          rw [← hj] at HAT hlj HSU ⊢
          clear hj
          by_cases hz : v % 3 = 0
          · cases t with
            | true =>
              have heq : (binOp .eql 24 (.pointer (some ⟨N + v % 3, 0, none⟩)) (.pointer (some ⟨N, 0, none⟩))).run Yba.prog wr = .ok (.bool true) wr := by
                rw [hz]; exact eq_ptr N (some 0) (some 0) wr HPs.out
              have HZ : Hid (v % 3 = 0) := hz
              clear hz
              go_wp2
              go_roundg (x.length - (k + 1))
              case measure => omega
              case rel => exact ⟨k + 1, by go_num, by rw [HSU.out, HZ.out]; simp, by omega, Nat.le_refl _, rfl⟩
            | false =>
              obtain ⟨g, rfl, hgj, hjl⟩ := HAT.out (by simp)
              have hjz : (j : Int) < (l.length : Int) := by omega
              have hjz0 : (0 : Int) ≤ (j : Int) := Int.natCast_nonneg _
              have hnq := neq_same ⟨N + v % 3, 0, none⟩ wr
              clear hz
              go_wp2
              go_roundg (x.length - (k + 1))
              case measure => omega
              case rel => exact ⟨k + 1, by go_num, by rw [HSU.out]; go_num, by omega, Nat.le_refl _, rfl⟩
          · have hzb : (v % 3 == 0) = false := by simpa using hz
            obtain ⟨g, rfl, hgj, hjl⟩ := HAT.out (by rw [hzb]; simp)
            have hjz : (j : Int) < (l.length : Int) := by omega
            have hjz0 : (0 : Int) ≤ (j : Int) := Int.natCast_nonneg _
            have hnq := neq_same ⟨N + v % 3, 0, none⟩ wr
            have heq : (binOp .eql 24 (.pointer (some ⟨N + v % 3, 0, none⟩)) (.pointer (some ⟨N, 0, none⟩))).run Yba.prog wr = .ok (.bool false) wr := by
              have := eq_ptr N (some ⟨v % 3, Nat.mod_lt _ (by omega)⟩) (some 0) wr HPs.out
              rw [show ((some ⟨v % 3, Nat.mod_lt _ (by omega)⟩ : Option (Fin 3)) == some 0) = false from by
                simp only [Option.some_beq_some, beq_eq_false_iff_ne, ne_eq]
                exact fun h => hz (by simpa using congrArg Fin.val h)] at this
              exact this
            have HZ : Hid ((v % 3 == 0) = false) := hzb
            clear hz hzb
            cases t with
            | true =>
              go_wp2
              go_roundg (x.length - (k + 1))
              case measure => omega
              case rel => exact ⟨k + 1, by go_num, by rw [HSU.out, HZ.out]; go_num, by omega, Nat.le_refl _, rfl⟩
            | false =>
              go_wp2
              go_roundg (x.length - (k + 1))
              case measure => omega
              case rel => exact ⟨k + 1, by go_num, by rw [HSU.out]; go_num, by omega, Nat.le_refl _, rfl⟩
        · obtain rfl : k = x.length := by omega
          have hkz : ¬ (x.length : Int) < (x.length : Int) := by omega
          rw [List.take_length, ← HLI.out]
          go_wp2
          go_roundg (X.length - (i + 1))
          case measure => omega
          case rel => exact ⟨i + 1, by go_num, by omega, Nat.le_refl _, rfl⟩
    · obtain rfl : i = X.length := by omega
      have hltz : ¬ (X.length : Int) < (X.length : Int) := by omega
      go_wp2
      go_ret
      exact ⟨rfl, hB1.out⟩

end Go.Proofs.Ybulkuo
