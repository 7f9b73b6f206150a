/-
  The law: the loop over the resources (block 6): what is expected.
-/
import Derived.Test.YbulkddqwSearch
import Derived.Test.YbulkddqwKept
import Derived.Test.YbulkddqwLeads
namespace Go.Proofs.Ybulkddqw
open Go.RowKit Go.Maps Go.ChangeMaps
/-- An array of 256 ints; of 256 slices. -/
def ldA (f : Nat → Int) : List Value := (List.range 256).map fun r => .int .i64 (f r)
def exA (f : Nat → Value) : List Value := (List.range 256).map f
def updI (f : Nat → Int) (k : Nat) (v : Int) : Nat → Int := fun y => if y = k then v else f y
theorem get_ldA (f : Nat → Int) {k : Nat} (hk : k < 256) : (ldA f).toArray[k]? = some (.int .i64 (f k)) := by simp [ldA, hk]
theorem get_exA (f : Nat → Value) {k : Nat} (hk : k < 256) : (exA f).toArray[k]? = some (f k) := by simp [exA, hk]
theorem set_ldA (f : Nat → Int) (k : Nat) (v : Int) : (ldA f).toArray.setIfInBounds k (.int .i64 v) = (ldA (updI f k v)).toArray := by
  apply Array.ext_getElem?
  intro i
  rw [Array.getElem?_setIfInBounds]
  unfold ldA updI
  by_cases h : k = i
  · subst h
    by_cases hk : k < 256 <;> simp [hk]
  · rw [if_neg h]
    by_cases hi : i < 256 <;> simp [hi, Ne.symm h]
theorem set_exA (f : Nat → Value) (k : Nat) (v : Value) : (exA f).toArray.setIfInBounds k v = (exA (updS f k v)).toArray := by
  apply Array.ext_getElem?
  intro i
  rw [Array.getElem?_setIfInBounds]
  unfold exA updS
  by_cases h : k = i
  · subst h
    by_cases hk : k < 256 <;> simp [hk]
  · rw [if_neg h]
    by_cases hi : i < 256 <;> simp [hi, Ne.symm h]
theorem row_weaken {w : World} {base base' : Nat} {e : TypeId} {size : Nat} {v : Value} {n : Nat} {xs : List Value} (h : w.ownsRow base e size v n xs) (hb : base' ≤ base) : w.ownsRow base' e size v n xs := by
  refine ⟨h.1, ?_⟩
  rcases h.2 with h2 | ⟨g, cap, cur, h1, h2, h3⟩
  · exact .inl h2
  · exact .inr ⟨g, cap, cur, h1, by omega, h3⟩
theorem grown_setCell (w : World) (b o : Nat) (v : Value) : w.grownBy (w.setCell ⟨b, o, none⟩ v) (some b) := ⟨rfl, rfl, rfl, by simp, fun k _ hk => Below.heap_setCell _ _ _ _ (by simpa using hk)⟩
/-- The state between two rounds of the loop over the resources. -/
structure Ld (B0 base : Nat) (w0 : World) (bl be : Nat) (P : Nat → Nat) (kd : Nat → Int) (lp : Nat → Nat) (C : Nat → List Nat) (k : Nat) (ld : Nat → Int) (ev : Nat → Value) (W : World) : Prop where
  al : W.heap[bl]? = some (.cells (ldA ld).toArray 58)
  ae : W.heap[be]? = some (.cells (exA ev).toArray 59)
  done : ∀ r, r < k → ld r = ldV C lp r
  rows : ∀ r, r < k → W.ownsRow base 54 3 (ev r) (C r).length (rowC P kd (C r))
  rest : ∀ r, k ≤ r → ev r = .slice none 0 0
  bel : Below B0 w0 W
  size : base ≤ W.heap.size
section
variable {B0 base : Nat} {w0 : World} {bl be : Nat} {P : Nat → Nat} {kd : Nat → Int} {lp : Nat → Nat} {C : Nat → List Nat} {k : Nat} {ld : Nat → Int} {ev : Nat → Value} {W W' : World}
theorem Ld.later (h : Ld B0 base w0 bl be P kd lp C k ld ev W) (hB : B0 ≤ W.heap.size) (hb : Below W.heap.size W W') : Ld B0 base w0 bl be P kd lp C k ld ev W' where
  al := (hb.block _ (lt_of_heap h.al)).trans h.al
  ae := (hb.block _ (lt_of_heap h.ae)).trans h.ae
  done := h.done
  rows r hr := (h.rows r hr).kept (grown_below hb) (by cases Value.ownBlock _ <;> simp)
  rest := h.rest
  bel := h.bel.trans (hb.mono hB)
  size := Nat.le_trans h.size hb.size
theorem Ld.minus (h : Ld B0 base w0 bl be P kd lp C k ld ev W) (hB : B0 ≤ bl) (hne : bl ≠ be) (v : Int) : Ld B0 base w0 bl be P kd lp C k (updI ld k v) ev (W.setCell ⟨bl, k, none⟩ (.int .i64 v)) where
  al := set_same h.al _ (set_ldA ld k v)
  ae := (Below.heap_setCell _ _ _ _ (Ne.symm hne)).trans h.ae
  done r hr := by unfold updI; rw [if_neg (by omega)]; exact h.done r hr
  rows r hr := row_ne (h.rows r hr) (grown_setCell W bl k _) (row_not_cells (h.rows r hr) h.al (by decide))
  rest := h.rest
  bel := h.bel.setCell (p := ⟨bl, k, none⟩) hB _
  size := by simpa using h.size
theorem Ld.skip (h : Ld B0 base w0 bl be P kd lp C k ld ev W) (hl : ld k = -1) (hC : C k = []) : Ld B0 base w0 bl be P kd lp C (k + 1) ld ev W where
  al := h.al
  ae := h.ae
  done r hr := by
    by_cases hrk : r = k
    · subst hrk; rw [hl]; unfold ldV; rw [if_pos hC]
    · exact h.done r (by omega)
  rows r hr := by
    by_cases hrk : r = k
    · subst hrk; rw [h.rest r (Nat.le_refl _), hC]; exact World.ownsRow_nil W base 54 3
    · exact h.rows r (by omega)
  rest r hr := h.rest r (by omega)
  bel := h.bel
  size := h.size
theorem Ld.put (h : Ld B0 base w0 bl be P kd lp C k ld ev W) (hB : B0 ≤ bl) (hBe : B0 ≤ be) (hne : bl ≠ be) (hC : C k ≠ []) {z : Int} (hz : z = (lp k : Int)) {v : Value} (hv : W.ownsRow base 54 3 v (C k).length (rowC P kd (C k))) :
    Ld B0 base w0 bl be P kd lp C (k + 1) (updI ld k z) (updS ev k v) ((W.setCell ⟨bl, k, none⟩ (.int .i64 z)).setCell ⟨be, k, none⟩ v) := by
  have h1 := h.minus hB hne z
  have hv1 := row_ne hv (grown_setCell W bl k (.int .i64 z)) (row_not_cells hv h.al (by decide))
  have hv2 := row_ne hv1 (grown_setCell _ be k v) (row_not_cells hv1 h1.ae (by decide))
  refine ⟨(Below.heap_setCell _ _ _ _ hne).trans h1.al, set_same h1.ae _ (set_exA ev k v), fun r hr => ?_, fun r hr => ?_, fun r hr => ?_, h1.bel.setCell (p := ⟨be, k, none⟩) hBe _, by simpa using h1.size⟩
  · by_cases hrk : r = k
    · subst hrk; unfold updI ldV; rw [if_pos rfl, if_neg hC, hz]
    · exact h1.done r (by omega)
  · by_cases hrk : r = k
    · subst hrk
      have : updS ev r v r = v := by simp [updS]
      rw [this]; exact hv2
    · have : updS ev k v r = ev r := by simp [updS, hrk]
      rw [this]
      have hr1 := h1.rows r (by omega)
      exact row_ne hr1 (grown_setCell _ be k v) (row_not_cells hr1 h1.ae (by decide))
  · have : updS ev k v r = ev r := by unfold updS; rw [if_neg (by omega)]
    rw [this]; exact h1.rest r (by omega)
end

theorem wrap64 {z : Int} (h0 : 0 ≤ z) (h1 : z ≤ 255) : IntKind.i64.wrap z = z := by
  unfold IntKind.wrap
  have e1 : IntKind.i64.bits = 64 := rfl
  have e2 : IntKind.i64.signed = true := rfl
  simp only [e1, e2]
  have e3 : z % (2 ^ 64 : Int) = z := by omega
  rw [e3, if_neg (by simp; omega)]
set_option maxRecDepth 100000 in
set_option maxHeartbeats 4000000 in
theorem exp_loop (c : Code) (hc : Yba.f3.body.bind (blkCode 6) = some c) (Q : Exit → Act → World → Prop) (w0 W : World) (B0 bl be n cap np capp ne cape gv : Nat) (sl sp se : Option Addr) (gl ol gp op ge oe : Nat) (L Lp re fr : Nat → Int) (hf : Nat → Bool) (kd : Nat → Int) (P : Nat → Nat) (self frm : Int) (hself : 0 ≤ self ∧ self ≤ 255) (hfrm : 0 ≤ frm ∧ frm ≤ 255) (hn : n ≤ 1024) (hnp : np ≤ 1024) (hne1 : ne ≤ 1024)
    (hL : Bys w0 sl gl ol n L) (hLp : Bys w0 sp gp op np Lp) (hE : Ens w0 se ge oe ne re fr hf kd) (hV : Vals w0 gv ne ne P kd) (hs : w0.heap.size = B0) (hbl : B0 ≤ bl) (hbe : B0 ≤ be) (hne : bl ≠ be) (ld0 : Nat → Int) (ev0 : Nat → Value) (h0 : Ld B0 W.heap.size w0 bl be P kd (ldp n L frm) (Kp hf fr self frm n L np Lp (Vf re ne)) 0 ld0 ev0 W) (u5 u6 u7 u8 u9 u10 u11 u12 u13 u14 u15 u16 u18 u19 u20 u21 u22 u23 u27 u28 u29 u30 u31 u32 u33 u34 u35 u36 u37 u38 u39 u40 u41 u42 u43 u44 u45 u46 u47 u48 u49 u50 u51 u52 u53 u54 u55 u56 u57 u58 u59 u60 u61 u62 u63 u64 u65 u66 u67 u68 u69 u70 u71 u72 u73 u74 u75 u76 u77 u78 u79 u80 u81 u82 u83 u84 u85 u86 u87 u88 u89 u90 u91 u92 u93 u94 u95 u96 u97 u98 u99 u100 u101 u102 u103 u104 u105 u106 u107 u108 u109 u110 u111 u112 u113 u114 u115 u116 u117 u118 u119 u120 u121 u122 u123 u124 u125 u126 u127 u128 u129 u130 u131 u132 u133 u134 u135 u136 u137 u138 u139 u140 u141 u142 u143 u144 u145 u146 u147 u148 u149 u150 u151 u152 u153 u154 u155 u156 u157 u158 u159 u160 u161 u162 u163 u164 u165 u166 u167 u168 u169 u170 u171 u172 u173 u174 u175 u176 u177 u178 u179 u180 u181 u182 u183 u184 u185 u186 u187 u188 u189 u190 u191 u192 u193 u194 u195 u196 u197 u198 u199 u200 u201 u202 u203 u204 u205 u206 u207 u208 u209 u210 u211 u212 u213 u214 u215 u216 u217 u218 u219 u220 u221 u222 u223 u224 u225 u226 u227 u228 u229 u230 u231 u232 u233 u234 u235 u236 u237 u238 u239 u240 u241 u242 u243 u244 u245 u246 u247 u248 u249 u250 u251 u252 u253 u254 u255 u256 u257 u258 u259 u260 u261 u262 u263 u264 u265 u266 u267 u268 u269 u270 u271 u272 u273 u274 u275 u276 u277 u278 u279 u280 u281 u282 u283 u284 u285 u286 u287 u288 : Value)
    (hend : ∀ (v26 v27 v28 v29 v30 v31 v32 v33 v34 v137 v138 v139 v140 v141 v142 v143 v144 v145 v146 v147 v148 v149 v150 v151 v152 v153 v154 v155 v156 v157 v158 v159 v160 v161 v162 v163 v164 v165 v166 v167 v168 v169 v170 v171 v172 v173 v174 v175 v176 v177 v178 v179 v180 v181 v182 v183 v184 v185 v186 v187 v188 v189 v190 v191 v192 v193 v194 v195 v196 v197 v198 v199 v200 v201 v202 v203 v204 v205 v206 v207 v208 v209 v210 v211 v212 v213 v214 v215 v216 v217 v218 v219 v220 v221 v222 v223 v224 v225 v226 v227 v228 v229 v230 v231 v232 v233 v234 v235 : Value) (ld : Nat → Int) (ev : Nat → Value) (W' : World), Ld B0 W.heap.size w0 bl be P kd (ldp n L frm) (Kp hf fr self frm n L np Lp (Vf re ne)) 256 ld ev W' → Q .normal ⟨#[.int .u8 self, .int .u8 frm, .slice sl n cap, .slice sp np capp, .slice se ne cape, u5, u6, u7, u8, u9, u10, u11, u12, u13, u14, u15, u16, .slice (some ⟨gv, 0, none⟩) ne ne, u18, u19, u20, u21, u22, u23, .pointer (some ⟨bl, 0, none⟩), .pointer (some ⟨be, 0, none⟩), v26, v27, v28, v29, v30, v31, v32, v33, v34, u35, u36, u37, u38, u39, u40, u41, u42, u43, u44, u45, u46, u47, u48, u49, u50, u51, u52, u53, u54, u55, u56, u57, u58, u59, u60, u61, u62, u63, u64, u65, u66, u67, u68, u69, u70, u71, u72, u73, u74, u75, u76, u77, u78, u79, u80, u81, u82, u83, u84, u85, u86, u87, u88, u89, u90, u91, u92, u93, u94, u95, u96, u97, u98, u99, u100, u101, u102, u103, u104, u105, u106, u107, u108, u109, u110, u111, u112, u113, u114, u115, u116, u117, u118, u119, u120, u121, u122, u123, u124, u125, u126, u127, u128, u129, u130, u131, u132, u133, u134, u135, u136, v137, v138, v139, v140, v141, v142, v143, v144, v145, v146, v147, v148, v149, v150, v151, v152, v153, v154, v155, v156, v157, v158, v159, v160, v161, v162, v163, v164, v165, v166, v167, v168, v169, v170, v171, v172, v173, v174, v175, v176, v177, v178, v179, v180, v181, v182, v183, v184, v185, v186, v187, v188, v189, v190, v191, v192, v193, v194, v195, v196, v197, v198, v199, v200, v201, v202, v203, v204, v205, v206, v207, v208, v209, v210, v211, v212, v213, v214, v215, v216, v217, v218, v219, v220, v221, v222, v223, v224, v225, v226, v227, v228, v229, v230, v231, v232, v233, v234, v235, u236, u237, u238, u239, u240, u241, u242, u243, u244, u245, u246, u247, u248, u249, u250, u251, u252, u253, u254, u255, u256, u257, u258, u259, u260, u261, u262, u263, u264, u265, u266, u267, u268, u269, u270, u271, u272, u273, u274, u275, u276, u277, u278, u279, u280, u281, u282, u283, u284, u285, u286, u287, u288], []⟩ W') :
    c.wp Yba.prog Q ⟨#[.int .u8 self, .int .u8 frm, .slice sl n cap, .slice sp np capp, .slice se ne cape, u5, u6, u7, u8, u9, u10, u11, u12, u13, u14, u15, u16, .slice (some ⟨gv, 0, none⟩) ne ne, u18, u19, u20, u21, u22, u23, .pointer (some ⟨bl, 0, none⟩), .pointer (some ⟨be, 0, none⟩), .int .i64 0, u27, u28, u29, u30, u31, u32, u33, u34, u35, u36, u37, u38, u39, u40, u41, u42, u43, u44, u45, u46, u47, u48, u49, u50, u51, u52, u53, u54, u55, u56, u57, u58, u59, u60, u61, u62, u63, u64, u65, u66, u67, u68, u69, u70, u71, u72, u73, u74, u75, u76, u77, u78, u79, u80, u81, u82, u83, u84, u85, u86, u87, u88, u89, u90, u91, u92, u93, u94, u95, u96, u97, u98, u99, u100, u101, u102, u103, u104, u105, u106, u107, u108, u109, u110, u111, u112, u113, u114, u115, u116, u117, u118, u119, u120, u121, u122, u123, u124, u125, u126, u127, u128, u129, u130, u131, u132, u133, u134, u135, u136, u137, u138, u139, u140, u141, u142, u143, u144, u145, u146, u147, u148, u149, u150, u151, u152, u153, u154, u155, u156, u157, u158, u159, u160, u161, u162, u163, u164, u165, u166, u167, u168, u169, u170, u171, u172, u173, u174, u175, u176, u177, u178, u179, u180, u181, u182, u183, u184, u185, u186, u187, u188, u189, u190, u191, u192, u193, u194, u195, u196, u197, u198, u199, u200, u201, u202, u203, u204, u205, u206, u207, u208, u209, u210, u211, u212, u213, u214, u215, u216, u217, u218, u219, u220, u221, u222, u223, u224, u225, u226, u227, u228, u229, u230, u231, u232, u233, u234, u235, u236, u237, u238, u239, u240, u241, u242, u243, u244, u245, u246, u247, u248, u249, u250, u251, u252, u253, u254, u255, u256, u257, u258, u259, u260, u261, u262, u263, u264, u265, u266, u267, u268, u269, u270, u271, u272, u273, u274, u275, u276, u277, u278, u279, u280, u281, u282, u283, u284, u285, u286, u287, u288], []⟩ W := by
  obtain rfl : c = ((Yba.f3.body.bind (blkCode 6)).getD .skip) := by rw [hc]; rfl
  clear hc
  conv => arg 2; whnf
  dsimp only
  have HN : Hid _ := hend
  clear hend
  have HA : Hid _ := And.intro hL (And.intro hLp (And.intro hE (And.intro hV (And.intro hs hne))))
  clear hL hLp hE hV hs hne
  have hW0 := h0.bel.size
  go_wp2_with fail
  go_loopw [26] (fun i wr => ∃ (k : Nat) (ld : Nat → Int) (ev : Nat → Value), i = .int .i64 k ∧ k ≤ 256 ∧ Ld B0 W.heap.size w0 bl be P kd (ldp n L frm) (Kp hf fr self frm n L np Lp (Vf re ne)) k ld ev wr) (fun i _ => (256 - intOf i).toNat)
  case atStart => exact ⟨0, ld0, ev0, rfl, by omega, h0⟩
  case round =>
    clear h0
    obtain ⟨k, ld, ev, rfl, hkn, hLd⟩ := hrel
    by_cases hk : k < 256
    · have i1 : (0 : Int) ≤ (k : Int) := by omega
      have i2 : (k : Int) < 256 := by omega
      have i3 := wrap_r hk
      have cl := at_list hLd.al (get_ldA ld hk)
      have fl := free_of_heap hLd.al k
      have HB : Hid _ := hLd
      clear hLd
      go_upto_region 34 with fail
      clear cl fl
      refine wp_world (fun W' => Ld B0 W.heap.size w0 bl be P kd (ldp n L frm) (Kp hf fr self frm n L np Lp (Vf re ne)) k (updI ld k (-1)) ev W') (HB.out.minus hbl HA.out.2.2.2.2.2 (-1)) ?_
      clear HB
      intro W1 hL1
      have hbB : Below w0.heap.size w0 W1 := HA.out.2.2.2.2.1 ▸ hL1.bel
      have HD : Hid _ := And.intro hL1 hbB
      clear hL1 hbB
      go_upto_block 8 with fail
      refine search_loop _ rfl _ W1 n cap sl gl ol L frm (k : Int) hn (HA.out.1.later rfl HD.out.2) hfrm ⟨by omega, by omega⟩ _ _ _ _ _ _ _ _ _ _ _ _ _ _ _ _ _ _ _ _ _ _ _ _ _ _ _ _ _ _ _ _ _ _ _ _ _ _ _ _ _ _ _ _ _ _ _ _ _ _ _ _ _ _ _ _ _ _ _ _ _ _ _ _ _ _ _ _ _ _ _ _ _ _ _ _ _ _ _ _ _ _ _ _ _ _ _ _ _ _ _ _ _ _ _ _ _ _ _ _ _ _ _ _ _ _ _ _ _ _ _ _ _ _ _ _ _ _ _ _ _ _ _ _ _ _ _ _ _ _ _ _ _ _ _ _ _ _ _ _ _ _ _ _ _ _ _ _ _ _ _ _ _ _ _ _ _ _ _ _ _ _ _ _ _ _ _ _ _ _ _ _ _ _ _ _ _ _ _ _ _ _ _ _ _ _ _ _ _ _ _ _ _ _ _ _ _ _ _ _ _ _ _ _ _ _ _ _ _ _ _ _ _ _ _ _ _ _ _ _ _ _ _ _ _ _ _ _ _ _ _ _ _ _ _ _ _ _ _ _ _ _ _ _ _ _ _ _ _ _ _ _ _ _ _ _ _ _ _ _ _ _ _ _ _ _ _ _ _ _ _ _ _ _ _ _ _ _ _ _ _ _ _ ?_ ?_
      · intro hld v30 v31 v145 v146 v147 v148 v149 v150 v151 v152 v153 v154 v155 v156 v157 v158 v159 v160 v161 v162 v163 v164 v165 v166 v167 v168 v169 v170
        have hC0 : Kp hf fr self frm n L np Lp (Vf re ne) k = [] := by unfold Kp; rw [hld]
        clear hld
        have HL : Hid _ := HD.out.1.skip (by simp [updI]) hC0
        go_wp2
        go_roundw
        case rel => exact ⟨k + 1, _, _, by simp, by omega, HL.out⟩
        case measure => simp [intOf]; omega
      · intro p hld v30 v31 v145 v146 v147 v148 v149 v150 v151 v152 v153 v154 v155 v156 v157 v158 v159 v160 v161 v162 v163 v164 v165 v166 v167 v168 v169 v170
        have hpn : p < n := by have := List.mem_of_find?_eq_some hld; simpa using this
        have ip : ¬ (p : Int) < 0 := by omega
        have hst : 0 ≤ st n L frm p ∧ st n L frm p ≤ 255 := by unfold st; split <;> first | exact HA.out.1.2.2 _ (by omega) | exact hfrm
        have HP : Hid _ := And.intro hld (And.intro hpn hst)
        clear hld hpn hst
        by_cases hn0 : np = 0
        · have hb0 : (((np : Nat) : Int) == 0) = true := by simp [hn0]
          have hC0 : Kp hf fr self frm n L np Lp (Vf re ne) k = [] := by unfold Kp; rw [HP.out.1]; simp [resp, hn0]
          clear hn0
          have HL : Hid _ := HD.out.1.skip (by simp [updI]) hC0
          go_wp2
          go_roundw
          case rel => exact ⟨k + 1, _, _, by simp, by omega, HL.out⟩
          case measure => simp [intOf]; omega
        · have hb0 : (((np : Nat) : Int) == 0) = false := by simp [hn0]
          have i4 : (0 : Int) < (np : Int) := by omega
          obtain rfl := HA.out.2.1.1 (by omega)
          have ep := (HA.out.2.1.later rfl HD.out.2).2.1 0 (by omega)
          rw [Nat.add_zero] at ep
          have hcall := (awithin_any (k : Int) (Lp 0) self ⟨by omega, by omega⟩ (HA.out.2.1.2.2 0 (by omega)) hself W1).mono (fun e w' h => (⟨h.1, h.2.symm⟩ : e = .returned (.bool (wi (k : Int) (Lp 0) self)) ∧ W1 = w'))
          cases hw : wi (k : Int) (Lp 0) self with
          | true =>
            have hC0 : Kp hf fr self frm n L np Lp (Vf re ne) k = [] := by unfold Kp; rw [HP.out.1]; simp [resp, hw]
            rw [hw] at hcall
            clear hn0
            have HL : Hid _ := HD.out.1.skip (by simp [updI]) hC0
            go_wp2_with (go_at_call 8; refine hcall.mono ?_; rintro e w' ⟨rfl, rfl⟩; clear hcall)
            go_roundw
            case rel => exact ⟨k + 1, _, _, by simp, by omega, HL.out⟩
            case measure => simp [intOf]; omega
          | false =>
            have hCk : Kp hf fr self frm n L np Lp (Vf re ne) k = Kf re fr hf self (st n L frm p) k ne := by unfold Kp Kf; rw [HP.out.1]; simp [resp, hw, hn0]
            rw [hw] at hcall
            clear hn0
            have HK : Hid _ := hCk
            clear hCk
            go_upto_block 10 with (go_at_call 8; refine hcall.mono ?_; rintro e w' ⟨rfl, rfl⟩; clear hcall)
            clear ep
            refine kept_loop _ rfl _ W1 ne cape gv se ge oe re fr hf kd P self (st n L frm p) k hne1 (HA.out.2.2.1.later rfl HD.out.2) (HA.out.2.2.2.1.same (HD.out.2.block _ HA.out.2.2.2.1.lt)) hself HP.out.2.2 _ _ _ _ _ _ _ _ _ _ _ _ _ _ _ _ _ _ _ _ _ _ _ _ _ _ _ _ _ _ _ _ _ _ _ _ _ _ _ _ _ _ _ _ _ _ _ _ _ _ _ _ _ _ _ _ _ _ _ _ _ _ _ _ _ _ _ _ _ _ _ _ _ _ _ _ _ _ _ _ _ _ _ _ _ _ _ _ _ _ _ _ _ _ _ _ _ _ _ _ _ _ _ _ _ _ _ _ _ _ _ _ _ _ _ _ _ _ _ _ _ _ _ _ _ _ _ _ _ _ _ _ _ _ _ _ _ _ _ _ _ _ _ _ _ _ _ _ _ _ _ _ _ _ _ _ _ _ _ _ _ _ _ _ _ _ _ _ _ _ _ _ _ _ _ _ _ _ _ _ _ _ _ _ _ _ _ _ _ _ _ _ _ _ _ _ _ _ _ _ _ _ _ _ _ _ _ _ _ _ _ _ _ _ _ _ _ _ _ _ _ _ _ _ _ _ _ _ _ _ _ _ _ _ _ _ _ _ _ _ _ _ _ _ _ _ _ _ _ _ _ _ _ _ _ _ _ _ _ _ _ _ _ _ _ _ _ _ _ _ _ _ _ _ _ _ _ _ _ _ _ ?_
            intro v33 v34 v186 v187 v188 v189 v190 v191 v192 v193 v194 v195 v196 v197 v198 v199 v200 v201 v202 v203 v204 v205 v206 v207 v208 v209 v210 v211 v212 v213 v214 v215 v216 v217 v218 v219 v220 v221 v222 v W2 hrow2 b2
            obtain ⟨ra, rc, rfl⟩ := row_slice hrow2
            have hW1 : B0 ≤ W1.heap.size := HA.out.2.2.2.2.1 ▸ HD.out.2.size
            have hL2 := HD.out.1.later hW1 b2
            have hrw := row_weaken hrow2 HD.out.1.size
            rw [← HK.out] at hrw
            have HM : Hid _ := And.intro hL2 hrw
            have hklen := length_Kf re fr hf self (st n L frm p) k ne
            clear hrow2 hrw hW1
            by_cases hz : (Kf re fr hf self (st n L frm p) k ne).length = 0
            · have hzb : (((Kf re fr hf self (st n L frm p) k ne).length : Int) == 0) = true := by simp [hz]
              have HL : Hid _ := hL2.skip (by simp [updI]) (by rw [HK.out]; exact List.length_eq_zero_iff.1 hz)
              clear hz hL2 b2
              go_wp2
              go_roundw
              case rel => exact ⟨k + 1, _, _, by simp, by omega, HL.out⟩
              case measure => simp [intOf]; omega
            · have hzb : (((Kf re fr hf self (st n L frm p) k ne).length : Int) == 0) = false := by simp [hz]
              have hCn : Kp hf fr self frm n L np Lp (Vf re ne) k ≠ [] := by rw [HK.out]; exact fun e => hz (by rw [e]; rfl)
              have HC : Hid _ := hCn
              obtain rfl := HA.out.1.1 (by have := HP.out.2.1; omega)
              have hbB2 : Below w0.heap.size w0 W2 := HA.out.2.2.2.2.1 ▸ hL2.bel
              have el1 := (HA.out.1.later rfl hbB2).2.1 p HP.out.2.1
              obtain ⟨l0, l1⟩ := HA.out.1.2.2 p HP.out.2.1
              have i5 : (0 : Int) ≤ (p : Int) := by omega
              have i6 : (p : Int) < (n : Int) := by have := HP.out.2.1; omega
              have i7 := wrap64 l0 l1
              have cl := at_list hL2.al (get_ldA _ hk)
              have fl := free_of_heap hL2.al k
              clear hz hL2 b2 hbB2 hCn
              go_upto_region 58 with fail
              clear cl fl el1
              obtain ⟨hL2, hrw⟩ := HM.out
              have hL3 := hL2.minus hbl HA.out.2.2.2.2.2 (L p)
              have hlp : L p = ((ldp n L frm k : Nat) : Int) := by unfold ldp; rw [HP.out.1]; simp; omega
              have hL4 := hL2.put hbl hbe HA.out.2.2.2.2.2 HC.out hlp hrw
              rw [HK.out] at hL4
              refine wp_world (fun W' => W' = W2.setCell ⟨bl, k, none⟩ (.int .i64 (L p))) rfl ?_
              intro W3 hW3
              rw [← hW3] at hL3 hL4
              have ce := at_list hL3.ae (get_exA _ hk)
              have fe := free_of_heap hL3.ae k
              have HL : Hid _ := hL4
              clear hL2 hrw hL3 hL4 hW3 hlp
              go_wp2
              go_roundw
              case rel => exact ⟨k + 1, _, _, by simp, by omega, HL.out⟩
              case measure => simp [intOf]; omega
    · obtain rfl : k = 256 := by omega
      have HB : Hid _ := hLd
      clear hLd
      go_wp2
      exact HN.out _ _ _ _ _ _ _ _ _ _ _ _ _ _ _ _ _ _ _ _ _ _ _ _ _ _ _ _ _ _ _ _ _ _ _ _ _ _ _ _ _ _ _ _ _ _ _ _ _ _ _ _ _ _ _ _ _ _ _ _ _ _ _ _ _ _ _ _ _ _ _ _ _ _ _ _ _ _ _ _ _ _ _ _ _ _ _ _ _ _ _ _ _ _ _ _ _ _ _ _ _ _ _ _ _ _ _ _ _ _ _ HB.out
end Go.Proofs.Ybulkddqw
