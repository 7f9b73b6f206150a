/-
  The law: the loop over the leaders' points (block 12), and the counts behind it.
-/
import Derived.Test.YbulkddqwCompare
namespace Go.Proofs.Ybulkddqw
open Go.RowKit Go.Maps Go.ChangeMaps
/-- How many of the first k leaders' points are in use. -/
def dn (U : Nat → Bool) (k : Nat) : Nat := ((List.range k).filter U).length
theorem dn_succ (U : Nat → Bool) (k : Nat) : dn U (k + 1) = dn U k + if U k = true then 1 else 0 := by
  unfold dn
  rw [List.range_succ, List.filter_append, List.length_append]
  by_cases h : U k = true <;> simp [h]
theorem dn_le (U : Nat → Bool) (k : Nat) : dn U k ≤ k := by
  have := List.length_filter_le U (List.range k)
  simpa [dn] using this
/-- The point of the leader of r, or -1. -/
def ldV (C : Nat → List Nat) (lp : Nat → Nat) (r : Nat) : Int := if C r = [] then -1 else (lp r : Int)
theorem ldV_eq {C : Nat → List Nat} {lp : Nat → Nat} {r l : Nat} : ldV C lp r = (l : Int) ↔ C r ≠ [] ∧ lp r = l := by
  unfold ldV
  by_cases h : C r = []
  · rw [if_pos h]; constructor
    · intro e; omega
    · intro e; exact absurd h e.1
  · rw [if_neg h]; constructor
    · intro e; exact ⟨h, by omega⟩
    · intro e; rw [e.2]
theorem cnt_inner {C : Nat → List Nat} {lp : Nat → Nat} {sv : Nat → Value} (l : Nat) : cnt (fun r => if C r ≠ [] ∧ lp r = l then some (sv r) else none) = cn (ldV C lp) l 256 := by
  unfold cnt cn
  congr 1
  apply List.filter_congr
  intro r _
  dsimp only
  by_cases h : C r ≠ [] ∧ lp r = l
  · rw [if_pos h, ldV_eq.2 h]; simp
  · rw [if_neg h]
    have : ¬ ldV C lp r = (l : Int) := fun e => h (ldV_eq.1 e)
    simp [this]
theorem cnt_outer {U : Nat → Bool} {ib : Nat → Nat} : cnt (fun l => if U l = true then some (.map (some (ib l))) else none) = dn U 256 := by
  unfold cnt dn
  congr 1
  apply List.filter_congr
  intro r _
  cases h : U r <;> simp [h]
theorem cn_zero {C : Nat → List Nat} {lp : Nat → Nat} {U : Nat → Bool} {l : Nat} (h : ∀ r, r < 256 → C r ≠ [] → U (lp r) = true) (hu : U l = false) : cn (ldV C lp) l 256 = 0 := by
  unfold cn
  rw [List.length_eq_zero_iff, List.filter_eq_nil_iff]
  intro r hr e
  have e1 := ldV_eq.1 (by simpa using e : ldV C lp r = (l : Int))
  have := h r (by simpa using hr) e1.1
  rw [e1.2, hu] at this
  cases this
theorem cn_pos {C : Nat → List Nat} {lp : Nat → Nat} {l : Nat} (h : ∃ r, r < 256 ∧ C r ≠ [] ∧ lp r = l) : cn (ldV C lp) l 256 ≠ 0 := by
  obtain ⟨r, hr, h1⟩ := h
  unfold cn
  intro e
  rw [List.length_eq_zero_iff, List.filter_eq_nil_iff] at e
  exact e r (by simpa using hr) (by simp [ldV_eq.2 h1])

set_option maxRecDepth 100000 in
set_option maxHeartbeats 4000000 in
theorem leads_loop (c : Code) (hc : Yba.f3.body.bind (blkCode 12) = some c) (Q : Exit → Act → World → Prop) (W : World) (bk bl be base base2 : Nat) (ev : Nat → Value) (P : Nat → Nat) (kd : Nat → Int) (lp : Nat → Nat) (U : Nat → Bool) (C : Nat → List Nat) (ib : Nat → Nat) (sv : Nat → Value) (hbk : BK base P kd lp W bk U C ib sv)
    (hU1 : ∀ l, l < 256 → U l = true → ∃ r, r < 256 ∧ C r ≠ [] ∧ lp r = l) (hU2 : ∀ r, r < 256 → C r ≠ [] → U (lp r) = true) (hlead : ∀ r, r < 256 → W.cell? ⟨bl, r, none⟩ = some (.int .i64 (ldV C lp r))) (hexp : ∀ r, r < 256 → W.cell? ⟨be, r, none⟩ = some (ev r)) (hrow : ∀ r, r < 256 → W.ownsRow base2 54 3 (ev r) (C r).length (rowC P kd (C r))) (hlen : ∀ r, (C r).length ≤ 1024) (u0 u1 u2 u3 u4 u5 u6 u7 u8 u9 u10 u11 u12 u13 u14 u15 u16 u17 u18 u19 u20 u21 u22 u26 u27 u28 u29 u30 u31 u32 u33 u34 u37 u38 u39 u40 u41 u42 u43 u44 u45 u46 u47 u48 u49 u50 u51 u52 u53 u54 u55 u56 u57 u58 u59 u60 u61 u62 u63 u64 u65 u66 u67 u68 u69 u70 u71 u72 u73 u74 u75 u76 u77 u78 u79 u80 u81 u82 u83 u84 u85 u86 u87 u88 u89 u90 u91 u92 u93 u94 u95 u96 u97 u98 u99 u100 u101 u102 u103 u104 u105 u106 u107 u108 u109 u110 u111 u112 u113 u114 u115 u116 u117 u118 u119 u120 u121 u122 u123 u124 u125 u126 u127 u128 u129 u130 u131 u132 u133 u134 u135 u136 u137 u138 u139 u140 u141 u142 u143 u144 u145 u146 u147 u148 u149 u150 u151 u152 u153 u154 u155 u156 u157 u158 u159 u160 u161 u162 u163 u164 u165 u166 u167 u168 u169 u170 u171 u172 u173 u174 u175 u176 u177 u178 u179 u180 u181 u182 u183 u184 u185 u186 u187 u188 u189 u190 u191 u192 u193 u194 u195 u196 u197 u198 u199 u200 u201 u202 u203 u204 u205 u206 u207 u208 u209 u210 u211 u212 u213 u214 u215 u216 u217 u218 u219 u220 u221 u222 u223 u224 u225 u226 u227 u228 u229 u230 u231 u232 u233 u234 u235 u236 u237 u238 u239 u240 u241 u242 u243 u244 u245 u246 u247 u248 u249 u250 u251 u252 u253 u254 u255 u256 u257 u258 u259 u260 u261 u262 u263 u264 u265 u266 u267 u268 u269 u270 u271 u272 u273 u274 u275 u276 u277 u278 u279 u280 u281 u282 u283 u284 u285 u286 u287 u288 : Value)
    (hend : ∀ (v10 v36 v37 v38 v39 v40 v236 v237 v238 v239 v240 v241 v242 v243 v244 v245 v246 v247 v248 v249 v250 v251 v252 v253 v254 v255 v256 v257 v258 v259 v260 v261 v262 v263 v264 v265 v266 v267 v268 v269 v270 v271 v272 v273 v274 v275 v276 v277 v278 v279 v280 v281 v282 v283 v284 : Value) (W' : World), Below W.heap.size W W' → Q .normal ⟨#[u0, u1, u2, u3, u4, u5, u6, u7, u8, u9, v10, u11, u12, u13, u14, u15, u16, u17, u18, u19, u20, u21, u22, .map (some bk), .pointer (some ⟨bl, 0, none⟩), .pointer (some ⟨be, 0, none⟩), u26, u27, u28, u29, u30, u31, u32, u33, u34, .int .i64 (dn U 256 : Int), v36, v37, v38, v39, v40, u41, u42, u43, u44, u45, u46, u47, u48, u49, u50, u51, u52, u53, u54, u55, u56, u57, u58, u59, u60, u61, u62, u63, u64, u65, u66, u67, u68, u69, u70, u71, u72, u73, u74, u75, u76, u77, u78, u79, u80, u81, u82, u83, u84, u85, u86, u87, u88, u89, u90, u91, u92, u93, u94, u95, u96, u97, u98, u99, u100, u101, u102, u103, u104, u105, u106, u107, u108, u109, u110, u111, u112, u113, u114, u115, u116, u117, u118, u119, u120, u121, u122, u123, u124, u125, u126, u127, u128, u129, u130, u131, u132, u133, u134, u135, u136, u137, u138, u139, u140, u141, u142, u143, u144, u145, u146, u147, u148, u149, u150, u151, u152, u153, u154, u155, u156, u157, u158, u159, u160, u161, u162, u163, u164, u165, u166, u167, u168, u169, u170, u171, u172, u173, u174, u175, u176, u177, u178, u179, u180, u181, u182, u183, u184, u185, u186, u187, u188, u189, u190, u191, u192, u193, u194, u195, u196, u197, u198, u199, u200, u201, u202, u203, u204, u205, u206, u207, u208, u209, u210, u211, u212, u213, u214, u215, u216, u217, u218, u219, u220, u221, u222, u223, u224, u225, u226, u227, u228, u229, u230, u231, u232, u233, u234, u235, v236, v237, v238, v239, v240, v241, v242, v243, v244, v245, v246, v247, v248, v249, v250, v251, v252, v253, v254, v255, v256, v257, v258, v259, v260, v261, v262, v263, v264, v265, v266, v267, v268, v269, v270, v271, v272, v273, v274, v275, v276, v277, v278, v279, v280, v281, v282, v283, v284, u285, u286, u287, u288], []⟩ W') :
    c.wp Yba.prog Q ⟨#[u0, u1, u2, u3, u4, u5, u6, u7, u8, u9, u10, u11, u12, u13, u14, u15, u16, u17, u18, u19, u20, u21, u22, .map (some bk), .pointer (some ⟨bl, 0, none⟩), .pointer (some ⟨be, 0, none⟩), u26, u27, u28, u29, u30, u31, u32, u33, u34, .int .i64 0, .int .i64 0, u37, u38, u39, u40, u41, u42, u43, u44, u45, u46, u47, u48, u49, u50, u51, u52, u53, u54, u55, u56, u57, u58, u59, u60, u61, u62, u63, u64, u65, u66, u67, u68, u69, u70, u71, u72, u73, u74, u75, u76, u77, u78, u79, u80, u81, u82, u83, u84, u85, u86, u87, u88, u89, u90, u91, u92, u93, u94, u95, u96, u97, u98, u99, u100, u101, u102, u103, u104, u105, u106, u107, u108, u109, u110, u111, u112, u113, u114, u115, u116, u117, u118, u119, u120, u121, u122, u123, u124, u125, u126, u127, u128, u129, u130, u131, u132, u133, u134, u135, u136, u137, u138, u139, u140, u141, u142, u143, u144, u145, u146, u147, u148, u149, u150, u151, u152, u153, u154, u155, u156, u157, u158, u159, u160, u161, u162, u163, u164, u165, u166, u167, u168, u169, u170, u171, u172, u173, u174, u175, u176, u177, u178, u179, u180, u181, u182, u183, u184, u185, u186, u187, u188, u189, u190, u191, u192, u193, u194, u195, u196, u197, u198, u199, u200, u201, u202, u203, u204, u205, u206, u207, u208, u209, u210, u211, u212, u213, u214, u215, u216, u217, u218, u219, u220, u221, u222, u223, u224, u225, u226, u227, u228, u229, u230, u231, u232, u233, u234, u235, u236, u237, u238, u239, u240, u241, u242, u243, u244, u245, u246, u247, u248, u249, u250, u251, u252, u253, u254, u255, u256, u257, u258, u259, u260, u261, u262, u263, u264, u265, u266, u267, u268, u269, u270, u271, u272, u273, u274, u275, u276, u277, u278, u279, u280, u281, u282, u283, u284, u285, u286, u287, u288], []⟩ W := by
  obtain rfl : c = ((Yba.f3.body.bind (blkCode 12)).getD .skip) := by rw [hc]; rfl
  clear hc
  conv => arg 2; whnf
  dsimp only
  have HN : Hid _ := hend
  clear hend
  have HA : Hid _ := And.intro hlead (And.intro hexp (And.intro hbk (And.intro hU1 (And.intro hU2 hrow))))
  clear hlead hexp hbk hU1 hU2 hrow
  go_wp2_with fail
  go_loopw [35, 36] (fun d i wr => ∃ (k : Nat), d = .int .i64 (dn U k) ∧ i = .int .i64 k ∧ k ≤ 256 ∧ Below W.heap.size W wr) (fun _ i _ => (256 - intOf i).toNat)
  case atStart => exact ⟨0, rfl, rfl, by omega, Below.refl _ _⟩
  case round =>
    obtain ⟨k, rfl, rfl, hkn, hbel⟩ := hrel
    have HB : Hid _ := hbel
    clear hbel
    by_cases hk : k < 256
    · have i1 : (0 : Int) ≤ (k : Int) := by omega
      have i2 : (k : Int) < 256 := by omega
      have i3 := wrap_r hk
      have hd0 := dn_le U k
      have hds := dn_succ U k
      go_upto_block 14 with fail
      refine count_loop _ rfl _ wr bl k (ldV C lp) (fun r hr => cell_later HB.out (HA.out.1 r hr)) _ _ _ _ _ _ _ _ _ _ _ _ _ _ _ _ _ _ _ _ _ _ _ _ _ _ _ _ _ _ _ _ _ _ _ _ _ _ _ _ _ _ _ _ _ _ _ _ _ _ _ _ _ _ _ _ _ _ _ _ _ _ _ _ _ _ _ _ _ _ _ _ _ _ _ _ _ _ _ _ _ _ _ _ _ _ _ _ _ _ _ _ _ _ _ _ _ _ _ _ _ _ _ _ _ _ _ _ _ _ _ _ _ _ _ _ _ _ _ _ _ _ _ _ _ _ _ _ _ _ _ _ _ _ _ _ _ _ _ _ _ _ _ _ _ _ _ _ _ _ _ _ _ _ _ _ _ _ _ _ _ _ _ _ _ _ _ _ _ _ _ _ _ _ _ _ _ _ _ _ _ _ _ _ _ _ _ _ _ _ _ _ _ _ _ _ _ _ _ _ _ _ _ _ _ _ _ _ _ _ _ _ _ _ _ _ _ _ _ _ _ _ _ _ _ _ _ _ _ _ _ _ _ _ _ _ _ _ _ _ _ _ _ _ _ _ _ _ _ _ _ _ _ _ _ _ _ _ _ _ _ _ _ _ _ _ _ _ _ _ _ _ _ _ _ _ _ _ _ _ _ _ _ _ _ ?_
      intro v38 v240 v241 v242 v243 v244 v245 v246 v247 v248 v249 v250
      cases hU : U k with
      | false =>
        have hz : cn (ldV C lp) k 256 = 0 := cn_zero HA.out.2.2.2.2.1 hU
        rw [hU] at hds
        have HS : Hid _ := hds
        clear hds
        rw [hz]
        go_wp2
        go_roundw
        case rel => exact ⟨k + 1, by rw [HS.out]; simp, by simp, by omega, HB.out⟩
        case measure => simp [intOf]; omega
      | true =>
        have hz := cn_pos (HA.out.2.2.2.1 k hk hU)
        have hzb : (((cn (ldV C lp) k 256 : Nat) : Int) == 0) = false := by simp [hz]
        rw [hU] at hds
        have HS : Hid _ := hds
        clear hds hz
        have lk : ∀ W' : World, Below W.heap.size W W' → (Instr.lookup 56 (.map (some bk)) (.agg (nl 16 (idb ((k : Nat) : Int))).toArray) false).run Yba.prog W' = .ok (.map (some (ib k))) W' := fun W' hb => by
          have := (HA.out.2.2.1.outer.kept (grown_below hb) (by simp)).look ky26 Yba.underlying56 (zero34 W') hk
          rw [if_pos hU] at this
          exact this
        go_upto_region 72 with (go_at_call 6; refine (aid_any (k : Int) _).mono ?_; rintro e W6 ⟨rfl, b6⟩; unfold idv; have lk6 := lk W6 (HB.out.trans (b6.mono HB.out.size)); clear lk)
        have hb6 : Below W.heap.size W W6 := HB.out.trans (b6.mono HB.out.size)
        have hin6 := (HA.out.2.2.1.inner k hk hU).kept (grown_below hb6) (by simp)
        have ln : ∀ ty : TypeId, (Builtin.len_ #[34] ty #[.map (some (ib k))]).run Yba.prog W6 = .ok (.int .i64 (cn (ldV C lp) k 256)) W6 := fun ty => by
          have := hin6.len Yba.underlying34 ty
          rw [cnt_inner] at this
          exact this
        have H6 : Hid _ := And.intro hb6 hin6
        clear hb6 hin6 lk6 b6
        go_upto_block 16 with fail
        clear ln
        obtain ⟨hb6, hin6⟩ := H6.out
        refine compare_loop _ rfl _ W6 bl be (ib k) k base base2 (ldV C lp) ev (fun r => if C r ≠ [] ∧ lp r = k then some (sv r) else none) C P kd (fun r hr => cell_later hb6 (HA.out.1 r hr)) (fun r hr => cell_later hb6 (HA.out.2.1 r hr)) hin6 (fun r hr he => ⟨sv r, by rw [if_pos (ldV_eq.1 he)], ?_⟩) (fun r hr => (HA.out.2.2.2.2.2 r hr).kept (grown_below hb6) (by cases Value.ownBlock _ <;> simp)) hlen _ _ _ _ _ _ _ _ _ _ _ _ _ _ _ _ _ _ _ _ _ _ _ _ _ _ _ _ _ _ _ _ _ _ _ _ _ _ _ _ _ _ _ _ _ _ _ _ _ _ _ _ _ _ _ _ _ _ _ _ _ _ _ _ _ _ _ _ _ _ _ _ _ _ _ _ _ _ _ _ _ _ _ _ _ _ _ _ _ _ _ _ _ _ _ _ _ _ _ _ _ _ _ _ _ _ _ _ _ _ _ _ _ _ _ _ _ _ _ _ _ _ _ _ _ _ _ _ _ _ _ _ _ _ _ _ _ _ _ _ _ _ _ _ _ _ _ _ _ _ _ _ _ _ _ _ _ _ _ _ _ _ _ _ _ _ _ _ _ _ _ _ _ _ _ _ _ _ _ _ _ _ _ _ _ _ _ _ _ _ _ _ _ _ _ _ _ _ _ _ _ _ _ _ _ _ _ _ _ _ _ _ _ _ _ _ _ _ _ _ _ _ _ _ _ _ _ _ _ _ _ _ _ _ _ _ _ _ _ _ _ _ _ _ _ _ _ _ _ _ _ _ _ _ _ _ _ _ _ _ _ _ _ _ _ _ _ _ _ _ _ _ _ _ _ _ _ _ _ _ _ _ _ _ ?_
        · have h1 := HA.out.2.2.1.rows r hr
          unfold slOf at h1
          rw [if_neg (ldV_eq.1 he).1] at h1
          exact h1.kept (grown_below hb6) (by cases Value.ownBlock _ <;> simp)
        · intro v10 v40 v264 v265 v266 v267 v268 v269 v270 v271 v272 v273 v274 v275 v276 v277 v278 v279 v280 v281 v282 v283 v284 W7 b7
          have hb7 : Below W.heap.size W W7 := hb6.trans (b7.mono hb6.size)
          have H7 : Hid _ := hb7
          clear hb6 hin6 hb7 b7 H6
          go_wp2
          go_roundw
          case rel => exact ⟨k + 1, by rw [HS.out]; simp, by simp, by omega, H7.out⟩
          case measure => simp [intOf]; omega
    · obtain rfl : k = 256 := by omega
      go_wp2
      exact HN.out _ _ _ _ _ _ _ _ _ _ _ _ _ _ _ _ _ _ _ _ _ _ _ _ _ _ _ _ _ _ _ _ _ _ _ _ _ _ _ _ _ _ _ _ _ _ _ _ _ _ _ _ _ _ _ _ HB.out
end Go.Proofs.Ybulkddqw
