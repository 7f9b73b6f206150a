/-
  The law: the search for the leader of a resource (block 8).
-/
import Derived.Test.YbulkddqwFill
namespace Go.Proofs.Ybulkddqw
open Go.RowKit Go.Maps Go.ChangeMaps
set_option maxRecDepth 100000 in
set_option maxHeartbeats 4000000 in
theorem search_loop (c : Code) (hc : Yba.f3.body.bind (blkCode 8) = some c) (Q : Exit → Act → World → Prop) (W : World) (n cap : Nat) (s : Option Addr) (g o : Nat) (L : Nat → Int) (frm x : Int) (hn : n ≤ 1024) (hL : Bys W s g o n L) (hfrm : 0 ≤ frm ∧ frm ≤ 255) (hx : 0 ≤ x ∧ x ≤ 255) (u0 u3 u4 u5 u6 u7 u8 u9 u10 u11 u12 u13 u14 u15 u16 u17 u18 u19 u20 u21 u22 u23 u24 u25 u26 u31 u32 u33 u34 u35 u36 u37 u38 u39 u40 u41 u42 u43 u44 u45 u46 u47 u48 u49 u50 u51 u52 u53 u54 u55 u56 u57 u58 u59 u60 u61 u62 u63 u64 u65 u66 u67 u68 u69 u70 u71 u72 u73 u74 u75 u76 u77 u78 u79 u80 u81 u82 u83 u84 u85 u86 u87 u88 u89 u90 u91 u92 u93 u94 u95 u96 u97 u98 u99 u100 u101 u102 u103 u104 u105 u106 u107 u108 u109 u110 u111 u112 u113 u114 u115 u116 u117 u118 u119 u120 u121 u122 u123 u124 u125 u126 u127 u128 u129 u130 u131 u132 u133 u134 u135 u136 u137 u138 u139 u140 u141 u142 u143 u144 u145 u146 u147 u148 u149 u150 u151 u152 u153 u154 u155 u156 u157 u158 u159 u160 u161 u162 u163 u164 u165 u166 u167 u168 u169 u170 u171 u172 u173 u174 u175 u176 u177 u178 u179 u180 u181 u182 u183 u184 u185 u186 u187 u188 u189 u190 u191 u192 u193 u194 u195 u196 u197 u198 u199 u200 u201 u202 u203 u204 u205 u206 u207 u208 u209 u210 u211 u212 u213 u214 u215 u216 u217 u218 u219 u220 u221 u222 u223 u224 u225 u226 u227 u228 u229 u230 u231 u232 u233 u234 u235 u236 u237 u238 u239 u240 u241 u242 u243 u244 u245 u246 u247 u248 u249 u250 u251 u252 u253 u254 u255 u256 u257 u258 u259 u260 u261 u262 u263 u264 u265 u266 u267 u268 u269 u270 u271 u272 u273 u274 u275 u276 u277 u278 u279 u280 u281 u282 u283 u284 u285 u286 u287 u288 : Value)
    (hnone : ldOf n L frm x = none → ∀ (v30 v31 v145 v146 v147 v148 v149 v150 v151 v152 v153 v154 v155 v156 v157 v158 v159 v160 v161 v162 v163 v164 v165 v166 v167 v168 v169 v170 : Value), Q .normal ⟨#[u0, .int .u8 frm, .slice s n cap, u3, u4, u5, u6, u7, u8, u9, u10, u11, u12, u13, u14, u15, u16, u17, u18, u19, u20, u21, u22, u23, u24, u25, u26, .int .u8 x, .int .i64 (-1), .int .u8 0, v30, v31, u32, u33, u34, u35, u36, u37, u38, u39, u40, u41, u42, u43, u44, u45, u46, u47, u48, u49, u50, u51, u52, u53, u54, u55, u56, u57, u58, u59, u60, u61, u62, u63, u64, u65, u66, u67, u68, u69, u70, u71, u72, u73, u74, u75, u76, u77, u78, u79, u80, u81, u82, u83, u84, u85, u86, u87, u88, u89, u90, u91, u92, u93, u94, u95, u96, u97, u98, u99, u100, u101, u102, u103, u104, u105, u106, u107, u108, u109, u110, u111, u112, u113, u114, u115, u116, u117, u118, u119, u120, u121, u122, u123, u124, u125, u126, u127, u128, u129, u130, u131, u132, u133, u134, u135, u136, u137, u138, u139, u140, u141, u142, u143, u144, v145, v146, v147, v148, v149, v150, v151, v152, v153, v154, v155, v156, v157, v158, v159, v160, v161, v162, v163, v164, v165, v166, v167, v168, v169, v170, u171, u172, u173, u174, u175, u176, u177, u178, u179, u180, u181, u182, u183, u184, u185, u186, u187, u188, u189, u190, u191, u192, u193, u194, u195, u196, u197, u198, u199, u200, u201, u202, u203, u204, u205, u206, u207, u208, u209, u210, u211, u212, u213, u214, u215, u216, u217, u218, u219, u220, u221, u222, u223, u224, u225, u226, u227, u228, u229, u230, u231, u232, u233, u234, u235, u236, u237, u238, u239, u240, u241, u242, u243, u244, u245, u246, u247, u248, u249, u250, u251, u252, u253, u254, u255, u256, u257, u258, u259, u260, u261, u262, u263, u264, u265, u266, u267, u268, u269, u270, u271, u272, u273, u274, u275, u276, u277, u278, u279, u280, u281, u282, u283, u284, u285, u286, u287, u288], []⟩ W)
    (hsome : ∀ p, ldOf n L frm x = some p → ∀ (v30 v31 v145 v146 v147 v148 v149 v150 v151 v152 v153 v154 v155 v156 v157 v158 v159 v160 v161 v162 v163 v164 v165 v166 v167 v168 v169 v170 : Value), Q .normal ⟨#[u0, .int .u8 frm, .slice s n cap, u3, u4, u5, u6, u7, u8, u9, u10, u11, u12, u13, u14, u15, u16, u17, u18, u19, u20, u21, u22, u23, u24, u25, u26, .int .u8 x, .int .i64 (p : Int), .int .u8 (st n L frm p), v30, v31, u32, u33, u34, u35, u36, u37, u38, u39, u40, u41, u42, u43, u44, u45, u46, u47, u48, u49, u50, u51, u52, u53, u54, u55, u56, u57, u58, u59, u60, u61, u62, u63, u64, u65, u66, u67, u68, u69, u70, u71, u72, u73, u74, u75, u76, u77, u78, u79, u80, u81, u82, u83, u84, u85, u86, u87, u88, u89, u90, u91, u92, u93, u94, u95, u96, u97, u98, u99, u100, u101, u102, u103, u104, u105, u106, u107, u108, u109, u110, u111, u112, u113, u114, u115, u116, u117, u118, u119, u120, u121, u122, u123, u124, u125, u126, u127, u128, u129, u130, u131, u132, u133, u134, u135, u136, u137, u138, u139, u140, u141, u142, u143, u144, v145, v146, v147, v148, v149, v150, v151, v152, v153, v154, v155, v156, v157, v158, v159, v160, v161, v162, v163, v164, v165, v166, v167, v168, v169, v170, u171, u172, u173, u174, u175, u176, u177, u178, u179, u180, u181, u182, u183, u184, u185, u186, u187, u188, u189, u190, u191, u192, u193, u194, u195, u196, u197, u198, u199, u200, u201, u202, u203, u204, u205, u206, u207, u208, u209, u210, u211, u212, u213, u214, u215, u216, u217, u218, u219, u220, u221, u222, u223, u224, u225, u226, u227, u228, u229, u230, u231, u232, u233, u234, u235, u236, u237, u238, u239, u240, u241, u242, u243, u244, u245, u246, u247, u248, u249, u250, u251, u252, u253, u254, u255, u256, u257, u258, u259, u260, u261, u262, u263, u264, u265, u266, u267, u268, u269, u270, u271, u272, u273, u274, u275, u276, u277, u278, u279, u280, u281, u282, u283, u284, u285, u286, u287, u288], []⟩ W) :
    c.wp Yba.prog Q ⟨#[u0, .int .u8 frm, .slice s n cap, u3, u4, u5, u6, u7, u8, u9, u10, u11, u12, u13, u14, u15, u16, u17, u18, u19, u20, u21, u22, u23, u24, u25, u26, .int .u8 x, .int .i64 (-1), .int .u8 0, .int .i64 0, u31, u32, u33, u34, u35, u36, u37, u38, u39, u40, u41, u42, u43, u44, u45, u46, u47, u48, u49, u50, u51, u52, u53, u54, u55, u56, u57, u58, u59, u60, u61, u62, u63, u64, u65, u66, u67, u68, u69, u70, u71, u72, u73, u74, u75, u76, u77, u78, u79, u80, u81, u82, u83, u84, u85, u86, u87, u88, u89, u90, u91, u92, u93, u94, u95, u96, u97, u98, u99, u100, u101, u102, u103, u104, u105, u106, u107, u108, u109, u110, u111, u112, u113, u114, u115, u116, u117, u118, u119, u120, u121, u122, u123, u124, u125, u126, u127, u128, u129, u130, u131, u132, u133, u134, u135, u136, u137, u138, u139, u140, u141, u142, u143, u144, u145, u146, u147, u148, u149, u150, u151, u152, u153, u154, u155, u156, u157, u158, u159, u160, u161, u162, u163, u164, u165, u166, u167, u168, u169, u170, u171, u172, u173, u174, u175, u176, u177, u178, u179, u180, u181, u182, u183, u184, u185, u186, u187, u188, u189, u190, u191, u192, u193, u194, u195, u196, u197, u198, u199, u200, u201, u202, u203, u204, u205, u206, u207, u208, u209, u210, u211, u212, u213, u214, u215, u216, u217, u218, u219, u220, u221, u222, u223, u224, u225, u226, u227, u228, u229, u230, u231, u232, u233, u234, u235, u236, u237, u238, u239, u240, u241, u242, u243, u244, u245, u246, u247, u248, u249, u250, u251, u252, u253, u254, u255, u256, u257, u258, u259, u260, u261, u262, u263, u264, u265, u266, u267, u268, u269, u270, u271, u272, u273, u274, u275, u276, u277, u278, u279, u280, u281, u282, u283, u284, u285, u286, u287, u288], []⟩ W := by
  obtain rfl : c = ((Yba.f3.body.bind (blkCode 8)).getD .skip) := by rw [hc]; rfl
  clear hc
  conv => arg 2; whnf
  dsimp only
  have HN : Hid _ := And.intro hnone hsome
  clear hnone hsome
  go_wp2_with fail
  go_loopw [28, 29, 30] (fun a b i wr => ∃ (k : Nat), a = .int .i64 (-1) ∧ b = .int .u8 0 ∧ i = .int .i64 k ∧ k ≤ n ∧ (∀ j, j < k → wi x (st n L frm j) (L j) = false) ∧ wr = W) (fun _ _ i _ => (n - intOf i).toNat)
  case atStart => exact ⟨0, rfl, rfl, rfl, by omega, fun j hj => by omega, rfl⟩
  case round =>
    obtain ⟨k, rfl, rfl, rfl, hkn, hno, rfl⟩ := hrel
    by_cases hk : k < n
    · obtain rfl := hL.1 (by omega)
      have e1 := hL.2.1 k hk
      have hLk := hL.2.2 k hk
      have i1 : (0 : Int) ≤ (k : Int) := by omega
      have i2 : (k : Int) < (n : Int) := by omega
      by_cases hk1 : k + 1 < n
      · have e2 := hL.2.1 (k + 1) hk1
        have i3 : (k : Int) + 1 < (n : Int) := by omega
        have i4 : (0 : Int) ≤ (k : Int) + 1 := by omega
        have hst : st n L frm k = L (k + 1) := by unfold st; rw [if_pos hk1]
        have hcall := awithin_any x (L (k + 1)) (L k) hx (hL.2.2 (k + 1) hk1) hLk wr
        cases hw : wi x (L (k + 1)) (L k) with
        | true =>
          rw [hw] at hcall
          have HA : Hid _ := And.intro hno (And.intro hw hst)
          clear hno hw hst
          go_wp2_with (go_at_call 8; refine hcall.mono ?_; rintro e w' ⟨rfl, rfl⟩; clear hcall)
          obtain ⟨hno, hw, hst⟩ := HA.out
          have := HN.out.2 k (find_first hk (by rw [hst]; exact hw) hno)
          rw [hst] at this
          exact this _ _ _ _ _ _ _ _ _ _ _ _ _ _ _ _ _ _ _ _ _ _ _ _ _ _ _ _
        | false =>
          rw [hw] at hcall
          have HA : Hid _ := And.intro hno (And.intro hw hst)
          clear hno hw hst
          go_wp2_with (go_at_call 8; refine hcall.mono ?_; rintro e w' ⟨rfl, rfl⟩; clear hcall)
          obtain ⟨hno, hw, hst⟩ := HA.out
          go_roundw
          case rel => exact ⟨k + 1, rfl, rfl, by simp, by omega, fun j hj => by
            by_cases hjk : j = k
            · subst hjk; rw [hst]; exact hw
            · exact hno j (by omega), trivial⟩
          case measure => simp [intOf]; omega
      · have i3 : ¬ (k : Int) + 1 < (n : Int) := by omega
        have hst : st n L frm k = frm := by unfold st; rw [if_neg hk1]
        have hcall := awithin_any x frm (L k) hx hfrm hLk wr
        cases hw : wi x frm (L k) with
        | true =>
          rw [hw] at hcall
          have HA : Hid _ := And.intro hno (And.intro hw hst)
          clear hno hw hst
          go_wp2_with (go_at_call 8; refine hcall.mono ?_; rintro e w' ⟨rfl, rfl⟩; clear hcall)
          obtain ⟨hno, hw, hst⟩ := HA.out
          have := HN.out.2 k (find_first hk (by rw [hst]; exact hw) hno)
          rw [hst] at this
          exact this _ _ _ _ _ _ _ _ _ _ _ _ _ _ _ _ _ _ _ _ _ _ _ _ _ _ _ _
        | false =>
          rw [hw] at hcall
          have HA : Hid _ := And.intro hno (And.intro hw hst)
          clear hno hw hst
          go_wp2_with (go_at_call 8; refine hcall.mono ?_; rintro e w' ⟨rfl, rfl⟩; clear hcall)
          obtain ⟨hno, hw, hst⟩ := HA.out
          go_roundw
          case rel => exact ⟨k + 1, rfl, rfl, by simp, by omega, fun j hj => by
            by_cases hjk : j = k
            · subst hjk; rw [hst]; exact hw
            · exact hno j (by omega), trivial⟩
          case measure => simp [intOf]; omega
    · obtain rfl : k = n := by omega
      have HA : Hid _ := hno
      clear hno
      go_wp2
      exact HN.out.1 (find_none HA.out) _ _ _ _ _ _ _ _ _ _ _ _ _ _ _ _ _ _ _ _ _ _ _ _ _ _ _ _
end Go.Proofs.Ybulkddqw
