/-
  The law: the loops over the leaders and the predecessors (blocks 0 and 2); region 25 (it draws its order): values[k] = append(values[k], vals[i]); the state between two rounds of the loop over the entries.
-/
import Derived.Test.YbulkddqwPush
namespace Go.Proofs.Ybulkddqw
open Go.RowKit Go.Maps Go.ChangeMaps
/-- The block with that number, out of a function's text. -/
def blkCode (id : Nat) : Code → Option Code
  | .block i c => if i = id then some (.block i c) else blkCode id c
  | .seq a b => match blkCode id a with
    | some c => some c
    | none => blkCode id b
  | .loop c => blkCode id c
  | .cond _ a b => match blkCode id a with
    | some c => some c
    | none => blkCode id b
  | _ => none
/-- A slice of n bytes, as a law's argument lies. -/
def Bys (w : World) (s : Option Addr) (g o n : Nat) (L : Nat → Int) : Prop := (0 < n → s = some ⟨g, o, none⟩) ∧ (∀ i, i < n → w.cell? ⟨g, o + i, none⟩ = some (.int .u8 (L i))) ∧ ∀ i, i < n → 0 ≤ L i ∧ L i ≤ 255
theorem Bys.later {w W : World} {B : Nat} {s : Option Addr} {g o n : Nat} {L : Nat → Int} (h : Bys w s g o n L) (hs : w.heap.size = B) (hb : Below B w W) : Bys W s g o n L := ⟨h.1, fun i hi => cell_later (hs ▸ hb) (h.2.1 i hi), h.2.2⟩
theorem Kept2.below {B i : Nat} {row : Option Nat} {W W' : World} (h : Kept2 W W' i row) (hB : B ≤ W.heap.size) (hi : B ≤ i) (hr : ∀ g, row = some g → B ≤ g) : Below B W W' :=
  ⟨h.os, h.tape, h.output, h.size, fun k hk => h.block k (by omega) (by omega) (fun e => by have := hr k e.symm; omega)⟩
theorem cons_of_len {n : Nat} {vs : List Value} (h : vs.length = n + 1) : ∃ v t, vs = v :: t ∧ t.length = n := by
  cases vs with
  | nil => cases h
  | cons v t => exact ⟨v, t, rfl, by simpa using h⟩
theorem row_base {w : World} {base : Nat} {e : TypeId} {size : Nat} {v : Value} {n : Nat} {xs : List Value} (h : w.ownsRow base e size v n xs) : ∀ g, v.ownBlock = some g → base ≤ g := fun g hg => (h.lt g hg).1
set_option maxRecDepth 100000 in
set_option maxHeartbeats 4000000 in
theorem leaders_loop (c : Code) (hc : Yba.f3.body.bind (blkCode 0) = some c) (Q : Exit → Act → World → Prop) (w W : World) (B bh n cap : Nat) (self frm : Int) (s : Option Addr) (g o : Nat) (L : Nat → Int) (hn : n ≤ 1024) (hL : Bys w s g o n L) (hs : w.heap.size = B) (bel : Below B w W) (hbh : B ≤ bh)
    (ab : W.heap[bh]? = some (.cells (hl self frm (.slice none 0 0)).toArray 30)) (u0 u1 u2 u3 u4 u5 u6 u7 u8 u9 u10 u12 u13 u14 u15 u16 u17 u18 u19 u20 u21 u22 u23 u24 u25 u26 u27 u28 u29 u30 u31 u32 u33 u34 u35 u36 u37 u38 u39 u40 u41 u42 u43 u44 u45 u46 u47 u48 u49 u50 u51 u52 u53 u54 u55 u56 u57 u58 u62 u63 u64 u65 u66 u67 u68 u69 u70 u71 u72 u73 u74 u75 u76 u77 u78 u79 u80 u81 u82 u83 u84 u85 u86 u87 u88 u89 u90 u91 u92 u93 u94 u95 u96 u97 u98 u99 u100 u101 u102 u103 u104 u105 u106 u107 u108 u109 u110 u111 u112 u113 u114 u115 u116 u117 u118 u119 u120 u121 u122 u123 u124 u125 u126 u127 u128 u129 u130 u131 u132 u133 u134 u135 u136 u137 u138 u139 u140 u141 u142 u143 u144 u145 u146 u147 u148 u149 u150 u151 u152 u153 u154 u155 u156 u157 u158 u159 u160 u161 u162 u163 u164 u165 u166 u167 u168 u169 u170 u171 u172 u173 u174 u175 u176 u177 u178 u179 u180 u181 u182 u183 u184 u185 u186 u187 u188 u189 u190 u191 u192 u193 u194 u195 u196 u197 u198 u199 u200 u201 u202 u203 u204 u205 u206 u207 u208 u209 u210 u211 u212 u213 u214 u215 u216 u217 u218 u219 u220 u221 u222 u223 u224 u225 u226 u227 u228 u229 u230 u231 u232 u233 u234 u235 u236 u237 u238 u239 u240 u241 u242 u243 u244 u245 u246 u247 u248 u249 u250 u251 u252 u253 u254 u255 u256 u257 u258 u259 u260 u261 u262 u263 u264 u265 u266 u267 u268 u269 u270 u271 u272 u273 u274 u275 u276 u277 u278 u279 u280 u281 u282 u283 u284 u285 u286 u287 u288 : Value)
    (hend : ∀ (v13 v61 v62 v63 v64 v65 v66 v67 v68 v69 v70 v71 v72 : Value) (v : Value) (W' : World), W'.ownsRow W.heap.size 26 21 v n (idC L n) → W'.heap[bh]? = some (.cells (hl self frm (v)).toArray 30) → (∀ k, k < W.heap.size → k ≠ bh → W'.heap[k]? = W.heap[k]?) → Below B w W' → Q .normal ⟨#[u0, u1, u2, u3, u4, u5, u6, u7, u8, u9, u10, .pointer (some ⟨bh, 0, none⟩), u12, v13, u14, u15, u16, u17, u18, u19, u20, u21, u22, u23, u24, u25, u26, u27, u28, u29, u30, u31, u32, u33, u34, u35, u36, u37, u38, u39, u40, u41, u42, u43, u44, u45, u46, u47, u48, u49, u50, u51, u52, u53, u54, u55, u56, u57, u58, .slice s n cap, .int .i64 (n : Int), v61, v62, v63, v64, v65, v66, v67, v68, v69, v70, v71, v72, u73, u74, u75, u76, u77, u78, u79, u80, u81, u82, u83, u84, u85, u86, u87, u88, u89, u90, u91, u92, u93, u94, u95, u96, u97, u98, u99, u100, u101, u102, u103, u104, u105, u106, u107, u108, u109, u110, u111, u112, u113, u114, u115, u116, u117, u118, u119, u120, u121, u122, u123, u124, u125, u126, u127, u128, u129, u130, u131, u132, u133, u134, u135, u136, u137, u138, u139, u140, u141, u142, u143, u144, u145, u146, u147, u148, u149, u150, u151, u152, u153, u154, u155, u156, u157, u158, u159, u160, u161, u162, u163, u164, u165, u166, u167, u168, u169, u170, u171, u172, u173, u174, u175, u176, u177, u178, u179, u180, u181, u182, u183, u184, u185, u186, u187, u188, u189, u190, u191, u192, u193, u194, u195, u196, u197, u198, u199, u200, u201, u202, u203, u204, u205, u206, u207, u208, u209, u210, u211, u212, u213, u214, u215, u216, u217, u218, u219, u220, u221, u222, u223, u224, u225, u226, u227, u228, u229, u230, u231, u232, u233, u234, u235, u236, u237, u238, u239, u240, u241, u242, u243, u244, u245, u246, u247, u248, u249, u250, u251, u252, u253, u254, u255, u256, u257, u258, u259, u260, u261, u262, u263, u264, u265, u266, u267, u268, u269, u270, u271, u272, u273, u274, u275, u276, u277, u278, u279, u280, u281, u282, u283, u284, u285, u286, u287, u288], []⟩ W') :
    c.wp Yba.prog Q ⟨#[u0, u1, u2, u3, u4, u5, u6, u7, u8, u9, u10, .pointer (some ⟨bh, 0, none⟩), u12, u13, u14, u15, u16, u17, u18, u19, u20, u21, u22, u23, u24, u25, u26, u27, u28, u29, u30, u31, u32, u33, u34, u35, u36, u37, u38, u39, u40, u41, u42, u43, u44, u45, u46, u47, u48, u49, u50, u51, u52, u53, u54, u55, u56, u57, u58, .slice s n cap, .int .i64 (n : Int), .int .i64 0, u62, u63, u64, u65, u66, u67, u68, u69, u70, u71, u72, u73, u74, u75, u76, u77, u78, u79, u80, u81, u82, u83, u84, u85, u86, u87, u88, u89, u90, u91, u92, u93, u94, u95, u96, u97, u98, u99, u100, u101, u102, u103, u104, u105, u106, u107, u108, u109, u110, u111, u112, u113, u114, u115, u116, u117, u118, u119, u120, u121, u122, u123, u124, u125, u126, u127, u128, u129, u130, u131, u132, u133, u134, u135, u136, u137, u138, u139, u140, u141, u142, u143, u144, u145, u146, u147, u148, u149, u150, u151, u152, u153, u154, u155, u156, u157, u158, u159, u160, u161, u162, u163, u164, u165, u166, u167, u168, u169, u170, u171, u172, u173, u174, u175, u176, u177, u178, u179, u180, u181, u182, u183, u184, u185, u186, u187, u188, u189, u190, u191, u192, u193, u194, u195, u196, u197, u198, u199, u200, u201, u202, u203, u204, u205, u206, u207, u208, u209, u210, u211, u212, u213, u214, u215, u216, u217, u218, u219, u220, u221, u222, u223, u224, u225, u226, u227, u228, u229, u230, u231, u232, u233, u234, u235, u236, u237, u238, u239, u240, u241, u242, u243, u244, u245, u246, u247, u248, u249, u250, u251, u252, u253, u254, u255, u256, u257, u258, u259, u260, u261, u262, u263, u264, u265, u266, u267, u268, u269, u270, u271, u272, u273, u274, u275, u276, u277, u278, u279, u280, u281, u282, u283, u284, u285, u286, u287, u288], []⟩ W := by
  obtain rfl : c = ((Yba.f3.body.bind (blkCode 0)).getD .skip) := by rw [hc]; rfl
  clear hc
  conv => arg 2; whnf
  dsimp only
  go_wp2_with fail
  go_loopw [61] (fun i wr => ∃ (k : Nat) (v : Value), i = .int .i64 k ∧ k ≤ n ∧ wr.ownsRow W.heap.size 26 21 v k (idC L k) ∧ wr.heap[bh]? = some (.cells (hl self frm (v)).toArray 30) ∧ (∀ k, k < W.heap.size → k ≠ bh → wr.heap[k]? = W.heap[k]?) ∧ Below B w wr ∧ W.heap.size ≤ wr.heap.size) (fun i _ => (n - intOf i).toNat)
  case atStart => exact ⟨0, .slice none 0 0, rfl, by omega, ⟨rfl, Or.inl ⟨rfl, rfl⟩⟩, ab, fun _ _ _ => rfl, bel, Nat.le_refl _⟩
  case round =>
    obtain ⟨k, v, rfl, hkn, hrow, hbox, hold, hbel, hsz⟩ := hrel
    by_cases hk : k < n
    · obtain rfl := hL.1 (by omega)
      have e1 := (hL.later hs hbel).2.1 k hk
      have i1 : (0 : Int) ≤ (k : Int) := by omega
      have i2 : (k : Int) < (n : Int) := by omega
      have HB : Hid _ := And.intro hbel (And.intro hrow (And.intro hbox (And.intro hold hsz)))
      clear hbel hrow hbox hold hsz
      go_upto_region 7 with fail
      obtain ⟨hbel, hrow, hbox, hold, hsz⟩ := HB.out
      refine wp_region_noPanic ?_
      refine pushLeader _ rfl _ (fun _ _ _ _ h => h) _ W.heap.size bh k (L k) v (idC L k) self frm hbox hrow (by omega) hsz _ (by rfl : Hid _) (by rfl) (by rfl) ?_
      intro a' v' W2 hsb hrow2 hbox2 hk2
      obtain ⟨vs, hvs, rfl⟩ := hsb.list (by decide) (n := 289) (by rfl) (by decide)
      clear hsb
      have hv0 := hvs
      obtain ⟨w65, vs1, rfl, hv1⟩ := cons_of_len hv0
      obtain ⟨w66, vs2, rfl, hv2⟩ := cons_of_len hv1
      obtain ⟨w67, vs3, rfl, hv3⟩ := cons_of_len hv2
      obtain ⟨w68, vs4, rfl, hv4⟩ := cons_of_len hv3
      obtain ⟨w69, vs5, rfl, hv5⟩ := cons_of_len hv4
      obtain ⟨w70, vs6, rfl, hv6⟩ := cons_of_len hv5
      obtain ⟨w71, vs7, rfl, hv7⟩ := cons_of_len hv6
      obtain rfl := List.length_eq_zero_iff.1 hv7
      clear hvs hv0 hv1 hv2 hv3 hv4 hv5 hv6 hv7
      simp only [List.take_succ_cons, List.take_zero, List.drop_succ_cons, List.drop_zero, List.cons_append, List.nil_append]
      refine NoPanic.normal ?_
      rw [← idC_succ] at hrow2
      have hold2 : ∀ k, k < W.heap.size → k ≠ bh → W2.heap[k]? = W.heap[k]? := fun k h1 h2 => (hk2.block k (by omega) h2 (fun e => by have := row_base hrow k e.symm; omega)).trans (hold k h1 h2)
      have hbel2 : Below B w W2 := hbel.trans (hk2.below (hs ▸ hbel.size) hbh (fun g hg => by have := row_base hrow g hg; have := bel.size; omega))
      have hsz2 : W.heap.size ≤ W2.heap.size := Nat.le_trans hsz hk2.size
      have HB : Hid _ := And.intro hbel2 (And.intro hrow2 (And.intro hbox2 (And.intro hold2 hsz2)))
      clear hbel hrow hbox hold hsz hbel2 hrow2 hbox2 hold2 hsz2 hk2
      go_wp2
      obtain ⟨hbel, hrow, hbox, hold, hsz⟩ := HB.out
      go_roundw
      case rel => exact ⟨k + 1, v', by simp, by omega, hrow, hbox, hold, hbel, hsz⟩
      case measure => simp [intOf]; omega
    · obtain rfl : k = n := by omega
      have HB : Hid _ := And.intro hbel (And.intro hrow (And.intro hbox (And.intro hold hsz)))
      clear hbel hrow hbox hold hsz
      go_wp2
      obtain ⟨hbel, hrow, hbox, hold, hsz⟩ := HB.out
      exact hend _ _ _ _ _ _ _ _ _ _ _ _ _ v _ hrow hbox hold hbel
set_option maxRecDepth 100000 in
set_option maxHeartbeats 4000000 in
theorem preds_loop (c : Code) (hc : Yba.f3.body.bind (blkCode 2) = some c) (Q : Exit → Act → World → Prop) (w W : World) (B bh n cap : Nat) (self : Int) (s : Option Addr) (g o : Nat) (L : Nat → Int) (hn : n ≤ 1024) (hL : Bys w s g o n L) (hs : w.heap.size = B) (bel : Below B w W) (hbh : B ≤ bh)
    (ab : W.heap[bh]? = some (.cells (tl self (.slice none 0 0)).toArray 32)) (u0 u1 u2 u3 u4 u5 u6 u7 u8 u9 u10 u11 u12 u13 u15 u16 u17 u18 u19 u20 u21 u22 u23 u24 u25 u26 u27 u28 u29 u30 u31 u32 u33 u34 u35 u36 u37 u38 u39 u40 u41 u42 u43 u44 u45 u46 u47 u48 u49 u50 u51 u52 u53 u54 u55 u56 u57 u58 u59 u60 u61 u62 u63 u64 u65 u66 u67 u68 u69 u70 u71 u72 u73 u74 u75 u79 u80 u81 u82 u83 u84 u85 u86 u87 u88 u89 u90 u91 u92 u93 u94 u95 u96 u97 u98 u99 u100 u101 u102 u103 u104 u105 u106 u107 u108 u109 u110 u111 u112 u113 u114 u115 u116 u117 u118 u119 u120 u121 u122 u123 u124 u125 u126 u127 u128 u129 u130 u131 u132 u133 u134 u135 u136 u137 u138 u139 u140 u141 u142 u143 u144 u145 u146 u147 u148 u149 u150 u151 u152 u153 u154 u155 u156 u157 u158 u159 u160 u161 u162 u163 u164 u165 u166 u167 u168 u169 u170 u171 u172 u173 u174 u175 u176 u177 u178 u179 u180 u181 u182 u183 u184 u185 u186 u187 u188 u189 u190 u191 u192 u193 u194 u195 u196 u197 u198 u199 u200 u201 u202 u203 u204 u205 u206 u207 u208 u209 u210 u211 u212 u213 u214 u215 u216 u217 u218 u219 u220 u221 u222 u223 u224 u225 u226 u227 u228 u229 u230 u231 u232 u233 u234 u235 u236 u237 u238 u239 u240 u241 u242 u243 u244 u245 u246 u247 u248 u249 u250 u251 u252 u253 u254 u255 u256 u257 u258 u259 u260 u261 u262 u263 u264 u265 u266 u267 u268 u269 u270 u271 u272 u273 u274 u275 u276 u277 u278 u279 u280 u281 u282 u283 u284 u285 u286 u287 u288 : Value)
    (hend : ∀ (v16 v78 v79 v80 v81 v82 v83 v84 v85 v86 v87 v88 v89 : Value) (v : Value) (W' : World), W'.ownsRow W.heap.size 26 21 v n (idC L n) → W'.heap[bh]? = some (.cells (tl self (v)).toArray 32) → (∀ k, k < W.heap.size → k ≠ bh → W'.heap[k]? = W.heap[k]?) → Below B w W' → Q .normal ⟨#[u0, u1, u2, u3, u4, u5, u6, u7, u8, u9, u10, u11, u12, u13, .pointer (some ⟨bh, 0, none⟩), u15, v16, u17, u18, u19, u20, u21, u22, u23, u24, u25, u26, u27, u28, u29, u30, u31, u32, u33, u34, u35, u36, u37, u38, u39, u40, u41, u42, u43, u44, u45, u46, u47, u48, u49, u50, u51, u52, u53, u54, u55, u56, u57, u58, u59, u60, u61, u62, u63, u64, u65, u66, u67, u68, u69, u70, u71, u72, u73, u74, u75, .slice s n cap, .int .i64 (n : Int), v78, v79, v80, v81, v82, v83, v84, v85, v86, v87, v88, v89, u90, u91, u92, u93, u94, u95, u96, u97, u98, u99, u100, u101, u102, u103, u104, u105, u106, u107, u108, u109, u110, u111, u112, u113, u114, u115, u116, u117, u118, u119, u120, u121, u122, u123, u124, u125, u126, u127, u128, u129, u130, u131, u132, u133, u134, u135, u136, u137, u138, u139, u140, u141, u142, u143, u144, u145, u146, u147, u148, u149, u150, u151, u152, u153, u154, u155, u156, u157, u158, u159, u160, u161, u162, u163, u164, u165, u166, u167, u168, u169, u170, u171, u172, u173, u174, u175, u176, u177, u178, u179, u180, u181, u182, u183, u184, u185, u186, u187, u188, u189, u190, u191, u192, u193, u194, u195, u196, u197, u198, u199, u200, u201, u202, u203, u204, u205, u206, u207, u208, u209, u210, u211, u212, u213, u214, u215, u216, u217, u218, u219, u220, u221, u222, u223, u224, u225, u226, u227, u228, u229, u230, u231, u232, u233, u234, u235, u236, u237, u238, u239, u240, u241, u242, u243, u244, u245, u246, u247, u248, u249, u250, u251, u252, u253, u254, u255, u256, u257, u258, u259, u260, u261, u262, u263, u264, u265, u266, u267, u268, u269, u270, u271, u272, u273, u274, u275, u276, u277, u278, u279, u280, u281, u282, u283, u284, u285, u286, u287, u288], []⟩ W') :
    c.wp Yba.prog Q ⟨#[u0, u1, u2, u3, u4, u5, u6, u7, u8, u9, u10, u11, u12, u13, .pointer (some ⟨bh, 0, none⟩), u15, u16, u17, u18, u19, u20, u21, u22, u23, u24, u25, u26, u27, u28, u29, u30, u31, u32, u33, u34, u35, u36, u37, u38, u39, u40, u41, u42, u43, u44, u45, u46, u47, u48, u49, u50, u51, u52, u53, u54, u55, u56, u57, u58, u59, u60, u61, u62, u63, u64, u65, u66, u67, u68, u69, u70, u71, u72, u73, u74, u75, .slice s n cap, .int .i64 (n : Int), .int .i64 0, u79, u80, u81, u82, u83, u84, u85, u86, u87, u88, u89, u90, u91, u92, u93, u94, u95, u96, u97, u98, u99, u100, u101, u102, u103, u104, u105, u106, u107, u108, u109, u110, u111, u112, u113, u114, u115, u116, u117, u118, u119, u120, u121, u122, u123, u124, u125, u126, u127, u128, u129, u130, u131, u132, u133, u134, u135, u136, u137, u138, u139, u140, u141, u142, u143, u144, u145, u146, u147, u148, u149, u150, u151, u152, u153, u154, u155, u156, u157, u158, u159, u160, u161, u162, u163, u164, u165, u166, u167, u168, u169, u170, u171, u172, u173, u174, u175, u176, u177, u178, u179, u180, u181, u182, u183, u184, u185, u186, u187, u188, u189, u190, u191, u192, u193, u194, u195, u196, u197, u198, u199, u200, u201, u202, u203, u204, u205, u206, u207, u208, u209, u210, u211, u212, u213, u214, u215, u216, u217, u218, u219, u220, u221, u222, u223, u224, u225, u226, u227, u228, u229, u230, u231, u232, u233, u234, u235, u236, u237, u238, u239, u240, u241, u242, u243, u244, u245, u246, u247, u248, u249, u250, u251, u252, u253, u254, u255, u256, u257, u258, u259, u260, u261, u262, u263, u264, u265, u266, u267, u268, u269, u270, u271, u272, u273, u274, u275, u276, u277, u278, u279, u280, u281, u282, u283, u284, u285, u286, u287, u288], []⟩ W := by
  obtain rfl : c = ((Yba.f3.body.bind (blkCode 2)).getD .skip) := by rw [hc]; rfl
  clear hc
  conv => arg 2; whnf
  dsimp only
  go_wp2_with fail
  go_loopw [78] (fun i wr => ∃ (k : Nat) (v : Value), i = .int .i64 k ∧ k ≤ n ∧ wr.ownsRow W.heap.size 26 21 v k (idC L k) ∧ wr.heap[bh]? = some (.cells (tl self (v)).toArray 32) ∧ (∀ k, k < W.heap.size → k ≠ bh → wr.heap[k]? = W.heap[k]?) ∧ Below B w wr ∧ W.heap.size ≤ wr.heap.size) (fun i _ => (n - intOf i).toNat)
  case atStart => exact ⟨0, .slice none 0 0, rfl, by omega, ⟨rfl, Or.inl ⟨rfl, rfl⟩⟩, ab, fun _ _ _ => rfl, bel, Nat.le_refl _⟩
  case round =>
    obtain ⟨k, v, rfl, hkn, hrow, hbox, hold, hbel, hsz⟩ := hrel
    by_cases hk : k < n
    · obtain rfl := hL.1 (by omega)
      have e1 := (hL.later hs hbel).2.1 k hk
      have i1 : (0 : Int) ≤ (k : Int) := by omega
      have i2 : (k : Int) < (n : Int) := by omega
      have HB : Hid _ := And.intro hbel (And.intro hrow (And.intro hbox (And.intro hold hsz)))
      clear hbel hrow hbox hold hsz
      go_upto_region 13 with fail
      obtain ⟨hbel, hrow, hbox, hold, hsz⟩ := HB.out
      refine wp_region_noPanic ?_
      refine pushPred _ rfl _ (fun _ _ _ _ h => h) _ W.heap.size bh k (L k) v (idC L k) self hbox hrow (by omega) hsz _ (by rfl : Hid _) (by rfl) (by rfl) ?_
      intro a' v' W2 hsb hrow2 hbox2 hk2
      obtain ⟨vs, hvs, rfl⟩ := hsb.list (by decide) (n := 289) (by rfl) (by decide)
      clear hsb
      have hv0 := hvs
      obtain ⟨w82, vs1, rfl, hv1⟩ := cons_of_len hv0
      obtain ⟨w83, vs2, rfl, hv2⟩ := cons_of_len hv1
      obtain ⟨w84, vs3, rfl, hv3⟩ := cons_of_len hv2
      obtain ⟨w85, vs4, rfl, hv4⟩ := cons_of_len hv3
      obtain ⟨w86, vs5, rfl, hv5⟩ := cons_of_len hv4
      obtain ⟨w87, vs6, rfl, hv6⟩ := cons_of_len hv5
      obtain ⟨w88, vs7, rfl, hv7⟩ := cons_of_len hv6
      obtain rfl := List.length_eq_zero_iff.1 hv7
      clear hvs hv0 hv1 hv2 hv3 hv4 hv5 hv6 hv7
      simp only [List.take_succ_cons, List.take_zero, List.drop_succ_cons, List.drop_zero, List.cons_append, List.nil_append]
      refine NoPanic.normal ?_
      rw [← idC_succ] at hrow2
      have hold2 : ∀ k, k < W.heap.size → k ≠ bh → W2.heap[k]? = W.heap[k]? := fun k h1 h2 => (hk2.block k (by omega) h2 (fun e => by have := row_base hrow k e.symm; omega)).trans (hold k h1 h2)
      have hbel2 : Below B w W2 := hbel.trans (hk2.below (hs ▸ hbel.size) hbh (fun g hg => by have := row_base hrow g hg; have := bel.size; omega))
      have hsz2 : W.heap.size ≤ W2.heap.size := Nat.le_trans hsz hk2.size
      have HB : Hid _ := And.intro hbel2 (And.intro hrow2 (And.intro hbox2 (And.intro hold2 hsz2)))
      clear hbel hrow hbox hold hsz hbel2 hrow2 hbox2 hold2 hsz2 hk2
      go_wp2
      obtain ⟨hbel, hrow, hbox, hold, hsz⟩ := HB.out
      go_roundw
      case rel => exact ⟨k + 1, v', by simp, by omega, hrow, hbox, hold, hbel, hsz⟩
      case measure => simp [intOf]; omega
    · obtain rfl : k = n := by omega
      have HB : Hid _ := And.intro hbel (And.intro hrow (And.intro hbox (And.intro hold hsz)))
      clear hbel hrow hbox hold hsz
      go_wp2
      obtain ⟨hbel, hrow, hbox, hold, hsz⟩ := HB.out
      exact hend _ _ _ _ _ _ _ _ _ _ _ _ _ v _ hrow hbox hold hbel

theorem rowC_congr {P P' : Nat → Nat} {kd : Nat → Int} {L : List Nat} (h : ∀ i ∈ L, P i = P' i) : rowC P kd L = rowC P' kd L := by
  induction L with
  | nil => rfl
  | cons a l ih =>
    have h1 := ih (fun i hi => h i (List.mem_cons_of_mem _ hi))
    simp only [rowC, List.flatMap_cons] at h1 ⊢
    rw [h1]
    unfold el
    rw [h a (List.mem_cons_self ..)]
/-- The map of values: the values of resource r are C r. -/
structure VM (base : Nat) (P : Nat → Nat) (kd : Nat → Int) (w : World) (bv : Nat) (C : Nat → List Nat) (sv : Nat → Value) : Prop where
  map : MapOf 55 w bv (fun r => if C r ≠ [] then some (sv r) else none)
  rows : ∀ r, r < 256 → w.ownsRow base 54 3 (slOf C sv r) (C r).length (rowC P kd (C r))
  rowsApart : ∀ r r', r < 256 → r' < 256 → r ≠ r' → C r ≠ [] → (slOf C sv r).ownBlock ≠ (slOf C sv r').ownBlock
section
variable {base : Nat} {P : Nat → Nat} {kd : Nat → Int} {w : World} {bv : Nat} {C : Nat → List Nat} {sv : Nat → Value}
theorem VM.later {w' : World} (h : VM base P kd w bv C sv) (k : w.grownBy w' none) : VM base P kd w' bv C sv where
  map := h.map.kept k (by simp)
  rows r hr := (h.rows r hr).kept k (by cases (slOf C sv r).ownBlock <;> simp)
  rowsApart := h.rowsApart
theorem VM.congr {P' : Nat → Nat} (h : VM base P kd w bv C sv) (hP : ∀ r i, i ∈ C r → P i = P' i) : VM base P' kd w bv C sv where
  map := h.map
  rows r hr := by rw [← rowC_congr (hP r)]; exact h.rows r hr
  rowsApart := h.rowsApart
/-- A block below the base may turn, if it is not the map's. -/
theorem VM.turned {w' : World} (h : VM base P kd w bv C sv) {b : Nat} (k : w.grownBy w' (some b)) (hb : b < base) (hne : b ≠ bv) : VM base P kd w' bv C sv where
  map := h.map.kept k (by simp; exact Ne.symm hne)
  rows r hr := row_ne (h.rows r hr) k (fun e => by have := ((h.rows r hr).lt b e).1; omega)
  rowsApart := h.rowsApart
theorem VM.start (base : Nat) (P : Nat → Nat) (kd : Nat → Int) {w : World} {bv : Nat} (h : MapOf 55 w bv (fun _ => none)) : VM base P kd w bv (fun _ => []) (fun _ => .slice none 0 0) where
  map := by simpa using h
  rows r hr := World.ownsRow_nil w base 54 3
  rowsApart r r' _ _ _ hne := absurd rfl hne
/-- One value more at the resource r. -/
theorem VM.append (h : VM base P kd w bv C sv) {r : Nat} (hr : r < 256) (i : Nat) :
    ∃ (st : Nat) (w6 : World), (Instr.mapEntry 34 (.map (some bv)) (idv (r : Int))).run Yba.prog w = .ok (.tuple #[slOf C sv r, goInt st]) w6 ∧ w.grownBy w6 (some bv) ∧ w6.heap.size = w.heap.size ∧
      w6.ownsRow base 54 3 (slOf C sv r) (C r).length (rowC P kd (C r)) ∧
      ∀ (v' : Value) (w8 : World), w8.ownsRow base 54 3 v' ((C r).length + 1) (rowC P kd (C r) ++ el P kd i) → w6.grownBy w8 (slOf C sv r).ownBlock → (v'.ownBlock = (slOf C sv r).ownBlock ∨ v'.ownBlock = some w6.heap.size) →
        ∃ w10, (Instr.entryStore 34 (.map (some bv)) (goInt st) v').run Yba.prog w8 = .ok () w10 ∧ VM base P kd w10 bv (updC C r i) (updS sv r v') ∧ w8.grownBy w10 (some bv) := by
  obtain ⟨st, w6, hrun, hg6, hs6, hst⟩ := h.map.entry ky55 Yba.underlying34 zero33 hr
  have hv0 : ((fun r' => if C r' ≠ [] then some (sv r') else none) r).getD (.slice none 0 0) = slOf C sv r := by
    unfold slOf
    by_cases hc : C r = []
    · simp [hc]
    · simp [hc]
  rw [hv0] at hrun
  have hrow6 : ∀ y, y < 256 → w6.ownsRow base 54 3 (slOf C sv y) (C y).length (rowC P kd (C y)) := fun y hy => row_ne (h.rows y hy) hg6 (h.map.notRow (h.rows y hy))
  refine ⟨st, w6, hrun, hg6, hs6, hrow6 r hr, fun v' w8 hv' hg8 hloc => ?_⟩
  have hib : bv < w.heap.size := h.map.lt
  have hnr := h.map.notRow (h.rows r hr)
  have e8 : w8.heap[bv]? = w6.heap[bv]? := hg8.block _ (by rw [hs6]; exact hib) (fun e => hnr e.symm)
  obtain ⟨w10, hrun10, hm10, hg10⟩ := hst w8 v' e8
  obtain ⟨g', hg'⟩ := row_some hv' (by omega)
  have hfresh : ∀ y, y < 256 → (slOf C sv y).ownBlock ≠ some w6.heap.size := fun y hy e => by
    have := ((hrow6 y hy).lt _ e).2; omega
  have hne' : ∀ y, y < 256 → y ≠ r → v'.ownBlock ≠ (slOf C sv y).ownBlock := fun y hy hyr => by
    rcases hloc with e | e
    · by_cases hc : C r = []
      · intro e2
        have : (slOf C sv r).ownBlock = none := by unfold slOf; rw [if_pos hc]; rfl
        rw [e, this] at hg'; cases hg'
      · rw [e]; exact h.rowsApart r y hr hy (Ne.symm hyr) hc
    · rw [e]; exact fun e2 => hfresh y hy e2.symm
  have hvne : v'.ownBlock ≠ some bv := by
    rcases hloc with e | e
    · rw [e]; exact hnr
    · rw [e, hs6]; simp; omega
  have sl' : ∀ y, slOf (updC C r i) (updS sv r v') y = if y = r then v' else slOf C sv y := fun y => by
    unfold slOf updC updS
    by_cases hy : y = r
    · subst hy; simp
    · simp [hy]
  refine ⟨w10, hrun10, ⟨?_, fun y hy => ?_, fun y y' hy hy' hne hc => ?_⟩, hg10⟩
  · refine cast ?_ hm10
    congr 1
    funext z
    unfold upd updC updS
    by_cases hz : z = r
    · subst hz; simp
    · simp [hz]
  · rw [sl']
    by_cases hyr : y = r
    · subst hyr
      rw [if_pos rfl]
      have : updC C y i y = C y ++ [i] := by simp [updC]
      rw [this, rowC_snoc, List.length_append]
      exact row_ne hv' hg10 hvne
    · rw [if_neg hyr]
      have : updC C r i y = C y := by simp [updC, hyr]
      rw [this]
      have a6 := hrow6 y hy
      have a8 : w8.ownsRow base 54 3 (slOf C sv y) (C y).length (rowC P kd (C y)) := by
        refine a6.kept hg8 ?_
        by_cases hc : C y = []
        · exact .inl (by unfold slOf; rw [if_pos hc]; rfl)
        · exact .inr (h.rowsApart y r hy hr hyr hc)
      exact row_ne a8 hg10 (h.map.notRow (h.rows y hy))
  · rw [sl', sl']
    have hc' : ∀ z, z ≠ r → updC C r i z = C z := fun z hz => by simp [updC, hz]
    by_cases hyr : y = r
    · subst hyr
      rw [if_pos rfl, if_neg (Ne.symm hne)]
      exact hne' y' hy' (Ne.symm hne)
    · rw [if_neg hyr]
      rw [hc' y hyr] at hc
      by_cases hyr' : y' = r
      · subst hyr'
        rw [if_pos rfl]
        exact (hne' y hy hyr).symm
      · rw [if_neg hyr']
        exact h.rowsApart y y' hy hy' hne hc
end

theorem build33 (P : Nat → Nat) (kd : Nat → Int) (i : Nat) (W : World) : (Instr.buildSlice 33 1 #[(0, .agg (el P kd i).toArray)]).run Yba.prog W = .ok (.slice (some ⟨W.heap.size, 0, none⟩) 1 1) (W.alloc (.cells (el P kd i).toArray 54)) := by
  kernel_rfl
theorem wp_build33 {w : World} {o : Oper} {a : Act} {K : Act → World → Prop} {Q : Exit → Act → World → Prop} (P : Nat → Nat) (kd : Nat → Int) (i : Nat) (k : Nat) (ho : o.op = .buildSlice 33 1 #[(0, .tmp k)]) (hx : a.eval (.tmp k) = .agg (el P kd i).toArray)
    (h : K (a.put o.dst (.slice (some ⟨w.heap.size, 0, none⟩) 1 1)) (w.alloc (.cells (el P kd i).toArray 54))) : o.wp Yba.prog a w K Q := by
  unfold Oper.wp execOp
  have e := build33 P kd i w
  simp only [ho, List.map_toArray, List.map_cons, List.map_nil, hx, Sem.run_bind, e, Result.andThen_ok]
  exact h
theorem cell_same {w w' : World} {g o : Nat} (h : w'.heap[g]? = w.heap[g]?) : w'.cell? ⟨g, o, none⟩ = w.cell? ⟨g, o, none⟩ := by
  unfold World.cell?; simp only [h]
theorem range_same {w w' : World} {g o : Nat} {cs : List Value} (h : w'.heap[g]? = w.heap[g]?) (hr : w.rangeAt g o cs) : w'.rangeAt g o cs := fun j v hv => (cell_same h).trans (hr j v hv)
/-- The two blocks that the region's loads read are as they were in W. -/
def Sv (W : World) (b22 gv : Nat) (W' : World) : Prop := W'.heap[b22]? = W.heap[b22]? ∧ W'.heap[gv]? = W.heap[gv]?

set_option maxRecDepth 100000 in
set_option maxHeartbeats 4000000 in
theorem putVal (c : Code) (hc : Yba.f3.body.bind (regCode 25) = some c) (Q : Exit → Act → World → Prop) (hQ : ∀ ch a a' w, Q (.panic ch) a w → Q (.panic ch) a' w) (W : World) (base bv b22 gv r k ne : Nat) (P : Nat → Nat) (kd : Nat → Int) (C : Nat → List Nat) (sv : Nat → Value)
    (h : VM base P kd W bv C sv) (hr : r < 256) (hlen : (C r).length < 1024) (hbase : base ≤ W.heap.size) (hgv : gv < base) (hgb : gv < W.heap.size) (hne : gv ≠ bv) (hk : k < ne)
    (a22 : W.heap[b22]? = some (.cells (nl 16 (idb (r : Int))).toArray 55)) (hval : W.rangeAt gv (k * 3) (el P kd k)) (a0 : Act) (z0 : Hid (a0.tmps.size = 289))
    (e17 : a0.tmps[17]? = some (.slice (some ⟨gv, 0, none⟩) ne ne)) (e18 : a0.tmps[18]? = some (.map (some bv))) (e19 : a0.tmps[19]? = some (.int .i64 (k : Int))) (e22 : a0.tmps[22]? = some (.pointer (some ⟨b22, 0, none⟩)))
    (hend : ∀ (a' : Act) (v' : Value) (W' : World), SameBut 121 131 a0 a' → VM base P kd W' bv (updC C r k) (updS sv r v') → Kept2 W W' bv (slOf C sv r).ownBlock → Q .normal a' W') :
    c.wp Yba.prog Q a0 W := by
  obtain rfl : c = ((Yba.f3.body.bind (regCode 25)).getD .skip) := by rw [hc]; rfl
  clear hc
  have HE : Hid _ := hend
  clear hend
  conv => arg 2; whnf
  try dsimp only
  have i54 : (Yba.prog.info? 54).map (·.size) = some (el P kd k).length := by kernel_rfl
  have i1 : (0 : Int) ≤ (k : Int) := by omega
  have i2 : (k : Int) < (ne : Int) := by omega
  refine wp_region_held_drew (S := Sv W b22 gv) (by kernel_rfl) ⟨rfl, rfl⟩ (fun hT => ?_)
  have sb0 := SameBut.refl 121 131 a0
  refine takeA (i := 0) (d := 121) (v := .map (some bv)) rfl rfl (by kernel_rfl) (by kernel_rfl) (by kernel_rfl) hQ (Or.inl ⟨by rfl, fun W9 h => by go_simp⟩) hT (fun a1 ha1 => ?_)
  have sb1 := sb0.put ha1 (by rfl)
  have e121 := put_same ha1 (by rw [z0.out]; decide)
  replace e17 := put_other ha1 (by rfl) e17
  replace e18 := put_other ha1 (by rfl) e18
  replace e19 := put_other ha1 (by rfl) e19
  replace e22 := put_other ha1 (by rfl) e22
  have z1 : Hid (a1.tmps.size = 289) := put_size ha1 z0.out
  clear ha1 sb0 z0
  refine takeA (i := 1) (d := 122) (v := .agg (nl 16 (idb (r : Int))).toArray) rfl rfl (by kernel_rfl) (by kernel_rfl) (by kernel_rfl) hQ (yieldsIf_load_mid (by rfl) 55 (.tmp 22) rfl b22 (0) (eval_some e22) (nl 16 (idb (r : Int))) _ (fun _ h => nl_heap (h.1.trans a22)) Yba.underlying55 rfl (i55 16 _)) hT (fun a2 ha2 => ?_)
  have sb2 := sb1.put ha2 (by rfl)
  have e122 := put_same ha2 (by rw [z1.out]; decide)
  replace e17 := put_other ha2 (by rfl) e17
  replace e18 := put_other ha2 (by rfl) e18
  replace e19 := put_other ha2 (by rfl) e19
  replace e22 := put_other ha2 (by rfl) e22
  replace e121 := put_other ha2 (by rfl) e121
  have z2 : Hid (a2.tmps.size = 289) := put_size ha2 z1.out
  clear ha2 sb1 z1
  refine takeA (i := 2) (d := 124) (v := .slice (some ⟨gv, 0, none⟩) ne ne) rfl rfl (by kernel_rfl) (by kernel_rfl) (by kernel_rfl) hQ (Or.inl ⟨by rfl, fun W9 h => by go_simp⟩) hT (fun a3 ha3 => ?_)
  have sb3 := sb2.put ha3 (by rfl)
  have e124 := put_same ha3 (by rw [z2.out]; decide)
  replace e17 := put_other ha3 (by rfl) e17
  replace e18 := put_other ha3 (by rfl) e18
  replace e19 := put_other ha3 (by rfl) e19
  replace e22 := put_other ha3 (by rfl) e22
  replace e121 := put_other ha3 (by rfl) e121
  replace e122 := put_other ha3 (by rfl) e122
  have z3 : Hid (a3.tmps.size = 289) := put_size ha3 z2.out
  clear ha3 sb2 z2
  refine takeA (i := 3) (d := 125) (v := .int .i64 (k : Int)) rfl rfl (by kernel_rfl) (by kernel_rfl) (by kernel_rfl) hQ (Or.inl ⟨by rfl, fun W9 h => by go_simp⟩) hT (fun a4 ha4 => ?_)
  have sb4 := sb3.put ha4 (by rfl)
  have e125 := put_same ha4 (by rw [z3.out]; decide)
  replace e17 := put_other ha4 (by rfl) e17
  replace e18 := put_other ha4 (by rfl) e18
  replace e19 := put_other ha4 (by rfl) e19
  replace e22 := put_other ha4 (by rfl) e22
  replace e121 := put_other ha4 (by rfl) e121
  replace e122 := put_other ha4 (by rfl) e122
  replace e124 := put_other ha4 (by rfl) e124
  have z4 : Hid (a4.tmps.size = 289) := put_size ha4 z3.out
  clear ha4 sb3 z3
  refine takeA (i := 4) (d := 126) (v := .pointer (some ⟨gv, k * 3, none⟩)) rfl rfl (by kernel_rfl) (by kernel_rfl) (by kernel_rfl) hQ (Or.inl ⟨by rfl, fun W9 h => by go_simp⟩) hT (fun a5 ha5 => ?_)
  have sb5 := sb4.put ha5 (by rfl)
  have e126 := put_same ha5 (by rw [z4.out]; decide)
  replace e17 := put_other ha5 (by rfl) e17
  replace e18 := put_other ha5 (by rfl) e18
  replace e19 := put_other ha5 (by rfl) e19
  replace e22 := put_other ha5 (by rfl) e22
  replace e121 := put_other ha5 (by rfl) e121
  replace e122 := put_other ha5 (by rfl) e122
  replace e124 := put_other ha5 (by rfl) e124
  replace e125 := put_other ha5 (by rfl) e125
  have z5 : Hid (a5.tmps.size = 289) := put_size ha5 z4.out
  clear ha5 sb4 z4
  refine takeA (i := 5) (d := 127) (v := .agg (el P kd k).toArray) rfl rfl (by kernel_rfl) (by kernel_rfl) (by kernel_rfl) hQ (yieldsIf_load_mid (by rfl) 54 (.tmp 126) rfl gv (k * 3) (eval_some e126) (el P kd k) _ (fun _ h => range_same h.2 hval) Yba.underlying54 rfl i54) hT (fun a6 ha6 => ?_)
  have sb6 := sb5.put ha6 (by rfl)
  have e127 := put_same ha6 (by rw [z5.out]; decide)
  replace e17 := put_other ha6 (by rfl) e17
  replace e18 := put_other ha6 (by rfl) e18
  replace e19 := put_other ha6 (by rfl) e19
  replace e22 := put_other ha6 (by rfl) e22
  replace e121 := put_other ha6 (by rfl) e121
  replace e122 := put_other ha6 (by rfl) e122
  replace e124 := put_other ha6 (by rfl) e124
  replace e125 := put_other ha6 (by rfl) e125
  replace e126 := put_other ha6 (by rfl) e126
  have z6 : Hid (a6.tmps.size = 289) := put_size ha6 z5.out
  clear ha6 sb5 z5
  refine wpAnyH_ready (rs := [6]) (by kernel_rfl) (by simp) ?_
  refine AllReadyH.cons (i := 6) rfl (fun K hK => ?_) AllReadyH.nil
  rw [if_pos (by rfl)]
  refine wp_build33 P kd k 127 rfl (eval_some e127) ?_
  have l22 := lt_of_heap a22
  have lbv := h.map.lt
  refine hK.out _ _ ⟨heap_alloc_old _ _ (by simpa using l22), heap_alloc_old _ _ (by simpa using hgb)⟩ (fun hT2 => ?_)
  clear hK K
  refine act_new (a := a6) 128 (.slice (some ⟨W.heap.size, 0, none⟩) 1 1) (fun a7 ha7 => ?_)
  have sb7 := sb6.put ha7 (by rfl)
  have e128 := put_same ha7 (by rw [z6.out]; decide)
  replace e17 := put_other ha7 (by rfl) e17
  replace e18 := put_other ha7 (by rfl) e18
  replace e19 := put_other ha7 (by rfl) e19
  replace e22 := put_other ha7 (by rfl) e22
  replace e121 := put_other ha7 (by rfl) e121
  replace e122 := put_other ha7 (by rfl) e122
  replace e124 := put_other ha7 (by rfl) e124
  replace e125 := put_other ha7 (by rfl) e125
  replace e126 := put_other ha7 (by rfl) e126
  replace e127 := put_other ha7 (by rfl) e127
  have z7 : Hid (a7.tmps.size = 289) := put_size ha7 z6.out
  clear ha7 sb6 z6
  refine wpAnyH_world (fun W5 => Sv W b22 gv W5 ∧ W5.heap[W.heap.size]? = some (.cells (el P kd k).toArray 54) ∧ Below W.heap.size W W5) ⟨hT2, heapNew (by simp), ((Below.refl _ _).drew).alloc (by simp) _⟩ ?_
  clear hT2
  rintro W5 ⟨hT2, a96, b5⟩
  have h5 := h.later (grown_below b5)
  obtain ⟨st, w6, hrun, hg6, hs6, hrow6, hst⟩ := h5.append hr k
  unfold idv at hrun
  have hrow := h.rows r hr
  have hobk := h.map.notRow hrow
  have hn22 := h.map.notCells a22
  have hnr22 := row_not_cells hrow a22 (by decide)
  have hnrg : (slOf C sv r).ownBlock ≠ some gv := fun e => by have := (hrow.lt gv e).1; omega
  refine wpAnyH_ready (rs := [7]) (by kernel_rfl) (by simp) ?_
  refine AllReadyH.cons (i := 7) rfl (fun K hK => ?_) AllReadyH.nil
  rw [if_pos (by rfl)]
  clear hrow
  go_simp
  have s5 := b5.size
  have S6 : Sv W b22 gv w6 := ⟨(hg6.block _ (by omega) (by simp; exact hn22)).trans hT2.1, (hg6.block _ (by omega) (by simp; exact hne)).trans hT2.2⟩
  clear hrun
  refine hK.out _ _ S6 (fun _ => ?_)
  clear hK K
  refine act_new (a := a7) 129 (.tuple #[slOf C sv r, .int .i64 st]) (fun a8 ha8 => ?_)
  have sb8 := sb7.put ha8 (by rfl)
  have e129 := put_same ha8 (by rw [z7.out]; decide)
  replace e17 := put_other ha8 (by rfl) e17
  replace e18 := put_other ha8 (by rfl) e18
  replace e19 := put_other ha8 (by rfl) e19
  replace e22 := put_other ha8 (by rfl) e22
  replace e121 := put_other ha8 (by rfl) e121
  replace e122 := put_other ha8 (by rfl) e122
  replace e124 := put_other ha8 (by rfl) e124
  replace e125 := put_other ha8 (by rfl) e125
  replace e126 := put_other ha8 (by rfl) e126
  replace e127 := put_other ha8 (by rfl) e127
  replace e128 := put_other ha8 (by rfl) e128
  have z8 : Hid (a8.tmps.size = 289) := put_size ha8 z7.out
  clear ha8 sb7 z7
  refine takeA (i := 8) (d := 123) (v := slOf C sv r) rfl rfl (by kernel_rfl) (by kernel_rfl) (by kernel_rfl) hQ (Or.inl ⟨by rfl, fun W9 h => by go_simp⟩) S6 (fun a9 ha9 => ?_)
  have sb9 := sb8.put ha9 (by rfl)
  have e123 := put_same ha9 (by rw [z8.out]; decide)
  replace e17 := put_other ha9 (by rfl) e17
  replace e18 := put_other ha9 (by rfl) e18
  replace e19 := put_other ha9 (by rfl) e19
  replace e22 := put_other ha9 (by rfl) e22
  replace e121 := put_other ha9 (by rfl) e121
  replace e122 := put_other ha9 (by rfl) e122
  replace e124 := put_other ha9 (by rfl) e124
  replace e125 := put_other ha9 (by rfl) e125
  replace e126 := put_other ha9 (by rfl) e126
  replace e127 := put_other ha9 (by rfl) e127
  replace e128 := put_other ha9 (by rfl) e128
  replace e129 := put_other ha9 (by rfl) e129
  have z9 : Hid (a9.tmps.size = 289) := put_size ha9 z8.out
  clear ha9 sb8 z8
  refine takeA (i := 10) (d := 131) (v := .int .i64 st) rfl rfl (by kernel_rfl) (by kernel_rfl) (by kernel_rfl) hQ (Or.inl ⟨by rfl, fun W9 h => by go_simp⟩) S6 (fun a10 ha10 => ?_)
  have sb10 := sb9.put ha10 (by rfl)
  have e131 := put_same ha10 (by rw [z9.out]; decide)
  replace e17 := put_other ha10 (by rfl) e17
  replace e18 := put_other ha10 (by rfl) e18
  replace e19 := put_other ha10 (by rfl) e19
  replace e22 := put_other ha10 (by rfl) e22
  replace e121 := put_other ha10 (by rfl) e121
  replace e122 := put_other ha10 (by rfl) e122
  replace e124 := put_other ha10 (by rfl) e124
  replace e125 := put_other ha10 (by rfl) e125
  replace e126 := put_other ha10 (by rfl) e126
  replace e127 := put_other ha10 (by rfl) e127
  replace e128 := put_other ha10 (by rfl) e128
  replace e129 := put_other ha10 (by rfl) e129
  replace e123 := put_other ha10 (by rfl) e123
  have z10 : Hid (a10.tmps.size = 289) := put_size ha10 z9.out
  clear ha10 sb9 z9
  have c96 : w6.heap[W.heap.size]? = some (.cells (el P kd k).toArray 54) := (hg6.block _ (lt_of_heap a96) (by simp; omega)).trans a96
  obtain ⟨i0, hi, hz0, hz1, hz2⟩ := info_parts info54
  refine wpAnyH_ready (rs := [9]) (by kernel_rfl) (by simp) ?_
  refine AllReadyH.cons (i := 9) rfl (fun K hK => ?_) AllReadyH.nil
  rw [if_pos (by rfl)]
  refine wp_append (.tmp 123) (.tmp 128) 33 rfl base 54 i0 _ 3 24 Yba.underlying33 hi hz0 hz1 hz2 rfl (by decide) (slOf C sv r) (C r).length (rowC P kd (C r)) (eval_some e123) hrow6 ⟨W.heap.size, 0, none⟩ 1 1 (el P kd k) (eval_some e128) rfl (fun j u hu => by rw [Addr.add_mid]; exact heap_range c96 j u hu) (one_el P kd k) (by unfold maxLen; omega) (by omega) (by omega) ?_
  intro v' w8 hv' hg8 hloc
  obtain ⟨w10, hrun10, hB10, hg10⟩ := hst v' w8 hv' hg8 hloc
  have S8 : Sv W b22 gv w8 := ⟨(hg8.block _ (by omega) (Ne.symm hnr22)).trans S6.1, (hg8.block _ (by omega) (Ne.symm hnrg)).trans S6.2⟩
  refine hK.out _ _ S8 (fun _ => ?_)
  clear hK K
  refine act_new (a := a10) 130 (v') (fun a11 ha11 => ?_)
  have sb11 := sb10.put ha11 (by rfl)
  have e130 := put_same ha11 (by rw [z10.out]; decide)
  replace e17 := put_other ha11 (by rfl) e17
  replace e18 := put_other ha11 (by rfl) e18
  replace e19 := put_other ha11 (by rfl) e19
  replace e22 := put_other ha11 (by rfl) e22
  replace e121 := put_other ha11 (by rfl) e121
  replace e122 := put_other ha11 (by rfl) e122
  replace e124 := put_other ha11 (by rfl) e124
  replace e125 := put_other ha11 (by rfl) e125
  replace e126 := put_other ha11 (by rfl) e126
  replace e127 := put_other ha11 (by rfl) e127
  replace e128 := put_other ha11 (by rfl) e128
  replace e129 := put_other ha11 (by rfl) e129
  replace e123 := put_other ha11 (by rfl) e123
  replace e131 := put_other ha11 (by rfl) e131
  have z11 : Hid (a11.tmps.size = 289) := put_size ha11 z10.out
  clear ha11 sb10 z10
  unfold goInt at hrun10
  refine wpAnyH_ready (rs := [11]) (by kernel_rfl) (by simp) ?_
  refine AllReadyH.cons (i := 11) rfl (fun K hK => ?_) AllReadyH.nil
  rw [if_pos (by rfl)]
  clear hst hloc hv'
  go_simp
  have s8 := hg8.size
  have S10 : Sv W b22 gv w10 := ⟨(hg10.block _ (by omega) (by simp; exact hn22)).trans S8.1, (hg10.block _ (by omega) (by simp; exact hne)).trans S8.2⟩
  refine hK.out _ _ S10 (fun _ => ?_)
  clear hK K
  refine wpAnyH_done (by kernel_rfl) ?_ _
  exact HE.out _ v' w10 sb11 hB10 ⟨hg10.os.trans (hg8.os.trans (hg6.os.trans b5.os)), hg10.tape.trans (hg8.tape.trans (hg6.tape.trans b5.tape)), hg10.output.trans (hg8.output.trans (hg6.output.trans b5.output)), by have := hg10.size; omega, fun k hk h1 h2 => (hg10.block k (by omega) (by simp; exact h1)).trans ((hg8.block k (by omega) h2).trans ((hg6.block k (by omega) (by simp; exact h1)).trans (b5.block k hk)))⟩

/-- The four cells of one entry. -/
def en (a b : Int) (c : Bool) (d : Int) : List Value := [.int .u8 a, .int .u8 b, .bool c, .int .u32 d]
theorem one_en (a b : Int) (c : Bool) (d : Int) : ∀ v ∈ en a b c d, v.oneCell' = true := fun u hu => by
  simp only [en, List.mem_cons, List.not_mem_nil, or_false] at hu
  rcases hu with rfl | rfl | rfl | rfl <;> rfl
theorem i37 (a b : Int) (c : Bool) (d : Int) : (Yba.prog.info? 37).map (·.size) = some (en a b c d).length := by kernel_rfl
theorem i54 (P : Nat → Nat) (kd : Nat → Int) (i : Nat) : (Yba.prog.info? 54).map (·.size) = some (el P kd i).length := by kernel_rfl
/-- A slice of n entries, as a law's argument lies. -/
def Ens (w : World) (s : Option Addr) (g o n : Nat) (re fr : Nat → Int) (hf : Nat → Bool) (kd : Nat → Int) : Prop :=
  (0 < n → s = some ⟨g, o, none⟩) ∧ (∀ i, i < n → w.rangeAt g (o + i * 4) (en (re i) (fr i) (hf i) (kd i))) ∧ ∀ i, i < n → (0 ≤ re i ∧ re i ≤ 255) ∧ 0 ≤ fr i ∧ fr i ≤ 255
theorem Ens.later {w W : World} {B : Nat} {s : Option Addr} {g o n : Nat} {re fr : Nat → Int} {hf : Nat → Bool} {kd : Nat → Int} (h : Ens w s g o n re fr hf kd) (hs : w.heap.size = B) (hb : Below B w W) : Ens W s g o n re fr hf kd := ⟨h.1, fun i hi => range_later (hs ▸ hb) (h.2.1 i hi), h.2.2⟩
/-- The slice of values: k of ne are laid. -/
def Vals (w : World) (gv ne k : Nat) (P : Nat → Nat) (kd : Nat → Int) : Prop :=
  ∃ cs : Array Value, w.heap[gv]? = some (.cells cs 54) ∧ cs.size = ne * 3 ∧ ∀ i, i < k → ∀ j, j < 3 → cs[i * 3 + j]? = (el P kd i)[j]?
theorem Vals.same {w w' : World} {gv ne k : Nat} {P : Nat → Nat} {kd : Nat → Int} (h : Vals w gv ne k P kd) (hb : w'.heap[gv]? = w.heap[gv]?) : Vals w' gv ne k P kd := by
  obtain ⟨cs, h1, h2, h3⟩ := h
  exact ⟨cs, hb.trans h1, h2, h3⟩
theorem Vals.lt {w : World} {gv ne k : Nat} {P : Nat → Nat} {kd : Nat → Int} (h : Vals w gv ne k P kd) : gv < w.heap.size := by
  obtain ⟨cs, h1, _⟩ := h
  exact lt_of_heap h1
theorem Vals.congr {w : World} {gv ne k : Nat} {P P' : Nat → Nat} {kd : Nat → Int} (h : Vals w gv ne k P kd) (hP : ∀ i, i < k → P i = P' i) : Vals w gv ne k P' kd := by
  obtain ⟨cs, h1, h2, h3⟩ := h
  refine ⟨cs, h1, h2, fun i hi j hj => ?_⟩
  rw [h3 i hi j hj]
  unfold el
  rw [hP i hi]
theorem Vals.range {w : World} {gv ne k : Nat} {P : Nat → Nat} {kd : Nat → Int} (h : Vals w gv ne k P kd) {i : Nat} (hi : i < k) : w.rangeAt gv (i * 3) (el P kd i) := by
  obtain ⟨cs, h1, h2, h3⟩ := h
  exact range_of_heap h1 (fun j hj => h3 i hi j (by simpa [el] using hj))
theorem Vals.there {w : World} {gv ne k : Nat} {P : Nat → Nat} {kd : Nat → Int} (h : Vals w gv ne k P kd) {i : Nat} (hi : i < ne) : w.there gv (i * 3) 3 := by
  obtain ⟨cs, h1, h2, h3⟩ := h
  exact there_of_heap h1 (by omega)
theorem Vals.set {w : World} {gv ne k : Nat} {P : Nat → Nat} {kd : Nat → Int} (h : Vals w gv ne k P kd) (hk : k < ne) {l : List Value} (hl : l = el P kd k) : Vals (w.setCells gv (k * 3) l) gv ne (k + 1) P kd := by
  subst hl
  obtain ⟨cs, h1, h2, h3⟩ := h
  obtain ⟨c', g1, g2, g3⟩ := heap_setCells gv (el P kd k) (k * 3) w cs h1
  refine ⟨c', g1, by rw [g2, h2], fun i hi j hj => ?_⟩
  rw [g3]
  have hl : (el P kd k).length = 3 := rfl
  rw [hl]
  by_cases hik : i = k
  · subst hik
    rw [if_pos (by omega)]
    congr 1; omega
  · rw [if_neg (by omega)]
    exact h3 i (by omega) j hj
/-- The values of resource r among the first k entries. -/
def Vf (re : Nat → Int) (k r : Nat) : List Nat := (List.range k).filter fun i => re i == (r : Int)
theorem mem_Vf {re : Nat → Int} {k r i : Nat} (h : i ∈ Vf re k r) : i < k := by
  have := (List.mem_filter.1 h).1
  simpa using this
theorem length_Vf (re : Nat → Int) (k r : Nat) : (Vf re k r).length ≤ k := by
  have := List.length_filter_le (fun i => re i == (r : Int)) (List.range k)
  simpa [Vf] using this
theorem Vf_succ {re : Nat → Int} {k r : Nat} (h : (r : Int) = re k) : Vf re (k + 1) = updC (Vf re k) r k := by
  funext y
  unfold updC Vf
  rw [List.range_succ, List.filter_append]
  by_cases hy : y = r
  · subst hy
    simp [h]
  · have : (re k == (y : Int)) = false := by simp; omega
    simp [hy, this]
/-- A stored value lies at p; it came from (n, a). -/
def Stv (w : World) (p : Nat) (n : Int) (a : Nat → Int) : Prop := ∃ cs : Array Value, w.heap[p]? = some (.cells cs 51) ∧ cs.size = 35 ∧ w.rangeAt p 14 (nl n a)
theorem Stv.same {w w' : World} {p : Nat} {n : Int} {a : Nat → Int} (h : Stv w p n a) (hb : w'.heap[p]? = w.heap[p]?) : Stv w' p n a := by
  obtain ⟨cs, h1, h2, h3⟩ := h
  exact ⟨cs, hb.trans h1, h2, range_same hb h3⟩
theorem Stv.lt {w : World} {p : Nat} {n : Int} {a : Nat → Int} (h : Stv w p n a) : p < w.heap.size := by
  obtain ⟨cs, h1, _⟩ := h
  exact lt_of_heap h1
theorem Stv.new {w : World} {p : Nat} {cs : Array Value} (h : w.heap[p]? = some (.cells cs 51)) (hs : cs.size = 35) (hd : cs.toList.drop 14 = nl 0 (fun _ => 0)) : Stv w p 0 (fun _ => 0) := by
  refine ⟨cs, h, hs, range_of_heap h (fun j hj => ?_)⟩
  rw [← hd, List.getElem?_drop]
  simp
theorem Stv.there {w : World} {p : Nat} {n : Int} {a : Nat → Int} (h : Stv w p n a) : w.there p 14 21 := by
  obtain ⟨cs, h1, h2, h3⟩ := h
  exact there_of_heap h1 (by omega)
theorem Stv.set {w : World} {p : Nat} {n n' : Int} {a a' : Nat → Int} (h : Stv w p n a) : Stv (w.setCells p 14 (nl n' a')) p n' a' := by
  obtain ⟨cs, h1, h2, _⟩ := h
  have hl := length_nl n' a'
  obtain ⟨l, hl2⟩ : ∃ l, l = nl n' a' := ⟨_, rfl⟩
  unfold Stv
  rw [← hl2] at hl ⊢
  clear hl2
  obtain ⟨c', g1, g2, g3⟩ := heap_setCells p l 14 w cs h1
  refine ⟨c', g1, by rw [g2, h2], range_of_heap g1 (fun j hj => ?_)⟩
  rw [g3, if_pos (by omega), Nat.add_sub_cancel_left]
theorem Stv.not54 {w : World} {p : Nat} {n : Int} {a : Nat → Int} (h : Stv w p n a) {base m size : Nat} {v : Value} {xs : List Value} (hr : w.ownsRow base 54 size v m xs) : v.ownBlock ≠ some p := by
  obtain ⟨cs, h1, _⟩ := h
  exact row_not_cells hr h1 (by decide)
theorem Stv.notMap {w : World} {p : Nat} {n : Int} {a : Nat → Int} (h : Stv w p n a) {k : TypeId} {b : Nat} {f : Nat → Option Value} (hm : MapOf k w b f) : p ≠ b := by
  obtain ⟨cs, h1, _⟩ := h
  exact hm.notCells h1
theorem grown_setCells (w : World) (b o : Nat) (l : List Value) : w.grownBy (w.setCells b o l) (some b) := by
  have h := below_setCells (B := 0) (a := w) b (Nat.zero_le _) l o w (Below.refl _ _)
  exact ⟨h.os, h.tape, h.output, h.size, fun k _ hk => heap_setCells_other b l o w k (by simpa using hk)⟩
/-- The state between two rounds of the loop over the entries. -/
structure En (B base : Nat) (w W0 : World) (gv bv ne : Nat) (re fr : Nat → Int) (hf : Nat → Bool) (kd : Nat → Int) (k : Nat) (P : Nat → Nat) (sv : Nat → Value) (W : World) : Prop where
  vm : VM base P kd W bv (Vf re k) sv
  vals : Vals W gv ne k P kd
  stored : ∀ i, i < k → Stv W (P i) (sfn hf i) (sfa hf fr i)
  high : ∀ i, i < k → gv < P i
  bel : Below B w W
  old : ∀ j, j < base → j ≠ gv → j ≠ bv → W.heap[j]? = W0.heap[j]?
  size : base ≤ W.heap.size
/-- Only new blocks turned. -/
theorem En.later {B base : Nat} {w W0 : World} {gv bv ne : Nat} {re fr : Nat → Int} {hf : Nat → Bool} {kd : Nat → Int} {k : Nat} {P : Nat → Nat} {sv : Nat → Value} {W W' : World} (h : En B base w W0 gv bv ne re fr hf kd k P sv W) (hB : B ≤ W.heap.size) (hb : Below W.heap.size W W') : En B base w W0 gv bv ne re fr hf kd k P sv W' where
  vm := h.vm.later (grown_below hb)
  vals := h.vals.same (hb.block _ h.vals.lt)
  stored i hi := (h.stored i hi).same (hb.block _ (h.stored i hi).lt)
  high := h.high
  bel := h.bel.trans (hb.mono hB)
  old j h1 h2 h3 := (hb.block j (by have := h.size; omega)).trans (h.old j h1 h2 h3)
  size := Nat.le_trans h.size hb.size
theorem En.congr {B base : Nat} {w W0 : World} {gv bv ne : Nat} {re fr : Nat → Int} {hf : Nat → Bool} {kd : Nat → Int} {k : Nat} {P P' : Nat → Nat} {sv : Nat → Value} {W : World} (h : En B base w W0 gv bv ne re fr hf kd k P sv W) (hP : ∀ i, i < k → P i = P' i) : En B base w W0 gv bv ne re fr hf kd k P' sv W where
  vm := h.vm.congr (fun r i hi => hP i (mem_Vf hi))
  vals := h.vals.congr hP
  stored i hi := by rw [← hP i hi]; exact h.stored i hi
  high i hi := by rw [← hP i hi]; exact h.high i hi
  bel := h.bel
  old := h.old
  size := h.size
/-- Behind 'vals[i] = ..' and the append to the map's row. -/
theorem En.step {B base : Nat} {w W0 : World} {gv bv ne : Nat} {re fr : Nat → Int} {hf : Nat → Bool} {kd : Nat → Int} {k r : Nat} {P : Nat → Nat} {sv sv' : Nat → Value} {W W' : World} (h : En B base w W0 gv bv ne re fr hf kd k P sv W) (hv : Vals W gv ne (k + 1) P kd) (hs : Stv W (P k) (sfn hf k) (sfa hf fr k)) (hh : gv < P k) (hr : r < 256) (hre : (r : Int) = re k)
    (hgB : B ≤ gv) (hbB : B ≤ bv) (hgb : gv < base) (hvm : VM base P kd W' bv (updC (Vf re k) r k) sv') (hk : Kept2 W W' bv (slOf (Vf re k) sv r).ownBlock) (hne : gv ≠ bv) : En B base w W0 gv bv ne re fr hf kd (k + 1) P sv' W' := by
  have hrow := h.vm.rows r hr
  have st : ∀ i, i < k + 1 → Stv W (P i) (sfn hf i) (sfa hf fr i) := fun i hi => by
    by_cases hik : i = k
    · subst hik; exact hs
    · exact h.stored i (by omega)
  refine ⟨by rw [Vf_succ hre]; exact hvm, hv.same (hk.block _ hv.lt hne (fun e => by have := row_base hrow gv e.symm; omega)), fun i hi => (st i hi).same (hk.block _ (st i hi).lt ((st i hi).notMap h.vm.map) (Ne.symm ((st i hi).not54 hrow))), fun i hi => ?_, h.bel.trans (hk.below (by have := h.size; omega) hbB (fun g hg => by have := row_base hrow g hg; omega)), fun j h1 h2 h3 => (hk.block j (by have := h.size; omega) h3 (fun e => by have := row_base hrow j e.symm; omega)).trans (h.old j h1 h2 h3), Nat.le_trans h.size hk.size⟩
  by_cases hik : i = k
  · subst hik; exact hh
  · exact h.high i (by omega)
/-- Behind the store into the slice of values. -/
theorem En.setVals {B base : Nat} {w W0 : World} {gv bv ne : Nat} {re fr : Nat → Int} {hf : Nat → Bool} {kd : Nat → Int} {k : Nat} {P : Nat → Nat} {sv : Nat → Value} {W : World} (h : En B base w W0 gv bv ne re fr hf kd k P sv W) (hk : k < ne) {l : List Value} (hl : l = el P kd k) (hgB : B ≤ gv) (hgb : gv < base) (hne : gv ≠ bv) :
    En B base w W0 gv bv ne re fr hf kd k P sv (W.setCells gv (k * 3) l) ∧ Vals (W.setCells gv (k * 3) l) gv ne (k + 1) P kd := by
  have hg := grown_setCells W gv (k * 3) l
  have hv := h.vals.set hk hl
  refine ⟨⟨h.vm.turned hg hgb hne, ?_, fun i hi => (h.stored i hi).same (heap_setCells_other _ _ _ _ _ (by have := h.high i hi; omega)), h.high, below_setCells _ hgB _ _ _ h.bel, fun j h1 h2 h3 => (heap_setCells_other _ _ _ _ _ h2).trans (h.old j h1 h2 h3), Nat.le_trans h.size hg.size⟩, hv⟩
  obtain ⟨cs, g1, g2, g3⟩ := hv
  exact ⟨cs, g1, g2, fun i hi => g3 i (by omega)⟩
end Go.Proofs.Ybulkddqw
