/-
  The law: the loop over the entries (block 4).
-/
import Derived.Test.YbulkddqwFill
namespace Go.Proofs.Ybulkddqw
open Go.RowKit Go.Maps Go.ChangeMaps
theorem at_list {w : World} {b : Nat} {cs : Array Value} {t : TypeId} {k : Nat} {v : Value} (h : w.heap[b]? = some (.cells cs t)) (hv : cs[k]? = some v) : w.cell? ⟨b, k, none⟩ = some v := (cell_of_heap h k).trans hv
set_option maxRecDepth 100000 in
set_option maxHeartbeats 4000000 in
theorem entries_loop (c : Code) (hc : Yba.f3.body.bind (blkCode 4) = some c) (Q : Exit → Act → World → Prop) (w W : World) (B gv bv ne cap : Nat) (s : Option Addr) (g o : Nat) (re fr : Nat → Int) (hf : Nat → Bool) (kd : Nat → Int) (hn : ne ≤ 1024) (hE : Ens w s g o ne re fr hf kd) (hs : w.heap.size = B) (hgB : B ≤ gv) (hbB : B ≤ bv) (hgb : gv < W.heap.size) (hne : gv ≠ bv)
    (P0 : Nat → Nat) (sv0 : Nat → Value) (h0 : En B W.heap.size w W gv bv ne re fr hf kd 0 P0 sv0 W) (u0 u1 u2 u3 u4 u5 u6 u7 u8 u9 u10 u11 u12 u13 u14 u15 u16 u19 u20 u21 u22 u23 u24 u25 u26 u27 u28 u29 u30 u31 u32 u33 u34 u35 u36 u37 u38 u39 u40 u41 u42 u43 u44 u45 u46 u47 u48 u49 u50 u51 u52 u53 u54 u55 u56 u57 u58 u59 u60 u61 u62 u63 u64 u65 u66 u67 u68 u69 u70 u71 u72 u73 u74 u75 u76 u77 u78 u79 u80 u81 u82 u83 u84 u85 u86 u87 u88 u89 u90 u91 u92 u93 u97 u98 u99 u100 u101 u102 u103 u104 u105 u106 u107 u108 u109 u110 u111 u112 u113 u114 u115 u116 u117 u118 u119 u120 u121 u122 u123 u124 u125 u126 u127 u128 u129 u130 u131 u132 u133 u134 u135 u136 u137 u138 u139 u140 u141 u142 u143 u144 u145 u146 u147 u148 u149 u150 u151 u152 u153 u154 u155 u156 u157 u158 u159 u160 u161 u162 u163 u164 u165 u166 u167 u168 u169 u170 u171 u172 u173 u174 u175 u176 u177 u178 u179 u180 u181 u182 u183 u184 u185 u186 u187 u188 u189 u190 u191 u192 u193 u194 u195 u196 u197 u198 u199 u200 u201 u202 u203 u204 u205 u206 u207 u208 u209 u210 u211 u212 u213 u214 u215 u216 u217 u218 u219 u220 u221 u222 u223 u224 u225 u226 u227 u228 u229 u230 u231 u232 u233 u234 u235 u236 u237 u238 u239 u240 u241 u242 u243 u244 u245 u246 u247 u248 u249 u250 u251 u252 u253 u254 u255 u256 u257 u258 u259 u260 u261 u262 u263 u264 u265 u266 u267 u268 u269 u270 u271 u272 u273 u274 u275 u276 u277 u278 u279 u280 u281 u282 u283 u284 u285 u286 u287 u288 : Value)
    (hend : ∀ (v19 v20 v21 v22 v96 v97 v98 v99 v100 v101 v102 v103 v104 v105 v106 v107 v108 v109 v110 v111 v112 v113 v114 v115 v116 v117 v118 v119 v120 v121 v122 v123 v124 v125 v126 v127 v128 v129 v130 v131 v132 : Value) (P : Nat → Nat) (sv : Nat → Value) (W' : World), En B W.heap.size w W gv bv ne re fr hf kd ne P sv W' → Q .normal ⟨#[u0, u1, u2, u3, u4, u5, u6, u7, u8, u9, u10, u11, u12, u13, u14, u15, u16, .slice (some ⟨gv, 0, none⟩) ne ne, .map (some bv), v19, v20, v21, v22, u23, u24, u25, u26, u27, u28, u29, u30, u31, u32, u33, u34, u35, u36, u37, u38, u39, u40, u41, u42, u43, u44, u45, u46, u47, u48, u49, u50, u51, u52, u53, u54, u55, u56, u57, u58, u59, u60, u61, u62, u63, u64, u65, u66, u67, u68, u69, u70, u71, u72, u73, u74, u75, u76, u77, u78, u79, u80, u81, u82, u83, u84, u85, u86, u87, u88, u89, u90, u91, u92, u93, .slice s ne cap, .int .i64 (ne : Int), v96, v97, v98, v99, v100, v101, v102, v103, v104, v105, v106, v107, v108, v109, v110, v111, v112, v113, v114, v115, v116, v117, v118, v119, v120, v121, v122, v123, v124, v125, v126, v127, v128, v129, v130, v131, v132, u133, u134, u135, u136, u137, u138, u139, u140, u141, u142, u143, u144, u145, u146, u147, u148, u149, u150, u151, u152, u153, u154, u155, u156, u157, u158, u159, u160, u161, u162, u163, u164, u165, u166, u167, u168, u169, u170, u171, u172, u173, u174, u175, u176, u177, u178, u179, u180, u181, u182, u183, u184, u185, u186, u187, u188, u189, u190, u191, u192, u193, u194, u195, u196, u197, u198, u199, u200, u201, u202, u203, u204, u205, u206, u207, u208, u209, u210, u211, u212, u213, u214, u215, u216, u217, u218, u219, u220, u221, u222, u223, u224, u225, u226, u227, u228, u229, u230, u231, u232, u233, u234, u235, u236, u237, u238, u239, u240, u241, u242, u243, u244, u245, u246, u247, u248, u249, u250, u251, u252, u253, u254, u255, u256, u257, u258, u259, u260, u261, u262, u263, u264, u265, u266, u267, u268, u269, u270, u271, u272, u273, u274, u275, u276, u277, u278, u279, u280, u281, u282, u283, u284, u285, u286, u287, u288], []⟩ W') :
    c.wp Yba.prog Q ⟨#[u0, u1, u2, u3, u4, u5, u6, u7, u8, u9, u10, u11, u12, u13, u14, u15, u16, .slice (some ⟨gv, 0, none⟩) ne ne, .map (some bv), u19, u20, u21, u22, u23, u24, u25, u26, u27, u28, u29, u30, u31, u32, u33, u34, u35, u36, u37, u38, u39, u40, u41, u42, u43, u44, u45, u46, u47, u48, u49, u50, u51, u52, u53, u54, u55, u56, u57, u58, u59, u60, u61, u62, u63, u64, u65, u66, u67, u68, u69, u70, u71, u72, u73, u74, u75, u76, u77, u78, u79, u80, u81, u82, u83, u84, u85, u86, u87, u88, u89, u90, u91, u92, u93, .slice s ne cap, .int .i64 (ne : Int), .int .i64 0, u97, u98, u99, u100, u101, u102, u103, u104, u105, u106, u107, u108, u109, u110, u111, u112, u113, u114, u115, u116, u117, u118, u119, u120, u121, u122, u123, u124, u125, u126, u127, u128, u129, u130, u131, u132, u133, u134, u135, u136, u137, u138, u139, u140, u141, u142, u143, u144, u145, u146, u147, u148, u149, u150, u151, u152, u153, u154, u155, u156, u157, u158, u159, u160, u161, u162, u163, u164, u165, u166, u167, u168, u169, u170, u171, u172, u173, u174, u175, u176, u177, u178, u179, u180, u181, u182, u183, u184, u185, u186, u187, u188, u189, u190, u191, u192, u193, u194, u195, u196, u197, u198, u199, u200, u201, u202, u203, u204, u205, u206, u207, u208, u209, u210, u211, u212, u213, u214, u215, u216, u217, u218, u219, u220, u221, u222, u223, u224, u225, u226, u227, u228, u229, u230, u231, u232, u233, u234, u235, u236, u237, u238, u239, u240, u241, u242, u243, u244, u245, u246, u247, u248, u249, u250, u251, u252, u253, u254, u255, u256, u257, u258, u259, u260, u261, u262, u263, u264, u265, u266, u267, u268, u269, u270, u271, u272, u273, u274, u275, u276, u277, u278, u279, u280, u281, u282, u283, u284, u285, u286, u287, u288], []⟩ W := by
  obtain rfl : c = ((Yba.f3.body.bind (blkCode 4)).getD .skip) := by rw [hc]; rfl
  clear hc
  conv => arg 2; whnf
  dsimp only
  go_wp2_with fail
  go_loopw [96] (fun i wr => ∃ (k : Nat) (P : Nat → Nat) (sv : Nat → Value), i = .int .i64 k ∧ k ≤ ne ∧ En B W.heap.size w W gv bv ne re fr hf kd k P sv wr) (fun i _ => (ne - intOf i).toNat)
  case atStart => exact ⟨0, P0, sv0, rfl, by omega, h0⟩
  case round =>
    clear h0
    obtain ⟨k, P, sv, rfl, hkn, hEn⟩ := hrel
    by_cases hk : k < ne
    · obtain rfl := hE.1 (by omega)
      have r37 := (hE.later hs hEn.bel).2.1 k hk
      obtain ⟨⟨hre0, hre1⟩, hfr0, hfr1⟩ := hE.2.2 k hk
      have j37 := i37 (re k) (fr k) (hf k) (kd k)
      have o37 := one_en (re k) (fr k) (hf k) (kd k)
      have t37 : (wr.alloc (.cells #[.int .u8 0, .int .u8 0, .bool false, .int .u32 0] 37)).there wr.heap.size 0 (en (re k) (fr k) (hf k) (kd k)).length := there_new (Nat.le_refl 4)
      have i1 : (0 : Int) ≤ (k : Int) := by omega
      have i2 : (k : Int) < (ne : Int) := by omega
      have HB : Hid _ := hEn
      clear hEn
      go_upto_region 20 with (first | (refine wpL_load 37 rfl (.tmp 99) rfl (en (re k) (fr k) (hf k) (kd k)) _ Yba.underlying37 rfl j37 _ _ rfl r37 ?_) | (refine wpL_store 37 rfl (.tmp 20) (.tmp 100) rfl (en (re k) (fr k) (hf k) (kd k)) j37 o37 _ _ rfl rfl t37 ?_; clear t37 r37 j37 o37))
      have A := alloc_store (w := wr) (c := #[.int .u8 0, .int .u8 0, .bool false, .int .u32 0]) (t := 37) (en (re k) (fr k) (hf k) (kd k)) rfl
      refine wp_world (fun W => W.heap[wr.heap.size]? = some (.cells (en (re k) (fr k) (hf k) (kd k)).toArray 37) ∧ Below wr.heap.size wr W) A ?_
      clear A
      rintro W1 ⟨a20, b1⟩
      go_upto_region 21 with fail
      refine wp_world (fun W' => Stv W' W1.heap.size 0 (fun _ => 0) ∧ Below W1.heap.size W1 W') ⟨Stv.new (heapNew rfl) rfl rfl, (Below.refl _ _).alloc (Nat.le_refl _) _⟩ ?_
      rintro W2 ⟨st2, b2⟩
      have a202 := (b2.block _ (lt_of_heap a20)).trans a20
      have b12 : Below wr.heap.size wr W2 := b1.trans (b2.mono b1.size)
      have hs1 := b1.size
      have hl20 := lt_of_heap a20
      clear a20 b1 b2
      cases hfk : hf k with
      | false =>
        have c2 : W2.cell? ⟨wr.heap.size, 2, none⟩ = some (.bool false) := at_list a202 (by simp [en, hfk])
        have HG : Hid _ := And.intro hfk (And.intro st2 (And.intro a202 (And.intro b12 (And.intro hs1 hl20))))
        clear hfk st2 a202 b12 hs1 hl20
        go_upto_region 23 with fail
        obtain ⟨hfk, st2, a202, b12, hs1, hl20⟩ := HG.out
        clear HG c2
        refine wp_world (fun W' => Stv W' W1.heap.size (sfn hf k) (sfa hf fr k) ∧ Below wr.heap.size wr W' ∧ W'.heap[wr.heap.size]? = some (.cells (en (re k) (fr k) (hf k) (kd k)).toArray 37)) ⟨by unfold sfn sfa; rw [hfk]; exact st2, b12, a202⟩ ?_
        clear st2 b12 a202
        rintro W4 ⟨st4, b4, a204⟩
        have c3 : W4.cell? ⟨wr.heap.size, 3, none⟩ = some (.int .u32 (kd k)) := at_list a204 rfl
        have hg0 : gv < wr.heap.size := HB.out.vals.lt
        have t54 : W4.there gv (k * 3) ([.pointer (some ⟨W1.heap.size, 0, none⟩), .int .u32 (kd k), .int .u64 0] : List Value).length := (HB.out.vals.same (b4.block _ hg0)).there hk
        have j54 : (Yba.prog.info? 54).map (·.size) = some ([.pointer (some ⟨W1.heap.size, 0, none⟩), .int .u32 (kd k), .int .u64 0] : List Value).length := i54 (fun _ => 0) (fun _ => 0) 0
        have o54 : ∀ v ∈ ([.pointer (some ⟨W1.heap.size, 0, none⟩), .int .u32 (kd k), .int .u64 0] : List Value), v.oneCell' = true := one_el (fun _ => W1.heap.size) (fun _ => kd k) 0
        have HG : Hid _ := And.intro st4 (And.intro b4 (And.intro a204 (And.intro hs1 (And.intro hg0 hl20))))
        clear st4 b4 a204 hs1 hg0 hl20
        go_upto_region 24 with (refine wpL_store 54 rfl (.tmp 117) (.tmp 116) rfl [.pointer (some ⟨W1.heap.size, 0, none⟩), .int .u32 (kd k), .int .u64 0] j54 o54 _ _ rfl rfl t54 ?_; clear t54 j54 o54)
        obtain ⟨st4, b4, a204, hs1, hg0, hl20⟩ := HG.out
        clear HG c3
        have hBw : B ≤ wr.heap.size := hs ▸ HB.out.bel.size
        have E4 := (HB.out.later hBw b4).congr (P' := fun j => if j = k then W1.heap.size else P j) (fun i hi => by simp; omega)
        obtain ⟨E5, V5⟩ := E4.setVals hk (l := [.pointer (some ⟨W1.heap.size, 0, none⟩), .int .u32 (kd k), .int .u64 0]) (by simp [el]) hgB hgb hne
        have st5 : Stv (W4.setCells gv (k * 3) [.pointer (some ⟨W1.heap.size, 0, none⟩), .int .u32 (kd k), .int .u64 0]) W1.heap.size (sfn hf k) (sfa hf fr k) := st4.same (heap_setCells_other _ _ _ _ _ (by omega))
        have a205 : (W4.setCells gv (k * 3) [.pointer (some ⟨W1.heap.size, 0, none⟩), .int .u32 (kd k), .int .u64 0]).heap[wr.heap.size]? = some (.cells (en (re k) (fr k) (hf k) (kd k)).toArray 37) := (heap_setCells_other _ _ _ _ _ (by omega)).trans a204
        refine wp_world (fun W' => En B W.heap.size w W gv bv ne re fr hf kd k (fun j => if j = k then W1.heap.size else P j) sv W' ∧ Vals W' gv ne (k + 1) (fun j => if j = k then W1.heap.size else P j) kd ∧ Stv W' W1.heap.size (sfn hf k) (sfa hf fr k) ∧ W'.heap[wr.heap.size]? = some (.cells (en (re k) (fr k) (hf k) (kd k)).toArray 37)) ⟨E5, V5, st5, a205⟩ ?_
        clear E4 E5 V5 st5 a205 st4 b4 a204
        rintro W5 ⟨E5, V5, st5, a205⟩
        have c0 : W5.cell? ⟨wr.heap.size, 0, none⟩ = some (.int .u8 (re k)) := at_list a205 rfl
        have t55 : ∀ W3 : World, (W3.alloc (.cells (nl 0 (fun _ => 0)).toArray 55)).there W3.heap.size 0 (nl 16 (idb (re k))).length := fun W3 => there_new (by rw [length_nl, size_nl]; omega)
        have j55 := i55 16 (idb (re k))
        have o55 := one_nl 16 (idb (re k))
        have HG : Hid _ := And.intro E5 (And.intro V5 (And.intro st5 (And.intro a205 (And.intro hs1 (And.intro hg0 (And.intro hl20 hBw))))))
        clear E5 V5 st5 a205 hs1 hg0 hl20 hBw
        go_upto_region 25 with (first | (go_at_call 6; refine (aid_any (re k) _).mono ?_; rintro e W6 ⟨rfl, b6⟩; unfold idv) | (refine wpL_store 55 rfl (.tmp 22) (.tmp 120) rfl (nl 16 (idb (re k))) j55 o55 _ _ rfl rfl (t55 _) ?_; clear t55 j55 o55))
        have A := alloc_store (w := W6) (c := (nl 0 (fun _ => 0)).toArray) (t := 55) (nl 16 (idb (re k))) (by rw [size_nl, length_nl])
        refine wp_world (fun W => W.heap[W6.heap.size]? = some (.cells (nl 16 (idb (re k))).toArray 55) ∧ Below W6.heap.size W6 W) A ?_
        clear A
        rintro W7 ⟨a22, b7⟩
        obtain ⟨E5, V5, st5, a205, hs1, hg0, hl20, hBw⟩ := HG.out
        clear HG c0
        have hW5 := E5.size
        have b57 : Below W5.heap.size W5 W7 := b6.trans (b7.mono b6.size)
        have E7 := E5.later (hs ▸ E5.bel.size) b57
        have V7 := V5.same (b57.block _ V5.lt)
        have st7 := st5.same (b57.block _ st5.lt)
        have hr : (re k).toNat < 256 := by omega
        have hre : (((re k).toNat : Nat) : Int) = re k := by omega
        rw [← hre] at a22
        have hlen := length_Vf re k (re k).toNat
        refine wp_region_noPanic ?_
        refine putVal _ rfl _ (fun _ _ _ _ h => h) W7 W.heap.size bv W6.heap.size gv (re k).toNat k ne (fun j => if j = k then W1.heap.size else P j) kd _ sv E7.vm hr (by omega) E7.size hgb (by have := E7.size; omega) hne hk a22 (V7.range (by omega)) _ (by rfl : Hid _) (by rfl) (by rfl) (by rfl) (by rfl) ?_
        intro a' v' W8 hsb hvm8 hk8
        obtain ⟨vs, hvs, rfl⟩ := hsb.list (by decide) (n := 289) (by rfl) (by decide)
        clear hsb
        have hv0 := hvs
        obtain ⟨w121, vs1, rfl, hv1⟩ := cons_of_len hv0
        obtain ⟨w122, vs2, rfl, hv2⟩ := cons_of_len hv1
        obtain ⟨w123, vs3, rfl, hv3⟩ := cons_of_len hv2
        obtain ⟨w124, vs4, rfl, hv4⟩ := cons_of_len hv3
        obtain ⟨w125, vs5, rfl, hv5⟩ := cons_of_len hv4
        obtain ⟨w126, vs6, rfl, hv6⟩ := cons_of_len hv5
        obtain ⟨w127, vs7, rfl, hv7⟩ := cons_of_len hv6
        obtain ⟨w128, vs8, rfl, hv8⟩ := cons_of_len hv7
        obtain ⟨w129, vs9, rfl, hv9⟩ := cons_of_len hv8
        obtain ⟨w130, vs10, rfl, hv10⟩ := cons_of_len hv9
        obtain ⟨w131, vs11, rfl, hv11⟩ := cons_of_len hv10
        obtain rfl := List.length_eq_zero_iff.1 hv11
        clear hvs hv0 hv1 hv2 hv3 hv4 hv5 hv6 hv7 hv8 hv9 hv10 hv11
        simp only [List.cons_append, List.nil_append]
        refine NoPanic.normal ?_
        have E8 := E7.step V7 (by simpa using st7) (by simp; omega) hr hre hgB hbB hgb hvm8 hk8 hne
        have HG : Hid _ := E8
        clear E5 V5 st5 a205 hs1 hg0 hl20 hBw b57 E7 V7 st7 E8 b6 b7 a22 hvm8 hk8
        go_wp2
        go_roundw
        case rel => exact ⟨k + 1, _, _, by simp, by omega, HG.out⟩
        case measure => simp [intOf]; omega
      | true =>
        have c2 : W2.cell? ⟨wr.heap.size, 2, none⟩ = some (.bool true) := at_list a202 (by simp [en, hfk])
        have c1 : W2.cell? ⟨wr.heap.size, 1, none⟩ = some (.int .u8 (fr k)) := at_list a202 rfl
        have t26 : ∀ W3, Below W2.heap.size W2 W3 → W3.there W1.heap.size 14 (nl 16 (idb (fr k))).length := fun W3 b3 => by rw [length_nl]; exact (st2.same (b3.block _ st2.lt)).there
        have j26 := i26 16 (idb (fr k))
        have o26 := one_nl 16 (idb (fr k))
        have HG : Hid _ := And.intro hfk (And.intro st2 (And.intro a202 (And.intro b12 (And.intro hs1 hl20))))
        clear hfk st2 a202 b12 hs1 hl20
        go_upto_region 23 with (first | (go_at_call 6; refine (aid_any (fr k) _).mono ?_; rintro e W3 ⟨rfl, b3⟩; unfold idv) | (refine wpL_store 26 rfl (.tmp 110) (.tmp 108) rfl (nl 16 (idb (fr k))) j26 o26 _ _ rfl rfl (t26 _ b3) ?_; clear t26 j26 o26))
        obtain ⟨hfk, st2, a202, b12, hs1, hl20⟩ := HG.out
        clear HG c2 c1
        have st3 := st2.same (b3.block _ st2.lt)
        have b13 : Below wr.heap.size wr W3 := b12.trans (b3.mono b12.size)
        refine wp_world (fun W' => Stv W' W1.heap.size (sfn hf k) (sfa hf fr k) ∧ Below wr.heap.size wr W' ∧ W'.heap[wr.heap.size]? = some (.cells (en (re k) (fr k) (hf k) (kd k)).toArray 37)) ⟨by unfold sfn sfa; rw [hfk]; exact st3.set, below_setCells _ hs1 _ _ _ b13, (heap_setCells_other _ _ _ _ _ (by omega)).trans ((b3.block _ (lt_of_heap a202)).trans a202)⟩ ?_
        clear st2 b12 a202 st3 b13 b3
        rintro W4 ⟨st4, b4, a204⟩
        have c3 : W4.cell? ⟨wr.heap.size, 3, none⟩ = some (.int .u32 (kd k)) := at_list a204 rfl
        have hg0 : gv < wr.heap.size := HB.out.vals.lt
        have t54 : W4.there gv (k * 3) ([.pointer (some ⟨W1.heap.size, 0, none⟩), .int .u32 (kd k), .int .u64 0] : List Value).length := (HB.out.vals.same (b4.block _ hg0)).there hk
        have j54 : (Yba.prog.info? 54).map (·.size) = some ([.pointer (some ⟨W1.heap.size, 0, none⟩), .int .u32 (kd k), .int .u64 0] : List Value).length := i54 (fun _ => 0) (fun _ => 0) 0
        have o54 : ∀ v ∈ ([.pointer (some ⟨W1.heap.size, 0, none⟩), .int .u32 (kd k), .int .u64 0] : List Value), v.oneCell' = true := one_el (fun _ => W1.heap.size) (fun _ => kd k) 0
        have HG : Hid _ := And.intro st4 (And.intro b4 (And.intro a204 (And.intro hs1 (And.intro hg0 hl20))))
        clear st4 b4 a204 hs1 hg0 hl20
        go_upto_region 24 with (refine wpL_store 54 rfl (.tmp 117) (.tmp 116) rfl [.pointer (some ⟨W1.heap.size, 0, none⟩), .int .u32 (kd k), .int .u64 0] j54 o54 _ _ rfl rfl t54 ?_; clear t54 j54 o54)
        obtain ⟨st4, b4, a204, hs1, hg0, hl20⟩ := HG.out
        clear HG c3
        have hBw : B ≤ wr.heap.size := hs ▸ HB.out.bel.size
        have E4 := (HB.out.later hBw b4).congr (P' := fun j => if j = k then W1.heap.size else P j) (fun i hi => by simp; omega)
        obtain ⟨E5, V5⟩ := E4.setVals hk (l := [.pointer (some ⟨W1.heap.size, 0, none⟩), .int .u32 (kd k), .int .u64 0]) (by simp [el]) hgB hgb hne
        have st5 : Stv (W4.setCells gv (k * 3) [.pointer (some ⟨W1.heap.size, 0, none⟩), .int .u32 (kd k), .int .u64 0]) W1.heap.size (sfn hf k) (sfa hf fr k) := st4.same (heap_setCells_other _ _ _ _ _ (by omega))
        have a205 : (W4.setCells gv (k * 3) [.pointer (some ⟨W1.heap.size, 0, none⟩), .int .u32 (kd k), .int .u64 0]).heap[wr.heap.size]? = some (.cells (en (re k) (fr k) (hf k) (kd k)).toArray 37) := (heap_setCells_other _ _ _ _ _ (by omega)).trans a204
        refine wp_world (fun W' => En B W.heap.size w W gv bv ne re fr hf kd k (fun j => if j = k then W1.heap.size else P j) sv W' ∧ Vals W' gv ne (k + 1) (fun j => if j = k then W1.heap.size else P j) kd ∧ Stv W' W1.heap.size (sfn hf k) (sfa hf fr k) ∧ W'.heap[wr.heap.size]? = some (.cells (en (re k) (fr k) (hf k) (kd k)).toArray 37)) ⟨E5, V5, st5, a205⟩ ?_
        clear E4 E5 V5 st5 a205 st4 b4 a204
        rintro W5 ⟨E5, V5, st5, a205⟩
        have c0 : W5.cell? ⟨wr.heap.size, 0, none⟩ = some (.int .u8 (re k)) := at_list a205 rfl
        have t55 : ∀ W3 : World, (W3.alloc (.cells (nl 0 (fun _ => 0)).toArray 55)).there W3.heap.size 0 (nl 16 (idb (re k))).length := fun W3 => there_new (by rw [length_nl, size_nl]; omega)
        have j55 := i55 16 (idb (re k))
        have o55 := one_nl 16 (idb (re k))
        have HG : Hid _ := And.intro E5 (And.intro V5 (And.intro st5 (And.intro a205 (And.intro hs1 (And.intro hg0 (And.intro hl20 hBw))))))
        clear E5 V5 st5 a205 hs1 hg0 hl20 hBw
        go_upto_region 25 with (first | (go_at_call 6; refine (aid_any (re k) _).mono ?_; rintro e W6 ⟨rfl, b6⟩; unfold idv) | (refine wpL_store 55 rfl (.tmp 22) (.tmp 120) rfl (nl 16 (idb (re k))) j55 o55 _ _ rfl rfl (t55 _) ?_; clear t55 j55 o55))
        have A := alloc_store (w := W6) (c := (nl 0 (fun _ => 0)).toArray) (t := 55) (nl 16 (idb (re k))) (by rw [size_nl, length_nl])
        refine wp_world (fun W => W.heap[W6.heap.size]? = some (.cells (nl 16 (idb (re k))).toArray 55) ∧ Below W6.heap.size W6 W) A ?_
        clear A
        rintro W7 ⟨a22, b7⟩
        obtain ⟨E5, V5, st5, a205, hs1, hg0, hl20, hBw⟩ := HG.out
        clear HG c0
        have hW5 := E5.size
        have b57 : Below W5.heap.size W5 W7 := b6.trans (b7.mono b6.size)
        have E7 := E5.later (hs ▸ E5.bel.size) b57
        have V7 := V5.same (b57.block _ V5.lt)
        have st7 := st5.same (b57.block _ st5.lt)
        have hr : (re k).toNat < 256 := by omega
        have hre : (((re k).toNat : Nat) : Int) = re k := by omega
        rw [← hre] at a22
        have hlen := length_Vf re k (re k).toNat
        refine wp_region_noPanic ?_
        refine putVal _ rfl _ (fun _ _ _ _ h => h) W7 W.heap.size bv W6.heap.size gv (re k).toNat k ne (fun j => if j = k then W1.heap.size else P j) kd _ sv E7.vm hr (by omega) E7.size hgb (by have := E7.size; omega) hne hk a22 (V7.range (by omega)) _ (by rfl : Hid _) (by rfl) (by rfl) (by rfl) (by rfl) ?_
        intro a' v' W8 hsb hvm8 hk8
        obtain ⟨vs, hvs, rfl⟩ := hsb.list (by decide) (n := 289) (by rfl) (by decide)
        clear hsb
        have hv0 := hvs
        obtain ⟨w121, vs1, rfl, hv1⟩ := cons_of_len hv0
        obtain ⟨w122, vs2, rfl, hv2⟩ := cons_of_len hv1
        obtain ⟨w123, vs3, rfl, hv3⟩ := cons_of_len hv2
        obtain ⟨w124, vs4, rfl, hv4⟩ := cons_of_len hv3
        obtain ⟨w125, vs5, rfl, hv5⟩ := cons_of_len hv4
        obtain ⟨w126, vs6, rfl, hv6⟩ := cons_of_len hv5
        obtain ⟨w127, vs7, rfl, hv7⟩ := cons_of_len hv6
        obtain ⟨w128, vs8, rfl, hv8⟩ := cons_of_len hv7
        obtain ⟨w129, vs9, rfl, hv9⟩ := cons_of_len hv8
        obtain ⟨w130, vs10, rfl, hv10⟩ := cons_of_len hv9
        obtain ⟨w131, vs11, rfl, hv11⟩ := cons_of_len hv10
        obtain rfl := List.length_eq_zero_iff.1 hv11
        clear hvs hv0 hv1 hv2 hv3 hv4 hv5 hv6 hv7 hv8 hv9 hv10 hv11
        simp only [List.cons_append, List.nil_append]
        refine NoPanic.normal ?_
        have E8 := E7.step V7 (by simpa using st7) (by simp; omega) hr hre hgB hbB hgb hvm8 hk8 hne
        have HG : Hid _ := E8
        clear E5 V5 st5 a205 hs1 hg0 hl20 hBw b57 E7 V7 st7 E8 b6 b7 a22 hvm8 hk8
        go_wp2
        go_roundw
        case rel => exact ⟨k + 1, _, _, by simp, by omega, HG.out⟩
        case measure => simp [intOf]; omega
    · obtain rfl : k = ne := by omega
      have HB : Hid _ := hEn
      clear hEn
      go_wp2
      exact hend _ _ _ _ _ _ _ _ _ _ _ _ _ _ _ _ _ _ _ _ _ _ _ _ _ _ _ _ _ _ _ _ _ _ _ _ _ _ _ _ _ P sv _ HB.out
end Go.Proofs.Ybulkddqw
