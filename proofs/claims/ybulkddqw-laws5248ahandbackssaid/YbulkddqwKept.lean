/-
  The law: the values of a resource that are kept (block 10).
-/
import Derived.Test.YbulkddqwEntries
namespace Go.Proofs.Ybulkddqw
open Go.RowKit Go.Maps Go.ChangeMaps
theorem wpL_build33 {ops : Array Oper} {rest : List Oper} {o : Oper} {a : Act} {w : World} {Q : Exit → Act → World → Prop} (P : Nat → Nat) (kd : Nat → Int) (i k : Nat) (hgd : o.guard = none) (ho : o.op = .buildSlice 33 1 #[(0, .tmp k)]) (hx : a.eval (.tmp k) = .agg (el P kd i).toArray)
    (h : wpList Yba.prog ops Q rest (a.put o.dst (.slice (some ⟨w.heap.size, 0, none⟩) 1 1)) (w.alloc (.cells (el P kd i).toArray 54))) : wpList Yba.prog ops Q (o :: rest) a w :=
  wpList_plain hgd fun _ hK => wp_build33 P kd i k ho hx (hK _ _ h)
theorem wpL_append54 {ops : Array Oper} {rest : List Oper} {o : Oper} {a : Act} {w : World} {Q : Exit → Act → World → Prop} (hgd : o.guard = none) (s x : Nat) (ho : o.op = .call { callee := .builtin .append, args := #[.tmp s, .tmp x], argTypes := #[33, 33] })
    (base : Nat) (v : Value) (n : Nat) (xs : List Value) (hs : a.eval (.tmp s) = v) (hown : w.ownsRow base 54 3 v n xs) (hn : n < 1024) (g : Nat) (P : Nat → Nat) (kd : Nat → Int) (i : Nat) (hx : a.eval (.tmp x) = .slice (some ⟨g, 0, none⟩) 1 1) (hg : w.heap[g]? = some (.cells (el P kd i).toArray 54)) (hbase : base ≤ w.heap.size)
    (h : ∀ v' w', w'.ownsRow base 54 3 v' (n + 1) (xs ++ el P kd i) → w.grownBy w' v.ownBlock → wpList Yba.prog ops Q rest (a.put o.dst v') w') : wpList Yba.prog ops Q (o :: rest) a w := by
  refine wpList_plain hgd fun K hK => ?_
  obtain ⟨i0, hi, hz0, hz1, hz2⟩ := info_parts info54
  exact wp_append (.tmp s) (.tmp x) 33 ho base 54 i0 _ 3 24 Yba.underlying33 hi hz0 hz1 hz2 rfl (by decide) v n xs hs hown ⟨g, 0, none⟩ 1 1 (el P kd i) hx rfl (fun j u hu => by rw [Addr.add_mid]; exact heap_range hg j u hu) (one_el P kd i) (by unfold maxLen; omega) (by omega) hbase (fun v' w' h1 h2 _ => hK _ _ (h v' w' h1 h2))
/-- The values of resource r among the first k entries that are kept. -/
def Kf (re fr : Nat → Int) (hf : Nat → Bool) (self s : Int) (r k : Nat) : List Nat := (Vf re k r).filter (keepI hf fr self s)
theorem length_Kf (re fr : Nat → Int) (hf : Nat → Bool) (self s : Int) (r k : Nat) : (Kf re fr hf self s r k).length ≤ k := Nat.le_trans (List.length_filter_le _ _) (length_Vf re k r)
theorem Kf_other {re fr : Nat → Int} {hf : Nat → Bool} {self s : Int} {r k : Nat} (h : re k ≠ (r : Int)) : Kf re fr hf self s r (k + 1) = Kf re fr hf self s r k := by
  unfold Kf Vf
  rw [List.range_succ, List.filter_append]
  simp [h]
theorem Kf_keep {re fr : Nat → Int} {hf : Nat → Bool} {self s : Int} {r k : Nat} (h : re k = (r : Int)) (hk : keepI hf fr self s k = true) : Kf re fr hf self s r (k + 1) = Kf re fr hf self s r k ++ [k] := by
  unfold Kf Vf
  rw [List.range_succ, List.filter_append, List.filter_append]
  simp [h, hk]
theorem Kf_drop {re fr : Nat → Int} {hf : Nat → Bool} {self s : Int} {r k : Nat} (h : re k = (r : Int)) (hk : keepI hf fr self s k = false) : Kf re fr hf self s r (k + 1) = Kf re fr hf self s r k := by
  unfold Kf Vf
  rw [List.range_succ, List.filter_append, List.filter_append]
  simp [h, hk]
set_option maxRecDepth 100000 in
set_option maxHeartbeats 4000000 in
theorem kept_loop (c : Code) (hc : Yba.f3.body.bind (blkCode 10) = some c) (Q : Exit → Act → World → Prop) (W : World) (ne cap gv : Nat) (s : Option Addr) (g o : Nat) (re fr : Nat → Int) (hf : Nat → Bool) (kd : Nat → Int) (P : Nat → Nat) (self x : Int) (r : Nat) (hn : ne ≤ 1024) (hE : Ens W s g o ne re fr hf kd) (hV : Vals W gv ne ne P kd) (hself : 0 ≤ self ∧ self ≤ 255) (hx : 0 ≤ x ∧ x ≤ 255) (u1 u2 u3 u4 u5 u6 u7 u8 u9 u10 u11 u12 u13 u14 u15 u16 u18 u19 u20 u21 u22 u23 u24 u25 u26 u28 u30 u31 u33 u34 u35 u36 u37 u38 u39 u40 u41 u42 u43 u44 u45 u46 u47 u48 u49 u50 u51 u52 u53 u54 u55 u56 u57 u58 u59 u60 u61 u62 u63 u64 u65 u66 u67 u68 u69 u70 u71 u72 u73 u74 u75 u76 u77 u78 u79 u80 u81 u82 u83 u84 u85 u86 u87 u88 u89 u90 u91 u92 u93 u94 u95 u96 u97 u98 u99 u100 u101 u102 u103 u104 u105 u106 u107 u108 u109 u110 u111 u112 u113 u114 u115 u116 u117 u118 u119 u120 u121 u122 u123 u124 u125 u126 u127 u128 u129 u130 u131 u132 u133 u134 u135 u136 u137 u138 u139 u140 u141 u142 u143 u144 u145 u146 u147 u148 u149 u150 u151 u152 u153 u154 u155 u156 u157 u158 u159 u160 u161 u162 u163 u164 u165 u166 u167 u168 u169 u170 u171 u172 u173 u174 u175 u176 u177 u178 u179 u180 u181 u182 u183 u187 u188 u189 u190 u191 u192 u193 u194 u195 u196 u197 u198 u199 u200 u201 u202 u203 u204 u205 u206 u207 u208 u209 u210 u211 u212 u213 u214 u215 u216 u217 u218 u219 u220 u221 u222 u223 u224 u225 u226 u227 u228 u229 u230 u231 u232 u233 u234 u235 u236 u237 u238 u239 u240 u241 u242 u243 u244 u245 u246 u247 u248 u249 u250 u251 u252 u253 u254 u255 u256 u257 u258 u259 u260 u261 u262 u263 u264 u265 u266 u267 u268 u269 u270 u271 u272 u273 u274 u275 u276 u277 u278 u279 u280 u281 u282 u283 u284 u285 u286 u287 u288 : Value)
    (hend : ∀ (v33 v34 v186 v187 v188 v189 v190 v191 v192 v193 v194 v195 v196 v197 v198 v199 v200 v201 v202 v203 v204 v205 v206 v207 v208 v209 v210 v211 v212 v213 v214 v215 v216 v217 v218 v219 v220 v221 v222 : Value) (v : Value) (W' : World), W'.ownsRow W.heap.size 54 3 v (Kf re fr hf self x r ne).length (rowC P kd (Kf re fr hf self x r ne)) → Below W.heap.size W W' → Q .normal ⟨#[.int .u8 self, u1, u2, u3, u4, u5, u6, u7, u8, u9, u10, u11, u12, u13, u14, u15, u16, .slice (some ⟨gv, 0, none⟩) ne ne, u18, u19, u20, u21, u22, u23, u24, u25, u26, .int .u8 (r : Int), u28, .int .u8 x, u30, u31, v, v33, v34, u35, u36, u37, u38, u39, u40, u41, u42, u43, u44, u45, u46, u47, u48, u49, u50, u51, u52, u53, u54, u55, u56, u57, u58, u59, u60, u61, u62, u63, u64, u65, u66, u67, u68, u69, u70, u71, u72, u73, u74, u75, u76, u77, u78, u79, u80, u81, u82, u83, u84, u85, u86, u87, u88, u89, u90, u91, u92, u93, u94, u95, u96, u97, u98, u99, u100, u101, u102, u103, u104, u105, u106, u107, u108, u109, u110, u111, u112, u113, u114, u115, u116, u117, u118, u119, u120, u121, u122, u123, u124, u125, u126, u127, u128, u129, u130, u131, u132, u133, u134, u135, u136, u137, u138, u139, u140, u141, u142, u143, u144, u145, u146, u147, u148, u149, u150, u151, u152, u153, u154, u155, u156, u157, u158, u159, u160, u161, u162, u163, u164, u165, u166, u167, u168, u169, u170, u171, u172, u173, u174, u175, u176, u177, u178, u179, u180, u181, u182, u183, .slice s ne cap, .int .i64 (ne : Int), v186, v187, v188, v189, v190, v191, v192, v193, v194, v195, v196, v197, v198, v199, v200, v201, v202, v203, v204, v205, v206, v207, v208, v209, v210, v211, v212, v213, v214, v215, v216, v217, v218, v219, v220, v221, v222, u223, u224, u225, u226, u227, u228, u229, u230, u231, u232, u233, u234, u235, u236, u237, u238, u239, u240, u241, u242, u243, u244, u245, u246, u247, u248, u249, u250, u251, u252, u253, u254, u255, u256, u257, u258, u259, u260, u261, u262, u263, u264, u265, u266, u267, u268, u269, u270, u271, u272, u273, u274, u275, u276, u277, u278, u279, u280, u281, u282, u283, u284, u285, u286, u287, u288], []⟩ W') :
    c.wp Yba.prog Q ⟨#[.int .u8 self, u1, u2, u3, u4, u5, u6, u7, u8, u9, u10, u11, u12, u13, u14, u15, u16, .slice (some ⟨gv, 0, none⟩) ne ne, u18, u19, u20, u21, u22, u23, u24, u25, u26, .int .u8 (r : Int), u28, .int .u8 x, u30, u31, .slice none 0 0, u33, u34, u35, u36, u37, u38, u39, u40, u41, u42, u43, u44, u45, u46, u47, u48, u49, u50, u51, u52, u53, u54, u55, u56, u57, u58, u59, u60, u61, u62, u63, u64, u65, u66, u67, u68, u69, u70, u71, u72, u73, u74, u75, u76, u77, u78, u79, u80, u81, u82, u83, u84, u85, u86, u87, u88, u89, u90, u91, u92, u93, u94, u95, u96, u97, u98, u99, u100, u101, u102, u103, u104, u105, u106, u107, u108, u109, u110, u111, u112, u113, u114, u115, u116, u117, u118, u119, u120, u121, u122, u123, u124, u125, u126, u127, u128, u129, u130, u131, u132, u133, u134, u135, u136, u137, u138, u139, u140, u141, u142, u143, u144, u145, u146, u147, u148, u149, u150, u151, u152, u153, u154, u155, u156, u157, u158, u159, u160, u161, u162, u163, u164, u165, u166, u167, u168, u169, u170, u171, u172, u173, u174, u175, u176, u177, u178, u179, u180, u181, u182, u183, .slice s ne cap, .int .i64 (ne : Int), .int .i64 0, u187, u188, u189, u190, u191, u192, u193, u194, u195, u196, u197, u198, u199, u200, u201, u202, u203, u204, u205, u206, u207, u208, u209, u210, u211, u212, u213, u214, u215, u216, u217, u218, u219, u220, u221, u222, u223, u224, u225, u226, u227, u228, u229, u230, u231, u232, u233, u234, u235, u236, u237, u238, u239, u240, u241, u242, u243, u244, u245, u246, u247, u248, u249, u250, u251, u252, u253, u254, u255, u256, u257, u258, u259, u260, u261, u262, u263, u264, u265, u266, u267, u268, u269, u270, u271, u272, u273, u274, u275, u276, u277, u278, u279, u280, u281, u282, u283, u284, u285, u286, u287, u288], []⟩ W := by
  obtain rfl : c = ((Yba.f3.body.bind (blkCode 10)).getD .skip) := by rw [hc]; rfl
  clear hc
  conv => arg 2; whnf
  dsimp only
  have HN : Hid _ := hend
  clear hend
  go_wp2_with fail
  go_loopw [32, 186] (fun v i wr => ∃ (k : Nat), i = .int .i64 k ∧ k ≤ ne ∧ wr.ownsRow W.heap.size 54 3 v (Kf re fr hf self x r k).length (rowC P kd (Kf re fr hf self x r k)) ∧ Below W.heap.size W wr) (fun _ i _ => (ne - intOf i).toNat)
  case atStart => exact ⟨0, rfl, by omega, World.ownsRow_nil W _ 54 3, Below.refl _ _⟩
  case round =>
    obtain ⟨k, rfl, hkn, hrow, hbel⟩ := hrel
    by_cases hk : k < ne
    · obtain rfl := hE.1 (by omega)
      have r37 := (hE.later rfl hbel).2.1 k hk
      obtain ⟨⟨hre0, hre1⟩, hfr0, hfr1⟩ := hE.2.2 k hk
      have j37 := i37 (re k) (fr k) (hf k) (kd k)
      have o37 := one_en (re k) (fr k) (hf k) (kd k)
      have t37 : (wr.alloc (.cells #[.int .u8 0, .int .u8 0, .bool false, .int .u32 0] 37)).there wr.heap.size 0 (en (re k) (fr k) (hf k) (kd k)).length := there_new (Nat.le_refl 4)
      have i1 : (0 : Int) ≤ (k : Int) := by omega
      have i2 : (k : Int) < (ne : Int) := by omega
      have HB : Hid _ := And.intro hrow hbel
      clear hrow hbel
      go_upto_region 52 with (first | (refine wpL_load 37 rfl (.tmp 189) rfl (en (re k) (fr k) (hf k) (kd k)) _ Yba.underlying37 rfl j37 _ _ rfl r37 ?_) | (refine wpL_store 37 rfl (.tmp 34) (.tmp 190) rfl (en (re k) (fr k) (hf k) (kd k)) j37 o37 _ _ rfl rfl t37 ?_; clear t37 r37 j37 o37))
      have A := alloc_store (w := wr) (c := #[.int .u8 0, .int .u8 0, .bool false, .int .u32 0]) (t := 37) (en (re k) (fr k) (hf k) (kd k)) rfl
      refine wp_world (fun W => W.heap[wr.heap.size]? = some (.cells (en (re k) (fr k) (hf k) (kd k)).toArray 37) ∧ Below wr.heap.size wr W) A ?_
      clear A
      rintro W1 ⟨a34, b1⟩
      have hs0 := HB.out.2.size
      have hb1 : Below W.heap.size W W1 := HB.out.2.trans (b1.mono hs0)
      have hr1 : W1.ownsRow W.heap.size 54 3 _ _ _ := HB.out.1.kept (grown_below b1) (by cases Value.ownBlock _ <;> simp)
      have c0 : W1.cell? ⟨wr.heap.size, 0, none⟩ = some (.int .u8 (re k)) := at_list a34 rfl
      have c1 : W1.cell? ⟨wr.heap.size, 1, none⟩ = some (.int .u8 (fr k)) := at_list a34 rfl
      have c2 : W1.cell? ⟨wr.heap.size, 2, none⟩ = some (.bool (hf k)) := at_list a34 rfl
      have HC : Hid _ := And.intro hb1 hr1
      clear hb1 hr1 HB a34 b1 hs0
      by_cases hrk : re k = (r : Int)
      · have hrb : (re k != (r : Int)) = false := by simp [hrk]
        have HR : Hid _ := hrk
        clear hrk
        cases hfk : hf k with
        | false =>
          have hkeep : keepI hf fr self x k = true := by unfold keepI; rw [hfk]; rfl
          rw [hfk] at c2
          go_upto_region 54 with fail
          have hlen := length_Kf re fr hf self x r k
          have V1 := hV.same (HC.out.1.block _ hV.lt)
          have r54 := V1.range hk
          have j54 := i54 P kd k
          have hsz := HC.out.1.size
          clear c0 c1 c2 V1
          go_upto_region 55 with (first | (refine wpL_load 54 rfl (.tmp 218) rfl (el P kd k) _ Yba.underlying54 rfl j54 _ _ rfl r54 ?_; clear r54 j54) | (refine wpL_build33 P kd k 219 rfl rfl rfl ?_) | (refine wpL_append54 rfl 215 220 rfl W.heap.size _ _ _ rfl (HC.out.2.kept (World.grownBy_alloc _ _ none) (by cases Value.ownBlock _ <;> simp)) (by omega) W1.heap.size P kd k rfl (heapNew rfl) (by simp; omega) ?_; intro v' w3 hv3 hg3))
          obtain ⟨hb1, hr1⟩ := HC.out
          have hb3 : Below W.heap.size W w3 := ⟨hg3.os.trans hb1.os, hg3.tape.trans hb1.tape, hg3.output.trans hb1.output, by have := hg3.size; simp at this; omega, fun j hj => (hg3.block j (by simp; omega) (fun e => by have := row_base hr1 j e.symm; omega)).trans ((heap_alloc_old _ _ (by omega)).trans (hb1.block j hj))⟩
          rw [← rowC_snoc] at hv3
          have hKf := Kf_keep (self := self) (s := x) HR.out hkeep
          have hl : (Kf re fr hf self x r k).length + 1 = (Kf re fr hf self x r (k + 1)).length := by rw [hKf, List.length_append]; rfl
          rw [hl, ← hKf] at hv3
          have HD : Hid _ := And.intro hb3 hv3
          clear hb3 hv3 hKf hl hb1 hr1 hg3
          go_wp2
          go_roundw
          case rel => exact ⟨k + 1, by simp, by omega, HD.out.2, HD.out.1⟩
          case measure => simp [intOf]; omega
        | true =>
          rw [hfk] at c2
          by_cases hfs : fr k = self
          · have hkeep : keepI hf fr self x k = true := by unfold keepI; simp [hfs]
            have hfb : (fr k != self) = false := by simp [hfs]
            clear hfs
            go_upto_region 54 with fail
            have hlen := length_Kf re fr hf self x r k
            have V1 := hV.same (HC.out.1.block _ hV.lt)
            have r54 := V1.range hk
            have j54 := i54 P kd k
            have hsz := HC.out.1.size
            clear c0 c1 c2 V1
            go_upto_region 55 with (first | (refine wpL_load 54 rfl (.tmp 218) rfl (el P kd k) _ Yba.underlying54 rfl j54 _ _ rfl r54 ?_; clear r54 j54) | (refine wpL_build33 P kd k 219 rfl rfl rfl ?_) | (refine wpL_append54 rfl 215 220 rfl W.heap.size _ _ _ rfl (HC.out.2.kept (World.grownBy_alloc _ _ none) (by cases Value.ownBlock _ <;> simp)) (by omega) W1.heap.size P kd k rfl (heapNew rfl) (by simp; omega) ?_; intro v' w3 hv3 hg3))
            obtain ⟨hb1, hr1⟩ := HC.out
            have hb3 : Below W.heap.size W w3 := ⟨hg3.os.trans hb1.os, hg3.tape.trans hb1.tape, hg3.output.trans hb1.output, by have := hg3.size; simp at this; omega, fun j hj => (hg3.block j (by simp; omega) (fun e => by have := row_base hr1 j e.symm; omega)).trans ((heap_alloc_old _ _ (by omega)).trans (hb1.block j hj))⟩
            rw [← rowC_snoc] at hv3
            have hKf := Kf_keep (self := self) (s := x) HR.out hkeep
            have hl : (Kf re fr hf self x r k).length + 1 = (Kf re fr hf self x r (k + 1)).length := by rw [hKf, List.length_append]; rfl
            rw [hl, ← hKf] at hv3
            have HD : Hid _ := And.intro hb3 hv3
            clear hb3 hv3 hKf hl hb1 hr1 hg3
            go_wp2
            go_roundw
            case rel => exact ⟨k + 1, by simp, by omega, HD.out.2, HD.out.1⟩
            case measure => simp [intOf]; omega
          · have hfb : (fr k != self) = true := by simp [hfs]
            by_cases hxs : x = self
            · have hdrop : keepI hf fr self x k = false := by unfold keepI; simp [hfs, hxs, hfk]
              have hxb : (x == self) = true := by simp [hxs]
              clear hxs
              go_wp2
              obtain ⟨hb1, hr1⟩ := HC.out
              have hKf := Kf_drop (self := self) (s := x) HR.out hdrop
              rw [← hKf] at hr1
              have HC : Hid _ := And.intro hb1 hr1
              clear hb1 hr1 hKf
              go_roundw
              case rel => exact ⟨k + 1, by simp, by omega, HC.out.2, HC.out.1⟩
              case measure => simp [intOf]; omega
            · have hxb : (x == self) = false := by simp [hxs]
              have hcall := (awithin_any (fr k) x self ⟨hfr0, hfr1⟩ hx hself W1).mono (fun e w' h => (⟨h.1, h.2.symm⟩ : e = .returned (.bool (wi (fr k) x self)) ∧ W1 = w'))
              cases hw : wi (fr k) x self with
              | true =>
                have hdrop : keepI hf fr self x k = false := by unfold keepI; simp [hfs, hfk, hw]
                rw [hw] at hcall
                go_wp2_with (go_at_call 8; refine hcall.mono ?_; rintro e w' ⟨rfl, rfl⟩; clear hcall)
                obtain ⟨hb1, hr1⟩ := HC.out
                have hKf := Kf_drop (self := self) (s := x) HR.out hdrop
                rw [← hKf] at hr1
                have HC : Hid _ := And.intro hb1 hr1
                clear hb1 hr1 hKf
                go_roundw
                case rel => exact ⟨k + 1, by simp, by omega, HC.out.2, HC.out.1⟩
                case measure => simp [intOf]; omega
              | false =>
                have hkeep : keepI hf fr self x k = true := by unfold keepI; simp [hfs, hxs, hfk, hw]
                rw [hw] at hcall
                go_upto_region 54 with (go_at_call 8; refine hcall.mono ?_; rintro e w' ⟨rfl, rfl⟩; clear hcall)
                have hlen := length_Kf re fr hf self x r k
                have V1 := hV.same (HC.out.1.block _ hV.lt)
                have r54 := V1.range hk
                have j54 := i54 P kd k
                have hsz := HC.out.1.size
                clear c0 c1 c2 V1
                go_upto_region 55 with (first | (refine wpL_load 54 rfl (.tmp 218) rfl (el P kd k) _ Yba.underlying54 rfl j54 _ _ rfl r54 ?_; clear r54 j54) | (refine wpL_build33 P kd k 219 rfl rfl rfl ?_) | (refine wpL_append54 rfl 215 220 rfl W.heap.size _ _ _ rfl (HC.out.2.kept (World.grownBy_alloc _ _ none) (by cases Value.ownBlock _ <;> simp)) (by omega) W1.heap.size P kd k rfl (heapNew rfl) (by simp; omega) ?_; intro v' w3 hv3 hg3))
                obtain ⟨hb1, hr1⟩ := HC.out
                have hb3 : Below W.heap.size W w3 := ⟨hg3.os.trans hb1.os, hg3.tape.trans hb1.tape, hg3.output.trans hb1.output, by have := hg3.size; simp at this; omega, fun j hj => (hg3.block j (by simp; omega) (fun e => by have := row_base hr1 j e.symm; omega)).trans ((heap_alloc_old _ _ (by omega)).trans (hb1.block j hj))⟩
                rw [← rowC_snoc] at hv3
                have hKf := Kf_keep (self := self) (s := x) HR.out hkeep
                have hl : (Kf re fr hf self x r k).length + 1 = (Kf re fr hf self x r (k + 1)).length := by rw [hKf, List.length_append]; rfl
                rw [hl, ← hKf] at hv3
                have HD : Hid _ := And.intro hb3 hv3
                clear hb3 hv3 hKf hl hb1 hr1 hg3
                go_wp2
                go_roundw
                case rel => exact ⟨k + 1, by simp, by omega, HD.out.2, HD.out.1⟩
                case measure => simp [intOf]; omega
      · have hrb : (re k != (r : Int)) = true := by simp [hrk]
        go_wp2
        obtain ⟨hb1, hr1⟩ := HC.out
        have hKf := Kf_other (fr := fr) (hf := hf) (self := self) (s := x) hrk
        rw [← hKf] at hr1
        have HC : Hid _ := And.intro hb1 hr1
        clear hb1 hr1 hKf
        go_roundw
        case rel => exact ⟨k + 1, by simp, by omega, HC.out.2, HC.out.1⟩
        case measure => simp [intOf]; omega
    · obtain rfl : k = ne := by omega
      have HB : Hid _ := And.intro hrow hbel
      clear hrow hbel
      go_wp2
      exact HN.out _ _ _ _ _ _ _ _ _ _ _ _ _ _ _ _ _ _ _ _ _ _ _ _ _ _ _ _ _ _ _ _ _ _ _ _ _ _ _ _ _ HB.out.1 HB.out.2
end Go.Proofs.Ybulkddqw
