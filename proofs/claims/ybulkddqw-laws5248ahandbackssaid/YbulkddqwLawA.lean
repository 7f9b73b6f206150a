/-
  The law LawS5248AHandBacks (number 3), walked whole: it returns true, and nothing that was there has turned.
-/
import Derived.Test.YbulkddqwExpect
import Derived.Test.YbulkddqwHandBacks
namespace Go.Proofs.Ybulkddqw
open Go.RowKit Go.Maps Go.ChangeMaps
theorem wpL_build30 {ops : Array Oper} {rest : List Oper} {o : Oper} {a : Act} {w : World} {Q : Exit → Act → World → Prop} (x y : Int) (i j : Nat) (hgd : o.guard = none) (ho : o.op = .build 30 #[(0, .tmp i), (3, .tmp j)]) (hx : a.eval (.tmp i) = .agg (nl 16 (idb x)).toArray) (hy : a.eval (.tmp j) = .agg (nl 16 (idb y)).toArray)
    (h : wpList Yba.prog ops Q rest (a.put o.dst (.agg (hl x y (.slice none 0 0)).toArray)) w) : wpList Yba.prog ops Q (o :: rest) a w := by
  refine wpList_plain hgd fun K hK => ?_
  unfold Oper.wp execOp
  have e := build30 x y w
  simp only [ho, List.map_toArray, List.map_cons, List.map_nil, hx, hy, Sem.run_bind, e, Result.andThen_ok]
  exact hK _ _ h
theorem wpL_build32 {ops : Array Oper} {rest : List Oper} {o : Oper} {a : Act} {w : World} {Q : Exit → Act → World → Prop} (x : Int) (i : Nat) (hgd : o.guard = none) (ho : o.op = .build 32 #[(0, .tmp i)]) (hx : a.eval (.tmp i) = .agg (nl 16 (idb x)).toArray)
    (h : wpList Yba.prog ops Q rest (a.put o.dst (.agg (tl x (.slice none 0 0)).toArray)) w) : wpList Yba.prog ops Q (o :: rest) a w := by
  refine wpList_plain hgd fun K hK => ?_
  unfold Oper.wp execOp
  have e := build32 x w
  simp only [ho, List.map_toArray, List.map_cons, List.map_nil, hx, Sem.run_bind, e, Result.andThen_ok]
  exact hK _ _ h
theorem one_hl (a b : Int) (s : Option Addr) (n c : Nat) : ∀ v ∈ hl a b (.slice s n c), v.oneCell' = true := fun v hv => by
  simp only [hl, List.mem_append, List.mem_cons, List.not_mem_nil, or_false] at hv
  rcases hv with h | (rfl | rfl) | h
  · exact one_nl _ _ v h
  · rfl
  · rfl
  · exact one_nl _ _ v h
theorem one_tl (a : Int) (s : Option Addr) (n c : Nat) : ∀ v ∈ tl a (.slice s n c), v.oneCell' = true := fun v hv => by
  simp only [tl, List.mem_append, List.mem_cons, List.not_mem_nil, or_false] at hv
  rcases hv with h | rfl | rfl | rfl
  · exact one_nl _ _ v h
  · rfl
  · rfl
  · rfl
theorem row_same {w w' : World} {base : Nat} {e : TypeId} {size : Nat} {v : Value} {n : Nat} {xs : List Value} (h : w.ownsRow base e size v n xs) (hg : ∀ g, v.ownBlock = some g → w'.heap[g]? = w.heap[g]?) : w'.ownsRow base e size v n xs := by
  refine ⟨h.1, ?_⟩
  rcases h.2 with h2 | ⟨g, cap, cur, rfl, h2, h3, h4⟩
  · exact .inl h2
  · exact .inr ⟨g, cap, cur, rfl, h2, (hg g rfl).trans h3, h4⟩
theorem zero58 : ∀ W : World, (zeroValue 58).run Yba.prog W = .ok (.agg (ldA (fun _ => 0)).toArray) W := fun W => by kernel_rfl
theorem zero59 : ∀ W : World, (zeroValue 59).run Yba.prog W = .ok (.agg (exA (fun _ => .slice none 0 0)).toArray) W := fun W => by kernel_rfl
theorem made33 (ne : Nat) (hn : ne ≤ 1024) (W : World) : ∃ cs : Array Value, cs.size = ne * 3 ∧ (Instr.makeSlice 33 (.int .i64 (ne : Int)) (.int .i64 (ne : Int))).run Yba.prog W = .ok (.slice (some ⟨W.heap.size, 0, none⟩) ne ne) (W.alloc (.cells cs 54)) := by
  obtain ⟨i0, hi, hz0, hz1, hz2⟩ := info_parts info54
  have h := run_make (P := Yba.prog) W 33 54 i0 _ Yba.underlying33 hi hz0 .i64 .i64 (ne : Int) (ne : Int) (by omega) (Int.le_refl _) (by rw [hz2]; omega) (by omega)
  rw [Int.toNat_natCast] at h
  exact ⟨_, by rw [size_madeCells, hz1], h⟩
theorem wpL_make33 {ops : Array Oper} {rest : List Oper} {o : Oper} {a : Act} {w : World} {Q : Exit → Act → World → Prop} (hgd : o.guard = none) (i : Nat) (ho : o.op = .makeSlice 33 (.tmp i) (.tmp i)) (ne : Nat) (hn : ne ≤ 1024) (hx : a.eval (.tmp i) = .int .i64 (ne : Int))
    (h : ∀ cs : Array Value, cs.size = ne * 3 → wpList Yba.prog ops Q rest (a.put o.dst (.slice (some ⟨w.heap.size, 0, none⟩) ne ne)) (w.alloc (.cells cs 54))) : wpList Yba.prog ops Q (o :: rest) a w := by
  refine wpList_plain hgd fun K hK => ?_
  obtain ⟨cs, hcs, e⟩ := made33 ne hn w
  unfold Oper.wp execOp
  simp only [ho, hx, Sem.run_bind, e, Result.andThen_ok]
  exact hK _ _ (h cs hcs)

set_option maxRecDepth 100000 in
set_option maxHeartbeats 8000000 in
theorem law_any (self frm : Int) (hself : 0 ≤ self ∧ self ≤ 255) (hfrm : 0 ≤ frm ∧ frm ≤ 255) (sl sp se : Option Addr) (n cap np capp ne cape gl ol gp op ge oe : Nat) (L Lp re fr : Nat → Int) (hf : Nat → Bool) (kd : Nat → Int) (w : World) (hn : n ≤ 1024) (hnp : np ≤ 1024) (hne : ne ≤ 1024)
    (hL : Bys w sl gl ol n L) (hLp : Bys w sp gp op np Lp) (hE : Ens w se ge oe ne re fr hf kd) :
    Calls Yba.prog 3 #[.int .u8 self, .int .u8 frm, .slice sl n cap, .slice sp np capp, .slice se ne cape] w fun e w' => e = .returned (.bool true) ∧ Below w.heap.size w w' := by
  have n1 : ¬ (1024 : Int) < (n : Int) := by omega
  have n2 : ¬ (1024 : Int) < (np : Int) := by omega
  have n3 : ¬ (1024 : Int) < (ne : Int) := by omega
  have HA : Hid _ := And.intro hL (And.intro hLp hE)
  clear hL hLp hE
  go_enter Yba.func3, Yba.ntmps3
  go_upto_region 3 with fail
  clear n1 n2 n3
  have j30 : (Yba.prog.info? 30).map (·.size) = some (hl self frm (.slice none 0 0)).length := by rw [info30, length_hl]
  have o30 := one_hl self frm none 0 0
  go_upto_region 4 with (first | (go_at_call 6; refine (aid_any self _).mono ?_; rintro e Wa ⟨rfl, ba⟩; unfold idv) | (go_at_call 6; refine (aid_any frm _).mono ?_; rintro e Wb ⟨rfl, bb⟩; unfold idv) | (refine wpL_build30 self frm 55 57 rfl rfl rfl rfl ?_) | (refine wpL_store 30 rfl (.tmp 11) (.tmp 58) rfl (hl self frm (.slice none 0 0)) j30 o30 _ _ rfl rfl (there_new (by rw [length_hl]; exact Nat.le_refl 44)) ?_; clear j30 o30))
  have A := alloc_store (w := Wb) (c := (nl 0 (fun _ => 0) ++ ([Value.slice none 0 0, Value.slice none 0 0] ++ nl 0 (fun _ => 0))).toArray) (t := 30) (hl self frm (.slice none 0 0)) (by rw [length_hl]; rfl)
  refine wp_world (fun W => W.heap[Wb.heap.size]? = some (.cells (hl self frm (.slice none 0 0)).toArray 30) ∧ Below Wb.heap.size Wb W) A ?_
  clear A
  rintro W1 ⟨a11, b1⟩
  have hbh : w.heap.size ≤ Wb.heap.size := Nat.le_trans ba.size bb.size
  have bel1 : Below w.heap.size w W1 := (ba.trans (bb.mono ba.size)).trans (b1.mono hbh)
  clear ba bb b1
  go_upto_block 0 with fail
  refine leaders_loop _ rfl _ w W1 w.heap.size Wb.heap.size n cap self frm sl gl ol L hn HA.out.1 rfl bel1 hbh a11 _ _ _ _ _ _ _ _ _ _ _ _ _ _ _ _ _ _ _ _ _ _ _ _ _ _ _ _ _ _ _ _ _ _ _ _ _ _ _ _ _ _ _ _ _ _ _ _ _ _ _ _ _ _ _ _ _ _ _ _ _ _ _ _ _ _ _ _ _ _ _ _ _ _ _ _ _ _ _ _ _ _ _ _ _ _ _ _ _ _ _ _ _ _ _ _ _ _ _ _ _ _ _ _ _ _ _ _ _ _ _ _ _ _ _ _ _ _ _ _ _ _ _ _ _ _ _ _ _ _ _ _ _ _ _ _ _ _ _ _ _ _ _ _ _ _ _ _ _ _ _ _ _ _ _ _ _ _ _ _ _ _ _ _ _ _ _ _ _ _ _ _ _ _ _ _ _ _ _ _ _ _ _ _ _ _ _ _ _ _ _ _ _ _ _ _ _ _ _ _ _ _ _ _ _ _ _ _ _ _ _ _ _ _ _ _ _ _ _ _ _ _ _ _ _ _ _ _ _ _ _ _ _ _ _ _ _ _ _ _ _ _ _ _ _ _ _ _ _ _ _ _ _ _ _ _ _ _ _ _ _ _ _ _ _ _ _ _ _ _ _ _ _ _ _ _ _ _ _ _ _ _ _ _ _ ?_
  intro v13 v61 v62 v63 v64 v65 v66 v67 v68 v69 v70 v71 v72 v W2 hrow2 hbox2 hold2 hbel2
  have hl2 := lt_of_heap hbox2
  have hs2 := hbel2.size
  have H2 : Hid _ := And.intro hrow2 (And.intro hbox2 (And.intro hbel2 (And.intro hl2 hs2)))
  clear hold2 bel1 a11 hrow2 hbox2 hbel2 hl2 hs2
  have j32 : (Yba.prog.info? 32).map (·.size) = some (tl self (.slice none 0 0)).length := by rw [info32, length_tl]
  have o32 := one_tl self none 0 0
  go_upto_region 10 with (first | (go_at_call 6; refine (aid_any self _).mono ?_; rintro e Wc ⟨rfl, bc⟩; unfold idv) | (refine wpL_build32 self 74 rfl rfl rfl ?_) | (refine wpL_store 32 rfl (.tmp 14) (.tmp 75) rfl (tl self (.slice none 0 0)) j32 o32 _ _ rfl rfl (there_new (by rw [length_tl]; exact Nat.le_refl 24)) ?_; clear j32 o32))
  have A := alloc_store (w := Wc) (c := (nl 0 (fun _ => 0) ++ [Value.slice none 0 0, Value.slice none 0 0, Value.slice none 0 0]).toArray) (t := 32) (tl self (.slice none 0 0)) (by rw [length_tl]; rfl)
  refine wp_world (fun W => W.heap[Wc.heap.size]? = some (.cells (tl self (.slice none 0 0)).toArray 32) ∧ Below Wc.heap.size Wc W) A ?_
  clear A
  rintro W3 ⟨a14, b3⟩
  obtain ⟨hrow2, hbox2, hbel2, hl2, hs2⟩ := H2.out
  have hbc := bc.size
  have b23 : Below W2.heap.size W2 W3 := bc.trans (b3.mono bc.size)
  have hrow3 := hrow2.kept (grown_below b23) (by cases Value.ownBlock _ <;> simp)
  have hbox3 := (b23.block _ hl2).trans hbox2
  have bel3 : Below w.heap.size w W3 := hbel2.trans (b23.mono hs2)
  have hbt : w.heap.size ≤ Wc.heap.size := by omega
  have hbne : Wb.heap.size ≠ Wc.heap.size := by omega
  clear H2 hrow2 hbox2 hbel2 hl2 hs2 hbc b23 bc b3
  have H3 : Hid _ := And.intro hrow3 (And.intro hbox3 (And.intro hbne (And.intro hbh hbt)))
  clear hrow3 hbox3 hbne hbh
  go_upto_block 2 with fail
  refine preds_loop _ rfl _ w W3 w.heap.size Wc.heap.size np capp self sp gp op Lp hnp HA.out.2.1 rfl bel3 hbt a14 _ _ _ _ _ _ _ _ _ _ _ _ _ _ _ _ _ _ _ _ _ _ _ _ _ _ _ _ _ _ _ _ _ _ _ _ _ _ _ _ _ _ _ _ _ _ _ _ _ _ _ _ _ _ _ _ _ _ _ _ _ _ _ _ _ _ _ _ _ _ _ _ _ _ _ _ _ _ _ _ _ _ _ _ _ _ _ _ _ _ _ _ _ _ _ _ _ _ _ _ _ _ _ _ _ _ _ _ _ _ _ _ _ _ _ _ _ _ _ _ _ _ _ _ _ _ _ _ _ _ _ _ _ _ _ _ _ _ _ _ _ _ _ _ _ _ _ _ _ _ _ _ _ _ _ _ _ _ _ _ _ _ _ _ _ _ _ _ _ _ _ _ _ _ _ _ _ _ _ _ _ _ _ _ _ _ _ _ _ _ _ _ _ _ _ _ _ _ _ _ _ _ _ _ _ _ _ _ _ _ _ _ _ _ _ _ _ _ _ _ _ _ _ _ _ _ _ _ _ _ _ _ _ _ _ _ _ _ _ _ _ _ _ _ _ _ _ _ _ _ _ _ _ _ _ _ _ _ _ _ _ _ _ _ _ _ _ _ _ _ _ _ _ _ _ _ _ _ _ _ _ _ _ _ _ ?_
  intro v16 v78 v79 v80 v81 v82 v83 v84 v85 v86 v87 v88 v89 v2 W4 hrow4 hbox4 hold4 hbel4
  obtain ⟨hrow3, hbox3, hbne, hbh, hbt⟩ := H3.out
  have hrw := row_not26 hrow3 a14 (by decide)
  have hrowA := row_same hrow3 (fun g hg => hold4 g (hrow3.lt g hg).2 (fun e => hrw (by rw [hg, e])))
  have hboxA := (hold4 _ (lt_of_heap hbox3) hbne).trans hbox3
  have H4 : Hid _ := And.intro hrowA (And.intro hboxA (And.intro hrow4 (And.intro hbox4 (And.intro hbel4 (And.intro hbh hbt)))))
  clear H3 hrow3 hbox3 hbne hbh hbt hrw hrowA hboxA hrow4 hbox4 hold4 hbel4 bel3 a14
  have hmm := @run_makeMap Yba.prog
  go_upto_block 4 with (refine wpL_make33 rfl 91 rfl ne hne rfl ?_; intro cs hcs)
  clear hmm
  refine wp_world (fun W' => MapOf 55 W' (W4.heap.size + 1) (fun _ => none) ∧ Vals W' W4.heap.size ne 0 (fun _ => 0) kd ∧ Below W4.heap.size W4 W') ⟨by simpa using MapOf.make 55 (W4.alloc (.cells cs 54)), ⟨cs, heapOld (by simp) (heapNew rfl), hcs, fun i hi => by omega⟩, ((Below.refl _ _).alloc (Nat.le_refl _) _).alloc (by simp) _⟩ ?_
  clear hcs cs
  rintro W5 ⟨hm5, hv5, b5⟩
  obtain ⟨hrowA, hboxA, hrowB, hboxB, hbel4, hbh, hbt⟩ := H4.out
  have hs4 := hbel4.size
  have hs5 : W4.heap.size < W5.heap.size := hv5.lt
  have bel5 : Below w.heap.size w W5 := hbel4.trans (b5.mono hs4)
  refine entries_loop _ rfl _ w W5 w.heap.size W4.heap.size (W4.heap.size + 1) ne cape se ge oe re fr hf kd hne HA.out.2.2 rfl hs4 (by omega) hs5 (by omega) (fun _ => 0) (fun _ => .slice none 0 0) ⟨VM.start _ _ _ hm5, hv5, fun i hi => absurd hi (by omega), fun i hi => absurd hi (by omega), bel5, fun _ _ _ _ => rfl, Nat.le_refl _⟩ _ _ _ _ _ _ _ _ _ _ _ _ _ _ _ _ _ _ _ _ _ _ _ _ _ _ _ _ _ _ _ _ _ _ _ _ _ _ _ _ _ _ _ _ _ _ _ _ _ _ _ _ _ _ _ _ _ _ _ _ _ _ _ _ _ _ _ _ _ _ _ _ _ _ _ _ _ _ _ _ _ _ _ _ _ _ _ _ _ _ _ _ _ _ _ _ _ _ _ _ _ _ _ _ _ _ _ _ _ _ _ _ _ _ _ _ _ _ _ _ _ _ _ _ _ _ _ _ _ _ _ _ _ _ _ _ _ _ _ _ _ _ _ _ _ _ _ _ _ _ _ _ _ _ _ _ _ _ _ _ _ _ _ _ _ _ _ _ _ _ _ _ _ _ _ _ _ _ _ _ _ _ _ _ _ _ _ _ _ _ _ _ _ _ _ _ _ _ _ _ _ _ _ _ _ _ _ _ _ _ _ _ _ _ _ _ _ _ _ _ _ _ _ _ _ _ _ _ _ _ _ _ _ _ _ _ _ _ _ _ _ _ _ _ _ _ _ _ _ _ _ _ _ _ _ _ _ _ _ _ _ _ _ _ _ _ _ _ _ _ _ _ _ _ _ _ _ _ _ _ _ _ _ _ ?_
  intro v19 v20 v21 v22 v96 v97 v98 v99 v100 v101 v102 v103 v104 v105 v106 v107 v108 v109 v110 v111 v112 v113 v114 v115 v116 v117 v118 v119 v120 v121 v122 v123 v124 v125 v126 v127 v128 v129 v130 v131 v132 P sv W6 hEn
  have old : ∀ g, g < W4.heap.size → W6.heap[g]? = W4.heap[g]? := fun g hg => (hEn.old g (by omega) (by omega) (by omega)).trans (b5.block g hg)
  have hrowA6 := row_same hrowA (fun g hg => old g (hrowA.lt g hg).2)
  have hrowB6 := row_same hrowB (fun g hg => old g (hrowB.lt g hg).2)
  have hboxA6 := (old _ (lt_of_heap hboxA)).trans hboxA
  have hboxB6 := (old _ (lt_of_heap hboxB)).trans hboxB
  clear H4 hrowA hboxA hrowB hboxB hbel4 old hm5 hv5 b5 bel5
  obtain ⟨sa, ga, capa, rfl, hIa⟩ := ids_of_row hrowA6 HA.out.1.2.2
  obtain ⟨sb, gb, capb, rfl, hIb⟩ := ids_of_row hrowB6 HA.out.2.1.2.2
  clear hrowA6 hrowB6
  have G : Given W6 P kd hf fr (W4.heap.size + 1) (fun r => if Vf re ne r ≠ [] then some (sv r) else none) (Vf re ne) := by
    refine ⟨hEn.vm.map, fun r v hr hv => ?_, fun r hr => ?_, fun r => Nat.le_trans (length_Vf re ne r) hne, fun r i hi => ?_, fun r i hi => (HA.out.2.2.2.2 i (mem_Vf hi)).2⟩
    · have h1 := hEn.vm.rows r hr
      by_cases hc : Vf re ne r = []
      · simp [hc] at hv
      · unfold slOf at h1
        rw [if_neg hc] at h1
        simp [hc] at hv
        subst hv
        exact row_weaken h1 (Nat.zero_le _)
    · by_cases hc : Vf re ne r = []
      · exact hc
      · simp [hc] at hr
    · obtain ⟨cs, _, _, h3⟩ := hEn.stored i (mem_Vf hi)
      exact h3
  have hcall := handBacks_any P kd hf fr (W4.heap.size + 1) _ (Vf re ne) self frm hself hfrm sa ga n capa L sb gb np capb Lp W6 hn hnp hIa hIb G
  clear G hIa hIb
  have r32 := heap_range hboxB6
  have r30 := heap_range hboxA6
  have j32 : (Yba.prog.info? 32).map (·.size) = some (tl self (.slice sb np capb)).length := by rw [info32, length_tl]
  have j30 : (Yba.prog.info? 30).map (·.size) = some (hl self frm (.slice sa n capa)).length := by rw [info30, length_hl]
  have H6 : Hid _ := And.intro hEn (And.intro hs4 hs5)
  clear hEn hs4 hs5 hboxA6 hboxB6 hbh hbt
  go_upto_region 28 with (first | (refine wpL_load 32 rfl (.tmp 14) rfl (tl self (.slice sb np capb)) _ Yba.underlying32 rfl j32 _ _ rfl r32 ?_) | (refine wpL_load 30 rfl (.tmp 11) rfl (hl self frm (.slice sa n capa)) _ Yba.underlying30 rfl j30 _ _ rfl r30 ?_; clear r32 r30 j32 j30) | (go_at_call 7; refine hcall.mono ?_; rintro e W7 ⟨Ul, ib, sv2, rfl, hSt⟩; clear hcall))
  have H7 : Hid _ := hSt
  clear hSt
  have z58 := zero58
  have z59 := zero59
  go_upto_block 6 with fail
  clear z58 z59
  refine wp_world (fun W' => W'.heap[W7.heap.size]? = some (.cells (ldA (fun _ => 0)).toArray 58) ∧ W'.heap[W7.heap.size + 1]? = some (.cells (exA (fun _ => .slice none 0 0)).toArray 59) ∧ Below W7.heap.size W7 W') ⟨heapOld (by simp) (heapNew rfl), heapNew (by simp), ((Below.refl _ _).alloc (Nat.le_refl _) _).alloc (by simp) _⟩ ?_
  rintro W8 ⟨a24, a25, b8⟩
  obtain ⟨hEn, hs4, hs5⟩ := H6.out
  have hs6 := hEn.size
  have bel6 := hEn.bel
  have b67 := H7.out.bel
  have hV7 := hEn.vals.same (b67.block _ hEn.vals.lt)
  have bel7 : Below w.heap.size w W7 := bel6.trans (b67.mono (by omega))
  refine exp_loop _ rfl _ W7 W8 W7.heap.size W7.heap.size (W7.heap.size + 1) n cap np capp ne cape W4.heap.size sl sp se gl ol gp op ge oe L Lp re fr hf kd P self frm hself hfrm hn hnp hne (HA.out.1.later rfl bel7) (HA.out.2.1.later rfl bel7) (HA.out.2.2.later rfl bel7) hV7 rfl (Nat.le_refl _) (by omega) (by omega) (fun _ => 0) (fun _ => .slice none 0 0) ⟨a24, a25, fun r hr => absurd hr (by omega), fun r hr => absurd hr (by omega), fun _ _ => rfl, b8, Nat.le_refl _⟩ _ _ _ _ _ _ _ _ _ _ _ _ _ _ _ _ _ _ _ _ _ _ _ _ _ _ _ _ _ _ _ _ _ _ _ _ _ _ _ _ _ _ _ _ _ _ _ _ _ _ _ _ _ _ _ _ _ _ _ _ _ _ _ _ _ _ _ _ _ _ _ _ _ _ _ _ _ _ _ _ _ _ _ _ _ _ _ _ _ _ _ _ _ _ _ _ _ _ _ _ _ _ _ _ _ _ _ _ _ _ _ _ _ _ _ _ _ _ _ _ _ _ _ _ _ _ _ _ _ _ _ _ _ _ _ _ _ _ _ _ _ _ _ _ _ _ _ _ _ _ _ _ _ _ _ _ _ _ _ _ _ _ _ _ _ _ _ _ _ _ _ _ _ _ _ _ _ _ _ _ _ _ _ _ _ _ _ _ _ _ _ _ _ _ _ _ _ _ _ _ _ _ _ _ _ _ _ _ _ _ _ _ _ _ _ _ _ _ _ _ _ _ _ _ _ _ _ _ _ _ _ _ _ _ _ _ _ _ _ _ _ _ _ _ _ _ _ _ _ _ _ _ _ _ _ _ _ _ _ _ _ _ _ _ _ _ _ _ _ _ _ _ _ _ _ _ _ _ _ _ ?_
  intro v26 v27 v28 v29 v30 v31 v32 v33 v34 v137 v138 v139 v140 v141 v142 v143 v144 v145 v146 v147 v148 v149 v150 v151 v152 v153 v154 v155 v156 v157 v158 v159 v160 v161 v162 v163 v164 v165 v166 v167 v168 v169 v170 v171 v172 v173 v174 v175 v176 v177 v178 v179 v180 v181 v182 v183 v184 v185 v186 v187 v188 v189 v190 v191 v192 v193 v194 v195 v196 v197 v198 v199 v200 v201 v202 v203 v204 v205 v206 v207 v208 v209 v210 v211 v212 v213 v214 v215 v216 v217 v218 v219 v220 v221 v222 v223 v224 v225 v226 v227 v228 v229 v230 v231 v232 v233 v234 v235 ld ev W9 hLd
  have bel9 : Below w.heap.size w W9 := bel7.trans (hLd.bel.mono bel7.size)
  have H9 : Hid _ := And.intro hLd bel9
  clear hLd bel9 H6 hEn hs4 hs5 hs6 bel6 b67 hV7 bel7 a24 a25 b8
  go_upto_block 12 with fail
  have CE : ∀ r, r < 256 → (fun r => if r < 256 then Kp hf fr self frm n L np Lp (Vf re ne) r else []) r = Kp hf fr self frm n L np Lp (Vf re ne) r := fun r hr => by simp [hr]
  have LE : ∀ r, r < 256 → ldV (fun r => if r < 256 then Kp hf fr self frm n L np Lp (Vf re ne) r else []) (ldp n L frm) r = ldV (Kp hf fr self frm n L np Lp (Vf re ne)) (ldp n L frm) r := fun r hr => by unfold ldV; rw [CE r hr]
  obtain ⟨hLd, bel9⟩ := H9.out
  have hbk9 := H7.out.bk.later (grown_below hLd.bel)
  refine leads_loop _ rfl _ W9 (W6.heap.size + 1 + 1) W7.heap.size (W7.heap.size + 1) W6.heap.size W8.heap.size ev P kd (ldp n L frm) Ul (fun r => if r < 256 then Kp hf fr self frm n L np Lp (Vf re ne) r else []) ib sv2 hbk9 H7.out.ok.1 H7.out.ok.2 (fun r hr => ?_) (fun r hr => at_list hLd.ae (get_exA ev hr)) (fun r hr => ?_) (fun r => ?_) _ _ _ _ _ _ _ _ _ _ _ _ _ _ _ _ _ _ _ _ _ _ _ _ _ _ _ _ _ _ _ _ _ _ _ _ _ _ _ _ _ _ _ _ _ _ _ _ _ _ _ _ _ _ _ _ _ _ _ _ _ _ _ _ _ _ _ _ _ _ _ _ _ _ _ _ _ _ _ _ _ _ _ _ _ _ _ _ _ _ _ _ _ _ _ _ _ _ _ _ _ _ _ _ _ _ _ _ _ _ _ _ _ _ _ _ _ _ _ _ _ _ _ _ _ _ _ _ _ _ _ _ _ _ _ _ _ _ _ _ _ _ _ _ _ _ _ _ _ _ _ _ _ _ _ _ _ _ _ _ _ _ _ _ _ _ _ _ _ _ _ _ _ _ _ _ _ _ _ _ _ _ _ _ _ _ _ _ _ _ _ _ _ _ _ _ _ _ _ _ _ _ _ _ _ _ _ _ _ _ _ _ _ _ _ _ _ _ _ _ _ _ _ _ _ _ _ _ _ _ _ _ _ _ _ _ _ _ _ _ _ _ _ _ _ _ _ _ _ _ _ _ _ _ _ _ _ _ _ _ _ _ _ _ _ _ _ _ _ _ _ _ _ _ _ _ _ _ _ _ _ _ _ _ ?_
  · rw [LE r hr, ← hLd.done r hr]
    exact at_list hLd.al (get_ldA ld hr)
  · rw [if_pos hr]
    exact hLd.rows r hr
  · by_cases hr : r < 256
    · rw [if_pos hr]
      unfold Kp
      split
      · split
        · simp
        · exact Nat.le_trans (List.length_filter_le _ _) (Nat.le_trans (length_Vf re ne r) hne)
      · simp
    · simp [hr]
  · intro v10 v36 v37 v38 v39 v40 v236 v237 v238 v239 v240 v241 v242 v243 v244 v245 v246 v247 v248 v249 v250 v251 v252 v253 v254 v255 v256 v257 v258 v259 v260 v261 v262 v263 v264 v265 v266 v267 v268 v269 v270 v271 v272 v273 v274 v275 v276 v277 v278 v279 v280 v281 v282 v283 v284 W10 b10
    have bel10 : Below w.heap.size w W10 := bel9.trans (b10.mono bel9.size)
    have hout := hbk9.outer.kept (grown_below b10) (by simp)
    have ln : ∀ ty : TypeId, (Builtin.len_ #[56] ty #[.map (some (W6.heap.size + 1 + 1))]).run Yba.prog W10 = .ok (.int .i64 (dn Ul 256)) W10 := fun ty => by
      have := hout.len Yba.underlying56 ty
      rw [cnt_outer] at this
      exact this
    have H10 : Hid _ := bel10
    clear CE LE hLd bel9 hbk9 b10 bel10 hout H9 H7
    go_wp2
    go_ret
    exact ⟨rfl, H10.out⟩
end Go.Proofs.Ybulkddqw
