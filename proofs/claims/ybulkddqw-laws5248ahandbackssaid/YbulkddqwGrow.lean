/-
  handBacks, region 14 (it draws its order): backs[leader][resource] = append(backs[leader][resource], v), whatever the order.
-/
import Derived.Test.YbulkddqwSkip
namespace Go.Proofs.Ybulkddqw
open Go.RowKit Go.Maps Go.ChangeMaps
/-- Nothing that was there has turned but the blocks i and row. -/
structure Kept2 (w w' : World) (i : Nat) (row : Option Nat) : Prop where
  os : w'.os = w.os
  tape : w'.tape = w.tape
  output : w'.output = w.output
  size : w.heap.size ≤ w'.heap.size
  block : ∀ k, k < w.heap.size → k ≠ i → some k ≠ row → w'.heap[k]? = w.heap[k]?
theorem wp_append {P : Program} {w : World} {o : Oper} {a : Act} {K : Act → World → Prop} {Q : Exit → Act → World → Prop} (s x : Operand) (t : TypeId)
    (ho : o.op = .call { callee := .builtin .append, args := #[s, x], argTypes := #[t, t] })
    (base : Nat) (e : TypeId) (i : TypeInfo) (z : Value) (size bytes : Nat) (ht : P.underlying t = some (.slice e)) (hi : P.info? e = some i) (hz : i.zero = some z)
    (hsize : i.size = size) (hby : i.bytes = bytes) (hzs : z.cells.size = size) (hsz : 0 < size)
    (v : Value) (n : Nat) (xs : List Value) (hs : a.eval s = v) (hown : w.ownsRow base e size v n xs)
    (ad : Addr) (m c : Nat) (news : List Value) (hx : a.eval x = .slice (some ad) m c) (hl : news.length = m * size) (hnews : ∀ j u, news[j]? = some u → w.cell? (ad.add j) = some u) (h1 : ∀ u ∈ news, u.oneCell' = true)
    (h63 : n + m ≤ maxLen) (hbytes : (n + m) * bytes ≤ 140737488355328) (hbase : base ≤ w.heap.size)
    (h : ∀ v' w', w'.ownsRow base e size v' (n + m) (xs ++ news) → w.grownBy w' v.ownBlock → (v'.ownBlock = v.ownBlock ∨ v'.ownBlock = some w.heap.size) → K (a.put o.dst v') w') : o.wp P a w K Q := by
  obtain ⟨v', w', hr, h2, h3, _, h5⟩ := run_append_own_at (P := P) w base t o.type e i z size bytes ht hi hz hsize hby hzs hsz v n xs hown ad m c news hl hnews h1 h63 hbytes hbase
  unfold Oper.wp execOp
  simp only [ho, resolve, invoke, builtin, Sem.run_bind, Sem.run_pure, Result.andThen_ok, List.map_toArray, List.map_cons, List.map_nil, hs, hx, hr]
  exact h v' w' h2 h3 h5
theorem info54 : (Yba.prog.info? 54).map (fun i => (i.zero, i.size, i.bytes)) = some (some (.agg #[.pointer none, .int .u32 0, .int .u64 0]), 3, 24) := by kernel_rfl
theorem one_el (P : Nat → Nat) (kd : Nat → Int) (i : Nat) : ∀ u ∈ el P kd i, u.oneCell' = true := fun u hu => by
  simp only [el, List.mem_cons, List.not_mem_nil, or_false] at hu
  rcases hu with rfl | rfl | rfl <;> rfl
theorem zero34 : ∀ u : World, (zeroValue 34).run Yba.prog u = .ok (.map none) u := fun u => by kernel_rfl
/-- The blocks that the region's loads read are as they were in W. -/
def Sm (W : World) (bk b8 b13 b15 : Nat) (W' : World) : Prop := W'.heap[bk]? = W.heap[bk]? ∧ W'.heap[b8]? = W.heap[b8]? ∧ W'.heap[b13]? = W.heap[b13]? ∧ W'.heap[b15]? = W.heap[b15]?

theorem wpAnyH_world {P : Program} {ops : Array Oper} {Q : Exit → Act → World → Prop} {md : Region.Mode} {S : World → Prop} {fuel : Nat} {listed : Array Bool} {a : Act} {W : World} (R : World → Prop) (hR : R W) (h : ∀ W', R W' → wpAnyH P md ops Q S fuel listed a W') : wpAnyH P md ops Q S fuel listed a W := h W hR
theorem MapOf.notCells {k : TypeId} {w : World} {b b' : Nat} {f : Nat → Option Value} {cs : Array Value} {t : TypeId} (h : MapOf k w b f) (hc : w.heap[b']? = some (.cells cs t)) : b' ≠ b := fun e => by
  obtain ⟨D, ⟨es, clock, hb, _⟩, _⟩ := h
  rw [e, hb] at hc; cases hc

set_option maxRecDepth 100000 in
set_option maxHeartbeats 4000000 in
theorem grow_any (c : Code) (hc : Yba.f7.body.bind (regCode 14) = some c) (Q : Exit → Act → World → Prop) (hQ : ∀ ch a a' w, Q (.panic ch) a w → Q (.panic ch) a' w) (W : World) (base bk b8 b13 b15 x l i : Nat) (P : Nat → Nat) (kd : Nat → Int) (lp : Nat → Nat) (U : Nat → Bool) (C : Nat → List Nat) (ib : Nat → Nat) (sv : Nat → Value)
    (h : BK base P kd lp W bk U C ib sv) (hx : x < 256) (hl : lp x < 256) (hlx : lp x = l) (hU : U (lp x) = true) (hlen : (C x).length < 1024) (hbase : base ≤ W.heap.size)
    (a8 : W.heap[b8]? = some (.cells (nl 16 (idb (x : Int))).toArray 55)) (a13 : W.heap[b13]? = some (.cells (nl 16 (idb (l : Int))).toArray 26)) (a15 : W.heap[b15]? = some (.cells (el P kd i).toArray 54)) (u0 u1 u2 u3 u4 u5 u6 u9 u10 u11 u12 u14 u16 u17 u18 u19 u20 u21 u22 u23 u24 u25 u26 u27 u28 u29 u30 u31 u32 u33 u34 u35 u36 u37 u38 u39 u40 u41 u42 u43 u44 u45 u46 u47 u48 u49 u50 u51 u52 u53 u54 u55 u56 u57 u58 u59 u60 u61 u62 u63 u64 u65 u66 u67 u68 u69 u70 u71 u72 u73 u74 u75 u76 u77 u78 u79 u80 u81 u82 u83 u84 u85 u86 u87 u88 u89 u90 u91 u92 u93 u94 u95 u96 u97 u98 u99 u100 u101 : Value)
    (hnr8 : (slOf C sv x).ownBlock ≠ some b8) (hnr13 : (slOf C sv x).ownBlock ≠ some b13) (hnr15 : (slOf C sv x).ownBlock ≠ some b15)
    (hend : ∀ (v90 v91 v92 v93 v94 v95 v96 v97 v98 v99 : Value) (v' : Value) (W' : World), BK base P kd lp W' bk U (updC C x i) ib (updS sv x v') → Kept2 W W' (ib (lp x)) (slOf C sv x).ownBlock → Q .normal ⟨#[u0, u1, u2, u3, u4, u5, u6, .map (some bk), .pointer (some ⟨b8, 0, none⟩), u9, u10, u11, u12, .pointer (some ⟨b13, 0, none⟩), u14, .pointer (some ⟨b15, 0, none⟩), u16, u17, u18, u19, u20, u21, u22, u23, u24, u25, u26, u27, u28, u29, u30, u31, u32, u33, u34, u35, u36, u37, u38, u39, u40, u41, u42, u43, u44, u45, u46, u47, u48, u49, u50, u51, u52, u53, u54, u55, u56, u57, u58, u59, u60, u61, u62, u63, u64, u65, u66, u67, u68, u69, u70, u71, u72, u73, u74, u75, u76, u77, u78, u79, u80, u81, u82, u83, u84, u85, u86, u87, u88, u89, v90, v91, v92, v93, v94, v95, v96, v97, v98, v99, u100, u101], []⟩ W') :
    c.wp Yba.prog Q ⟨#[u0, u1, u2, u3, u4, u5, u6, .map (some bk), .pointer (some ⟨b8, 0, none⟩), u9, u10, u11, u12, .pointer (some ⟨b13, 0, none⟩), u14, .pointer (some ⟨b15, 0, none⟩), u16, u17, u18, u19, u20, u21, u22, u23, u24, u25, u26, u27, u28, u29, u30, u31, u32, u33, u34, u35, u36, u37, u38, u39, u40, u41, u42, u43, u44, u45, u46, u47, u48, u49, u50, u51, u52, u53, u54, u55, u56, u57, u58, u59, u60, u61, u62, u63, u64, u65, u66, u67, u68, u69, u70, u71, u72, u73, u74, u75, u76, u77, u78, u79, u80, u81, u82, u83, u84, u85, u86, u87, u88, u89, u90, u91, u92, u93, u94, u95, u96, u97, u98, u99, u100, u101], []⟩ W := by
  obtain rfl : c = ((Yba.f7.body.bind (regCode 14)).getD .skip) := by rw [hc]; rfl
  clear hc
  conv => arg 2; whnf
  dsimp only
  subst hlx
  have lk : ∀ W' : World, W'.heap[bk]? = W.heap[bk]? → (Instr.lookup 56 (.map (some bk)) (.agg (nl 16 (idb ((lp x : Nat) : Int))).toArray) false).run Yba.prog W' = .ok (.map (some (ib (lp x)))) W' := fun W' hb => by
    have := (h.outer.same hb).look ky26 Yba.underlying56 (zero34 W') hl
    rw [if_pos hU] at this
    exact this
  have i54 : (Yba.prog.info? 54).map (·.size) = some (el P kd i).length := by kernel_rfl
  refine wp_region_held_drew (S := Sm W bk b8 b13 b15) (by kernel_rfl) ⟨rfl, rfl, rfl, rfl⟩ (fun hT1 => ?_)
  refine takeL (i := 0) (d := 90) (v := .map (some bk)) rfl rfl (by kernel_rfl) (by kernel_rfl) (by kernel_rfl) (fun _ _ _ h => hQ _ _ _ _ h) (Or.inl ⟨by rfl, fun _ h => by go_simp⟩) hT1 (by simp only [List.set_cons_succ, List.set_cons_zero]; rfl) ?_
  refine takeL (i := 1) (d := 91) rfl rfl (by kernel_rfl) (by kernel_rfl) (by kernel_rfl) (fun _ _ _ h => hQ _ _ _ _ h) (yieldsIf_load_mid (by rfl) 26 (.tmp 13) rfl b13 0 rfl (nl 16 (idb ((lp x : Nat) : Int))) _ (fun _ h => nl_heap (h.2.2.1.trans a13)) Yba.underlying26 rfl (i26 16 _)) hT1 (by simp only [List.set_cons_succ, List.set_cons_zero]; rfl) ?_
  refine takeL (i := 2) (d := 92) (v := .map (some (ib (lp x)))) rfl rfl (by kernel_rfl) (by kernel_rfl) (by kernel_rfl) (fun _ _ _ h => hQ _ _ _ _ h) (Or.inl ⟨by rfl, fun W' h => by have e0 := lk W' h.1; go_simp⟩) hT1 (by simp only [List.set_cons_succ, List.set_cons_zero]; rfl) ?_
  refine takeL (i := 3) (d := 93) rfl rfl (by kernel_rfl) (by kernel_rfl) (by kernel_rfl) (fun _ _ _ h => hQ _ _ _ _ h) (yieldsIf_load_mid (by rfl) 55 (.tmp 8) rfl b8 0 rfl (nl 16 (idb ((x : Nat) : Int))) _ (fun _ h => nl_heap (h.2.1.trans a8)) Yba.underlying55 rfl (i55 16 _)) hT1 (by simp only [List.set_cons_succ, List.set_cons_zero]; rfl) ?_
  refine takeL (i := 4) (d := 95) (v := .agg (el P kd i).toArray) rfl rfl (by kernel_rfl) (by kernel_rfl) (by kernel_rfl) (fun _ _ _ h => hQ _ _ _ _ h) (yieldsIf_load_mid (by rfl) 54 (.tmp 15) rfl b15 0 rfl (el P kd i) _ (fun _ h => heap_range (h.2.2.2.trans a15)) Yba.underlying54 rfl i54) hT1 (by simp only [List.set_cons_succ, List.set_cons_zero]; rfl) ?_
  refine wpAnyH_ready (rs := [5]) (by kernel_rfl) (by simp) ?_
  refine AllReadyH.cons (i := 5) rfl (fun K hK => ?_) AllReadyH.nil
  rw [if_pos (by rfl)]
  go_simp
  have hin := h.inner _ hl hU
  have hbk := h.notOut _ hl hU
  have hn8 := hin.notCells a8
  have hn13 := hin.notCells a13
  have hn15 := hin.notCells a15
  have hrow := h.rows x hx
  have hobk := h.outer.notRow hrow
  have l8 := lt_of_heap a8
  have l13 := lt_of_heap a13
  have l15 := lt_of_heap a15
  have lbk := h.outer.lt
  have lin := hin.lt
  refine hK.out _ _ ⟨heap_alloc_old _ _ (by simpa using lbk), heap_alloc_old _ _ (by simpa using l8), heap_alloc_old _ _ (by simpa using l13), heap_alloc_old _ _ (by simpa using l15)⟩ (fun hT2 => ?_)
  clear hK K
  refine wpAnyH_world (fun W5 => Sm W bk b8 b13 b15 W5 ∧ W5.heap[W.heap.size]? = some (.cells (el P kd i).toArray 54) ∧ Below W.heap.size W W5) ⟨hT2, heapNew (by simp), ((Below.refl _ _).drew).alloc (by simp) _⟩ ?_
  clear hT2
  rintro W5 ⟨hT2, a96, b5⟩
  have h5 := h.later (grown_below b5)
  obtain ⟨st, w6, hrun, hg6, hs6, hrow6, hst⟩ := h5.append hx hl hU i zero33
  unfold idv at hrun
  refine wpAnyH_ready (rs := [6]) (by kernel_rfl) (by simp) ?_
  refine AllReadyH.cons (i := 6) rfl (fun K hK => ?_) AllReadyH.nil
  rw [if_pos (by rfl)]
  go_simp
  have S6 : Sm W bk b8 b13 b15 w6 := ⟨(hg6.block _ (by have := b5.size; omega) (by simp; exact Ne.symm hbk)).trans hT2.1, (hg6.block _ (by have := b5.size; omega) (by simp; exact hn8)).trans hT2.2.1, (hg6.block _ (by have := b5.size; omega) (by simp; exact hn13)).trans hT2.2.2.1, (hg6.block _ (by have := b5.size; omega) (by simp; exact hn15)).trans hT2.2.2.2⟩
  refine hK.out _ _ S6 (fun _ => ?_)
  clear hK K
  refine takeL (i := 7) (d := 94) (v := slOf C sv x) rfl rfl (by kernel_rfl) (by kernel_rfl) (by kernel_rfl) (fun _ _ _ h => hQ _ _ _ _ h) (Or.inl ⟨by rfl, fun _ h => by go_simp⟩) S6 (by simp only [List.set_cons_succ, List.set_cons_zero]; rfl) ?_
  refine takeL (i := 9) (d := 99) (v := .int .i64 st) rfl rfl (by kernel_rfl) (by kernel_rfl) (by kernel_rfl) (fun _ _ _ h => hQ _ _ _ _ h) (Or.inl ⟨by rfl, fun _ h => by go_simp⟩) S6 (by simp only [List.set_cons_succ, List.set_cons_zero]; rfl) ?_
  have c96 : w6.heap[W.heap.size]? = some (.cells (el P kd i).toArray 54) := (hg6.block _ (lt_of_heap a96) (by simp; omega)).trans a96
  obtain ⟨i0, hi, hz0, hz1, hz2⟩ := info_parts info54
  refine wpAnyH_ready (rs := [8]) (by kernel_rfl) (by simp) ?_
  refine AllReadyH.cons (i := 8) rfl (fun K hK => ?_) AllReadyH.nil
  rw [if_pos (by rfl)]
  refine wp_append (.tmp 94) (.tmp 96) 33 rfl base 54 i0 _ 3 24 Yba.underlying33 hi hz0 hz1 hz2 rfl (by decide) (slOf C sv x) (C x).length (rowC P kd (C x)) rfl hrow6 ⟨W.heap.size, 0, none⟩ 1 1 (el P kd i) rfl rfl (fun j u hu => by rw [Addr.add_mid]; exact heap_range c96 j u hu) (one_el P kd i) (by unfold maxLen; omega) (by omega) (by have := b5.size; omega) ?_
  intro v' w8 hv' hg8 hloc
  obtain ⟨w10, hrun10, hB10, hg10⟩ := hst v' w8 hv' hg8 hloc
  have s6 : W.heap.size ≤ w6.heap.size := by have := b5.size; omega
  have S8 : Sm W bk b8 b13 b15 w8 := ⟨(hg8.block _ (by omega) (Ne.symm hobk)).trans S6.1, (hg8.block _ (by omega) (Ne.symm hnr8)).trans S6.2.1, (hg8.block _ (by omega) (Ne.symm hnr13)).trans S6.2.2.1, (hg8.block _ (by omega) (Ne.symm hnr15)).trans S6.2.2.2⟩
  refine hK.out _ _ S8 (fun _ => ?_)
  clear hK K
  simp only [Act.put]
  unfold goInt at hrun10
  refine wpAnyH_ready (rs := [10]) (by kernel_rfl) (by simp) ?_
  refine AllReadyH.cons (i := 10) rfl (fun K hK => ?_) AllReadyH.nil
  rw [if_pos (by rfl)]
  go_simp
  have s8 := hg8.size
  have S10 : Sm W bk b8 b13 b15 w10 := ⟨(hg10.block _ (by omega) (by simp; exact Ne.symm hbk)).trans S8.1, (hg10.block _ (by omega) (by simp; exact hn8)).trans S8.2.1, (hg10.block _ (by omega) (by simp; exact hn13)).trans S8.2.2.1, (hg10.block _ (by omega) (by simp; exact hn15)).trans S8.2.2.2⟩
  refine hK.out _ _ S10 (fun _ => ?_)
  clear hK K
  refine wpAnyH_done (by kernel_rfl) ?_ _
  exact hend _ _ _ _ _ _ _ _ _ _ v' w10 hB10 ⟨hg10.os.trans (hg8.os.trans (hg6.os.trans b5.os)), hg10.tape.trans (hg8.tape.trans (hg6.tape.trans b5.tape)), hg10.output.trans (hg8.output.trans (hg6.output.trans b5.output)), by have := hg10.size; omega,
    fun k hk h1 h2 => (hg10.block k (by omega) (by simp; exact h1)).trans ((hg8.block k (by omega) h2).trans ((hg6.block k (by have := b5.size; omega) (by simp; exact h1)).trans (b5.block k hk)))⟩
end Go.Proofs.Ybulkddqw
