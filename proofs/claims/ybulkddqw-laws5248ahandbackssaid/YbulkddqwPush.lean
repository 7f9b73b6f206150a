/-
  The law (number 3), regions 7 and 13 (they draw their order): one leader, one predecessor more; the frame is a variable of which only what the region reads is known.
-/
import Derived.Test.YbulkddqwSteps
namespace Go.Proofs.Ybulkddqw
open Go.RowKit Go.Maps Go.ChangeMaps
theorem build30 (a b : Int) (W : World) : (Instr.build 30 #[(0, .agg (nl 16 (idb a)).toArray), (3, .agg (nl 16 (idb b)).toArray)]).run Yba.prog W = .ok (.agg (hl a b (.slice none 0 0)).toArray) W := by
  kernel_rfl
theorem build32 (a : Int) (W : World) : (Instr.build 32 #[(0, .agg (nl 16 (idb a)).toArray)]).run Yba.prog W = .ok (.agg (tl a (.slice none 0 0)).toArray) W := by
  kernel_rfl
theorem build28 (x : Int) (W : World) : (Instr.buildSlice 28 1 #[(0, .agg (nl 16 (idb x)).toArray)]).run Yba.prog W = .ok (.slice (some ⟨W.heap.size, 0, none⟩) 1 1) (W.alloc (.cells (nl 16 (idb x)).toArray 26)) := by
  kernel_rfl
/-- The cells of n Node-IDs. -/
def idC (L : Nat → Int) (n : Nat) : List Value := (List.range n).flatMap fun i => nl 16 (idb (L i))
theorem idC_succ (L : Nat → Int) (n : Nat) : idC L (n + 1) = idC L n ++ nl 16 (idb (L n)) := by simp [idC, List.range_succ]
theorem length_idC (L : Nat → Int) : ∀ n, (idC L n).length = n * 21
  | 0 => rfl
  | n + 1 => by rw [idC_succ, List.length_append, length_idC L n, length_nl]; omega
/-- A row of Node-IDs that the call owns is a slice of n Node-IDs. -/
theorem ids_of_row {w : World} {base n : Nat} {v : Value} {L : Nat → Int} (h : w.ownsRow base 26 21 v n (idC L n)) (hb : ∀ i, i < n → 0 ≤ L i ∧ L i ≤ 255) : ∃ (sa : Option Addr) (g cap : Nat), v = .slice sa n cap ∧ Ids w sa g n L := by
  have key : ∀ g, v.ownBlock = some g → ∀ i, i < n → w.rangeAt g (i * 21) (nl 16 (idb (L i))) := fun g hg i hi => by
    have hr : w.rangeAt g 0 (idC L n) := fun j u hj => by
      have := h.cells hg j u hj
      rw [Addr.add_mid] at this; exact this
    have : ∀ m, m ≤ n → w.rangeAt g 0 (idC L m) := fun m hm => by
      obtain ⟨d, rfl⟩ : ∃ d, n = m + d := ⟨n - m, by omega⟩
      have e : idC L (m + d) = idC L m ++ ((List.range d).map (m + ·)).flatMap fun i => nl 16 (idb (L i)) := by
        simp [idC, List.range_add]
      rw [e] at hr
      exact range_app_left hr
    have h1 := this (i + 1) (by omega)
    rw [idC_succ] at h1
    have h2 := range_app_right h1
    rw [length_idC, Nat.zero_add] at h2
    exact h2
  rcases h.2 with ⟨e, hn⟩ | ⟨g, cap, cur, e, _⟩
  · subst hn
    exact ⟨none, 0, 0, e, fun h0 => by omega, fun i hi => by omega, fun i hi => by omega⟩
  · exact ⟨_, g, cap, e, fun _ => rfl, key g (by rw [e]; rfl), hb⟩

theorem takeA {P : Program} {ops : Array Oper} {Q : Exit → Act → World → Prop} {md : Region.Mode} {S : World → Prop} {i d : Nat} {oi : Oper} {v : Value} {fuel : Nat} {listed : Array Bool} {a : Act} {w : World} (hi : ops[i]? = some oi) (hd : oi.dst = some d)
    (hs : Region.noSelect ops = true) (hf : Region.free md ops listed i = true) (hr : (Region.ready md ops listed).contains i = true) (hQ : ∀ ch a a' w, Q (.panic ch) a w → Q (.panic ch) a' w) (hy : YieldsIf P ops S oi v a) (hS : S w)
    (h : ∀ a', a' = a.put (some d) v → wpAnyH P md ops Q S fuel (listed.setIfInBounds i true) a' w) : wpAnyH P md ops Q S (fuel + 1) listed a w :=
  wpAnyH_take hi hs hf hr (fun _ _ _ h => hQ _ _ _ _ h) hy hS (hd ▸ h _ rfl)
/-- Two frames that part between lo and hi alone. -/
structure SameBut (lo hi : Nat) (a a' : Act) : Prop where
  size : a'.tmps.size = a.tmps.size
  defers : a'.defers = a.defers
  get : ∀ k, ¬ (lo ≤ k ∧ k ≤ hi) → a'.tmps[k]? = a.tmps[k]?
theorem SameBut.refl (lo hi : Nat) (a : Act) : SameBut lo hi a a := ⟨rfl, rfl, fun _ _ => rfl⟩
theorem SameBut.put {lo hi : Nat} {a a1 a2 : Act} {d : Nat} {v : Value} (h : SameBut lo hi a a1) (e : a2 = a1.put (some d) v) (hd : (decide (lo ≤ d) && decide (d ≤ hi)) = true) : SameBut lo hi a a2 := by
  subst e
  simp at hd
  exact ⟨by simp [Act.put, h.size], h.defers, fun k hk => by
    simp only [Act.put]
    rw [Array.getElem?_setIfInBounds_ne (by rintro rfl; exact hk hd)]
    exact h.get k hk⟩
theorem put_same {a1 a2 : Act} {d : Nat} {v : Value} (e : a2 = a1.put (some d) v) (hd : d < a1.tmps.size) : a2.tmps[d]? = some v := by
  subst e; simp [Act.put, hd]
theorem put_other {a1 a2 : Act} {d k : Nat} {v : Value} {u : Option Value} (e : a2 = a1.put (some d) v) (hd : Nat.beq d k = false) (h : a1.tmps[k]? = u) : a2.tmps[k]? = u := by
  subst e
  simp only [Act.put]
  rw [Array.getElem?_setIfInBounds_ne (by rintro rfl; simp at hd)]
  exact h
theorem put_size {a1 a2 : Act} {d n : Nat} {v : Value} (e : a2 = a1.put (some d) v) (h : a1.tmps.size = n) : a2.tmps.size = n := by
  subst e; simp [Act.put, h]
theorem SameBut.list {lo hi n : Nat} {a a' : Act} (h : SameBut lo hi a a') (hl : lo ≤ hi + 1) (hn : a.tmps.size = n) (hh : hi < n) : ∃ vs : List Value, vs.length = hi + 1 - lo ∧ a' = ⟨(a.tmps.toList.take lo ++ (vs ++ a.tmps.toList.drop (hi + 1))).toArray, a.defers⟩ := by
  refine ⟨(a'.tmps.toList.drop lo).take (hi + 1 - lo), by simp [h.size, hn]; omega, ?_⟩
  obtain ⟨t, d⟩ := a
  obtain ⟨t', d'⟩ := a'
  obtain ⟨h1, h2, h3⟩ := h
  simp only at h1 h2 h3 hn ⊢
  subst h2
  congr 1
  apply Array.ext'
  apply List.ext_getElem?
  intro k
  have h3k := h3 k
  rw [List.getElem?_append, List.getElem?_append]
  simp only [List.length_take, List.length_drop, Array.length_toList, List.getElem?_take, List.getElem?_drop]
  rw [h1, hn]
  have e1 : min lo n = lo := by omega
  have e2 : min (hi + 1 - lo) (n - lo) = hi + 1 - lo := by omega
  rw [e1, e2]
  by_cases c1 : k < lo
  · rw [if_pos c1, if_pos c1]
    simp
    exact h3k (by omega)
  · rw [if_neg c1]
    by_cases c2 : k - lo < hi + 1 - lo
    · rw [if_pos c2, if_pos c2]
      have : lo + (k - lo) = k := by omega
      rw [this]
    · rw [if_neg c2]
      have : hi + 1 + (k - lo - (hi + 1 - lo)) = k := by omega
      rw [this]
      simp
      exact h3k (by omega)
theorem act_new {P : Program} {ops : Array Oper} {Q : Exit → Act → World → Prop} {md : Region.Mode} {S : World → Prop} {fuel : Nat} {listed : Array Bool} {a : Act} {w : World} (d : Nat) (v : Value) (h : ∀ a', a' = a.put (some d) v → wpAnyH P md ops Q S fuel listed a' w) : wpAnyH P md ops Q S fuel listed (a.put (some d) v) w := h _ rfl
theorem eval_some {a : Act} {k : Nat} {v : Value} (h : a.tmps[k]? = some v) : a.eval (.tmp k) = v := by
  show a.tmps.getD k undef = v
  rw [Array.getD_eq_getD_getElem?, h]; rfl
theorem wp_build28 {w : World} {o : Oper} {a : Act} {K : Act → World → Prop} {Q : Exit → Act → World → Prop} (x : Int) (k : Nat) (ho : o.op = .buildSlice 28 1 #[(0, .tmp k)]) (hx : a.eval (.tmp k) = .agg (nl 16 (idb x)).toArray)
    (h : K (a.put o.dst (.slice (some ⟨w.heap.size, 0, none⟩) 1 1)) (w.alloc (.cells (nl 16 (idb x)).toArray 26))) : o.wp Yba.prog a w K Q := by
  unfold Oper.wp execOp
  have e := build28 x w
  simp only [ho, List.map_toArray, List.map_cons, List.map_nil, hx, Sem.run_bind, e, Result.andThen_ok]
  exact h
theorem row_slice {w : World} {base : Nat} {e : TypeId} {size : Nat} {v : Value} {n : Nat} {xs : List Value} (hr : w.ownsRow base e size v n xs) : ∃ sa cap, v = .slice sa n cap := by
  rcases hr.2 with ⟨rfl, rfl⟩ | ⟨g, cap, cur, rfl, _⟩
  · exact ⟨none, 0, rfl⟩
  · exact ⟨_, _, rfl⟩
theorem info26z : (Yba.prog.info? 26).map (fun i => (i.zero, i.size, i.bytes)) = some (some (.agg (nl 0 (fun _ => 0)).toArray), 21, 21) := by kernel_rfl
theorem row_not26 {w : World} {base : Nat} {size : Nat} {v : Value} {n : Nat} {xs : List Value} {b : Nat} {cs : Array Value} {t : TypeId} (hr : w.ownsRow base 26 size v n xs) (hc : w.heap[b]? = some (.cells cs t)) (ht : t ≠ 26) : v.ownBlock ≠ some b := by
  rcases hr.2 with ⟨rfl, _⟩ | ⟨g, cap, cur, rfl, _, hg, _⟩
  · simp [Value.ownBlock]
  · intro e
    simp only [Value.ownBlock, Option.some.injEq] at e
    subst e
    rw [hc] at hg
    injection hg with hg
    injection hg with _ hg
    exact ht hg

set_option maxRecDepth 100000 in
set_option maxHeartbeats 4000000 in
theorem pushLeader (c : Code) (hc : Yba.f3.body.bind (regCode 7) = some c) (Q : Exit → Act → World → Prop) (hQ : ∀ ch a a' w, Q (.panic ch) a w → Q (.panic ch) a' w) (W : World) (base bh k : Nat) (x : Int) (v : Value) (xs : List Value) (self frm : Int)
    (ab : W.heap[bh]? = some (.cells (hl self frm v).toArray 30)) (h : W.ownsRow base 26 21 v k xs) (hk : k < 1024) (hbase : base ≤ W.heap.size) (a0 : Act) (z0 : Hid (a0.tmps.size = 289)) (e11 : a0.tmps[11]? = some (.pointer (some ⟨bh, 0, none⟩))) (e13 : a0.tmps[13]? = some (.int .u8 x))
    (hend : ∀ (a' : Act) (v' : Value) (W' : World), SameBut 65 71 a0 a' → W'.ownsRow base 26 21 v' (k + 1) (xs ++ nl 16 (idb x)) → W'.heap[bh]? = some (.cells (hl self frm v').toArray 30) → Kept2 W W' bh v.ownBlock → Q .normal a' W') :
    c.wp Yba.prog Q a0 W := by
  obtain rfl : c = ((Yba.f3.body.bind (regCode 7)).getD .skip) := by rw [hc]; rfl
  clear hc
  have HE : Hid _ := hend
  clear hend
  conv => arg 2; whnf
  try dsimp only
  refine wp_region_held_drew (S := fun _ => True) (by kernel_rfl) trivial (fun hT => ?_)
  have sb0 := SameBut.refl 65 71 a0
  refine takeA (i := 0) (d := 65) (v := .pointer (some ⟨bh, 22, none⟩)) rfl rfl (by kernel_rfl) (by kernel_rfl) (by kernel_rfl) hQ (Or.inl ⟨by rfl, fun W9 h => by go_simp⟩) hT (fun a1 ha1 => ?_)
  have sb1 := sb0.put ha1 (by rfl)
  have e65 := put_same ha1 (by rw [z0.out]; decide)
  replace e11 := put_other ha1 (by rfl) e11
  replace e13 := put_other ha1 (by rfl) e13
  have z1 : Hid (a1.tmps.size = 289) := put_size ha1 z0.out
  clear ha1 sb0 z0
  refine takeA (i := 2) (d := 67) (v := .int .u8 x) rfl rfl (by kernel_rfl) (by kernel_rfl) (by kernel_rfl) hQ (Or.inl ⟨by rfl, fun W9 h => by go_simp⟩) hT (fun a2 ha2 => ?_)
  have sb2 := sb1.put ha2 (by rfl)
  have e67 := put_same ha2 (by rw [z1.out]; decide)
  replace e11 := put_other ha2 (by rfl) e11
  replace e13 := put_other ha2 (by rfl) e13
  replace e65 := put_other ha2 (by rfl) e65
  have z2 : Hid (a2.tmps.size = 289) := put_size ha2 z1.out
  clear ha2 sb1 z1
  have ab0 : W.drew.heap[bh]? = _ := ab
  have bb0 : Below W.heap.size W W.drew := (Below.refl _ _).drew
  refine wpAnyH_ready (rs := [1, 3]) (by kernel_rfl) (by simp) ?_
  refine AllReadyH.cons (i := 1) rfl (fun K hK => ?_) ?_
  · rw [if_pos (by rfl)]
    have e22 := hl_ldr (heap_range ab0)
    go_simp
    refine hK.out _ _ trivial (fun _ => ?_)
    clear hK K
    refine act_new (a := a2) 66 (v) (fun a3 ha3 => ?_)
    have sb3 := sb2.put ha3 (by rfl)
    have e66 := put_same ha3 (by rw [z2.out]; decide)
    replace e11 := put_other ha3 (by rfl) e11
    replace e13 := put_other ha3 (by rfl) e13
    replace e65 := put_other ha3 (by rfl) e65
    replace e67 := put_other ha3 (by rfl) e67
    have z3 : Hid (a3.tmps.size = 289) := put_size ha3 z2.out
    clear ha3 sb2 z2
    clear e22
    refine wpAnyH_ready (rs := [3]) (by kernel_rfl) (by simp) ?_
    refine AllReadyH.cons (i := 3) rfl (fun K hK => ?_) ?_
    · rw [if_pos (by rfl)]
      go_simp
      refine (aid_any x _).mono ?_
      rintro e W1 ⟨rfl, b1⟩
      unfold idv
      refine hK.out _ _ trivial (fun _ => ?_)
      clear hK K
      refine act_new (a := a3) 68 (.agg (nl 16 (idb x)).toArray) (fun a4 ha4 => ?_)
      have sb4 := sb3.put ha4 (by rfl)
      have e68 := put_same ha4 (by rw [z3.out]; decide)
      replace e11 := put_other ha4 (by rfl) e11
      replace e13 := put_other ha4 (by rfl) e13
      replace e65 := put_other ha4 (by rfl) e65
      replace e67 := put_other ha4 (by rfl) e67
      replace e66 := put_other ha4 (by rfl) e66
      have z4 : Hid (a4.tmps.size = 289) := put_size ha4 z3.out
      clear ha4 sb3 z3
      have bb1 : Below W.heap.size W W1 := bb0.trans (b1.mono bb0.size)
      have ab1 := (b1.block _ (lt_of_heap ab0)).trans ab0
      clear b1
      refine wpAnyH_ready (rs := [4]) (by kernel_rfl) (by simp) ?_
      refine AllReadyH.cons (i := 4) rfl (fun K hK => ?_) ?_
      · rw [if_pos (by rfl)]
        refine wp_build28 x 68 rfl (eval_some e68) ?_
        refine hK.out _ _ trivial (fun _ => ?_)
        clear hK K
        refine act_new (a := a4) 69 (.slice (some ⟨W1.heap.size, 0, none⟩) 1 1) (fun a5 ha5 => ?_)
        have sb5 := sb4.put ha5 (by rfl)
        have e69 := put_same ha5 (by rw [z4.out]; decide)
        replace e11 := put_other ha5 (by rfl) e11
        replace e13 := put_other ha5 (by rfl) e13
        replace e65 := put_other ha5 (by rfl) e65
        replace e67 := put_other ha5 (by rfl) e67
        replace e66 := put_other ha5 (by rfl) e66
        replace e68 := put_other ha5 (by rfl) e68
        have z5 : Hid (a5.tmps.size = 289) := put_size ha5 z4.out
        clear ha5 sb4 z4
        obtain ⟨g0, hg0⟩ : ∃ g0, g0 = W1.heap.size := ⟨_, rfl⟩
        rw [← hg0] at e69
        refine wpAnyH_world (fun W5 => W5.heap[g0]? = some (.cells (nl 16 (idb x)).toArray 26) ∧ Below W.heap.size W W5 ∧ W5.heap[bh]? = some (.cells (hl self frm v).toArray 30)) ⟨heapNew hg0, bb1.alloc bb1.size _, heapOld (lt_of_heap ab1) ab1⟩ ?_
        rintro W2 ⟨a70, bb2, ab2⟩
        have gg : W.heap.size ≤ g0 := by rw [hg0]; exact bb1.size
        clear hg0
        refine wpAnyH_ready (rs := [5]) (by kernel_rfl) (by simp) ?_
        refine AllReadyH.cons (i := 5) rfl (fun K hK => ?_) ?_
        · rw [if_pos (by rfl)]
          have hown := h.kept (grown_below bb2) (by cases v.ownBlock <;> simp)
          obtain ⟨i0, hi, hz0, hz1, hz2⟩ := info_parts info26z
          refine wp_append (.tmp 66) (.tmp 69) 28 rfl base 26 i0 _ 21 21 Yba.underlying28 hi hz0 hz1 hz2 (by rfl) (by decide) v k xs (eval_some e66) hown ⟨g0, 0, none⟩ 1 1 (nl 16 (idb x)) (eval_some e69) (by rw [length_nl]) (fun j u hu => by rw [Addr.add_mid]; exact heap_range a70 j u hu) (one_nl _ _) (by unfold maxLen; omega) (by omega) (Nat.le_trans hbase bb2.size) ?_
          intro v' w8 hv' hg8 hloc
          refine hK.out _ _ trivial (fun _ => ?_)
          clear hK K
          refine act_new (a := a5) 70 (v') (fun a6 ha6 => ?_)
          have sb6 := sb5.put ha6 (by rfl)
          have e70 := put_same ha6 (by rw [z5.out]; decide)
          replace e11 := put_other ha6 (by rfl) e11
          replace e13 := put_other ha6 (by rfl) e13
          replace e65 := put_other ha6 (by rfl) e65
          replace e67 := put_other ha6 (by rfl) e67
          replace e66 := put_other ha6 (by rfl) e66
          replace e68 := put_other ha6 (by rfl) e68
          replace e69 := put_other ha6 (by rfl) e69
          have z6 : Hid (a6.tmps.size = 289) := put_size ha6 z5.out
          clear ha6 sb5 z5
          obtain ⟨ra, rc, hvs⟩ := row_slice hv'
          have hrow := row_not26 h ab (by decide)
          have ab8 : w8.heap[bh]? = some (.cells (hl self frm v).toArray 30) := (hg8.block _ (lt_of_heap ab2) (Ne.symm hrow)).trans ab2
          refine takeA (i := 6) (d := 71) (v := .pointer (some ⟨bh, 22, none⟩)) rfl rfl (by kernel_rfl) (by kernel_rfl) (by kernel_rfl) hQ (Or.inl ⟨by rfl, fun W9 h => by go_simp⟩) trivial (fun a7 ha7 => ?_)
          have sb7 := sb6.put ha7 (by rfl)
          have e71 := put_same ha7 (by rw [z6.out]; decide)
          replace e11 := put_other ha7 (by rfl) e11
          replace e13 := put_other ha7 (by rfl) e13
          replace e65 := put_other ha7 (by rfl) e65
          replace e67 := put_other ha7 (by rfl) e67
          replace e66 := put_other ha7 (by rfl) e66
          replace e68 := put_other ha7 (by rfl) e68
          replace e69 := put_other ha7 (by rfl) e69
          replace e70 := put_other ha7 (by rfl) e70
          have z7 : Hid (a7.tmps.size = 289) := put_size ha7 z6.out
          clear ha7 sb6 z6
          have c8 := hl_ldr (heap_range ab8)
          have f8 := free_of_heap ab8 22
          refine wpAnyH_ready (rs := [7]) (by kernel_rfl) (by simp) ?_
          refine AllReadyH.cons (i := 7) rfl (fun K hK => ?_) AllReadyH.nil
          rw [if_pos (by rfl)]
          subst hvs
          go_simp
          refine hK.out _ _ trivial (fun _ => ?_)
          clear hK K
          refine wpAnyH_done (by kernel_rfl) ?_ _
          have hg9 : w8.grownBy (w8.setCell ⟨bh, 22, none⟩ (.slice ra (k + 1) rc)) (some bh) := ⟨rfl, rfl, rfl, by simp, fun k _ hk => Below.heap_setCell _ _ _ _ (by simpa using hk)⟩
          exact HE.out _ _ _ sb7 (row_ne hv' hg9 (row_not26 hv' ab8 (by decide))) (set_same ab8 _ rfl) ⟨hg8.os.trans bb2.os, hg8.tape.trans bb2.tape, hg8.output.trans bb2.output, Nat.le_trans bb2.size (Nat.le_trans hg8.size (by simp)), fun k hk h1 h2 => (Below.heap_setCell _ _ _ _ h1).trans ((hg8.block k (Nat.lt_of_lt_of_le hk bb2.size) h2).trans (bb2.block k hk))⟩
        exact AllReadyH.nil
      exact AllReadyH.nil
    exact AllReadyH.nil
  refine AllReadyH.cons (i := 3) rfl (fun K hK => ?_) ?_
  · rw [if_pos (by rfl)]
    go_simp
    refine (aid_any x _).mono ?_
    rintro e W1 ⟨rfl, b1⟩
    unfold idv
    refine hK.out _ _ trivial (fun _ => ?_)
    clear hK K
    refine act_new (a := a2) 68 (.agg (nl 16 (idb x)).toArray) (fun a3 ha3 => ?_)
    have sb3 := sb2.put ha3 (by rfl)
    have e68 := put_same ha3 (by rw [z2.out]; decide)
    replace e11 := put_other ha3 (by rfl) e11
    replace e13 := put_other ha3 (by rfl) e13
    replace e65 := put_other ha3 (by rfl) e65
    replace e67 := put_other ha3 (by rfl) e67
    have z3 : Hid (a3.tmps.size = 289) := put_size ha3 z2.out
    clear ha3 sb2 z2
    have bb1 : Below W.heap.size W W1 := bb0.trans (b1.mono bb0.size)
    have ab1 := (b1.block _ (lt_of_heap ab0)).trans ab0
    clear b1
    refine wpAnyH_ready (rs := [1, 4]) (by kernel_rfl) (by simp) ?_
    refine AllReadyH.cons (i := 1) rfl (fun K hK => ?_) ?_
    · rw [if_pos (by rfl)]
      have e22 := hl_ldr (heap_range ab1)
      go_simp
      refine hK.out _ _ trivial (fun _ => ?_)
      clear hK K
      refine act_new (a := a3) 66 (v) (fun a4 ha4 => ?_)
      have sb4 := sb3.put ha4 (by rfl)
      have e66 := put_same ha4 (by rw [z3.out]; decide)
      replace e11 := put_other ha4 (by rfl) e11
      replace e13 := put_other ha4 (by rfl) e13
      replace e65 := put_other ha4 (by rfl) e65
      replace e67 := put_other ha4 (by rfl) e67
      replace e68 := put_other ha4 (by rfl) e68
      have z4 : Hid (a4.tmps.size = 289) := put_size ha4 z3.out
      clear ha4 sb3 z3
      clear e22
      refine wpAnyH_ready (rs := [4]) (by kernel_rfl) (by simp) ?_
      refine AllReadyH.cons (i := 4) rfl (fun K hK => ?_) ?_
      · rw [if_pos (by rfl)]
        refine wp_build28 x 68 rfl (eval_some e68) ?_
        refine hK.out _ _ trivial (fun _ => ?_)
        clear hK K
        refine act_new (a := a4) 69 (.slice (some ⟨W1.heap.size, 0, none⟩) 1 1) (fun a5 ha5 => ?_)
        have sb5 := sb4.put ha5 (by rfl)
        have e69 := put_same ha5 (by rw [z4.out]; decide)
        replace e11 := put_other ha5 (by rfl) e11
        replace e13 := put_other ha5 (by rfl) e13
        replace e65 := put_other ha5 (by rfl) e65
        replace e67 := put_other ha5 (by rfl) e67
        replace e68 := put_other ha5 (by rfl) e68
        replace e66 := put_other ha5 (by rfl) e66
        have z5 : Hid (a5.tmps.size = 289) := put_size ha5 z4.out
        clear ha5 sb4 z4
        obtain ⟨g0, hg0⟩ : ∃ g0, g0 = W1.heap.size := ⟨_, rfl⟩
        rw [← hg0] at e69
        refine wpAnyH_world (fun W5 => W5.heap[g0]? = some (.cells (nl 16 (idb x)).toArray 26) ∧ Below W.heap.size W W5 ∧ W5.heap[bh]? = some (.cells (hl self frm v).toArray 30)) ⟨heapNew hg0, bb1.alloc bb1.size _, heapOld (lt_of_heap ab1) ab1⟩ ?_
        rintro W2 ⟨a70, bb2, ab2⟩
        have gg : W.heap.size ≤ g0 := by rw [hg0]; exact bb1.size
        clear hg0
        refine wpAnyH_ready (rs := [5]) (by kernel_rfl) (by simp) ?_
        refine AllReadyH.cons (i := 5) rfl (fun K hK => ?_) ?_
        · rw [if_pos (by rfl)]
          have hown := h.kept (grown_below bb2) (by cases v.ownBlock <;> simp)
          obtain ⟨i0, hi, hz0, hz1, hz2⟩ := info_parts info26z
          refine wp_append (.tmp 66) (.tmp 69) 28 rfl base 26 i0 _ 21 21 Yba.underlying28 hi hz0 hz1 hz2 (by rfl) (by decide) v k xs (eval_some e66) hown ⟨g0, 0, none⟩ 1 1 (nl 16 (idb x)) (eval_some e69) (by rw [length_nl]) (fun j u hu => by rw [Addr.add_mid]; exact heap_range a70 j u hu) (one_nl _ _) (by unfold maxLen; omega) (by omega) (Nat.le_trans hbase bb2.size) ?_
          intro v' w8 hv' hg8 hloc
          refine hK.out _ _ trivial (fun _ => ?_)
          clear hK K
          refine act_new (a := a5) 70 (v') (fun a6 ha6 => ?_)
          have sb6 := sb5.put ha6 (by rfl)
          have e70 := put_same ha6 (by rw [z5.out]; decide)
          replace e11 := put_other ha6 (by rfl) e11
          replace e13 := put_other ha6 (by rfl) e13
          replace e65 := put_other ha6 (by rfl) e65
          replace e67 := put_other ha6 (by rfl) e67
          replace e68 := put_other ha6 (by rfl) e68
          replace e66 := put_other ha6 (by rfl) e66
          replace e69 := put_other ha6 (by rfl) e69
          have z6 : Hid (a6.tmps.size = 289) := put_size ha6 z5.out
          clear ha6 sb5 z5
          obtain ⟨ra, rc, hvs⟩ := row_slice hv'
          have hrow := row_not26 h ab (by decide)
          have ab8 : w8.heap[bh]? = some (.cells (hl self frm v).toArray 30) := (hg8.block _ (lt_of_heap ab2) (Ne.symm hrow)).trans ab2
          refine takeA (i := 6) (d := 71) (v := .pointer (some ⟨bh, 22, none⟩)) rfl rfl (by kernel_rfl) (by kernel_rfl) (by kernel_rfl) hQ (Or.inl ⟨by rfl, fun W9 h => by go_simp⟩) trivial (fun a7 ha7 => ?_)
          have sb7 := sb6.put ha7 (by rfl)
          have e71 := put_same ha7 (by rw [z6.out]; decide)
          replace e11 := put_other ha7 (by rfl) e11
          replace e13 := put_other ha7 (by rfl) e13
          replace e65 := put_other ha7 (by rfl) e65
          replace e67 := put_other ha7 (by rfl) e67
          replace e68 := put_other ha7 (by rfl) e68
          replace e66 := put_other ha7 (by rfl) e66
          replace e69 := put_other ha7 (by rfl) e69
          replace e70 := put_other ha7 (by rfl) e70
          have z7 : Hid (a7.tmps.size = 289) := put_size ha7 z6.out
          clear ha7 sb6 z6
          have c8 := hl_ldr (heap_range ab8)
          have f8 := free_of_heap ab8 22
          refine wpAnyH_ready (rs := [7]) (by kernel_rfl) (by simp) ?_
          refine AllReadyH.cons (i := 7) rfl (fun K hK => ?_) AllReadyH.nil
          rw [if_pos (by rfl)]
          subst hvs
          go_simp
          refine hK.out _ _ trivial (fun _ => ?_)
          clear hK K
          refine wpAnyH_done (by kernel_rfl) ?_ _
          have hg9 : w8.grownBy (w8.setCell ⟨bh, 22, none⟩ (.slice ra (k + 1) rc)) (some bh) := ⟨rfl, rfl, rfl, by simp, fun k _ hk => Below.heap_setCell _ _ _ _ (by simpa using hk)⟩
          exact HE.out _ _ _ sb7 (row_ne hv' hg9 (row_not26 hv' ab8 (by decide))) (set_same ab8 _ rfl) ⟨hg8.os.trans bb2.os, hg8.tape.trans bb2.tape, hg8.output.trans bb2.output, Nat.le_trans bb2.size (Nat.le_trans hg8.size (by simp)), fun k hk h1 h2 => (Below.heap_setCell _ _ _ _ h1).trans ((hg8.block k (Nat.lt_of_lt_of_le hk bb2.size) h2).trans (bb2.block k hk))⟩
        exact AllReadyH.nil
      exact AllReadyH.nil
    refine AllReadyH.cons (i := 4) rfl (fun K hK => ?_) ?_
    · rw [if_pos (by rfl)]
      refine wp_build28 x 68 rfl (eval_some e68) ?_
      refine hK.out _ _ trivial (fun _ => ?_)
      clear hK K
      refine act_new (a := a3) 69 (.slice (some ⟨W1.heap.size, 0, none⟩) 1 1) (fun a4 ha4 => ?_)
      have sb4 := sb3.put ha4 (by rfl)
      have e69 := put_same ha4 (by rw [z3.out]; decide)
      replace e11 := put_other ha4 (by rfl) e11
      replace e13 := put_other ha4 (by rfl) e13
      replace e65 := put_other ha4 (by rfl) e65
      replace e67 := put_other ha4 (by rfl) e67
      replace e68 := put_other ha4 (by rfl) e68
      have z4 : Hid (a4.tmps.size = 289) := put_size ha4 z3.out
      clear ha4 sb3 z3
      obtain ⟨g0, hg0⟩ : ∃ g0, g0 = W1.heap.size := ⟨_, rfl⟩
      rw [← hg0] at e69
      refine wpAnyH_world (fun W5 => W5.heap[g0]? = some (.cells (nl 16 (idb x)).toArray 26) ∧ Below W.heap.size W W5 ∧ W5.heap[bh]? = some (.cells (hl self frm v).toArray 30)) ⟨heapNew hg0, bb1.alloc bb1.size _, heapOld (lt_of_heap ab1) ab1⟩ ?_
      rintro W2 ⟨a70, bb2, ab2⟩
      have gg : W.heap.size ≤ g0 := by rw [hg0]; exact bb1.size
      clear hg0
      refine wpAnyH_ready (rs := [1]) (by kernel_rfl) (by simp) ?_
      refine AllReadyH.cons (i := 1) rfl (fun K hK => ?_) ?_
      · rw [if_pos (by rfl)]
        have e22 := hl_ldr (heap_range ab2)
        go_simp
        refine hK.out _ _ trivial (fun _ => ?_)
        clear hK K
        refine act_new (a := a4) 66 (v) (fun a5 ha5 => ?_)
        have sb5 := sb4.put ha5 (by rfl)
        have e66 := put_same ha5 (by rw [z4.out]; decide)
        replace e11 := put_other ha5 (by rfl) e11
        replace e13 := put_other ha5 (by rfl) e13
        replace e65 := put_other ha5 (by rfl) e65
        replace e67 := put_other ha5 (by rfl) e67
        replace e68 := put_other ha5 (by rfl) e68
        replace e69 := put_other ha5 (by rfl) e69
        have z5 : Hid (a5.tmps.size = 289) := put_size ha5 z4.out
        clear ha5 sb4 z4
        clear e22
        refine wpAnyH_ready (rs := [5]) (by kernel_rfl) (by simp) ?_
        refine AllReadyH.cons (i := 5) rfl (fun K hK => ?_) ?_
        · rw [if_pos (by rfl)]
          have hown := h.kept (grown_below bb2) (by cases v.ownBlock <;> simp)
          obtain ⟨i0, hi, hz0, hz1, hz2⟩ := info_parts info26z
          refine wp_append (.tmp 66) (.tmp 69) 28 rfl base 26 i0 _ 21 21 Yba.underlying28 hi hz0 hz1 hz2 (by rfl) (by decide) v k xs (eval_some e66) hown ⟨g0, 0, none⟩ 1 1 (nl 16 (idb x)) (eval_some e69) (by rw [length_nl]) (fun j u hu => by rw [Addr.add_mid]; exact heap_range a70 j u hu) (one_nl _ _) (by unfold maxLen; omega) (by omega) (Nat.le_trans hbase bb2.size) ?_
          intro v' w8 hv' hg8 hloc
          refine hK.out _ _ trivial (fun _ => ?_)
          clear hK K
          refine act_new (a := a5) 70 (v') (fun a6 ha6 => ?_)
          have sb6 := sb5.put ha6 (by rfl)
          have e70 := put_same ha6 (by rw [z5.out]; decide)
          replace e11 := put_other ha6 (by rfl) e11
          replace e13 := put_other ha6 (by rfl) e13
          replace e65 := put_other ha6 (by rfl) e65
          replace e67 := put_other ha6 (by rfl) e67
          replace e68 := put_other ha6 (by rfl) e68
          replace e69 := put_other ha6 (by rfl) e69
          replace e66 := put_other ha6 (by rfl) e66
          have z6 : Hid (a6.tmps.size = 289) := put_size ha6 z5.out
          clear ha6 sb5 z5
          obtain ⟨ra, rc, hvs⟩ := row_slice hv'
          have hrow := row_not26 h ab (by decide)
          have ab8 : w8.heap[bh]? = some (.cells (hl self frm v).toArray 30) := (hg8.block _ (lt_of_heap ab2) (Ne.symm hrow)).trans ab2
          refine takeA (i := 6) (d := 71) (v := .pointer (some ⟨bh, 22, none⟩)) rfl rfl (by kernel_rfl) (by kernel_rfl) (by kernel_rfl) hQ (Or.inl ⟨by rfl, fun W9 h => by go_simp⟩) trivial (fun a7 ha7 => ?_)
          have sb7 := sb6.put ha7 (by rfl)
          have e71 := put_same ha7 (by rw [z6.out]; decide)
          replace e11 := put_other ha7 (by rfl) e11
          replace e13 := put_other ha7 (by rfl) e13
          replace e65 := put_other ha7 (by rfl) e65
          replace e67 := put_other ha7 (by rfl) e67
          replace e68 := put_other ha7 (by rfl) e68
          replace e69 := put_other ha7 (by rfl) e69
          replace e66 := put_other ha7 (by rfl) e66
          replace e70 := put_other ha7 (by rfl) e70
          have z7 : Hid (a7.tmps.size = 289) := put_size ha7 z6.out
          clear ha7 sb6 z6
          have c8 := hl_ldr (heap_range ab8)
          have f8 := free_of_heap ab8 22
          refine wpAnyH_ready (rs := [7]) (by kernel_rfl) (by simp) ?_
          refine AllReadyH.cons (i := 7) rfl (fun K hK => ?_) AllReadyH.nil
          rw [if_pos (by rfl)]
          subst hvs
          go_simp
          refine hK.out _ _ trivial (fun _ => ?_)
          clear hK K
          refine wpAnyH_done (by kernel_rfl) ?_ _
          have hg9 : w8.grownBy (w8.setCell ⟨bh, 22, none⟩ (.slice ra (k + 1) rc)) (some bh) := ⟨rfl, rfl, rfl, by simp, fun k _ hk => Below.heap_setCell _ _ _ _ (by simpa using hk)⟩
          exact HE.out _ _ _ sb7 (row_ne hv' hg9 (row_not26 hv' ab8 (by decide))) (set_same ab8 _ rfl) ⟨hg8.os.trans bb2.os, hg8.tape.trans bb2.tape, hg8.output.trans bb2.output, Nat.le_trans bb2.size (Nat.le_trans hg8.size (by simp)), fun k hk h1 h2 => (Below.heap_setCell _ _ _ _ h1).trans ((hg8.block k (Nat.lt_of_lt_of_le hk bb2.size) h2).trans (bb2.block k hk))⟩
        exact AllReadyH.nil
      exact AllReadyH.nil
    exact AllReadyH.nil
  exact AllReadyH.nil

set_option maxRecDepth 100000 in
set_option maxHeartbeats 4000000 in
theorem pushPred (c : Code) (hc : Yba.f3.body.bind (regCode 13) = some c) (Q : Exit → Act → World → Prop) (hQ : ∀ ch a a' w, Q (.panic ch) a w → Q (.panic ch) a' w) (W : World) (base bh k : Nat) (x : Int) (v : Value) (xs : List Value) (self : Int)
    (ab : W.heap[bh]? = some (.cells (tl self v).toArray 32)) (h : W.ownsRow base 26 21 v k xs) (hk : k < 1024) (hbase : base ≤ W.heap.size) (a0 : Act) (z0 : Hid (a0.tmps.size = 289)) (e14 : a0.tmps[14]? = some (.pointer (some ⟨bh, 0, none⟩))) (e16 : a0.tmps[16]? = some (.int .u8 x))
    (hend : ∀ (a' : Act) (v' : Value) (W' : World), SameBut 82 88 a0 a' → W'.ownsRow base 26 21 v' (k + 1) (xs ++ nl 16 (idb x)) → W'.heap[bh]? = some (.cells (tl self v').toArray 32) → Kept2 W W' bh v.ownBlock → Q .normal a' W') :
    c.wp Yba.prog Q a0 W := by
  obtain rfl : c = ((Yba.f3.body.bind (regCode 13)).getD .skip) := by rw [hc]; rfl
  clear hc
  have HE : Hid _ := hend
  clear hend
  conv => arg 2; whnf
  try dsimp only
  refine wp_region_held_drew (S := fun _ => True) (by kernel_rfl) trivial (fun hT => ?_)
  have sb0 := SameBut.refl 82 88 a0
  refine takeA (i := 0) (d := 82) (v := .pointer (some ⟨bh, 22, none⟩)) rfl rfl (by kernel_rfl) (by kernel_rfl) (by kernel_rfl) hQ (Or.inl ⟨by rfl, fun W9 h => by go_simp⟩) hT (fun a1 ha1 => ?_)
  have sb1 := sb0.put ha1 (by rfl)
  have e82 := put_same ha1 (by rw [z0.out]; decide)
  replace e14 := put_other ha1 (by rfl) e14
  replace e16 := put_other ha1 (by rfl) e16
  have z1 : Hid (a1.tmps.size = 289) := put_size ha1 z0.out
  clear ha1 sb0 z0
  refine takeA (i := 2) (d := 84) (v := .int .u8 x) rfl rfl (by kernel_rfl) (by kernel_rfl) (by kernel_rfl) hQ (Or.inl ⟨by rfl, fun W9 h => by go_simp⟩) hT (fun a2 ha2 => ?_)
  have sb2 := sb1.put ha2 (by rfl)
  have e84 := put_same ha2 (by rw [z1.out]; decide)
  replace e14 := put_other ha2 (by rfl) e14
  replace e16 := put_other ha2 (by rfl) e16
  replace e82 := put_other ha2 (by rfl) e82
  have z2 : Hid (a2.tmps.size = 289) := put_size ha2 z1.out
  clear ha2 sb1 z1
  have ab0 : W.drew.heap[bh]? = _ := ab
  have bb0 : Below W.heap.size W W.drew := (Below.refl _ _).drew
  refine wpAnyH_ready (rs := [1, 3]) (by kernel_rfl) (by simp) ?_
  refine AllReadyH.cons (i := 1) rfl (fun K hK => ?_) ?_
  · rw [if_pos (by rfl)]
    have e22 := tl_prd (heap_range ab0)
    go_simp
    refine hK.out _ _ trivial (fun _ => ?_)
    clear hK K
    refine act_new (a := a2) 83 (v) (fun a3 ha3 => ?_)
    have sb3 := sb2.put ha3 (by rfl)
    have e83 := put_same ha3 (by rw [z2.out]; decide)
    replace e14 := put_other ha3 (by rfl) e14
    replace e16 := put_other ha3 (by rfl) e16
    replace e82 := put_other ha3 (by rfl) e82
    replace e84 := put_other ha3 (by rfl) e84
    have z3 : Hid (a3.tmps.size = 289) := put_size ha3 z2.out
    clear ha3 sb2 z2
    clear e22
    refine wpAnyH_ready (rs := [3]) (by kernel_rfl) (by simp) ?_
    refine AllReadyH.cons (i := 3) rfl (fun K hK => ?_) ?_
    · rw [if_pos (by rfl)]
      go_simp
      refine (aid_any x _).mono ?_
      rintro e W1 ⟨rfl, b1⟩
      unfold idv
      refine hK.out _ _ trivial (fun _ => ?_)
      clear hK K
      refine act_new (a := a3) 85 (.agg (nl 16 (idb x)).toArray) (fun a4 ha4 => ?_)
      have sb4 := sb3.put ha4 (by rfl)
      have e85 := put_same ha4 (by rw [z3.out]; decide)
      replace e14 := put_other ha4 (by rfl) e14
      replace e16 := put_other ha4 (by rfl) e16
      replace e82 := put_other ha4 (by rfl) e82
      replace e84 := put_other ha4 (by rfl) e84
      replace e83 := put_other ha4 (by rfl) e83
      have z4 : Hid (a4.tmps.size = 289) := put_size ha4 z3.out
      clear ha4 sb3 z3
      have bb1 : Below W.heap.size W W1 := bb0.trans (b1.mono bb0.size)
      have ab1 := (b1.block _ (lt_of_heap ab0)).trans ab0
      clear b1
      refine wpAnyH_ready (rs := [4]) (by kernel_rfl) (by simp) ?_
      refine AllReadyH.cons (i := 4) rfl (fun K hK => ?_) ?_
      · rw [if_pos (by rfl)]
        refine wp_build28 x 85 rfl (eval_some e85) ?_
        refine hK.out _ _ trivial (fun _ => ?_)
        clear hK K
        refine act_new (a := a4) 86 (.slice (some ⟨W1.heap.size, 0, none⟩) 1 1) (fun a5 ha5 => ?_)
        have sb5 := sb4.put ha5 (by rfl)
        have e86 := put_same ha5 (by rw [z4.out]; decide)
        replace e14 := put_other ha5 (by rfl) e14
        replace e16 := put_other ha5 (by rfl) e16
        replace e82 := put_other ha5 (by rfl) e82
        replace e84 := put_other ha5 (by rfl) e84
        replace e83 := put_other ha5 (by rfl) e83
        replace e85 := put_other ha5 (by rfl) e85
        have z5 : Hid (a5.tmps.size = 289) := put_size ha5 z4.out
        clear ha5 sb4 z4
        obtain ⟨g0, hg0⟩ : ∃ g0, g0 = W1.heap.size := ⟨_, rfl⟩
        rw [← hg0] at e86
        refine wpAnyH_world (fun W5 => W5.heap[g0]? = some (.cells (nl 16 (idb x)).toArray 26) ∧ Below W.heap.size W W5 ∧ W5.heap[bh]? = some (.cells (tl self v).toArray 32)) ⟨heapNew hg0, bb1.alloc bb1.size _, heapOld (lt_of_heap ab1) ab1⟩ ?_
        rintro W2 ⟨a70, bb2, ab2⟩
        have gg : W.heap.size ≤ g0 := by rw [hg0]; exact bb1.size
        clear hg0
        refine wpAnyH_ready (rs := [5]) (by kernel_rfl) (by simp) ?_
        refine AllReadyH.cons (i := 5) rfl (fun K hK => ?_) ?_
        · rw [if_pos (by rfl)]
          have hown := h.kept (grown_below bb2) (by cases v.ownBlock <;> simp)
          obtain ⟨i0, hi, hz0, hz1, hz2⟩ := info_parts info26z
          refine wp_append (.tmp 83) (.tmp 86) 28 rfl base 26 i0 _ 21 21 Yba.underlying28 hi hz0 hz1 hz2 (by rfl) (by decide) v k xs (eval_some e83) hown ⟨g0, 0, none⟩ 1 1 (nl 16 (idb x)) (eval_some e86) (by rw [length_nl]) (fun j u hu => by rw [Addr.add_mid]; exact heap_range a70 j u hu) (one_nl _ _) (by unfold maxLen; omega) (by omega) (Nat.le_trans hbase bb2.size) ?_
          intro v' w8 hv' hg8 hloc
          refine hK.out _ _ trivial (fun _ => ?_)
          clear hK K
          refine act_new (a := a5) 87 (v') (fun a6 ha6 => ?_)
          have sb6 := sb5.put ha6 (by rfl)
          have e87 := put_same ha6 (by rw [z5.out]; decide)
          replace e14 := put_other ha6 (by rfl) e14
          replace e16 := put_other ha6 (by rfl) e16
          replace e82 := put_other ha6 (by rfl) e82
          replace e84 := put_other ha6 (by rfl) e84
          replace e83 := put_other ha6 (by rfl) e83
          replace e85 := put_other ha6 (by rfl) e85
          replace e86 := put_other ha6 (by rfl) e86
          have z6 : Hid (a6.tmps.size = 289) := put_size ha6 z5.out
          clear ha6 sb5 z5
          obtain ⟨ra, rc, hvs⟩ := row_slice hv'
          have hrow := row_not26 h ab (by decide)
          have ab8 : w8.heap[bh]? = some (.cells (tl self v).toArray 32) := (hg8.block _ (lt_of_heap ab2) (Ne.symm hrow)).trans ab2
          refine takeA (i := 6) (d := 88) (v := .pointer (some ⟨bh, 22, none⟩)) rfl rfl (by kernel_rfl) (by kernel_rfl) (by kernel_rfl) hQ (Or.inl ⟨by rfl, fun W9 h => by go_simp⟩) trivial (fun a7 ha7 => ?_)
          have sb7 := sb6.put ha7 (by rfl)
          have e88 := put_same ha7 (by rw [z6.out]; decide)
          replace e14 := put_other ha7 (by rfl) e14
          replace e16 := put_other ha7 (by rfl) e16
          replace e82 := put_other ha7 (by rfl) e82
          replace e84 := put_other ha7 (by rfl) e84
          replace e83 := put_other ha7 (by rfl) e83
          replace e85 := put_other ha7 (by rfl) e85
          replace e86 := put_other ha7 (by rfl) e86
          replace e87 := put_other ha7 (by rfl) e87
          have z7 : Hid (a7.tmps.size = 289) := put_size ha7 z6.out
          clear ha7 sb6 z6
          have c8 := tl_prd (heap_range ab8)
          have f8 := free_of_heap ab8 22
          refine wpAnyH_ready (rs := [7]) (by kernel_rfl) (by simp) ?_
          refine AllReadyH.cons (i := 7) rfl (fun K hK => ?_) AllReadyH.nil
          rw [if_pos (by rfl)]
          subst hvs
          go_simp
          refine hK.out _ _ trivial (fun _ => ?_)
          clear hK K
          refine wpAnyH_done (by kernel_rfl) ?_ _
          have hg9 : w8.grownBy (w8.setCell ⟨bh, 22, none⟩ (.slice ra (k + 1) rc)) (some bh) := ⟨rfl, rfl, rfl, by simp, fun k _ hk => Below.heap_setCell _ _ _ _ (by simpa using hk)⟩
          exact HE.out _ _ _ sb7 (row_ne hv' hg9 (row_not26 hv' ab8 (by decide))) (set_same ab8 _ rfl) ⟨hg8.os.trans bb2.os, hg8.tape.trans bb2.tape, hg8.output.trans bb2.output, Nat.le_trans bb2.size (Nat.le_trans hg8.size (by simp)), fun k hk h1 h2 => (Below.heap_setCell _ _ _ _ h1).trans ((hg8.block k (Nat.lt_of_lt_of_le hk bb2.size) h2).trans (bb2.block k hk))⟩
        exact AllReadyH.nil
      exact AllReadyH.nil
    exact AllReadyH.nil
  refine AllReadyH.cons (i := 3) rfl (fun K hK => ?_) ?_
  · rw [if_pos (by rfl)]
    go_simp
    refine (aid_any x _).mono ?_
    rintro e W1 ⟨rfl, b1⟩
    unfold idv
    refine hK.out _ _ trivial (fun _ => ?_)
    clear hK K
    refine act_new (a := a2) 85 (.agg (nl 16 (idb x)).toArray) (fun a3 ha3 => ?_)
    have sb3 := sb2.put ha3 (by rfl)
    have e85 := put_same ha3 (by rw [z2.out]; decide)
    replace e14 := put_other ha3 (by rfl) e14
    replace e16 := put_other ha3 (by rfl) e16
    replace e82 := put_other ha3 (by rfl) e82
    replace e84 := put_other ha3 (by rfl) e84
    have z3 : Hid (a3.tmps.size = 289) := put_size ha3 z2.out
    clear ha3 sb2 z2
    have bb1 : Below W.heap.size W W1 := bb0.trans (b1.mono bb0.size)
    have ab1 := (b1.block _ (lt_of_heap ab0)).trans ab0
    clear b1
    refine wpAnyH_ready (rs := [1, 4]) (by kernel_rfl) (by simp) ?_
    refine AllReadyH.cons (i := 1) rfl (fun K hK => ?_) ?_
    · rw [if_pos (by rfl)]
      have e22 := tl_prd (heap_range ab1)
      go_simp
      refine hK.out _ _ trivial (fun _ => ?_)
      clear hK K
      refine act_new (a := a3) 83 (v) (fun a4 ha4 => ?_)
      have sb4 := sb3.put ha4 (by rfl)
      have e83 := put_same ha4 (by rw [z3.out]; decide)
      replace e14 := put_other ha4 (by rfl) e14
      replace e16 := put_other ha4 (by rfl) e16
      replace e82 := put_other ha4 (by rfl) e82
      replace e84 := put_other ha4 (by rfl) e84
      replace e85 := put_other ha4 (by rfl) e85
      have z4 : Hid (a4.tmps.size = 289) := put_size ha4 z3.out
      clear ha4 sb3 z3
      clear e22
      refine wpAnyH_ready (rs := [4]) (by kernel_rfl) (by simp) ?_
      refine AllReadyH.cons (i := 4) rfl (fun K hK => ?_) ?_
      · rw [if_pos (by rfl)]
        refine wp_build28 x 85 rfl (eval_some e85) ?_
        refine hK.out _ _ trivial (fun _ => ?_)
        clear hK K
        refine act_new (a := a4) 86 (.slice (some ⟨W1.heap.size, 0, none⟩) 1 1) (fun a5 ha5 => ?_)
        have sb5 := sb4.put ha5 (by rfl)
        have e86 := put_same ha5 (by rw [z4.out]; decide)
        replace e14 := put_other ha5 (by rfl) e14
        replace e16 := put_other ha5 (by rfl) e16
        replace e82 := put_other ha5 (by rfl) e82
        replace e84 := put_other ha5 (by rfl) e84
        replace e85 := put_other ha5 (by rfl) e85
        replace e83 := put_other ha5 (by rfl) e83
        have z5 : Hid (a5.tmps.size = 289) := put_size ha5 z4.out
        clear ha5 sb4 z4
        obtain ⟨g0, hg0⟩ : ∃ g0, g0 = W1.heap.size := ⟨_, rfl⟩
        rw [← hg0] at e86
        refine wpAnyH_world (fun W5 => W5.heap[g0]? = some (.cells (nl 16 (idb x)).toArray 26) ∧ Below W.heap.size W W5 ∧ W5.heap[bh]? = some (.cells (tl self v).toArray 32)) ⟨heapNew hg0, bb1.alloc bb1.size _, heapOld (lt_of_heap ab1) ab1⟩ ?_
        rintro W2 ⟨a70, bb2, ab2⟩
        have gg : W.heap.size ≤ g0 := by rw [hg0]; exact bb1.size
        clear hg0
        refine wpAnyH_ready (rs := [5]) (by kernel_rfl) (by simp) ?_
        refine AllReadyH.cons (i := 5) rfl (fun K hK => ?_) ?_
        · rw [if_pos (by rfl)]
          have hown := h.kept (grown_below bb2) (by cases v.ownBlock <;> simp)
          obtain ⟨i0, hi, hz0, hz1, hz2⟩ := info_parts info26z
          refine wp_append (.tmp 83) (.tmp 86) 28 rfl base 26 i0 _ 21 21 Yba.underlying28 hi hz0 hz1 hz2 (by rfl) (by decide) v k xs (eval_some e83) hown ⟨g0, 0, none⟩ 1 1 (nl 16 (idb x)) (eval_some e86) (by rw [length_nl]) (fun j u hu => by rw [Addr.add_mid]; exact heap_range a70 j u hu) (one_nl _ _) (by unfold maxLen; omega) (by omega) (Nat.le_trans hbase bb2.size) ?_
          intro v' w8 hv' hg8 hloc
          refine hK.out _ _ trivial (fun _ => ?_)
          clear hK K
          refine act_new (a := a5) 87 (v') (fun a6 ha6 => ?_)
          have sb6 := sb5.put ha6 (by rfl)
          have e87 := put_same ha6 (by rw [z5.out]; decide)
          replace e14 := put_other ha6 (by rfl) e14
          replace e16 := put_other ha6 (by rfl) e16
          replace e82 := put_other ha6 (by rfl) e82
          replace e84 := put_other ha6 (by rfl) e84
          replace e85 := put_other ha6 (by rfl) e85
          replace e83 := put_other ha6 (by rfl) e83
          replace e86 := put_other ha6 (by rfl) e86
          have z6 : Hid (a6.tmps.size = 289) := put_size ha6 z5.out
          clear ha6 sb5 z5
          obtain ⟨ra, rc, hvs⟩ := row_slice hv'
          have hrow := row_not26 h ab (by decide)
          have ab8 : w8.heap[bh]? = some (.cells (tl self v).toArray 32) := (hg8.block _ (lt_of_heap ab2) (Ne.symm hrow)).trans ab2
          refine takeA (i := 6) (d := 88) (v := .pointer (some ⟨bh, 22, none⟩)) rfl rfl (by kernel_rfl) (by kernel_rfl) (by kernel_rfl) hQ (Or.inl ⟨by rfl, fun W9 h => by go_simp⟩) trivial (fun a7 ha7 => ?_)
          have sb7 := sb6.put ha7 (by rfl)
          have e88 := put_same ha7 (by rw [z6.out]; decide)
          replace e14 := put_other ha7 (by rfl) e14
          replace e16 := put_other ha7 (by rfl) e16
          replace e82 := put_other ha7 (by rfl) e82
          replace e84 := put_other ha7 (by rfl) e84
          replace e85 := put_other ha7 (by rfl) e85
          replace e83 := put_other ha7 (by rfl) e83
          replace e86 := put_other ha7 (by rfl) e86
          replace e87 := put_other ha7 (by rfl) e87
          have z7 : Hid (a7.tmps.size = 289) := put_size ha7 z6.out
          clear ha7 sb6 z6
          have c8 := tl_prd (heap_range ab8)
          have f8 := free_of_heap ab8 22
          refine wpAnyH_ready (rs := [7]) (by kernel_rfl) (by simp) ?_
          refine AllReadyH.cons (i := 7) rfl (fun K hK => ?_) AllReadyH.nil
          rw [if_pos (by rfl)]
          subst hvs
          go_simp
          refine hK.out _ _ trivial (fun _ => ?_)
          clear hK K
          refine wpAnyH_done (by kernel_rfl) ?_ _
          have hg9 : w8.grownBy (w8.setCell ⟨bh, 22, none⟩ (.slice ra (k + 1) rc)) (some bh) := ⟨rfl, rfl, rfl, by simp, fun k _ hk => Below.heap_setCell _ _ _ _ (by simpa using hk)⟩
          exact HE.out _ _ _ sb7 (row_ne hv' hg9 (row_not26 hv' ab8 (by decide))) (set_same ab8 _ rfl) ⟨hg8.os.trans bb2.os, hg8.tape.trans bb2.tape, hg8.output.trans bb2.output, Nat.le_trans bb2.size (Nat.le_trans hg8.size (by simp)), fun k hk h1 h2 => (Below.heap_setCell _ _ _ _ h1).trans ((hg8.block k (Nat.lt_of_lt_of_le hk bb2.size) h2).trans (bb2.block k hk))⟩
        exact AllReadyH.nil
      exact AllReadyH.nil
    refine AllReadyH.cons (i := 4) rfl (fun K hK => ?_) ?_
    · rw [if_pos (by rfl)]
      refine wp_build28 x 85 rfl (eval_some e85) ?_
      refine hK.out _ _ trivial (fun _ => ?_)
      clear hK K
      refine act_new (a := a3) 86 (.slice (some ⟨W1.heap.size, 0, none⟩) 1 1) (fun a4 ha4 => ?_)
      have sb4 := sb3.put ha4 (by rfl)
      have e86 := put_same ha4 (by rw [z3.out]; decide)
      replace e14 := put_other ha4 (by rfl) e14
      replace e16 := put_other ha4 (by rfl) e16
      replace e82 := put_other ha4 (by rfl) e82
      replace e84 := put_other ha4 (by rfl) e84
      replace e85 := put_other ha4 (by rfl) e85
      have z4 : Hid (a4.tmps.size = 289) := put_size ha4 z3.out
      clear ha4 sb3 z3
      obtain ⟨g0, hg0⟩ : ∃ g0, g0 = W1.heap.size := ⟨_, rfl⟩
      rw [← hg0] at e86
      refine wpAnyH_world (fun W5 => W5.heap[g0]? = some (.cells (nl 16 (idb x)).toArray 26) ∧ Below W.heap.size W W5 ∧ W5.heap[bh]? = some (.cells (tl self v).toArray 32)) ⟨heapNew hg0, bb1.alloc bb1.size _, heapOld (lt_of_heap ab1) ab1⟩ ?_
      rintro W2 ⟨a70, bb2, ab2⟩
      have gg : W.heap.size ≤ g0 := by rw [hg0]; exact bb1.size
      clear hg0
      refine wpAnyH_ready (rs := [1]) (by kernel_rfl) (by simp) ?_
      refine AllReadyH.cons (i := 1) rfl (fun K hK => ?_) ?_
      · rw [if_pos (by rfl)]
        have e22 := tl_prd (heap_range ab2)
        go_simp
        refine hK.out _ _ trivial (fun _ => ?_)
        clear hK K
        refine act_new (a := a4) 83 (v) (fun a5 ha5 => ?_)
        have sb5 := sb4.put ha5 (by rfl)
        have e83 := put_same ha5 (by rw [z4.out]; decide)
        replace e14 := put_other ha5 (by rfl) e14
        replace e16 := put_other ha5 (by rfl) e16
        replace e82 := put_other ha5 (by rfl) e82
        replace e84 := put_other ha5 (by rfl) e84
        replace e85 := put_other ha5 (by rfl) e85
        replace e86 := put_other ha5 (by rfl) e86
        have z5 : Hid (a5.tmps.size = 289) := put_size ha5 z4.out
        clear ha5 sb4 z4
        clear e22
        refine wpAnyH_ready (rs := [5]) (by kernel_rfl) (by simp) ?_
        refine AllReadyH.cons (i := 5) rfl (fun K hK => ?_) ?_
        · rw [if_pos (by rfl)]
          have hown := h.kept (grown_below bb2) (by cases v.ownBlock <;> simp)
          obtain ⟨i0, hi, hz0, hz1, hz2⟩ := info_parts info26z
          refine wp_append (.tmp 83) (.tmp 86) 28 rfl base 26 i0 _ 21 21 Yba.underlying28 hi hz0 hz1 hz2 (by rfl) (by decide) v k xs (eval_some e83) hown ⟨g0, 0, none⟩ 1 1 (nl 16 (idb x)) (eval_some e86) (by rw [length_nl]) (fun j u hu => by rw [Addr.add_mid]; exact heap_range a70 j u hu) (one_nl _ _) (by unfold maxLen; omega) (by omega) (Nat.le_trans hbase bb2.size) ?_
          intro v' w8 hv' hg8 hloc
          refine hK.out _ _ trivial (fun _ => ?_)
          clear hK K
          refine act_new (a := a5) 87 (v') (fun a6 ha6 => ?_)
          have sb6 := sb5.put ha6 (by rfl)
          have e87 := put_same ha6 (by rw [z5.out]; decide)
          replace e14 := put_other ha6 (by rfl) e14
          replace e16 := put_other ha6 (by rfl) e16
          replace e82 := put_other ha6 (by rfl) e82
          replace e84 := put_other ha6 (by rfl) e84
          replace e85 := put_other ha6 (by rfl) e85
          replace e86 := put_other ha6 (by rfl) e86
          replace e83 := put_other ha6 (by rfl) e83
          have z6 : Hid (a6.tmps.size = 289) := put_size ha6 z5.out
          clear ha6 sb5 z5
          obtain ⟨ra, rc, hvs⟩ := row_slice hv'
          have hrow := row_not26 h ab (by decide)
          have ab8 : w8.heap[bh]? = some (.cells (tl self v).toArray 32) := (hg8.block _ (lt_of_heap ab2) (Ne.symm hrow)).trans ab2
          refine takeA (i := 6) (d := 88) (v := .pointer (some ⟨bh, 22, none⟩)) rfl rfl (by kernel_rfl) (by kernel_rfl) (by kernel_rfl) hQ (Or.inl ⟨by rfl, fun W9 h => by go_simp⟩) trivial (fun a7 ha7 => ?_)
          have sb7 := sb6.put ha7 (by rfl)
          have e88 := put_same ha7 (by rw [z6.out]; decide)
          replace e14 := put_other ha7 (by rfl) e14
          replace e16 := put_other ha7 (by rfl) e16
          replace e82 := put_other ha7 (by rfl) e82
          replace e84 := put_other ha7 (by rfl) e84
          replace e85 := put_other ha7 (by rfl) e85
          replace e86 := put_other ha7 (by rfl) e86
          replace e83 := put_other ha7 (by rfl) e83
          replace e87 := put_other ha7 (by rfl) e87
          have z7 : Hid (a7.tmps.size = 289) := put_size ha7 z6.out
          clear ha7 sb6 z6
          have c8 := tl_prd (heap_range ab8)
          have f8 := free_of_heap ab8 22
          refine wpAnyH_ready (rs := [7]) (by kernel_rfl) (by simp) ?_
          refine AllReadyH.cons (i := 7) rfl (fun K hK => ?_) AllReadyH.nil
          rw [if_pos (by rfl)]
          subst hvs
          go_simp
          refine hK.out _ _ trivial (fun _ => ?_)
          clear hK K
          refine wpAnyH_done (by kernel_rfl) ?_ _
          have hg9 : w8.grownBy (w8.setCell ⟨bh, 22, none⟩ (.slice ra (k + 1) rc)) (some bh) := ⟨rfl, rfl, rfl, by simp, fun k _ hk => Below.heap_setCell _ _ _ _ (by simpa using hk)⟩
          exact HE.out _ _ _ sb7 (row_ne hv' hg9 (row_not26 hv' ab8 (by decide))) (set_same ab8 _ rfl) ⟨hg8.os.trans bb2.os, hg8.tape.trans bb2.tape, hg8.output.trans bb2.output, Nat.le_trans bb2.size (Nat.le_trans hg8.size (by simp)), fun k hk h1 h2 => (Below.heap_setCell _ _ _ _ h1).trans ((hg8.block k (Nat.lt_of_lt_of_le hk bb2.size) h2).trans (bb2.block k hk))⟩
        exact AllReadyH.nil
      exact AllReadyH.nil
    exact AllReadyH.nil
  exact AllReadyH.nil
end Go.Proofs.Ybulkddqw
