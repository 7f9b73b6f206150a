/-
  handBacks (number 7), walked for every map of values, every table and every holders: whatever the order of the map and of the regions.
-/
import Derived.Test.YbulkddqwSteps
namespace Go.Proofs.Ybulkddqw
open Go.RowKit Go.Maps Go.ChangeMaps

set_option maxRecDepth 100000 in
set_option maxHeartbeats 8000000 in
theorem handBacks_any (P : Nat → Nat) (kd : Nat → Int) (hf : Nat → Bool) (fr : Nat → Int) (bv : Nat) (fv : Nat → Option Value) (V : Nat → List Nat) (self frm : Int) (hself : 0 ≤ self ∧ self ≤ 255) (hfrm : 0 ≤ frm ∧ frm ≤ 255)
    (sa : Option Addr) (g n cap : Nat) (L : Nat → Int) (sp : Option Addr) (gp np capp : Nat) (Lp : Nat → Int) (w : World) (hn : n ≤ 1024) (hnp : np ≤ 1024) (hI : Ids w sa g n L) (hIp : Ids w sp gp np Lp) (G : Given w P kd hf fr bv fv V) :
    Calls Yba.prog 7 #[.map (some bv), .agg (tl self (.slice sp np capp)).toArray, .agg (hl self frm (.slice sa n cap)).toArray] w fun e w' =>
      ∃ (U : Nat → Bool) (ib : Nat → Nat) (sv : Nat → Value), e = .returned (.map (some (w.heap.size + 1 + 1))) ∧ St w.heap.size w P kd self frm (.slice sa n cap) (.slice sp np capp) n L U (fun r => if r < 256 then Kp hf fr self frm n L np Lp V r else []) ib sv w' := by
  have hmm := @run_makeMap Yba.prog
  go_enter Yba.func7, Yba.ntmps7
  go_upto_region 2 with fail
  refine wp_world (St w.heap.size w P kd self frm (.slice sa n cap) (.slice sp np capp) n L (fun _ => false) (fun _ => []) (fun _ => 0) (fun _ => .slice none 0 0))
    ⟨rfl, heapOld (by simp; omega) (heapOld (by simp) (heapNew rfl)), heapOld (by simp) (heapNew (by simp)), BK.start _ _ _ _ (by simpa using MapOf.make 26 ((w.alloc (.cells (tl self (.slice sp np capp)).toArray 32)).alloc (.cells (hl self frm (.slice sa n cap)).toArray 30))),
      ⟨fun _ _ h => (by simp at h), fun _ _ h => absurd rfl h⟩, fun _ _ => rfl, (((Below.refl _ _).alloc (Nat.le_refl _) _).alloc (by simp) _).alloc (by simp; omega) _⟩ ?_
  intro W hS
  have hmap : MapOf 55 W bv fv := G.map.kept (grown_below hS.bel) (by simp)
  go_wp2_with (refine wpL_range ky55 rfl (.tmp 17) 34 33 rfl Yba.underlying34 bv fv rfl hmap ?_; clear hmap; intro w0 hrg0 hg0 hs0)
  go_frame
  have B0 : Below W.heap.size W w0 := below_grown hg0
  have hS0 := hS.later B0
  have hWs := hS.bk.outer.lt
  go_loopw [8] (fun _ wr => ∃ (lf : Nat → Bool) (c : Nat) (U : Nat → Bool) (ib : Nat → Nat) (sv : Nat → Value), RangeOf 55 wr bv W.heap.size fv lf c ∧ St w.heap.size w P kd self frm (.slice sa n cap) (.slice sp np capp) n L U (Cur (Kp hf fr self frm n L np Lp V) lf) ib sv wr) (fun _ wr => wr.rangeLeft bv W.heap.size)
  case atStart =>
    refine ⟨_, _, fun _ => false, fun _ => 0, fun _ => .slice none 0 0, hrg0, cast ?_ hS0⟩
    congr 1
    funext r
    unfold Cur
    by_cases h : r < 256 ∧ (fv r).isSome = false
    · rw [if_pos h]
      have hv : V r = [] := G.nov r (by simpa using h.2)
      unfold Kp
      rw [hv]
      split
      · simp
      · rfl
    · rw [if_neg h]
  case round =>
    obtain ⟨lf, c, U, ib, sv, hrg, hS1⟩ := hrel
    clear hrg0 hg0 hs0 B0 hS0 hS hmm
    have hsh := G.shape
    go_wp2_with (refine wpL_next ky55 rfl (.tmp 18) rfl bv W.heap.size c fv lf hsh rfl hrg ?_ ?_)
    · intro hl
      have hC : Cur (Kp hf fr self frm n L np Lp V) lf = fun r => if r < 256 then Kp hf fr self frm n L np Lp V r else [] := by
        funext r
        unfold Cur
        by_cases h : r < 256
        · rw [if_pos ⟨h, hl r h⟩, if_pos h]
        · rw [if_neg (fun e => h e.1), if_neg h]
      rw [hC] at hS1
      clear hrg hsh hC
      go_wp2_with fail
      go_ret
      exact ⟨U, ib, sv, rfl, hS1⟩
    · intro x va vlen vcap w1 c1 hx hlx hfx hrg1 hlt hg1 hs1 hen
      obtain ⟨rfl, vg, hva, hvr⟩ := G.row hx hfx
      have hS2 := hS1.iter hg1 hrg.iter (by omega)
      have t8 : (w1.alloc (.cells (nl 0 (fun _ => 0)).toArray 55)).there w1.heap.size 0 (nl 16 (idb (x : Int))).length := there_new (by rw [length_nl, size_nl]; omega)
      have j8 := i55 16 (idb (x : Int))
      have o8 := one_nl 16 (idb (x : Int))
      have HG : Hid _ := And.intro hS2 (And.intro hrg1 (And.intro hlt (And.intro hvr (And.intro hva (And.intro hfx (And.intro hlx hrg))))))
      clear hS1 hS2 hrg1 hlt hvr hva hfx hlx hrg hg1 hsh hs1
      go_upto_region 5 with (refine wpL_store 55 rfl (.tmp 8) (.tmp 22) rfl (nl 16 (idb (x : Int))) j8 o8 _ _ rfl rfl t8 ?_; clear t8 j8 o8)
      clear hen
      have A := alloc_store (w := w1) (c := (nl 0 (fun _ => 0)).toArray) (t := 55) (nl 16 (idb (x : Int))) (by rw [size_nl, length_nl])
      refine wp_world (fun W => W.heap[w1.heap.size]? = some (.cells (nl 16 (idb (x : Int))).toArray 55) ∧ Below w1.heap.size w1 W) A ?_
      clear A
      rintro W2 ⟨a8, b8⟩
      have gS := HG.out.1.later b8
      have r5 := heap_range gS.hol
      have j5 : (Yba.prog.info? 30).map (·.size) = some (hl self frm (.slice sa n cap)).length := by rw [info30, length_hl]
      have r8 := nl_heap a8
      have j8 := i55 16 (idb (x : Int))
      have hI2 := rangeOf_ids hI gS.size gS.bel
      have hx2 : (0 : Int) ≤ (x : Int) ∧ (x : Int) ≤ 255 := by omega
      have HA : Hid _ := And.intro a8 (And.intro b8 gS)
      clear a8 b8 gS
      cases hld : ldOf n L frm (x : Int) with
      | none =>
        have tb : ∀ W3 : World, (W3.alloc (.cells (nl 0 (fun _ => 0)).toArray 26)).there W3.heap.size 0 (nl 0 (fun _ => 0)).length := fun W3 => there_new (by rw [length_nl, size_nl]; omega)
        have jb := i26 0 (fun _ => 0)
        have ob := one_nl 0 (fun _ => 0)
        have hcall : Calls Yba.prog 12 #[.agg (hl self frm (.slice sa n cap)).toArray, .agg (nl 16 (idb (x : Int))).toArray] W2 fun e w' => e = .returned (.tuple #[.int .i64 0, .agg (nl 0 (fun _ => 0)).toArray, .bool false]) ∧ Below W2.heap.size W2 w' := by
          have := leaderOf_any (x : Int) self frm hx2 hfrm sa g n cap L W2 hI2 hn
          rw [hld] at this
          exact this
        have HL : Hid _ := hld
        clear hld hI2
        go_upto_region 6 with (first | (refine wpL_load 30 rfl (.tmp 5) rfl (hl self frm (.slice sa n cap)) _ Yba.underlying30 rfl j5 _ _ rfl r5 ?_) | (refine wpL_load 55 rfl (.tmp 8) rfl (nl 16 (idb (x : Int))) _ Yba.underlying55 rfl j8 _ _ rfl r8 ?_; clear r5 r8 j5 j8) | (go_at_call 12; refine hcall.mono ?_; rintro e W3 ⟨rfl, b3⟩; clear hcall) | (refine wpL_store 26 rfl (.tmp 11) (.tmp 29) rfl (nl 0 (fun _ => 0)) jb ob _ _ rfl rfl (tb _) ?_; clear tb jb ob))
        have A := alloc_store (w := W3) (c := (nl 0 (fun _ => 0)).toArray) (t := 26) (nl 0 (fun _ => 0)) (by rw [size_nl, length_nl])
        refine wp_world (Below W3.heap.size W3) A.2 ?_
        clear A
        intro W4 b4
        go_wp2_with fail
        have bb : Below W2.heap.size W2 W4 := b3.trans (b4.mono b3.size)
        have hK0 : Kp hf fr self frm n L np Lp V x = [] := by unfold Kp; rw [HL.out]
        have hrg4 := HG.out.2.1.kept (grown_below (HA.out.2.1.trans (bb.mono HA.out.2.1.size))) (by simp) (by simp)
        have gS4 := HA.out.2.2.later bb
        rw [cur_same hK0 HG.out.2.2.2.2.2.2.1] at gS4
        go_roundw
        case rel => exact ⟨_, _, _, _, _, hrg4, gS4⟩
        case measure => rw [hrg4.left_eq, HG.out.2.2.2.2.2.2.2.left_eq]; exact HG.out.2.2.1
      | some p =>
        have hpn : p < n := by have := List.mem_of_find?_eq_some hld; simpa using this
        have hst : 0 ≤ st n L frm p ∧ st n L frm p ≤ 255 := by unfold st; split <;> first | exact hI.2.2 _ (by omega) | exact hfrm
        have tb : ∀ W3 : World, (W3.alloc (.cells (nl 0 (fun _ => 0)).toArray 26)).there W3.heap.size 0 (nl 16 (idb (st n L frm p))).length := fun W3 => there_new (by rw [length_nl, size_nl]; omega)
        have jb := i26 16 (idb (st n L frm p))
        have ob := one_nl 16 (idb (st n L frm p))
        have hcall : Calls Yba.prog 12 #[.agg (hl self frm (.slice sa n cap)).toArray, .agg (nl 16 (idb (x : Int))).toArray] W2 fun e w' => e = .returned (.tuple #[.int .i64 p, .agg (nl 16 (idb (st n L frm p))).toArray, .bool true]) ∧ Below W2.heap.size W2 w' := by
          have := leaderOf_any (x : Int) self frm hx2 hfrm sa g n cap L W2 hI2 hn
          rw [hld] at this
          exact this
        clear hI2
        have HL : Hid _ := hld
        clear hld
        go_upto_region 6 with (first | (refine wpL_load 30 rfl (.tmp 5) rfl (hl self frm (.slice sa n cap)) _ Yba.underlying30 rfl j5 _ _ rfl r5 ?_) | (refine wpL_load 55 rfl (.tmp 8) rfl (nl 16 (idb (x : Int))) _ Yba.underlying55 rfl j8 _ _ rfl r8 ?_; clear r5 r8 j5 j8) | (go_at_call 12; refine hcall.mono ?_; rintro e W3 ⟨rfl, b3⟩; clear hcall) | (refine wpL_store 26 rfl (.tmp 11) (.tmp 29) rfl (nl 16 (idb (st n L frm p))) jb ob _ _ rfl rfl (tb _) ?_; clear tb jb ob))
        have A := alloc_store (w := W3) (c := (nl 0 (fun _ => 0)).toArray) (t := 26) (nl 16 (idb (st n L frm p))) (by rw [size_nl, length_nl])
        refine wp_world (fun W => W.heap[W3.heap.size]? = some (.cells (nl 16 (idb (st n L frm p))).toArray 26) ∧ Below W3.heap.size W3 W) A ?_
        clear A
        rintro W4 ⟨a11, b4⟩
        have bb : Below W2.heap.size W2 W4 := b3.trans (b4.mono b3.size)
        have a84 := (bb.block _ (lt_of_heap HA.out.1)).trans HA.out.1
        have gS4 := HA.out.2.2.later bb
        have b14 := HA.out.2.1.trans (bb.mono HA.out.2.1.size)
        have hrg4 := HG.out.2.1.kept (grown_below b14) (by simp) (by simp)
        obtain ⟨hOld1, hOld2, hlt, hvr, hva, hfx, hlx, hrg⟩ := HG.out
        clear HG HA b3 b4 bb hOld1 hOld2
        have r6 := heap_range gS4.tab
        have j6 : (Yba.prog.info? 32).map (·.size) = some (tl self (.slice sp np capp)).length := by rw [info32, length_tl]
        have r8 := nl_heap a84
        have j8 := i55 16 (idb (x : Int))
        have hIp2 := rangeOf_ids hIp gS4.size gS4.bel
        have hcall := responsible_any (x : Int) self hx2 hself sp gp np capp Lp W4 hIp2 hnp
        unfold idv at hcall
        have HG : Hid _ := And.intro gS4 (And.intro hrg4 (And.intro a11 (And.intro a84 (And.intro hlt (And.intro hvr (And.intro hva (And.intro hfx (And.intro hlx hrg))))))))
        clear gS4 hrg4 a11 a84 hlt hvr hva hfx hlx hrg hIp2
        cases hres : resp np Lp (x : Int) self with
        | true =>
          rw [hres] at hcall
          go_wp2_with (first | (refine wpLg_load 32 rfl (.tmp 4) rfl (tl self (.slice sp np capp)) _ Yba.underlying32 rfl j6 _ _ rfl r6 ?_) | (refine wpLg_load 55 rfl (.tmp 8) rfl (nl 16 (idb (x : Int))) _ Yba.underlying55 rfl j8 _ _ rfl r8 ?_; clear r6 r8 j6 j8) | (go_at_call 13; refine hcall.mono ?_; rintro e W5 ⟨rfl, b5⟩; clear hcall))
          obtain ⟨gS4, hrg4, a11, a84, hlt, hvr, hva, hfx, hlx, hrg⟩ := HG.out
          have hK0 : Kp hf fr self frm n L np Lp V x = [] := by unfold Kp; rw [HL.out]; simp [hres]
          have hrg5 := hrg4.kept (grown_below b5) (by simp) (by simp)
          have gS5 := gS4.later b5
          rw [cur_same hK0 hlx] at gS5
          go_roundw
          case rel => exact ⟨_, _, _, _, _, hrg5, gS5⟩
          case measure => rw [hrg5.left_eq, hrg.left_eq]; exact hlt
        | false =>
          rw [hres] at hcall
          go_upto_region 7 with (first | (refine wpLg_load 32 rfl (.tmp 4) rfl (tl self (.slice sp np capp)) _ Yba.underlying32 rfl j6 _ _ rfl r6 ?_) | (refine wpLg_load 55 rfl (.tmp 8) rfl (nl 16 (idb (x : Int))) _ Yba.underlying55 rfl j8 _ _ rfl r8 ?_; clear r6 r8 j6 j8) | (go_at_call 13; refine hcall.mono ?_; rintro e W5 ⟨rfl, b5⟩; clear hcall))
          obtain ⟨gS4, hrg4, a11, a84, hlt, hvr, hva, hfx, hlx, hrg⟩ := HG.out
          have gS5 := gS4.later b5
          have hrg5 := hrg4.kept (grown_below b5) (by simp) (by simp)
          have a115 := (b5.block _ (lt_of_heap a11)).trans a11
          have a85 := (b5.block _ (lt_of_heap a84)).trans a84
          have e7 := hl_ldr (heap_range gS5.hol)
          obtain rfl := hI.1 (by omega)
          have hI5 := rangeOf_ids hI gS5.size gS5.bel
          have r7 := hI5.2.1 p hpn
          have hLp := hI.2.2 p hpn
          have j7 := i26 16 (idb (L p))
          have o7 := one_nl 16 (idb (L p))
          have t7 : (W5.alloc (.cells (nl 0 (fun _ => 0)).toArray 26)).there W5.heap.size 0 (nl 16 (idb (L p))).length := there_new (by rw [length_nl, size_nl]; omega)
          have i71 : (0 : Int) ≤ (p : Int) := by omega
          have i72 : (p : Int) < (n : Int) := by omega
          have HB : Hid _ := And.intro gS5 (And.intro hrg5 (And.intro a115 (And.intro a85 (And.intro hlt (And.intro hvr (And.intro hva (And.intro hfx (And.intro hlx hrg))))))))
          clear gS4 hrg4 a11 a84 hlt hvr hva hfx hlx hrg HG gS5 hrg5 a115 a85 b5 hI5
          go_upto_region 8 with (first | (refine wpL_load 26 rfl (.tmp 41) rfl (nl 16 (idb (L p))) _ Yba.underlying26 rfl j7 _ _ rfl r7 ?_) | (refine wpL_store 26 rfl (.tmp 13) (.tmp 42) rfl (nl 16 (idb (L p))) j7 o7 _ _ rfl rfl t7 ?_; clear t7 j7 o7 r7))
          clear e7
          have A := alloc_store (w := W5) (c := (nl 0 (fun _ => 0)).toArray) (t := 26) (nl 16 (idb (L p))) (by rw [size_nl, length_nl])
          refine wp_world (fun W => W.heap[W5.heap.size]? = some (.cells (nl 16 (idb (L p))).toArray 26) ∧ Below W5.heap.size W5 W) A ?_
          clear A
          rintro W6 ⟨a13, b6⟩
          obtain ⟨gS5, hrg5, a115, a85, hlt, hvr, hva, hfx, hlx, hrg⟩ := HB.out
          have gS6 := gS5.later b6
          have hrg6 := hrg5.kept (grown_below b6) (by simp) (by simp)
          have a116 := (b6.block _ (lt_of_heap a115)).trans a115
          have a86 := (b6.block _ (lt_of_heap a85)).trans a85
          have hcur : Cur (Kp hf fr self frm n L np Lp V) lf = inC hf fr self (st n L frm p) (Kp hf fr self frm n L np Lp V) lf V x 0 := (inC_zero hlx).symm
          rw [hcur] at gS6
          have HC : Hid _ := And.intro hlt (And.intro hvr (And.intro hva (And.intro hfx (And.intro hlx hrg))))
          clear HB gS5 hrg5 a115 a85 hlt hvr hva hfx hlx hrg b6 hcur
          go_wp2_with fail
          go_loopw [45] (fun i wr => ∃ (j : Nat) (U : Nat → Bool) (ib : Nat → Nat) (sv : Nat → Value), i = .int .i64 j ∧ j ≤ (V x).length ∧ St w.heap.size w P kd self frm (.slice (some ⟨g, 0, none⟩) n cap) (.slice sp np capp) n L U (inC hf fr self (st n L frm p) (Kp hf fr self frm n L np Lp V) lf V x j) ib sv wr ∧ RangeOf 55 wr bv W.heap.size fv (fun y => lf y && y != x) c1 ∧
            wr.heap[W3.heap.size]? = some (.cells (nl 16 (idb (st n L frm p))).toArray 26) ∧ wr.heap[w1.heap.size]? = some (.cells (nl 16 (idb (x : Int))).toArray 55) ∧ wr.heap[W5.heap.size]? = some (.cells (nl 16 (idb (L p))).toArray 26)) (fun i _ => ((V x).length - intOf i).toNat)
          case atStart => exact ⟨0, _, _, _, rfl, by omega, gS6, hrg6, a116, a86, a13⟩
          case round =>
            obtain ⟨j, U2, ib2, sv2, rfl, hjl, gS, hrg, a11, a8, a13'⟩ := hrel
            clear gS6 hrg6 a116 a86 a13
            have hlen := G.short x
            by_cases hj : j < (V x).length
            · obtain ⟨i, hi⟩ : ∃ i, (V x)[j]? = some i := ⟨_, List.getElem?_eq_getElem hj⟩
              have hiV : i ∈ V x := List.mem_of_getElem? hi
              obtain rfl := HC.out.2.2.1 (by omega)
              have hbw : Below w.heap.size w wr := gS.bel
              have hrow := row_el (range_later hbw HC.out.2.1) hi
              simp only [Nat.zero_add] at hrow
              obtain ⟨e1, e2, e3⟩ := hrow
              have i1 : (0 : Int) ≤ (j : Int) := by omega
              have i2 : (j : Int) < ((V x).length : Int) := by omega
              have HG : Hid _ := And.intro gS (And.intro hrg (And.intro a11 (And.intro a8 a13')))
              clear gS hrg a11 a8 a13' hbw
              go_upto_region 11 with fail
              refine wp_world (fun W10 => W10.heap[wr.heap.size]? = some (.cells (el P kd i).toArray 54) ∧ Below wr.heap.size wr W10) ⟨heapNew rfl, (Below.refl _ _).alloc (Nat.le_refl _) _⟩ ?_
              rintro W10 ⟨a15, b10⟩
              clear e1 e2 e3
              have gS10 := HG.out.1.later b10
              have rP := range_later gS10.bel (G.stored x i hiV)
              have hfi := G.bytes x i hiV
              have c15 : W10.cell? ⟨wr.heap.size, 0, none⟩ = some (.pointer (some ⟨P i, 0, none⟩)) := by rw [cell_of_heap a15]; rfl
              have a1110 := (b10.block _ (lt_of_heap HG.out.2.2.1)).trans HG.out.2.2.1
              have a810 := (b10.block _ (lt_of_heap HG.out.2.2.2.1)).trans HG.out.2.2.2.1
              have a1310 := (b10.block _ (lt_of_heap HG.out.2.2.2.2)).trans HG.out.2.2.2.2
              have hrg10 := HG.out.2.1.kept (grown_below b10) (by simp) (by simp)
              have rs := hl_self (heap_range gS10.hol)
              have hb15 : wr.heap.size < W10.heap.size := lt_of_heap a15
              have h15 : (slOf (inC hf fr self (st n L frm p) (Kp hf fr self frm n L np Lp V) lf V x j) sv2 x).ownBlock ≠ some wr.heap.size := fun e => absurd ((HG.out.1.bk.rows x hx).lt _ e).2 (Nat.lt_irrefl _)
              obtain ⟨b15, hbe⟩ : ∃ b15, b15 = wr.heap.size := ⟨_, rfl⟩
              rw [← hbe] at c15 a15 hb15 h15 ⊢
              have HD : Hid _ := And.intro a15 (And.intro gS10 (And.intro hrg10 (And.intro a1110 (And.intro a810 a1310))))
              have r11 := nl_heap a1110
              clear a15 b10 gS10 hbe hrg10 a1110 a810 a1310 HG
              refine wp_region_noPanic ?_
              refine skip_any _ (by kernel_rfl) _ (fun _ _ _ _ h => h) W10 b15 W3.heap.size (w.heap.size + 1) (P i) hf fr i (st n L frm p) self hfi hst hself c15 rP r11 rs _ _ _ _ _ _ _ _ _ _ _ _ _ _ _ _ _ _ _ _ _ _ _ _ _ _ _ _ _ _ _ _ _ _ _ _ _ _ _ _ _ _ _ _ _ _ _ _ _ _ _ _ _ _ _ _ _ _ _ _ _ _ _ _ _ _ _ _ _ _ _ _ _ _ _ _ _ _ _ _ _ _ _ _ _ _ _ _ _ _ _ _ _ _ _ _ _ _ _ ?_
              intro v49 v50 v51 v52 v53 v54 v55 v56 v57 v58 v59 v60 v61 v62 v63 v64 v65 v66 v67 v68 v69 v70 v71 v72 v73 v74 v75 v76 v77 v78 v79 v80 v81 W11 b11
              refine NoPanic.normal ?_
              clear c15 rP r11 rs
              have gS := HD.out.2.1.later b11
              have hrg := HD.out.2.2.1.kept (grown_below b11) (by simp) (by simp)
              have a11 := (b11.block _ (lt_of_heap HD.out.2.2.2.1)).trans HD.out.2.2.2.1
              have a8 := (b11.block _ (lt_of_heap HD.out.2.2.2.2.1)).trans HD.out.2.2.2.2.1
              have a13' := (b11.block _ (lt_of_heap HD.out.2.2.2.2.2)).trans HD.out.2.2.2.2.2
              have a15 := (b11.block _ (lt_of_heap HD.out.1)).trans HD.out.1
              clear HD b11
              cases hk : keepI hf fr self (st n L frm p) i with
              | false =>
                rw [← inC_drop hi hk] at gS
                have HE : Hid _ := And.intro gS (And.intro hrg (And.intro a11 (And.intro a8 a13')))
                clear gS hrg a11 a8 a13' a15 hk
                go_wp2_with fail
                go_roundw
                case rel => exact ⟨j + 1, _, _, _, rfl, by omega, HE.out⟩
                case measure => simp [intOf]; omega
              | true =>
                have hlp2 : ldp n L frm x < 256 := by unfold ldp; rw [HL.out]; dsimp only; omega
                have hlp : ldp n L frm x = (L p).toNat := by unfold ldp; rw [HL.out]
                have hLn : ((L p).toNat : Int) = L p := by omega
                have r84 := nl_heap a13'
                have j84 := i26 16 (idb (L p))
                have lk := gS.bk.outer.look ky26 Yba.underlying56 (zero34 W11) hlp2
                rw [hlp, hLn] at lk
                unfold idv at lk
                have HE : Hid _ := And.intro gS (And.intro hrg (And.intro a11 (And.intro a8 (And.intro a13' (And.intro a15 (And.intro hlp2 (And.intro hlp hLn)))))))
                clear gS hrg a11 a8 a13' a15 hlp2 hlp hLn
                cases hU : U2 (L p).toNat with
                | true =>
                  rw [if_pos hU] at lk
                  have q1 := eqm_some
                  go_upto_region 14 with (refine wpL_load 26 rfl (.tmp 13) rfl (nl 16 (idb (L p))) _ Yba.underlying26 rfl j84 _ _ rfl r84 ?_)
                  clear lk q1 r84 j84
                  obtain ⟨gS, hrg, a11, a8, a13', a15, hlp2, hlp, hLn⟩ := HE.out
                  clear HE
                  have hUg : U2 (ldp n L frm x) = true := by rw [hlp]; exact hU
                  have okg : Uok n L frm U2 (updC (inC hf fr self (st n L frm p) (Kp hf fr self frm n L np Lp V) lf V x j) x i) := ok_grow hx (fun l hl hu => .inr (gS.ok.1 l hl hu)) gS.ok.2 hUg
                  have gb := gS.bk
                  have hlen2 : ((inC hf fr self (st n L frm p) (Kp hf fr self frm n L np Lp V) lf V x j) x).length < 1024 := by
                    unfold inC
                    rw [if_pos rfl]
                    have h1 := List.length_filter_le (keepI hf fr self (st n L frm p)) ((V x).take j)
                    have h2 : ((V x).take j).length ≤ j := by simp; omega
                    omega
                  have hr8 := row_not_cells (gb.rows x hx) a8 (by decide)
                  have hr13 := row_not_cells (gb.rows x hx) a13' (by decide)
                  have hr11 := row_not_cells (gb.rows x hx) a11 (by decide)
                  have hin := gb.inner _ hlp2 hUg
                  refine wp_region_noPanic ?_
                  refine grow_any _ (by kernel_rfl) _ (fun _ _ _ _ h => h) W11 w.heap.size (w.heap.size + 1 + 1) w1.heap.size W5.heap.size b15 x (L p).toNat i P kd (ldp n L frm) U2 (inC hf fr self (st n L frm p) (Kp hf fr self frm n L np Lp V) lf V x j) ib2 sv2 gb hx hlp2 hlp hUg hlen2 (gS.bel).size a8 (by rw [hLn]; exact a13') a15 _ _ _ _ _ _ _ _ _ _ _ _ _ _ _ _ _ _ _ _ _ _ _ _ _ _ _ _ _ _ _ _ _ _ _ _ _ _ _ _ _ _ _ _ _ _ _ _ _ _ _ _ _ _ _ _ _ _ _ _ _ _ _ _ _ _ _ _ _ _ _ _ _ _ _ _ _ _ _ _ _ _ _ _ _ _ _ _ _ _ _ _ _ _ _ _ _ _ hr8 hr13 h15 ?_
                  intro q90 q91 q92 q93 q94 q95 q96 q97 q98 q99 v' W12 hBK hK2
                  refine NoPanic.normal ?_
                  have gN := St.grow gS.size gS.tab gS.hol gS.bel gb hx hlp2 hUg hBK hK2 okg (fun r hr => by unfold updC; rw [if_neg (by omega)]; exact gS.out r hr)
                  rw [← inC_keep hi hk] at gN
                  have rgN := range_grow gb hx hlp2 hUg G.map.lt hK2 hrg
                  have n11 := hK2.cells a11 (hin.notCells a11) hr11
                  have n8 := hK2.cells a8 (hin.notCells a8) hr8
                  have n13 := hK2.cells a13' (hin.notCells a13') hr13
                  have HF : Hid _ := And.intro gN (And.intro rgN (And.intro n11 (And.intro n8 n13)))
                  clear gN rgN n11 n8 n13 hBK hK2 gb hin hr8 hr13 hr11 okg gS
                  go_wp2_with fail
                  go_roundw
                  case rel => exact ⟨j + 1, _, _, _, rfl, by omega, HF.out⟩
                  case measure => simp [intOf]; omega
                | false =>
                  rw [if_neg (by rw [hU]; simp)] at lk
                  have q1 := eqm_none
                  go_upto_region 13 with (refine wpL_load 26 rfl (.tmp 13) rfl (nl 16 (idb (L p))) _ Yba.underlying26 rfl j84 _ _ rfl r84 ?_)
                  clear lk q1
                  obtain ⟨gS, hrg, a11, a8, a13', a15, hlp2, hlp, hLn⟩ := HE.out
                  obtain ⟨Wn, hrunN, hBN, hgN⟩ := gS.bk.newLeader (l := (L p).toNat) (by omega) hU gS.ok.2 gS.out gS.bel.size
                  unfold idv at hrunN
                  rw [hLn] at hrunN
                  have hmm := @run_makeMap Yba.prog
                  have HN : Hid _ := And.intro hBN hgN
                  clear hBN hgN gS hrg a11 a8 a13' a15 hlp2 hlp hLn
                  go_upto_region 14 with (refine wpL_load 26 rfl (.tmp 13) rfl (nl 16 (idb (L p))) _ Yba.underlying26 rfl j84 _ _ rfl r84 ?_)
                  clear hrunN hmm r84 j84
                  obtain ⟨gS, hrg, a11, a8, a13', a15, hlp2, hlp, hLn⟩ := HE.out
                  obtain ⟨hBN, hgN⟩ := HN.out
                  clear HE HN
                  have hold : ∀ k, k < W11.heap.size → k ≠ w.heap.size + 1 + 1 → Wn.heap[k]? = W11.heap[k]? := fun k hk hne => (hgN.block k (by simp; omega) (by simp; exact hne)).trans (heap_alloc_old _ _ hk)
                  have hoc : ∀ (k : Nat) (cs : Array Value) (t : TypeId), W11.heap[k]? = some (.cells cs t) → Wn.heap[k]? = some (.cells cs t) := fun k cs t hk => (hold k (lt_of_heap hk) (gS.bk.outer.notCells hk)).trans hk
                  have hUg : (fun y => U2 y || y == (L p).toNat) (ldp n L frm x) = true := by rw [hlp]; simp
                  have okg : Uok n L frm (fun y => U2 y || y == (L p).toNat) (updC (inC hf fr self (st n L frm p) (Kp hf fr self frm n L np Lp V) lf V x j) x i) := ok_grow hx (fun l hl hu => by
                    by_cases e : l = (L p).toNat
                    · exact .inl (by rw [hlp]; exact e)
                    · exact .inr (gS.ok.1 l hl (by simpa [e] using hu))) (fun r hr hc => by have := gS.ok.2 r hr hc; simp [this]) hUg
                  have belN : Below w.heap.size w Wn := ⟨hgN.os.trans gS.bel.os, hgN.tape.trans gS.bel.tape, hgN.output.trans gS.bel.output, Nat.le_trans gS.bel.size (Nat.le_trans (by simp) hgN.size), fun k hk => (hold k (by have := gS.bel.size; omega) (by omega)).trans (gS.bel.block k hk)⟩
                  have hrgN0 : RangeOf 55 Wn bv W.heap.size fv (fun y => lf y && y != x) c1 := hrg.same (hold _ hrg.map.lt (by have := G.map.lt; omega)) (hold _ hrg.lt (by omega))
                  have gb := hBN
                  have hlen2 : ((inC hf fr self (st n L frm p) (Kp hf fr self frm n L np Lp V) lf V x j) x).length < 1024 := by
                    unfold inC
                    rw [if_pos rfl]
                    have h1 := List.length_filter_le (keepI hf fr self (st n L frm p)) ((V x).take j)
                    have h2 : ((V x).take j).length ≤ j := by simp; omega
                    omega
                  have hr8 := row_not_cells (gb.rows x hx) (hoc _ _ _ a8) (by decide)
                  have hr13 := row_not_cells (gb.rows x hx) (hoc _ _ _ a13') (by decide)
                  have hr11 := row_not_cells (gb.rows x hx) (hoc _ _ _ a11) (by decide)
                  have hin := gb.inner _ hlp2 hUg
                  refine wp_region_noPanic ?_
                  refine grow_any _ (by kernel_rfl) _ (fun _ _ _ _ h => h) Wn w.heap.size (w.heap.size + 1 + 1) w1.heap.size W5.heap.size b15 x (L p).toNat i P kd (ldp n L frm) (fun y => U2 y || y == (L p).toNat) (inC hf fr self (st n L frm p) (Kp hf fr self frm n L np Lp V) lf V x j) _ sv2 gb hx hlp2 hlp hUg hlen2 (belN).size (hoc _ _ _ a8) (by rw [hLn]; exact (hoc _ _ _ a13')) (hoc _ _ _ a15) _ _ _ _ _ _ _ _ _ _ _ _ _ _ _ _ _ _ _ _ _ _ _ _ _ _ _ _ _ _ _ _ _ _ _ _ _ _ _ _ _ _ _ _ _ _ _ _ _ _ _ _ _ _ _ _ _ _ _ _ _ _ _ _ _ _ _ _ _ _ _ _ _ _ _ _ _ _ _ _ _ _ _ _ _ _ _ _ _ _ _ _ _ _ _ _ _ _ hr8 hr13 h15 ?_
                  intro q90 q91 q92 q93 q94 q95 q96 q97 q98 q99 v' W12 hBK hK2
                  refine NoPanic.normal ?_
                  have gN := St.grow gS.size (hoc _ _ _ gS.tab) (hoc _ _ _ gS.hol) belN gb hx hlp2 hUg hBK hK2 okg (fun r hr => by unfold updC; rw [if_neg (by omega)]; exact gS.out r hr)
                  rw [← inC_keep hi hk] at gN
                  have rgN := range_grow gb hx hlp2 hUg G.map.lt hK2 hrgN0
                  have n11 := hK2.cells (hoc _ _ _ a11) (hin.notCells (hoc _ _ _ a11)) hr11
                  have n8 := hK2.cells (hoc _ _ _ a8) (hin.notCells (hoc _ _ _ a8)) hr8
                  have n13 := hK2.cells (hoc _ _ _ a13') (hin.notCells (hoc _ _ _ a13')) hr13
                  have HF : Hid _ := And.intro gN (And.intro rgN (And.intro n11 (And.intro n8 n13)))
                  clear gN rgN n11 n8 n13 hBK hK2 gb hin hr8 hr13 hr11 okg gS
                  go_wp2_with fail
                  go_roundw
                  case rel => exact ⟨j + 1, _, _, _, rfl, by omega, HF.out⟩
                  case measure => simp [intOf]; omega
            · have hje : j = (V x).length := by omega
              have hKx : Kp hf fr self frm n L np Lp V x = (V x).filter (keepI hf fr self (st n L frm p)) := by unfold Kp; rw [HL.out]; simp [hres]
              rw [inC_end hx hje hKx] at gS
              have i2 : ¬ (j : Int) < ((V x).length : Int) := by omega
              have HE : Hid _ := And.intro gS hrg
              clear gS hrg a11 a8 a13'
              go_wp2_with fail
              obtain ⟨gS, hrg⟩ := HE.out
              go_roundw
              case rel => exact ⟨_, _, _, _, _, hrg, gS⟩
              case measure => rw [hrg.left_eq, HC.out.2.2.2.2.2.left_eq]; exact HC.out.1
end Go.Proofs.Ybulkddqw
