/-
  responsible and leaderOf, walked for every table and every holders that the law lays: slices of Node-IDs of the ring of 256 points.
-/
import Derived.Test.YbulkddqwRing
namespace Go.Proofs.Ybulkddqw
open Go.RowKit
theorem range_later {w W : World} {g o : Nat} {cs : List Value} (hb : Below w.heap.size w W) (h : w.rangeAt g o cs) : W.rangeAt g o cs := fun j v hv => cell_later hb (h j v hv)
/-- The cells of a routing table, of holders, as the law lays them. -/
def tl (self : Int) (prd : Value) : List Value := nl 16 (idb self) ++ [.slice none 0 0, prd, .slice none 0 0]
def hl (self frm : Int) (ldr : Value) : List Value := nl 16 (idb self) ++ ([.slice none 0 0, ldr] ++ nl 16 (idb frm))
theorem length_tl (self : Int) (prd : Value) : (tl self prd).length = 24 := by simp [tl, length_nl]
theorem length_hl (self frm : Int) (ldr : Value) : (hl self frm ldr).length = 44 := by simp [hl, length_nl]
theorem info32 : (Yba.prog.info? 32).map (·.size) = some 24 := by kernel_rfl
theorem info30 : (Yba.prog.info? 30).map (·.size) = some 44 := by kernel_rfl
theorem range_app_left {w : World} {g o : Nat} {a b : List Value} (h : w.rangeAt g o (a ++ b)) : w.rangeAt g o a := fun j v hv => h j v (by rw [List.getElem?_append_left (List.getElem?_eq_some_iff.1 hv).1]; exact hv)
theorem range_app_right {w : World} {g o : Nat} {a b : List Value} (h : w.rangeAt g o (a ++ b)) : w.rangeAt g (o + a.length) b := fun j v hv => by
  have := h (a.length + j) v (by rw [List.getElem?_append_right (by omega)]; simpa using hv)
  rw [Nat.add_assoc]; exact this
theorem tl_self {w : World} {g : Nat} {self : Int} {prd : Value} (h : w.rangeAt g 0 (tl self prd)) : w.rangeAt g 0 (nl 16 (idb self)) := range_app_left h
theorem tl_prd {w : World} {g : Nat} {self : Int} {prd : Value} (h : w.rangeAt g 0 (tl self prd)) : w.cell? ⟨g, 22, none⟩ = some prd := by
  have := range_app_right h 1 prd rfl
  rw [length_nl] at this; exact this
theorem hl_self {w : World} {g : Nat} {self frm : Int} {ldr : Value} (h : w.rangeAt g 0 (hl self frm ldr)) : w.rangeAt g 0 (nl 16 (idb self)) := range_app_left h
theorem hl_ldr {w : World} {g : Nat} {self frm : Int} {ldr : Value} (h : w.rangeAt g 0 (hl self frm ldr)) : w.cell? ⟨g, 22, none⟩ = some ldr := by
  have := range_app_right h 1 ldr rfl
  rw [length_nl] at this; exact this
theorem hl_frm {w : World} {g : Nat} {self frm : Int} {ldr : Value} (h : w.rangeAt g 0 (hl self frm ldr)) : w.rangeAt g 23 (nl 16 (idb frm)) := by
  have := range_app_right (range_app_right h)
  rw [length_nl] at this; exact this
theorem heap_range {w : World} {b : Nat} {l : List Value} {t : TypeId} (h : w.heap[b]? = some (.cells l.toArray t)) : w.rangeAt b 0 l := range_of_heap h (fun j hj => by simp)

/-- A slice of n Node-IDs, the points L. -/
def Ids (w : World) (sa : Option Addr) (g n : Nat) (L : Nat → Int) : Prop := (0 < n → sa = some ⟨g, 0, none⟩) ∧ (∀ i, i < n → w.rangeAt g (i * 21) (nl 16 (idb (L i)))) ∧ ∀ i, i < n → 0 ≤ L i ∧ L i ≤ 255
theorem Ids.later {w W : World} {sa : Option Addr} {g n : Nat} {L : Nat → Int} (h : Ids w sa g n L) (hb : Below w.heap.size w W) : Ids W sa g n L := ⟨h.1, fun i hi => range_later hb (h.2.1 i hi), h.2.2⟩

/-! ### responsible -/
def Resp (B : Nat) (w : World) (x self : Int) (prd : Value) (g : Nat) (p : Int) (W : World) : Prop :=
  W.rangeAt B 0 (tl self prd) ∧ W.rangeAt (B + 1) 0 (nl 16 (idb x)) ∧ W.rangeAt g 0 (nl 16 (idb p)) ∧ w.heap.size = B ∧ Below B w W
theorem Resp.later {B : Nat} {w W W' : World} {x self p : Int} {prd : Value} {g : Nat} (h : Resp B w x self prd g p W) (k : Below W.heap.size W W') : Resp B w x self prd g p W' :=
  ⟨range_later k h.1, range_later k h.2.1, range_later k h.2.2.1, h.2.2.2.1, h.2.2.2.2.trans (k.mono (by have := h.2.2.2.2.size; have := h.2.2.2.1; omega))⟩
def resp (n : Nat) (L : Nat → Int) (x self : Int) : Bool := n == 0 || wi x (L 0) self

set_option maxRecDepth 100000 in
set_option maxHeartbeats 1000000 in
theorem responsible_any (x self : Int) (hx : 0 ≤ x ∧ x ≤ 255) (hs : 0 ≤ self ∧ self ≤ 255) (sa : Option Addr) (g n cap : Nat) (L : Nat → Int) (w : World) (hI : Ids w sa g n L) (hn : n ≤ 1024) :
    Calls Yba.prog 13 #[.agg (tl self (.slice sa n cap)).toArray, idv x] w fun e w' => e = .returned (.bool (resp n L x self)) ∧ Below w.heap.size w w' := by
  unfold idv
  go_enter Yba.func13, Yba.ntmps13
  go_upto_region 1 with fail
  refine wp_world (fun W => W.rangeAt w.heap.size 0 (tl self (.slice sa n cap)) ∧ W.rangeAt (w.heap.size + 1) 0 (nl 16 (idb x)) ∧ Below w.heap.size w W)
    ⟨heap_range (heapOld (by simp) (heapNew rfl)), heap_range (heapNew (by simp)), ((Below.refl _ _).alloc (Nat.le_refl _) _).alloc (by simp) _⟩ ?_
  rintro W ⟨h1, h2, hB⟩
  have e0 := tl_prd h1
  by_cases h0 : n = 0
  · subst h0
    clear h1 h2
    go_wp2
    go_ret
    exact ⟨rfl, hB⟩
  · have h00 : ¬ (n : Int) = 0 := by omega
    obtain rfl := hI.1 (by omega)
    have hg := range_later hB (hI.2.1 0 (by omega))
    rw [Nat.zero_mul] at hg
    have hL := hI.2.2 0 (by omega)
    have HG : Hid _ := And.intro h1 (And.intro h2 (And.intro hg hB))
    clear h1 h2 hg
    go_upto_region 3 with fail
    clear e0
    obtain ⟨h1, h2, hg, hB⟩ := HG.out
    have i1 : (0 : Int) < (n : Int) := by omega
    refine wp_region_held_drew (S := Resp w.heap.size w x self (.slice (some ⟨g, 0, none⟩) n cap) g (L 0)) (by kernel_rfl) ⟨h1, h2, hg, rfl, hB.drew⟩ (fun hT1 => ?_)
    clear h1 h2 hg hB HG
    refine wpAnyH_take (i := 0) (oi := _) (v := _) rfl (by kernel_rfl) (by kernel_rfl) (by kernel_rfl) (fun _ _ _ h => h) (yieldsIf_load_mid (by rfl) 26 (.tmp 3) rfl (w.heap.size + 1) 0 rfl (nl 16 (idb x)) _ (fun _ h => h.2.1) Yba.underlying26 rfl (i26 16 _)) hT1 ?_
    simp only [Act.put]
    refine wpAnyH_take (i := 1) (oi := _) (v := .pointer (some ⟨w.heap.size, 22, none⟩)) rfl (by kernel_rfl) (by kernel_rfl) (by kernel_rfl) (fun _ _ _ h => h) (Or.inl ⟨by rfl, fun _ h => by go_simp⟩) hT1 ?_
    simp only [Act.put]
    refine wpAnyH_take (i := 2) (oi := _) (v := .slice (some ⟨g, 0, none⟩) n cap) rfl (by kernel_rfl) (by kernel_rfl) (by kernel_rfl) (fun _ _ _ h => h) (Or.inl ⟨by rfl, fun _ h => by have e0 := tl_prd h.1; go_simp⟩) hT1 ?_
    simp only [Act.put]
    refine wpAnyH_take (i := 3) (oi := _) (v := .pointer (some ⟨g, 0, none⟩)) rfl (by kernel_rfl) (by kernel_rfl) (by kernel_rfl) (fun _ _ _ h => h) (Or.inl ⟨by rfl, fun _ h => by go_simp⟩) hT1 ?_
    simp only [Act.put]
    refine wpAnyH_take (i := 4) (oi := _) (v := _) rfl (by kernel_rfl) (by kernel_rfl) (by kernel_rfl) (fun _ _ _ h => h) (yieldsIf_load_mid (by rfl) 26 (.tmp 12) rfl g 0 rfl (nl 16 (idb (L 0))) _ (fun _ h => h.2.2.1) Yba.underlying26 rfl (i26 16 _)) hT1 ?_
    simp only [Act.put]
    refine wpAnyH_take (i := 5) (oi := _) (v := .pointer (some ⟨w.heap.size, 0, none⟩)) rfl (by kernel_rfl) (by kernel_rfl) (by kernel_rfl) (fun _ _ _ h => h) (Or.inl ⟨by rfl, fun _ h => by go_simp⟩) hT1 ?_
    simp only [Act.put]
    refine wpAnyH_take (i := 6) (oi := _) (v := _) rfl (by kernel_rfl) (by kernel_rfl) (by kernel_rfl) (fun _ _ _ h => h) (yieldsIf_load_mid (by rfl) 26 (.tmp 14) rfl w.heap.size 0 rfl (nl 16 (idb self)) _ (fun _ h => tl_self h.1) Yba.underlying26 rfl (i26 16 _)) hT1 ?_
    simp only [Act.put]
    refine wpAnyH_ready (rs := [7]) (by kernel_rfl) (by simp) ?_
    refine AllReadyH.cons (i := 7) rfl (fun K hK => ?_) AllReadyH.nil
    rw [if_pos (by rfl)]
    go_simp
    refine (within_any x (L 0) self hx hL hs _).mono ?_
    rintro e W1 ⟨rfl, bW1⟩
    refine hK.out _ _ (hT1.later bW1) (fun hT2 => ?_)
    clear hK K hT1 bW1
    refine wpAnyH_ready (rs := [8]) (by kernel_rfl) (by simp) ?_
    refine AllReadyH.cons (i := 8) rfl (fun K hK => ?_) AllReadyH.nil
    rw [if_pos (by rfl)]
    go_simp
    refine hK.out _ _ hT2 (fun _ => ?_)
    clear hK K
    refine wpAnyH_done (by kernel_rfl) ?_ _
    go_wp2
    go_ret
    exact ⟨by simp [resp, h0], hT2.2.2.2.2⟩
/-- A new box, and a whole value stored into it. -/
theorem alloc_store {w : World} {c : Array Value} {t : TypeId} (cs : List Value) (hc : c.size = cs.length) :
    ((w.alloc (.cells c t)).setCells w.heap.size 0 cs).heap[w.heap.size]? = some (.cells cs.toArray t) ∧ Below w.heap.size w ((w.alloc (.cells c t)).setCells w.heap.size 0 cs) := by
  refine ⟨heap_setCells_to (heapNew rfl) _ (fun j => ?_), below_setCells _ (Nat.le_refl _) _ _ _ ((Below.refl _ _).alloc (Nat.le_refl _) _)⟩
  by_cases hj : j < cs.length
  · rw [if_pos (by omega)]; simp
  · rw [if_neg (by omega), Array.getElem?_eq_none (by simp; omega), Array.getElem?_eq_none (by omega)]
theorem store_over {w : World} {b : Nat} {c : Array Value} {t : TypeId} (h : w.heap[b]? = some (.cells c t)) (cs : List Value) (hc : c.size = cs.length) :
    (w.setCells b 0 cs).heap[b]? = some (.cells cs.toArray t) := by
  refine heap_setCells_to h _ (fun j => ?_)
  by_cases hj : j < cs.length
  · rw [if_pos (by omega)]; simp
  · rw [if_neg (by omega), Array.getElem?_eq_none (by simp; omega), Array.getElem?_eq_none (by omega)]
theorem there_new {w : World} {c : Array Value} {t : TypeId} {n : Nat} (hn : n ≤ c.size) : (w.alloc (.cells c t)).there w.heap.size 0 n := there_of_heap (heapNew rfl) (by omega)
theorem range_new {w : World} {g o : Nat} {cs : List Value} {ob : Obj} (h : w.rangeAt g o cs) : (w.alloc ob).rangeAt g o cs := range_later ((Below.refl _ _).alloc (Nat.le_refl _) _) h
theorem results_three {fn : Func} {s1 s s2 : Tmp} {ty : TypeId} (h : fn.results = #[.tmp s1, .cell s ty, .tmp s2]) {tmps : Array Value} {b o : Nat} {v1 v2 : Value} (h1 : tmps.getD s1 undef = v1) (hs : tmps.getD s undef = .pointer (some ⟨b, o, none⟩)) (h2 : tmps.getD s2 undef = v2) {P : Program} {w : World} {v : Value} (hl : (loadVar ty ⟨b, o, none⟩).run P w = .ok v w) :
    (results fn tmps).run P w = .ok (.tuple #[v1, v, v2]) w := by
  have hs' : tmps[s]?.getD undef = .pointer (some ⟨b, o, none⟩) := by simpa using hs
  have h1' : tmps[s1]?.getD undef = v1 := by simpa using h1
  have h2' : tmps[s2]?.getD undef = v2 := by simpa using h2
  simp [results, h, hs', h1', h2', asAddr, hl]
theorem find_none_aux {p : Nat → Bool} {n : Nat} (h : ∀ j, j < n → p j = false) : (List.range n).find? p = none := by
  rw [List.find?_eq_none]
  intro x hx
  rw [h x (by simpa using hx)]
  simp
theorem find_first_aux {p : Nat → Bool} {k n : Nat} (hk : k < n) (hp : p k = true) (h : ∀ j, j < k → p j = false) : (List.range n).find? p = some k := by
  have e : List.range n = List.range k ++ (List.range (n - k)).map (k + ·) := by
    rw [← List.range_add]; congr 1; omega
  rw [e, List.find?_append, find_none_aux h]
  have e2 : List.range (n - k) = 0 :: (List.range (n - k - 1)).map Nat.succ := by
    rw [← List.range_succ_eq_map]; congr 1; omega
  rw [e2]
  simp [hp]
/-! ### leaderOf -/
/-- Where the range of the leader at place i starts. -/
def st (n : Nat) (L : Nat → Int) (frm : Int) (i : Nat) : Int := if i + 1 < n then L (i + 1) else frm
/-- The place of the leader whose range holds x. -/
def ldOf (n : Nat) (L : Nat → Int) (frm x : Int) : Option Nat := (List.range n).find? fun i => wi x (st n L frm i) (L i)
def Hol (B : Nat) (w : World) (x self frm : Int) (sa : Option Addr) (g n cap : Nat) (L : Nat → Int) (W : World) : Prop :=
  W.rangeAt B 0 (hl self frm (.slice sa n cap)) ∧ W.rangeAt (B + 1) 0 (nl 16 (idb x)) ∧ W.heap[B + 1 + 1]? = some (.cells (nl 0 (fun _ => 0)).toArray 26) ∧ Ids W sa g n L ∧ w.heap.size = B ∧ Below B w W
theorem Hol.later {B : Nat} {w W W' : World} {x self frm : Int} {sa : Option Addr} {g n cap : Nat} {L : Nat → Int} (h : Hol B w x self frm sa g n cap L W) (k : Below W.heap.size W W') : Hol B w x self frm sa g n cap L W' :=
  ⟨range_later k h.1, range_later k h.2.1, (k.block _ (lt_of_heap h.2.2.1)).trans h.2.2.1, h.2.2.2.1.later k, h.2.2.2.2.1, h.2.2.2.2.2.trans (k.mono (by have := h.2.2.2.2.2.size; have := h.2.2.2.2.1; omega))⟩
theorem find_first {n k : Nat} {L : Nat → Int} {frm x : Int} (hk : k < n) (hp : wi x (st n L frm k) (L k) = true) (h : ∀ j, j < k → wi x (st n L frm j) (L j) = false) : ldOf n L frm x = some k := find_first_aux hk hp h
theorem find_none {n : Nat} {L : Nat → Int} {frm x : Int} (h : ∀ j, j < n → wi x (st n L frm j) (L j) = false) : ldOf n L frm x = none := find_none_aux h
/-- What leaderOf hands back. -/
def ldTuple (n : Nat) (L : Nat → Int) (frm : Int) : Option Nat → Value
  | some i => .tuple #[.int .i64 i, idv (st n L frm i), .bool true]
  | none => .tuple #[.int .i64 0, .agg (nl 0 (fun _ => 0)).toArray, .bool false]

set_option maxRecDepth 100000 in
set_option maxHeartbeats 1000000 in
theorem leaderOf_any (x self frm : Int) (hx : 0 ≤ x ∧ x ≤ 255) (hf : 0 ≤ frm ∧ frm ≤ 255) (sa : Option Addr) (g n cap : Nat) (L : Nat → Int) (w : World) (hI : Ids w sa g n L) (hn : n ≤ 1024) :
    Calls Yba.prog 12 #[.agg (hl self frm (.slice sa n cap)).toArray, idv x] w fun e w' => e = .returned (ldTuple n L frm (ldOf n L frm x)) ∧ Below w.heap.size w w' := by
  unfold idv
  go_enter Yba.func12, Yba.ntmps12
  go_upto_region 1 with fail
  refine wp_world (Hol w.heap.size w x self frm sa g n cap L)
    ⟨heap_range (heapOld (by simp; omega) (heapOld (by simp) (heapNew rfl))), heap_range (heapOld (by simp) (heapNew (by simp))), heapNew (by simp), hI.later ((((Below.refl _ _).alloc (Nat.le_refl _) _).alloc (by simp) _).alloc (by simp; omega) _), rfl, (((Below.refl _ _).alloc (Nat.le_refl _) _).alloc (by simp) _).alloc (by simp; omega) _⟩ ?_
  intro W hT
  have e0 := hl_ldr hT.1
  go_wp2_with fail
  clear e0
  go_loopw [13] (fun i wr => ∃ k : Nat, k ≤ n ∧ i = .int .i64 k ∧ (∀ j, j < k → wi x (st n L frm j) (L j) = false) ∧ Hol w.heap.size w x self frm sa g n cap L wr) (fun i _ => (n - intOf i).toNat)
  case atStart => exact ⟨0, by omega, rfl, fun j hj => by omega, hT⟩
  case round =>
    obtain ⟨k, hkn, rfl, hno, gT⟩ := hrel
    clear hT
    by_cases hlt : k < n
    · have h0n : 0 < n := by omega
      obtain rfl := gT.2.2.2.1.1 h0n
      have i1 : (0 : Int) ≤ (k : Int) := by omega
      have i2 : (k : Int) < (n : Int) := by omega
      have r1 := gT.2.2.2.1.2.1 k hlt
      have i26k := i26 16 (idb (L k))
      go_upto_region 3 with fail
      have t8 : (wr.alloc (.cells (nl 0 (fun _ => 0)).toArray 26)).there wr.heap.size 0 (nl 16 (idb (L k))).length := there_new (by rw [length_nl, size_nl]; omega)
      have o8 := one_nl 16 (idb (L k))
      have HG : Hid _ := And.intro gT hno
      clear gT hno
      go_upto_region 4 with (first | (refine wpL_load 26 rfl (.tmp 16) rfl (nl 16 (idb (L k))) _ Yba.underlying26 rfl i26k _ _ rfl r1 ?_) | (refine wpL_store 26 rfl (.tmp 8) (.tmp 17) rfl (nl 16 (idb (L k))) i26k o8 _ _ rfl rfl t8 ?_; clear r1 t8 i26k o8))
      have A := alloc_store (w := wr) (c := (nl 0 (fun _ => 0)).toArray) (t := 26) (nl 16 (idb (L k))) (by rw [size_nl, length_nl])
      refine wp_world (fun W => W.heap[wr.heap.size]? = some (.cells (nl 16 (idb (L k))).toArray 26) ∧ Below wr.heap.size wr W) A ?_
      clear A
      rintro W1 ⟨a8, b8⟩
      have r4 := range_later b8 (hl_frm HG.out.1.1)
      have i26f := i26 16 (idb frm)
      have o9 := one_nl 16 (idb frm)
      have t9 : (W1.alloc (.cells (nl 0 (fun _ => 0)).toArray 26)).there W1.heap.size 0 (nl 16 (idb frm)).length := there_new (by rw [length_nl, size_nl]; omega)
      have HA : Hid _ := And.intro a8 b8
      clear a8 b8
      go_upto_region 5 with (first | (refine wpL_load 26 rfl (.tmp 18) rfl (nl 16 (idb frm)) _ Yba.underlying26 rfl i26f _ _ rfl r4 ?_) | (refine wpL_store 26 rfl (.tmp 9) (.tmp 19) rfl (nl 16 (idb frm)) i26f o9 _ _ rfl rfl t9 ?_; clear r4 t9 i26f o9))
      have A := alloc_store (w := W1) (c := (nl 0 (fun _ => 0)).toArray) (t := 26) (nl 16 (idb frm)) (by rw [size_nl, length_nl])
      refine wp_world (fun W => W.heap[W1.heap.size]? = some (.cells (nl 16 (idb frm)).toArray 26) ∧ Below W1.heap.size W1 W) A ?_
      clear A
      rintro W2 ⟨a9, b9⟩
      have e5 := hl_ldr (HG.out.1.later (HA.out.2.trans (b9.mono HA.out.2.size))).1
      by_cases h1 : k + 1 < n
      · have i5 : (k : Int) + 1 < (n : Int) := by omega
        have hst : st n L frm k = L (k + 1) := by unfold st; rw [if_pos h1]
        have r6 := range_later b9 (range_later HA.out.2 (HG.out.1.2.2.2.1.2.1 (k + 1) h1))
        have i6 := i26 16 (idb (L (k + 1)))
        have o6 := one_nl 16 (idb (L (k + 1)))
        have t6 : W2.there W1.heap.size 0 (nl 16 (idb (L (k + 1)))).length := there_of_heap a9 (by rw [length_nl, size_nl]; omega)
        have HC : Hid _ := And.intro a9 b9
        clear a9 b9
        go_upto_region 7 with (first | (refine wpL_load 26 rfl (.tmp 30) rfl (nl 16 (idb (L (k + 1)))) _ Yba.underlying26 rfl i6 _ _ rfl r6 ?_) | (refine wpL_store 26 rfl (.tmp 9) (.tmp 31) rfl (nl 16 (idb (L (k + 1)))) i6 o6 _ _ rfl rfl t6 ?_; clear r6 t6 i6 o6))
        refine wp_world (fun W => W.heap[W1.heap.size]? = some (.cells (nl 16 (idb (st n L frm k))).toArray 26) ∧ Below W1.heap.size W1 W) ⟨by rw [hst]; exact store_over HC.out.1 _ (by rw [size_nl, length_nl]), below_setCells _ (Nat.le_refl _) _ _ _ HC.out.2⟩ ?_
        clear e5 HC hst
        rintro W3 ⟨a9, b9⟩
        have hst : 0 ≤ st n L frm k ∧ st n L frm k ≤ 255 := by unfold st; split <;> first | exact HG.out.1.2.2.2.1.2.2 _ (by omega) | exact hf
        have hLk := HG.out.1.2.2.2.1.2.2 k hlt
        have bb : Below wr.heap.size wr W3 := HA.out.2.trans (b9.mono HA.out.2.size)
        have q0 := range_later bb HG.out.1.2.1
        have q1 := nl_heap a9
        have q2 := nl_heap ((b9.block _ (lt_of_heap HA.out.1)).trans HA.out.1)
        have j0 := i26 16 (idb x)
        have j1 := i26 16 (idb (st n L frm k))
        have j2 := i26 16 (idb (L k))
        have gT3 := HG.out.1.later bb
        have HB : Hid _ := And.intro gT3 (And.intro a9 HG.out.2)
        have hlt5 : w.heap.size + 1 + 1 < W1.heap.size := Nat.lt_of_lt_of_le (lt_of_heap HG.out.1.2.2.1) HA.out.2.size
        clear HA HG a9 b9 bb gT3
        go_wp2_with (first | (refine wpL_load 26 rfl (.tmp 3) rfl (nl 16 (idb x)) _ Yba.underlying26 rfl j0 _ _ rfl q0 ?_) | (refine wpL_load 26 rfl (.tmp 9) rfl (nl 16 (idb (st n L frm k))) _ Yba.underlying26 rfl j1 _ _ rfl q1 ?_) | (refine wpL_load 26 rfl (.tmp 8) rfl (nl 16 (idb (L k))) _ Yba.underlying26 rfl j2 _ _ rfl q2 ?_; clear q0 q1 q2 j0 j1 j2))
        refine (within_any x (st n L frm k) (L k) hx hst hLk _).mono ?_
        rintro e W4 ⟨rfl, b4⟩
        by_cases hwi : wi x (st n L frm k) (L k) = true
        · rw [hwi]
          go_wp2_with fail
          obtain ⟨gT3, a9, hno⟩ := HB.out
          have c9 := (b4.block _ (lt_of_heap a9)).trans a9
          have gT4 := gT3.later b4
          have hne : w.heap.size + 1 + 1 < W1.heap.size := hlt5
          have hld : ldOf n L frm x = some k := find_first hlt (by simpa using hwi) hno
          clear HB gT3 a9 b4 hwi
          refine wp_region_held_drew (S := fun W => W.heap[W1.heap.size]? = some (.cells (nl 16 (idb (st n L frm k))).toArray 26)) (by kernel_rfl) c9 (fun hS => ?_)
          refine wpAnyH_take (i := 0) (oi := _) (v := .int .i64 k) rfl (by kernel_rfl) (by kernel_rfl) (by kernel_rfl) (fun _ _ _ h => h) (Or.inl ⟨by rfl, fun _ h => by go_simp⟩) hS ?_
          simp only [Act.put]
          refine wpAnyH_take (i := 1) (oi := _) (v := _) rfl (by kernel_rfl) (by kernel_rfl) (by kernel_rfl) (fun _ _ _ h => h) (yieldsIf_load_mid (by rfl) 26 (.tmp 9) rfl W1.heap.size 0 rfl (nl 16 (idb (st n L frm k))) _ (fun _ h => nl_heap h) Yba.underlying26 rfl (i26 16 _)) hS ?_
          simp only [Act.put]
          refine wpAnyH_ready (rs := [2]) (by kernel_rfl) (by simp) ?_
          refine AllReadyH.cons (i := 2) rfl (fun K hK => ?_) AllReadyH.nil
          rw [if_pos (by rfl)]
          go_simp
          refine hK.out _ _ hS (fun _ => ?_)
          clear hK K
          refine wpAnyH_ready (rs := [3]) (by kernel_rfl) (by simp) ?_
          refine AllReadyH.cons (i := 3) rfl (fun K hK => ?_) AllReadyH.nil
          rw [if_pos (by rfl)]
          refine wp_store_mid 26 (.tmp 5) (.tmp 37) rfl (w.heap.size + 1 + 1) 0 (nl 16 (idb (st n L frm k))).toArray rfl rfl (there_of_heap gT4.2.2.1 (by rw [size_nl, size_nl]; omega)) (by rw [info26, size_nl]) (all_oneCell_toArray (one_nl _ _)) ?_
          have hE := store_over gT4.2.2.1 (nl 16 (idb (st n L frm k))) (by rw [size_nl, length_nl])
          refine hK.out _ _ ((heap_setCells_other _ _ _ _ _ (by omega)).trans c9) (fun hS2 => ?_)
          clear hK K
          refine wpAnyH_ready (rs := [4]) (by kernel_rfl) (by simp) ?_
          refine AllReadyH.cons (i := 4) rfl (fun K hK => ?_) AllReadyH.nil
          rw [if_pos (by rfl)]
          go_simp
          refine hK.out _ _ hS2 (fun _ => ?_)
          clear hK K
          refine wpAnyH_done (by kernel_rfl) ?_ _
          go_wp2
          refine bodyPost_ret (v := .tuple #[.int .i64 k, idv (st n L frm k), .bool true]) (results_three (v1 := .int .i64 k) (v2 := .bool true) (b := w.heap.size + 1 + 1) (o := 0) rfl rfl rfl rfl (result_row (nl_heap hE) Yba.underlying26 rfl (by rw [info26, length_nl]))) rfl ⟨rfl, below_setCells _ (by omega) _ _ _ gT4.2.2.2.2.2.drew⟩
        · have hwf : wi x (st n L frm k) (L k) = false := by simpa using hwi
          rw [hwf]
          go_wp2_with fail
          obtain ⟨gT3, a9, hno⟩ := HB.out
          go_roundw
          case rel => exact ⟨k + 1, by omega, rfl, fun j hj => (by
            by_cases hjk : j < k
            · exact hno j hjk
            · have : j = k := by omega
              subst this; exact hwf), gT3.later b4⟩
          case measure => simp [intOf]; omega
      · have i5 : ¬ (k : Int) + 1 < (n : Int) := by omega
        have hst : st n L frm k = frm := by unfold st; rw [if_neg h1]
        have HC : Hid _ := And.intro a9 b9
        clear a9 b9
        go_upto_region 7 with fail
        refine wp_world (fun W => W.heap[W1.heap.size]? = some (.cells (nl 16 (idb (st n L frm k))).toArray 26) ∧ Below W1.heap.size W1 W) ⟨by rw [hst]; exact HC.out.1, HC.out.2⟩ ?_
        clear e5 HC hst
        rintro W3 ⟨a9, b9⟩
        have hst : 0 ≤ st n L frm k ∧ st n L frm k ≤ 255 := by unfold st; split <;> first | exact HG.out.1.2.2.2.1.2.2 _ (by omega) | exact hf
        have hLk := HG.out.1.2.2.2.1.2.2 k hlt
        have bb : Below wr.heap.size wr W3 := HA.out.2.trans (b9.mono HA.out.2.size)
        have q0 := range_later bb HG.out.1.2.1
        have q1 := nl_heap a9
        have q2 := nl_heap ((b9.block _ (lt_of_heap HA.out.1)).trans HA.out.1)
        have j0 := i26 16 (idb x)
        have j1 := i26 16 (idb (st n L frm k))
        have j2 := i26 16 (idb (L k))
        have gT3 := HG.out.1.later bb
        have HB : Hid _ := And.intro gT3 (And.intro a9 HG.out.2)
        have hlt5 : w.heap.size + 1 + 1 < W1.heap.size := Nat.lt_of_lt_of_le (lt_of_heap HG.out.1.2.2.1) HA.out.2.size
        clear HA HG a9 b9 bb gT3
        go_wp2_with (first | (refine wpL_load 26 rfl (.tmp 3) rfl (nl 16 (idb x)) _ Yba.underlying26 rfl j0 _ _ rfl q0 ?_) | (refine wpL_load 26 rfl (.tmp 9) rfl (nl 16 (idb (st n L frm k))) _ Yba.underlying26 rfl j1 _ _ rfl q1 ?_) | (refine wpL_load 26 rfl (.tmp 8) rfl (nl 16 (idb (L k))) _ Yba.underlying26 rfl j2 _ _ rfl q2 ?_; clear q0 q1 q2 j0 j1 j2))
        refine (within_any x (st n L frm k) (L k) hx hst hLk _).mono ?_
        rintro e W4 ⟨rfl, b4⟩
        by_cases hwi : wi x (st n L frm k) (L k) = true
        · rw [hwi]
          go_wp2_with fail
          obtain ⟨gT3, a9, hno⟩ := HB.out
          have c9 := (b4.block _ (lt_of_heap a9)).trans a9
          have gT4 := gT3.later b4
          have hne : w.heap.size + 1 + 1 < W1.heap.size := hlt5
          have hld : ldOf n L frm x = some k := find_first hlt (by simpa using hwi) hno
          clear HB gT3 a9 b4 hwi
          refine wp_region_held_drew (S := fun W => W.heap[W1.heap.size]? = some (.cells (nl 16 (idb (st n L frm k))).toArray 26)) (by kernel_rfl) c9 (fun hS => ?_)
          refine wpAnyH_take (i := 0) (oi := _) (v := .int .i64 k) rfl (by kernel_rfl) (by kernel_rfl) (by kernel_rfl) (fun _ _ _ h => h) (Or.inl ⟨by rfl, fun _ h => by go_simp⟩) hS ?_
          simp only [Act.put]
          refine wpAnyH_take (i := 1) (oi := _) (v := _) rfl (by kernel_rfl) (by kernel_rfl) (by kernel_rfl) (fun _ _ _ h => h) (yieldsIf_load_mid (by rfl) 26 (.tmp 9) rfl W1.heap.size 0 rfl (nl 16 (idb (st n L frm k))) _ (fun _ h => nl_heap h) Yba.underlying26 rfl (i26 16 _)) hS ?_
          simp only [Act.put]
          refine wpAnyH_ready (rs := [2]) (by kernel_rfl) (by simp) ?_
          refine AllReadyH.cons (i := 2) rfl (fun K hK => ?_) AllReadyH.nil
          rw [if_pos (by rfl)]
          go_simp
          refine hK.out _ _ hS (fun _ => ?_)
          clear hK K
          refine wpAnyH_ready (rs := [3]) (by kernel_rfl) (by simp) ?_
          refine AllReadyH.cons (i := 3) rfl (fun K hK => ?_) AllReadyH.nil
          rw [if_pos (by rfl)]
          refine wp_store_mid 26 (.tmp 5) (.tmp 37) rfl (w.heap.size + 1 + 1) 0 (nl 16 (idb (st n L frm k))).toArray rfl rfl (there_of_heap gT4.2.2.1 (by rw [size_nl, size_nl]; omega)) (by rw [info26, size_nl]) (all_oneCell_toArray (one_nl _ _)) ?_
          have hE := store_over gT4.2.2.1 (nl 16 (idb (st n L frm k))) (by rw [size_nl, length_nl])
          refine hK.out _ _ ((heap_setCells_other _ _ _ _ _ (by omega)).trans c9) (fun hS2 => ?_)
          clear hK K
          refine wpAnyH_ready (rs := [4]) (by kernel_rfl) (by simp) ?_
          refine AllReadyH.cons (i := 4) rfl (fun K hK => ?_) AllReadyH.nil
          rw [if_pos (by rfl)]
          go_simp
          refine hK.out _ _ hS2 (fun _ => ?_)
          clear hK K
          refine wpAnyH_done (by kernel_rfl) ?_ _
          go_wp2
          refine bodyPost_ret (v := .tuple #[.int .i64 k, idv (st n L frm k), .bool true]) (results_three (v1 := .int .i64 k) (v2 := .bool true) (b := w.heap.size + 1 + 1) (o := 0) rfl rfl rfl rfl (result_row (nl_heap hE) Yba.underlying26 rfl (by rw [info26, length_nl]))) rfl ⟨rfl, below_setCells _ (by omega) _ _ _ gT4.2.2.2.2.2.drew⟩
        · have hwf : wi x (st n L frm k) (L k) = false := by simpa using hwi
          rw [hwf]
          go_wp2_with fail
          obtain ⟨gT3, a9, hno⟩ := HB.out
          go_roundw
          case rel => exact ⟨k + 1, by omega, rfl, fun j hj => (by
            by_cases hjk : j < k
            · exact hno j hjk
            · have : j = k := by omega
              subst this; exact hwf), gT3.later b4⟩
          case measure => simp [intOf]; omega
    · have hkk : k = n := by omega
      subst hkk
      have hld : ldOf k L frm x = none := find_none hno
      have z0 : (nl 0 (fun _ => 0)).toArray.size = 21 := size_nl _ _
      have i0 := i26 0 (fun _ => 0)
      have o0 := one_nl 0 (fun _ => 0)
      have t0 : wr.there (w.heap.size + 1 + 1) 0 (nl 0 (fun _ => 0)).length := there_of_heap gT.2.2.1 (by rw [length_nl, size_nl]; omega)
      have hE := store_over gT.2.2.1 (nl 0 (fun _ => 0)) (by rw [size_nl, length_nl])
      have HG : Hid _ := And.intro hE gT.2.2.2.2.2
      clear hE gT hno
      go_wp2_with (refine wpL_store 26 rfl (.tmp 5) (.tmp 39) rfl (nl 0 (fun _ => 0)) i0 o0 _ _ rfl rfl t0 ?_; clear i0 o0 t0)
      rw [hld]
      refine bodyPost_ret (v := .tuple #[.int .i64 0, .agg (nl 0 (fun _ => 0)).toArray, .bool false]) (results_three (v1 := .int .i64 0) (v2 := .bool false) (b := w.heap.size + 1 + 1) (o := 0) rfl rfl rfl rfl (result_row (nl_heap HG.out.1) Yba.underlying26 rfl (by rw [info26, length_nl]))) rfl ⟨rfl, below_setCells _ (by omega) _ _ _ HG.out.2⟩
end Go.Proofs.Ybulkddqw
