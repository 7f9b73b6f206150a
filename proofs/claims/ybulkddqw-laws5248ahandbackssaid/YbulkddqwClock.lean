/-
  nearhop (chord.go): the two functions on LawS5248CAddBack's road: zzs5248cid and clockwise, and the law's own walk.
  Arrays of 20 bytes are borne whole ('rangeAt'), never cell by cell.
-/
import Derived.Test.YbulkddqwRows
import Derived.WalkKit
import Derived.WalkSpells
import Derived.WalkLawsBesides
import Derived.Outline
import Derived.OwnWalk
import Derived.Deep.RegionHeld3
import Derived.Deep.DeepCutAuto
import Derived.Deep.CutBlock
import Derived.BigQuiet
namespace Go.Proofs.Ybulkddqw
open Go.RowKit

/-- Forget how the world is written: keep R of it. -/
theorem wp_world {P : Program} {c : Code} {Q : Exit → Act → World → Prop} {a : Act} {W : World} (R : World → Prop) (hR : R W) (h : ∀ W', R W' → Code.wp P c Q a W') : Code.wp P c Q a W := h W hR

theorem heapNew {w : World} {o : Obj} {i : Nat} (h : i = w.heap.size) : (w.alloc o).heap[i]? = some o := by
  subst h; exact heap_alloc_new w o
theorem heapOld {w : World} {o x : Obj} {i : Nat} (h : i < w.heap.size) (h2 : w.heap[i]? = some x) : (w.alloc o).heap[i]? = some x := by
  rw [heap_alloc_old w o h]; exact h2
theorem lt_of_heap {w : World} {b : Nat} {o : Obj} (h : w.heap[b]? = some o) : b < w.heap.size := by
  by_cases hb : b < w.heap.size
  · exact hb
  · rw [Array.getElem?_eq_none (by omega)] at h; cases h
theorem cell_of_heap {w : World} {b : Nat} {cs : Array Value} {t : TypeId} {fr : Nat × Nat} (h : w.heap[b]? = some (.cells cs t fr)) (k : Nat) : w.cell? ⟨b, k, none⟩ = cs[k]? := by
  simp [World.cell?, h]
theorem free_of_heap {w : World} {b : Nat} {cs : Array Value} {t : TypeId} (h : w.heap[b]? = some (.cells cs t)) (k : Nat) : w.frozen? ⟨b, k, none⟩ = false := by
  simp [World.frozen?, h]
theorem range_of_heap {w : World} {b : Nat} {cs : Array Value} {t : TypeId} (h : w.heap[b]? = some (.cells cs t)) {l : List Value} {o : Nat} (hl : ∀ j, j < l.length → cs[o + j]? = l[j]?) : w.rangeAt b o l := fun j v hv => by
  have hj : j < l.length := (List.getElem?_eq_some_iff.1 hv).1
  rw [cell_of_heap h, hl j hj, hv]
theorem there_of_heap {w : World} {b : Nat} {cs : Array Value} {t : TypeId} (h : w.heap[b]? = some (.cells cs t)) {o n : Nat} (hn : o + n ≤ cs.size) : w.there b o n := fun j hj => by
  refine ⟨?_, free_of_heap h _⟩
  rw [cell_of_heap h]
  simp
  omega
theorem set_same {w : World} {b k : Nat} {cs cs' : Array Value} {t : TypeId} (h : w.heap[b]? = some (.cells cs t)) (v : Value) (hcs : cs.setIfInBounds k v = cs') : (w.setCell ⟨b, k, none⟩ v).heap[b]? = some (.cells cs' t) := by
  rw [heap_setCell_same w b k cs t v h, hcs]
/-- The block behind a store of many cells. -/
theorem heap_setCells {t : TypeId} (b : Nat) : ∀ (vs : List Value) (o : Nat) (w : World) (c : Array Value), w.heap[b]? = some (.cells c t) → ∃ c' : Array Value, (w.setCells b o vs).heap[b]? = some (.cells c' t) ∧ c'.size = c.size ∧
    ∀ j, c'[j]? = if o ≤ j ∧ j < o + vs.length ∧ j < c.size then vs[j - o]? else c[j]?
  | [], o, w, c, h => ⟨c, h, rfl, fun j => by rw [if_neg (by simp; omega)]⟩
  | v :: r, o, w, c, h => by
    obtain ⟨c', h1, h2, h3⟩ := heap_setCells b r (o + 1) (w.setCell ⟨b, o, none⟩ v) (c.setIfInBounds o v) (set_same h v rfl)
    refine ⟨c', ?_, by rw [h2]; simp, fun j => ?_⟩
    · rw [World.setCells]; exact h1
    · rw [h3 j]
      by_cases hj : o + 1 ≤ j ∧ j < o + 1 + r.length ∧ j < (c.setIfInBounds o v).size
      · rw [if_pos hj, if_pos (by simp at hj ⊢; omega)]
        have e : j - o = (j - (o + 1)) + 1 := by omega
        rw [e, List.getElem?_cons_succ]
      · rw [if_neg hj]
        by_cases hjo : j = o
        · subst hjo
          by_cases hs : j < c.size
          · rw [if_pos (by simp; omega), Array.getElem?_setIfInBounds]
            simp [hs]
          · rw [if_neg (by omega), Array.getElem?_setIfInBounds]
            simp [hs]
        · rw [if_neg (by simp at hj ⊢; omega), Array.getElem?_setIfInBounds, if_neg (by omega)]
theorem heap_setCells_to {t : TypeId} {b o : Nat} {vs : List Value} {w : World} {c : Array Value} (h : w.heap[b]? = some (.cells c t)) (c' : Array Value)
    (hc : ∀ j, c'[j]? = if o ≤ j ∧ j < o + vs.length ∧ j < c.size then vs[j - o]? else c[j]?) : (w.setCells b o vs).heap[b]? = some (.cells c' t) := by
  obtain ⟨c2, h1, _, h3⟩ := heap_setCells b vs o w c h
  have : c2 = c' := Array.ext_getElem? (fun j => by rw [h3, hc])
  rw [h1, this]
theorem heap_setCells_other (b : Nat) : ∀ (vs : List Value) (o : Nat) (w : World) (i : Nat), i ≠ b → (w.setCells b o vs).heap[i]? = w.heap[i]?
  | [], _, _, _, _ => rfl
  | v :: r, o, w, i, h => by
    rw [World.setCells, heap_setCells_other b r (o + 1) _ i h]
    exact Below.heap_setCell _ _ _ _ (by simpa using h)
theorem below_setCells {B : Nat} {a : World} (b : Nat) (hb : B ≤ b) : ∀ (vs : List Value) (o : Nat) (w : World), Below B a w → Below B a (w.setCells b o vs)
  | [], _, _, h => h
  | v :: r, o, w, h => by
    rw [World.setCells]
    exact below_setCells b hb r (o + 1) _ (h.setCell (p := ⟨b, o, none⟩) hb v)
theorem below_dN {W w : World} {B : Nat} (h : Below B W w) (n : Nat) : Below B W (w.drewN n) := ⟨h.os, h.tape, h.output, h.size, h.block⟩

/-- The cells of twenty bytes; of a Node-ID. -/
def bl (a : Nat → Int) : List Value := (List.range 20).map fun j => .int .u8 (a j)
def nl (n : Int) (a : Nat → Int) : List Value := .int .u8 n :: bl a
theorem length_bl (a : Nat → Int) : (bl a).length = 20 := by simp [bl]
theorem length_nl (n : Int) (a : Nat → Int) : (nl n a).length = 21 := by simp [nl, length_bl]
theorem get_bl (a : Nat → Int) (j : Nat) (h : j < 20) : (bl a)[j]? = some (.int .u8 (a j)) := by simp [bl, h]
theorem get_nl (n : Int) (a : Nat → Int) (j : Nat) (h : j < 20) : (nl n a)[1 + j]? = some (.int .u8 (a j)) := by
  rw [Nat.add_comm, nl, List.getElem?_cons_succ, get_bl a j h]
theorem one_bl (a : Nat → Int) : ∀ v ∈ bl a, v.oneCell' = true := fun v hv => by
  simp only [bl, List.mem_map] at hv
  obtain ⟨j, _, rfl⟩ := hv; rfl
theorem one_nl (n : Int) (a : Nat → Int) : ∀ v ∈ nl n a, v.oneCell' = true := fun v hv => by
  rcases List.mem_cons.1 hv with rfl | hv
  · rfl
  · exact one_bl a v hv
theorem info24 : (Yba.prog.info? 24).map (·.size) = some 20 := by kernel_rfl
theorem info26 : (Yba.prog.info? 26).map (·.size) = some 21 := by kernel_rfl
theorem info63 : (Yba.prog.info? 63).map (·.size) = some 20 := by kernel_rfl

/-- Load and store of a whole value, the world's facts behind them. -/
theorem wpL_load {ops : Array Oper} {rest : List Oper} {op : Oper} {a : Act} {w : World} {Q : Exit → Act → World → Prop} (ty : TypeId) (hgd : op.guard = none) (x : Operand) (ho : op.op = .load ty x) (cs : List Value) (d : TypeDesc) (hu : Yba.prog.underlying ty = some d) (hd : d.isRow = true) (hi : (Yba.prog.info? ty).map (·.size) = some cs.length)
    (b o : Nat) (hx : a.eval x = .pointer (some ⟨b, o, none⟩)) (hc : w.rangeAt b o cs) (h : wpList Yba.prog ops Q rest (a.put op.dst (.agg cs.toArray)) w) : wpList Yba.prog ops Q (op :: rest) a w :=
  wpList_load_mid hgd ty x ho b o hx cs d hc hu hd hi h
theorem wpL_store {ops : Array Oper} {rest : List Oper} {op : Oper} {a : Act} {w : World} {Q : Exit → Act → World → Prop} (ty : TypeId) (hgd : op.guard = none) (x y : Operand) (ho : op.op = .store ty x y) (cs : List Value) (hi : (Yba.prog.info? ty).map (·.size) = some cs.length) (h1 : ∀ v ∈ cs, v.oneCell' = true)
    (b o : Nat) (hx : a.eval x = .pointer (some ⟨b, o, none⟩)) (hy : a.eval y = .agg cs.toArray) (ht : w.there b o cs.length) (h : wpList Yba.prog ops Q rest (a.put op.dst undef) (w.setCells b o cs)) : wpList Yba.prog ops Q (op :: rest) a w :=
  wpList_store_mid hgd ty x y ho b o cs.toArray hx hy (by simpa using ht) (by simpa using hi) (all_oneCell_toArray h1) h

theorem size_nl (n : Int) (a : Nat → Int) : (nl n a).toArray.size = 21 := by simpa using length_nl n a

/-- A result that lies in a block: read whole. -/
theorem result_row {b : Nat} {w : World} {ty : TypeId} {cs : List Value} {d : TypeDesc} (hc : w.rangeAt b 0 cs) (hu : Yba.prog.underlying ty = some d) (hd : d.isRow = true) (hi : (Yba.prog.info? ty).map (·.size) = some cs.length) :
    (loadVar ty ⟨b, 0, none⟩).run Yba.prog w = .ok (.agg cs.toArray) w := run_loadVar_mid w b 0 ty cs d hc hu hd hi

theorem results_cell {fn : Func} {s : Tmp} {ty : TypeId} (h : fn.results = #[.cell s ty]) {tmps : Array Value} {b o : Nat} (hs : tmps.getD s undef = .pointer (some ⟨b, o, none⟩)) {P : Program} {w : World} {v : Value} (hl : (loadVar ty ⟨b, o, none⟩).run P w = .ok v w) :
    (results fn tmps).run P w = .ok v w := by
  have hs' : tmps[s]?.getD undef = .pointer (some ⟨b, o, none⟩) := by simpa using hs
  simp [results, h, hs', asAddr, hl]

set_option maxHeartbeats 400000 in
theorem cid_any (n : Nat) (hn : n ≤ 20) (a : Nat → Int) (w : World) :
    Calls Yba.prog 11 #[.int .i64 n, .agg (bl a).toArray] w fun e w' => e = .returned (.agg (nl n a).toArray) ∧ Below w.heap.size w w' := by
  go_enter Yba.func11, Yba.ntmps11
  go_upto_region 3 with fail
  refine wp_world (fun W => W.heap[w.heap.size]? = some (.cells (bl a).toArray 24) ∧ (∃ c1 : Array Value, W.heap[w.heap.size + 1]? = some (.cells c1 26) ∧ c1.size = 21) ∧ (∃ c2 : Array Value, W.heap[w.heap.size + 1 + 1]? = some (.cells c2 26) ∧ c2.size = 21 ∧ c2[0]? = some (.int .u8 n)) ∧ Below w.heap.size w W)
    ⟨heapOld (by simp; omega) (heapOld (by simp) (heapNew rfl)), ⟨_, heapOld (by simp) (heapNew (by simp)), rfl⟩, ⟨_, heapNew (by simp), rfl, rfl⟩, (((Below.refl _ _).alloc (Nat.le_refl _) _).alloc (by simp) _).alloc (by simp; omega) _⟩ ?_
  rintro W ⟨h0, ⟨c1, h1, hc1⟩, ⟨c2, h2, hc2, hc20⟩, hB⟩
  have r0 : W.rangeAt w.heap.size 0 (bl a) := range_of_heap h0 (fun j hj => by simp)
  have t2 : W.there (w.heap.size + 1 + 1) 1 (bl a).length := there_of_heap h2 (by rw [length_bl]; omega)
  have i24 : (Yba.prog.info? 24).map (·.size) = some (bl a).length := by rw [info24, length_bl]
  have o1 := one_bl a
  have HW : Hid ((W.setCells (w.heap.size + 1 + 1) 1 (bl a)).heap[w.heap.size + 1 + 1]? = some (.cells (nl n a).toArray 26) ∧ (W.setCells (w.heap.size + 1 + 1) 1 (bl a)).heap[w.heap.size + 1]? = some (.cells c1 26) ∧ Below w.heap.size w (W.setCells (w.heap.size + 1 + 1) 1 (bl a))) := by
    refine ⟨heap_setCells_to h2 _ (fun j => ?_), (heap_setCells_other _ _ _ _ _ (by omega)).trans h1, below_setCells _ (by omega) _ _ _ hB⟩
    rw [length_bl]
    by_cases hj : 1 ≤ j ∧ j < 1 + 20 ∧ j < c2.size
    · rw [if_pos hj]
      obtain ⟨j', rfl⟩ : ∃ j', j = j' + 1 := ⟨j - 1, by omega⟩
      simp [nl]
    · rw [if_neg hj]
      by_cases hj0 : j = 0
      · subst hj0; rw [hc20]; simp [nl]
      · rw [Array.getElem?_eq_none (by rw [size_nl]; omega), Array.getElem?_eq_none (by omega)]
  clear h0 h1 h2 hB hc20
  go_upto_region 4 with (first | (refine wpL_load 24 rfl (.tmp 3) rfl (bl a) _ Yba.underlying24 rfl i24 _ _ rfl r0 ?_) | (refine wpL_store 24 rfl (.tmp 10) (.tmp 9) rfl (bl a) i24 o1 _ _ rfl rfl t2 ?_; clear r0 t2 i24 o1))
  refine wp_world (fun W => W.heap[w.heap.size + 1 + 1]? = some (.cells (nl n a).toArray 26) ∧ W.heap[w.heap.size + 1]? = some (.cells c1 26) ∧ Below w.heap.size w W) HW.out ?_
  clear HW
  rintro W' ⟨g2, g1, gB⟩
  have r2 : W'.rangeAt (w.heap.size + 1 + 1) 0 (nl n a) := range_of_heap g2 (fun j hj => by simp)
  have t1 : W'.there (w.heap.size + 1) 0 (nl n a).length := there_of_heap g1 (by rw [length_nl]; omega)
  have i26 : (Yba.prog.info? 26).map (·.size) = some (nl n a).length := by rw [info26, length_nl]
  have o2 := one_nl n a
  have HW : Hid ((W'.setCells (w.heap.size + 1) 0 (nl n a)).heap[w.heap.size + 1]? = some (.cells (nl n a).toArray 26) ∧ Below w.heap.size w (W'.setCells (w.heap.size + 1) 0 (nl n a))) := by
    refine ⟨heap_setCells_to g1 _ (fun j => ?_), below_setCells _ (by omega) _ _ _ gB⟩
    rw [length_nl]
    by_cases hj : j < 21
    · rw [if_pos (by omega)]; simp
    · rw [if_neg (by omega), Array.getElem?_eq_none (by rw [size_nl]; omega), Array.getElem?_eq_none (by omega)]
  clear g2 g1 gB
  go_wp2_with (first | (refine wpL_load 26 rfl (.tmp 5) rfl (nl n a) _ Yba.underlying26 rfl i26 _ _ rfl r2 ?_) | (refine wpL_store 26 rfl (.tmp 4) (.tmp 11) rfl (nl n a) i26 o2 _ _ rfl rfl t1 ?_; clear r2 t1 i26 o2))
  have hrg : (W'.setCells (w.heap.size + 1) 0 (nl n a)).rangeAt (w.heap.size + 1) 0 (nl n a) := range_of_heap HW.out.1 (fun j hj => by simp)
  exact bodyPost_ret (v := .agg (nl n a).toArray) (results_cell (b := w.heap.size + 1) (o := 0) rfl rfl (result_row hrg Yba.underlying26 rfl (by rw [info26, length_nl]))) rfl ⟨rfl, HW.out.2⟩

/-! ### clockwise -/
/-- The borrow behind k places, the last place first. -/
def bor (n : Nat) (a b : Nat → Int) : Nat → Int
  | 0 => 0
  | k + 1 => if b (n - 1 - k) - a (n - 1 - k) - bor n a b k < 0 then 1 else 0
/-- The distance's byte at place j. -/
def dist (n : Nat) (a b : Nat → Int) (j : Nat) : Int := if j < n then (b j - a j - bor n a b (n - 1 - j)) % 256 else 0
/-- .. as far as k places are reckoned. -/
def distTo (n : Nat) (a b : Nat → Int) (k j : Nat) : Int := if n - k ≤ j then dist n a b j else 0
theorem bor_01 (n : Nat) (a b : Nat → Int) : ∀ k, 0 ≤ bor n a b k ∧ bor n a b k ≤ 1
  | 0 => by simp [bor]
  | k + 1 => by unfold bor; split <;> omega

theorem size_bl (a : Nat → Int) : (bl a).toArray.size = 20 := by simpa using length_bl a
theorem bl_congr {a b : Nat → Int} (h : ∀ j, j < 20 → a j = b j) : bl a = bl b := by
  unfold bl
  exact List.map_congr_left (fun j hj => by rw [h j (by simpa using hj)])
theorem set_bl (a : Nat → Int) (i : Nat) (v : Int) (b : Nat → Int) (hi : i < 20) (h1 : b i = v) (h2 : ∀ j, j ≠ i → b j = a j) : (bl a).toArray.setIfInBounds i (.int .u8 v) = (bl b).toArray := by
  apply Array.ext_getElem?
  intro j
  rw [Array.getElem?_setIfInBounds]
  by_cases hj : i = j
  · subst hj
    rw [if_pos rfl, if_pos (by rw [size_bl]; exact hi)]
    have := get_bl b i hi
    simp [this, h1]
  · rw [if_neg hj]
    by_cases hj20 : j < 20
    · have e1 := get_bl a j hj20
      have e2 := get_bl b j hj20
      simp [e1, e2, h2 j (Ne.symm hj)]
    · rw [Array.getElem?_eq_none (by rw [size_bl]; omega), Array.getElem?_eq_none (by rw [size_bl]; omega)]

theorem cw_step {n k i0 m : Nat} {a b : Nat → Int} {w wr : World} {c : Array Value} (v : Int) (hn : n ≤ 20) (hk : k < n) (hi : i0 = n - 1 - k) (hv : v = (b i0 - a i0 - bor n a b k) % 256)
    (gA : wr.heap[w.heap.size]? = some (.cells (nl n a).toArray 26)) (gB : wr.heap[w.heap.size + 1]? = some (.cells (nl n b).toArray 26)) (gC : wr.heap[w.heap.size + 1 + 1]? = some (.cells c 63)) (gD : wr.heap[w.heap.size + 1 + 1 + 1]? = some (.cells (bl (distTo n a b k)).toArray 63)) (gBl : Below w.heap.size w wr) :
    let W := (wr.drewN m).setCell ⟨w.heap.size + 1 + 1 + 1, i0, none⟩ (.int .u8 v)
    W.heap[w.heap.size]? = some (.cells (nl n a).toArray 26) ∧ W.heap[w.heap.size + 1]? = some (.cells (nl n b).toArray 26) ∧ W.heap[w.heap.size + 1 + 1]? = some (.cells c 63) ∧ W.heap[w.heap.size + 1 + 1 + 1]? = some (.cells (bl (distTo n a b (k + 1))).toArray 63) ∧ Below w.heap.size w W := by
  refine ⟨(Below.heap_setCell _ _ _ _ (by show w.heap.size ≠ w.heap.size + 1 + 1 + 1; omega)).trans gA, (Below.heap_setCell _ _ _ _ (by show w.heap.size + 1 ≠ w.heap.size + 1 + 1 + 1; omega)).trans gB, (Below.heap_setCell _ _ _ _ (by simp)).trans gC, ?_, (below_dN gBl _).setCell (p := ⟨w.heap.size + 1 + 1 + 1, i0, none⟩) (by simp; omega) _⟩
  refine set_same (w := wr.drewN m) gD _ (set_bl _ _ _ _ (by omega) ?_ (fun j hj => ?_))
  · unfold distTo dist
    rw [if_pos (by omega), if_pos (by omega), hv]
    have : n - 1 - i0 = k := by omega
    rw [this]
  · unfold distTo
    by_cases h1 : n - k ≤ j
    · rw [if_pos (by omega), if_pos h1]
    · rw [if_neg (by omega), if_neg h1]
theorem dist_all (n : Nat) (a b : Nat → Int) : bl (distTo n a b n) = bl (dist n a b) :=
  bl_congr (fun j hj => by unfold distTo; rw [if_pos (by omega)])
theorem bor_neg {n k i0 : Nat} {a b : Nat → Int} (hi : i0 = n - 1 - k) (h : b i0 - a i0 - bor n a b k < 0) : bor n a b (k + 1) = 1 := by
  subst hi; unfold bor; rw [if_pos h]
theorem bor_pos {n k i0 : Nat} {a b : Nat → Int} (hi : i0 = n - 1 - k) (h : 0 ≤ b i0 - a i0 - bor n a b k) : bor n a b (k + 1) = 0 := by
  subst hi; unfold bor; rw [if_neg (by omega)]

theorem dist_zero (n : Nat) (a b : Nat → Int) : bl (distTo n a b 0) = bl (fun _ => 0) :=
  bl_congr (fun j hj => by
    unfold distTo dist
    split
    · rw [if_neg (by omega)]
    · rfl)

set_option maxRecDepth 100000 in
set_option maxHeartbeats 1000000 in
theorem clockwise_any (n : Nat) (hn : n ≤ 20) (a b : Nat → Int) (ha : ∀ j, j < 20 → 0 ≤ a j ∧ a j ≤ 255) (hb : ∀ j, j < 20 → 0 ≤ b j ∧ b j ≤ 255) (w : World) :
    Calls Yba.prog 10 #[.agg (nl n a).toArray, .agg (nl n b).toArray] w fun e w' => e = .returned (.agg (bl (dist n a b)).toArray) ∧ Below w.heap.size w w' := by
  go_enter Yba.func10, Yba.ntmps10
  go_upto_region 3 with fail
  refine wp_world (fun W => W.heap[w.heap.size]? = some (.cells (nl n a).toArray 26) ∧ W.heap[w.heap.size + 1]? = some (.cells (nl n b).toArray 26) ∧ (∃ c : Array Value, W.heap[w.heap.size + 1 + 1]? = some (.cells c 63) ∧ c.size = 20) ∧ W.heap[w.heap.size + 1 + 1 + 1]? = some (.cells (bl (fun _ => 0)).toArray 63) ∧ Below w.heap.size w W)
    ⟨heapOld (by simp; omega) (heapOld (by simp; omega) (heapOld (by simp) (heapNew rfl))), heapOld (by simp) (heapOld (by simp) (heapNew (by simp))), ⟨_, heapOld (by simp) (heapNew (by simp)), rfl⟩, heapNew (by simp), ((((Below.refl _ _).alloc (Nat.le_refl _) _).alloc (by simp) _).alloc (by simp; omega) _).alloc (by simp; omega) _⟩ ?_
  rintro W ⟨hA, hBb, ⟨c, hC, hcs⟩, hD, hBl⟩
  rw [← dist_zero n a b] at hD
  have f0 : W.cell? ⟨w.heap.size, 0, none⟩ = some (.int .u8 n) := by rw [cell_of_heap hA]; simp [nl]
  go_wp2
  clear f0
  go_loopw [6, 7] (fun bo i wr => ∃ (k : Nat) (x : Int), k ≤ n ∧ x = (n : Int) - 1 - k ∧ i = .int .i64 x ∧ bo = .int .i64 (bor n a b k) ∧ wr.heap[w.heap.size]? = some (.cells (nl n a).toArray 26) ∧ wr.heap[w.heap.size + 1]? = some (.cells (nl n b).toArray 26) ∧ wr.heap[w.heap.size + 1 + 1]? = some (.cells c 63) ∧ wr.heap[w.heap.size + 1 + 1 + 1]? = some (.cells (bl (distTo n a b k)).toArray 63) ∧ Below w.heap.size w wr) (fun _ i _ => (intOf i + 1).toNat)
  case atStart => exact ⟨0, _, by omega, by omega, rfl, rfl, hA, hBb, hC, hD, hBl⟩
  case round =>
    obtain ⟨k, x, hkn, hx, rfl, rfl, gA, gB, gC, gD, gBl⟩ := hrel
    clear hA hBb hC hD hBl
    by_cases hlt : k < n
    · obtain ⟨i0, hi0⟩ : ∃ i0 : Nat, i0 = n - 1 - k := ⟨_, rfl⟩
      have hxi : x = (i0 : Int) := by omega
      subst hxi
      have hi20 : i0 < 20 := by omega
      obtain ⟨a0, a1⟩ := ha i0 hi20
      obtain ⟨b0, b1⟩ := hb i0 hi20
      obtain ⟨c0, c1⟩ := bor_01 n a b k
      have e1 : wr.cell? ⟨w.heap.size, 1 + i0, none⟩ = some (.int .u8 (a i0)) := by rw [cell_of_heap gA]; have := get_nl n a i0 hi20; simpa using this
      have e2 : wr.cell? ⟨w.heap.size + 1, 1 + i0, none⟩ = some (.int .u8 (b i0)) := by rw [cell_of_heap gB]; have := get_nl n b i0 hi20; simpa using this
      have e3 : ∃ v, wr.cell? ⟨w.heap.size + 1 + 1 + 1, i0, none⟩ = some v := ⟨_, by rw [cell_of_heap gD]; have := get_bl (distTo n a b k) i0 hi20; simpa using this⟩
      obtain ⟨v3, e3⟩ := e3
      have fz : wr.frozen? ⟨w.heap.size + 1 + 1 + 1, i0, none⟩ = false := free_of_heap gD _
      have i1 : (0 : Int) ≤ (i0 : Int) := by omega
      have i2 : (i0 : Int) < 20 := by omega
      have HG : Hid _ := And.intro gA (And.intro gB (And.intro gC (And.intro gD (And.intro gBl (And.intro hx hi0)))))
      clear gA gB gC gD gBl hx hi0
      by_cases hneg : b i0 - a i0 - bor n a b k < 0
      · go_wp2_with fail
        go_quiet (fail)
        go_wp2
        obtain ⟨gA, gB, gC, gD, gBl, hx, hi0⟩ := HG.out
        have R := cw_step (m := nq) (b i0 - a i0 - bor n a b k + 256) hn hlt hi0 (by omega) gA gB gC gD gBl
        have hbn := bor_neg hi0 hneg
        go_roundw
        case rel => exact ⟨k + 1, _, by omega, by omega, rfl, by rw [hbn], R⟩
        case measure => simp [intOf]
      · have hpos : 0 ≤ b i0 - a i0 - bor n a b k := by omega
        go_wp2_with fail
        go_quiet (fail)
        go_wp2
        obtain ⟨gA, gB, gC, gD, gBl, hx, hi0⟩ := HG.out
        have R := cw_step (m := nq) (b i0 - a i0 - bor n a b k) hn hlt hi0 (by omega) gA gB gC gD gBl
        have hbn := bor_pos hi0 hpos
        go_roundw
        case rel => exact ⟨k + 1, _, by omega, by omega, rfl, by rw [hbn], R⟩
        case measure => simp [intOf]
    · have hkk : k = n := by omega
      subst hkk
      have hx1 : x = -1 := by omega
      subst hx1
      rw [dist_all] at gD
      have r3 : wr.rangeAt (w.heap.size + 1 + 1 + 1) 0 (bl (dist k a b)) := range_of_heap gD (fun j hj => by simp)
      have t2 : wr.there (w.heap.size + 1 + 1) 0 (bl (dist k a b)).length := there_of_heap gC (by rw [length_bl]; omega)
      have i63 : (Yba.prog.info? 63).map (·.size) = some (bl (dist k a b)).length := by rw [info63, length_bl]
      have o3 := one_bl (dist k a b)
      have HW : Hid ((wr.setCells (w.heap.size + 1 + 1) 0 (bl (dist k a b))).heap[w.heap.size + 1 + 1]? = some (.cells (bl (dist k a b)).toArray 63) ∧ Below w.heap.size w (wr.setCells (w.heap.size + 1 + 1) 0 (bl (dist k a b)))) := by
        refine ⟨heap_setCells_to gC _ (fun j => ?_), below_setCells _ (by omega) _ _ _ gBl⟩
        rw [length_bl]
        by_cases hj : j < 20
        · rw [if_pos (by omega)]; simp
        · rw [if_neg (by omega), Array.getElem?_eq_none (by rw [size_bl]; omega), Array.getElem?_eq_none (by omega)]
      clear gA gB gC gD gBl hx
      go_wp2_with (first | (refine wpL_load 63 rfl (.tmp 5) rfl (bl (dist k a b)) _ Yba.underlying63 rfl i63 _ _ rfl r3 ?_) | (refine wpL_store 63 rfl (.tmp 4) (.tmp 38) rfl (bl (dist k a b)) i63 o3 _ _ rfl rfl t2 ?_; clear r3 t2 i63 o3))
      have hrg : (wr.setCells (w.heap.size + 1 + 1) 0 (bl (dist k a b))).rangeAt (w.heap.size + 1 + 1) 0 (bl (dist k a b)) := range_of_heap HW.out.1 (fun j hj => by simp)
      exact bodyPost_ret (v := .agg (bl (dist k a b)).toArray) (results_cell (b := w.heap.size + 1 + 1) (o := 0) rfl rfl (result_row hrg Yba.underlying63 rfl (by rw [info63, length_bl]))) rfl ⟨rfl, HW.out.2⟩
end Go.Proofs.Ybulkddqw
