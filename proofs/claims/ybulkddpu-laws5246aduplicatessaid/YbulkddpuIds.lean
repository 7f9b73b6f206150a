/-
  S5246A, first text: IDs as map keys; newReplicas (function 6) makes a map that reads as the set of the given IDs.
-/
import Derived.Test.YbulkddpuRows
import Derived.WalkKit
import Derived.WalkSpells
import Derived.WalkLawsBesides
import Derived.Maps.OwnSet
import Derived.DeepKeys4
import Derived.Deep.RegionHeld3
import Derived.Deep.DeepCutAuto
import Derived.Deep.CutBlock
namespace Go.Proofs.Ybulkddpu
open Go.RowKit Go.Maps

theorem laidOut : laidOutB Yba.prog = true := by kernel_rfl
theorem law : Keyed Yba.prog 26 := Keyed.of_law (deep_law_laid laidOut (m := 2) (by omega) (of_decide_eq_true (by kernel_rfl)) (by kernel_rfl) (by kernel_rfl))
theorem keyT : Yba.prog.keyType 26 = true := by kernel_rfl
theorem cells26 : Yba.prog.cellsOf 26 = 20 := by kernel_rfl
theorem cells5 : Yba.prog.cellsOf 5 = 1 := by kernel_rfl

/-- The cells of one ID. -/
def IsId (cs : List Value) : Prop := cs.length = 20 ∧ ∀ v ∈ cs, ∃ n, v = .int .u8 n ∧ (Lit.int .u8 n).wf = true

theorem mapM_some {α β : Type} (f : α → Option β) : ∀ (l : List α), (∀ a ∈ l, ∃ b, f a = some b) → ∃ bs, l.mapM f = some bs
  | [], _ => ⟨[], by simp⟩
  | a :: r, h => by
    obtain ⟨b, hb⟩ := h a (by simp)
    obtain ⟨bs, hbs⟩ := mapM_some f r (fun x hx => h x (by simp [hx]))
    exact ⟨b :: bs, by simp [hb, hbs]⟩

theorem key_some {cs : List Value} (h : IsId cs) : ∃ l, keyOf Yba.prog 26 (.agg cs.toArray) = some l := by
  obtain ⟨hl, hv⟩ := h
  have hk : ∀ d, ∃ ls, Yba.prog.keyLits (d + 2) 26 cs = some ls := by
    intro d
    obtain ⟨bs, hbs⟩ := mapM_some (fun i => Yba.prog.keyLits (d + 1) 5 ((cs.drop (i * Yba.prog.cellsOf 5)).take (Yba.prog.cellsOf 5))) (List.range 20) (by
      intro i hi
      have hi' : i < cs.length := by rw [hl]; simpa using hi
      obtain ⟨n, hn, hw⟩ := hv cs[i] (List.getElem_mem hi')
      refine ⟨[.int .u8 n], ?_⟩
      have e : (cs.drop (i * Yba.prog.cellsOf 5)).take (Yba.prog.cellsOf 5) = [.int .u8 n] := by
        rw [cells5, Nat.mul_one, List.drop_eq_getElem_cons hi', hn]; simp
      rw [e]
      simp [Program.keyLits, Yba.underlying5, hw])
    refine ⟨bs.flatten, ?_⟩
    simp only [Program.keyLits] at hbs
    simp only [Program.keyLits, Yba.underlying26]
    rw [if_pos (by rw [cells26]; exact hl), hbs]
    rfl
  obtain ⟨ls, hls⟩ := hk 111
  refine ⟨.string (keyBytes ls), ?_⟩
  simp only [keyOf, Yba.underlying26, keyT, Value.formed, cells26, Value.cells]
  simp [hl, hls]

/-- What an ID reads as, as a key: 'kl' stands for whatever function says it. -/
def KeyFn (kl : List Value → Lit) : Prop := ∀ cs, IsId cs → keyOf Yba.prog 26 (.agg cs.toArray) = some (kl cs)
theorem exists_kl : ∃ kl, KeyFn kl := ⟨fun cs => (keyOf Yba.prog 26 (.agg cs.toArray)).getD (.bool false), fun cs h => by
  obtain ⟨l, hl⟩ := key_some h
  simp only [hl]; rfl⟩
theorem kl_inj {kl : List Value → Lit} (hk : KeyFn kl) {a b : List Value} (ha : IsId a) (hb : IsId b) (h : kl a = kl b) : a = b := by
  have h1 := hk a ha
  have h2 := hk b hb
  rw [← h] at h2
  have := law.inj h1 h2
  simpa using this
theorem eqId {a b : List Value} (ha : IsId a) (hb : IsId b) : ∃ r : Bool, (r = true ↔ a = b) ∧ ∀ w, (binOp .eql 26 (.agg a.toArray) (.agg b.toArray)).run Yba.prog w = .ok (.bool r) w := by
  obtain ⟨kl, hk⟩ := exists_kl
  have hr : ∀ w, ∃ r : Bool, (binOp .eql 26 (.agg a.toArray) (.agg b.toArray)).run Yba.prog w = .ok (.bool r) w ∧ (r = true ↔ a = b) := fun w => by
    obtain ⟨r, hr, hiff⟩ := run_equal_deep (P := Yba.prog) w (m := 2) (by omega) (k := 26) (by kernel_rfl) (by kernel_rfl) (hk a ha) (hk b hb)
    refine ⟨r, ?_, hiff.trans ⟨kl_inj hk ha hb, fun h => by rw [h]⟩⟩
    simp only [binOp]
    simp [hr]
  by_cases e : a = b
  · refine ⟨true, by simp [e], fun w => ?_⟩
    obtain ⟨r, h1, h2⟩ := hr w
    rw [h1, h2.2 e]
  · refine ⟨false, by simp [e], fun w => ?_⟩
    obtain ⟨r, h1, h2⟩ := hr w
    cases r
    · exact h1
    · exact absurd (h2.1 rfl) e

structure Held (w : World) (b off len : Nat) (K : Nat → List Value) : Prop where
  id : ∀ i, i < len → IsId (K i)
  row : ∀ i, i < len → w.rangeAt b (off + i * 20) (K i)

theorem rangeAt_below {w w' : World} {b o : Nat} {cs : List Value} (h : w.rangeAt b o cs) (hB : Below w.heap.size w w') : w'.rangeAt b o cs := fun j v hv => by
  have h1 := h j v hv
  rw [hB.cell (p := ⟨b, o + j, none⟩) (World.block_lt_of_cell? w _ h1)]
  exact h1
theorem Held.later {w w' : World} {b off len : Nat} {K : Nat → List Value} (h : Held w b off len K) (hB : Below w.heap.size w w') : Held w' b off len K :=
  ⟨h.id, fun i hi => rangeAt_below (h.row i hi) hB⟩

/-- The set of the first k IDs. -/
def keySet (kl : List Value → Lit) (K : Nat → List Value) (k : Nat) : DataW Unit := setOf (.lit (.bool true)) ((List.range k).map fun i => kl (K i))
theorem keySet_succ (kl : List Value → Lit) (K : Nat → List Value) (k : Nat) : keySet kl K (k + 1) = (keySet kl K k).put (kl (K k)) (.lit (.bool true)) := by
  unfold keySet
  rw [List.range_succ, List.map_append]
  exact setOf_snoc _ _ _

def resArr : Array Value := #[.slice none 0 0, .int .u64 0, .int .i64 0, .pointer none, .pointer none, .map none, .map none]
def repArr (m : Nat) : Array Value := #[.slice none 0 0, .int .u64 0, .int .i64 0, .pointer none, .pointer none, .map none, .map (some m)]
theorem heapNew {w : World} {o : Obj} {i : Nat} (h : i = w.heap.size) : (w.alloc o).heap[i]? = some o := by
  subst h; exact heap_alloc_new w o
theorem heapOld {w : World} {o x : Obj} {i : Nat} (h : i < w.heap.size) (h2 : w.heap[i]? = some x) : (w.alloc o).heap[i]? = some x := by
  rw [heap_alloc_old w o h]; exact h2
theorem lt_of_heap {w : World} {b : Nat} {o : Obj} (h : w.heap[b]? = some o) : b < w.heap.size := by
  by_cases hb : b < w.heap.size
  · exact hb
  · rw [Array.getElem?_eq_none (by omega)] at h; cases h
theorem cell_of_heap {w : World} {b : Nat} {cs : Array Value} {t : TypeId} {fr : Nat × Nat} (h : w.heap[b]? = some (.cells cs t fr)) (k : Nat) : w.cell? ⟨b, k, none⟩ = cs[k]? := by
  simp [World.cell?, h]
theorem free_of_heap {w : World} {b : Nat} {cs : Array Value} {t : TypeId} (h : w.heap[b]? = some (.cells cs t)) (k : Nat) : w.frozen? ⟨b, k, none⟩ = false := by
  simp [World.frozen?, h]
theorem info26 : (Yba.prog.info? 26).map (·.size) = some 20 := by kernel_rfl

/-- A whole array stored into a block that has just been laid. -/
theorem setCells_new (w : World) (t : TypeId) : ∀ (vs : List Value) (o : Nat) (c : Array Value), ∃ c' : Array Value, (w.alloc (.cells c t)).setCells w.heap.size o vs = w.alloc (.cells c' t) ∧ c'.size = c.size ∧
    ∀ j, c'[j]? = if o ≤ j ∧ j < o + vs.length ∧ j < c.size then vs[j - o]? else c[j]?
  | [], o, c => ⟨c, rfl, rfl, fun j => by rw [if_neg (by simp; omega)]⟩
  | v :: r, o, c => by
    obtain ⟨c', h1, h2, h3⟩ := setCells_new w t r (o + 1) (c.setIfInBounds o v)
    refine ⟨c', ?_, by rw [h2]; simp, fun j => ?_⟩
    · rw [World.setCells, World.setCell_alloc_at _ _ _ _ _ rfl]
      exact h1
    · rw [h3 j]
      by_cases hj : o + 1 ≤ j ∧ j < o + 1 + r.length ∧ j < (c.setIfInBounds o v).size
      · rw [if_pos hj, if_pos (by simp at hj ⊢; omega)]
        have e : j - o = (j - (o + 1)) + 1 := by omega
        rw [e, List.getElem?_cons_succ]
      · rw [if_neg hj]
        by_cases hjo : j = o
        · subst hjo
          by_cases hs : j < c.size
          · rw [if_pos (by simp; omega), Array.getElem?_setIfInBounds]
            simp [hs]
          · rw [if_neg (by omega), Array.getElem?_setIfInBounds]
            simp [hs]
        · rw [if_neg (by simp at hj ⊢; omega), Array.getElem?_setIfInBounds, if_neg (by omega)]
theorem setCells_whole (w : World) (t : TypeId) (vs : List Value) (c : Array Value) (h : vs.length = c.size) : (w.alloc (.cells c t)).setCells w.heap.size 0 vs = w.alloc (.cells vs.toArray t) := by
  obtain ⟨c', h1, h2, h3⟩ := setCells_new w t vs 0 c
  rw [h1]
  have : c' = vs.toArray := by
    apply Array.ext_getElem?
    intro j
    rw [h3 j]
    by_cases hj : j < c.size
    · rw [if_pos (by omega)]; simp
    · rw [if_neg (by omega), Array.getElem?_eq_none (by omega), Array.getElem?_eq_none (by simp; omega)]
  rw [this]

theorem there_new (w : World) (t : TypeId) (c : Array Value) (n : Nat) (h : n ≤ c.size) : (w.alloc (.cells c t)).there w.heap.size 0 n := fun j hj => by
  have e := cell_of_heap (heapNew (w := w) (o := .cells c t) rfl) (0 + j)
  refine ⟨?_, free_of_heap (heapNew rfl) _⟩
  rw [e]
  simp
  omega
theorem range_new (w : World) (t : TypeId) (cs : List Value) : (w.alloc (.cells cs.toArray t)).rangeAt w.heap.size 0 cs := fun j v hv => by
  rw [cell_of_heap (heapNew (w := w) rfl), Nat.zero_add]
  simpa using hv
theorem id_one {cs : List Value} (h : IsId cs) : cs.toArray.all (·.oneCell') = true := all_oneCell_toArray (fun v hv => by
  obtain ⟨n, rfl, _⟩ := h.2 v hv; rfl)

/-- Store of an ID into the block that has just been laid for it. -/
theorem wpList_store_id {ops : Array Oper} {rest : List Oper} {op : Oper} {a : Act} {W : World} {Q : Exit → Act → World → Prop} (hgd : op.guard = none) (x y : Operand) (ho : op.op = .store 26 x y)
    (w : World) (c : Array Value) (hW : W = w.alloc (.cells c 26)) (hc : c.size = 20) (cs : List Value) (hid : IsId cs) (hx : a.eval x = .pointer (some ⟨w.heap.size, 0, none⟩)) (hy : a.eval y = .agg cs.toArray)
    (h : wpList Yba.prog ops Q rest (a.put op.dst undef) (w.alloc (.cells cs.toArray 26))) : wpList Yba.prog ops Q (op :: rest) a W := by
  subst hW
  have hl : cs.toArray.size = 20 := by simpa using hid.1
  refine wpList_store_mid hgd 26 x y ho w.heap.size 0 cs.toArray hx hy (there_new w 26 c _ (by omega)) (by rw [info26, hl]) (id_one hid) ?_
  have e : (w.alloc (.cells c 26)).setCells w.heap.size 0 cs.toArray.toList = w.alloc (.cells cs.toArray 26) := setCells_whole w 26 cs c (by rw [hid.1, hc])
  rw [e]
  exact h

set_option maxHeartbeats 1000000 in
theorem newReplicas_any (a : Option Addr) (b off len cap : Nat) (ha : 0 < len → a = some ⟨b, off, none⟩) (K : Nat → List Value) (w : World) (hlen : len ≤ 1024) (hH : Held w b off len K) (kl : List Value → Lit) (hk : KeyFn kl) :
    Calls Yba.prog 6 #[.slice a len cap] w fun e w' => ∃ m, e = .returned (.agg #[.slice none 0 0, .int .u64 0, .int .i64 0, .pointer none, .pointer none, .map none, .map (some m)]) ∧ w.heap.size ≤ m ∧ w'.ownsMap Yba.prog 26 (plainElem Yba.prog 4) m len (keySet kl K len) ∧ Below w.heap.size w w' := by
  have hmm := @run_makeMap Yba.prog
  go_enter Yba.func6, Yba.ntmps6
  go_wp2
  go_loopw [10] (fun i wr => ∃ k : Nat, k ≤ len ∧ i = .int .i64 k ∧ wr.ownsMap Yba.prog 26 (plainElem Yba.prog 4) (w.heap.size + 1) k (keySet kl K k) ∧ wr.heap[w.heap.size]? = some (.cells resArr 37) ∧ wr.heap[w.heap.size + 1 + 1]? = some (.cells (repArr (w.heap.size + 1)) 37) ∧ Below w.heap.size w wr)
    (fun i _ => len - (intOf i).toNat)
  case atStart =>
    have e := ((World.ownsMap_made (w.alloc (.cells resArr 37)) Yba.prog 26 (plainElem (H := Unit) Yba.prog 4)).alloc (.cells (repArr (w.heap.size + 1)) 37))
    simp only [World.size_alloc] at e
    refine ⟨0, Nat.zero_le _, rfl, e, heapOld (by simp; omega) (heapOld (by simp) (heapNew rfl)), heapNew (by simp), ?_⟩
    exact ((((Below.refl _ _).alloc (Nat.le_refl _) _).alloc (by simp) _).alloc (by simp; omega) _)
  case round =>
    obtain ⟨k, hkl, rfl, hown, hres, hrep, hB⟩ := hrel
    by_cases hlt : k < len
    · have hid := hH.id k hlt
      have ha' := ha (by omega)
      subst ha'
      clear ha
      have hrow : wr.rangeAt b (off + k * 20) (K k) := rangeAt_below (hH.row k hlt) hB
      have hfield : wr.cell? ⟨w.heap.size + 1 + 1, 6, none⟩ = some (.map (some (w.heap.size + 1))) := by rw [cell_of_heap hrep]; rfl
      have hz := lt_of_heap hrep
      have hinf : (Yba.prog.info? 26).map (·.size) = some (K k).length := by rw [info26, hid.1]
      have hkm : k < maxLen := by unfold maxLen; omega
      have HR : Hid (wr.heap[w.heap.size]? = some (.cells resArr 37) ∧ wr.heap[w.heap.size + 1 + 1]? = some (.cells (repArr (w.heap.size + 1)) 37) ∧ Below w.heap.size w wr) := ⟨hres, hrep, hB⟩
      clear hres hrep hB
      go_wp2_with (first
        | (refine wpList_load_mid rfl 26 (.tmp 12) rfl b (off + k * 20) rfl (K k) _ hrow Yba.underlying26 rfl hinf ?_)
        | (refine wpList_store_id rfl (.tmp 5) (.tmp 13) rfl wr _ rfl rfl (K k) hid rfl rfl ?_)
        | (refine wpList_load_mid rfl 26 (.tmp 5) rfl wr.heap.size 0 rfl (K k) _ (range_new wr 26 (K k)) Yba.underlying26 rfl hinf ?_)
        | (at_mapUpdate; refine wpList_mapUpdate_own _ rfl (.tmp 15) (.tmp 16) _ 35 rfl 26 4 law Yba.underlying35 _ (w.heap.size + 1) k _ rfl (hown.alloc _) hkm _ _ _ rfl rfl (hk _ hid) _ [] (plainElem_bool Yba.underlying4 true) ?_; intro w1 hown1 hgrow1))
      obtain ⟨hres, hrep, hB⟩ := HR.out
      have g := hgrow1.block
      have R : w1.ownsMap Yba.prog 26 (plainElem Yba.prog 4) (w.heap.size + 1) (k + 1) (keySet kl K (k + 1)) ∧ w1.heap[w.heap.size]? = some (.cells resArr 37) ∧ w1.heap[w.heap.size + 1 + 1]? = some (.cells (repArr (w.heap.size + 1)) 37) ∧ Below w.heap.size w w1 := by
        refine ⟨by rw [keySet_succ]; exact hown1, ?_, ?_, ?_⟩
        · exact (g _ (by simp; omega) (by simp)).trans (heapOld (by omega) hres)
        · exact (g _ (by simp; omega) (by simp)).trans (heapOld (by omega) hrep)
        · exact (hB.alloc (by omega) _).grown hgrow1 (by simp; omega) (fun j hj => by cases hj; omega)
      clear hown1 hgrow1 g hres hrep hB
      go_roundw
      case rel => exact ⟨k + 1, by omega, by go_num, R⟩
      case measure => simp [intOf]; omega
    · have hkk : k = len := by omega
      subst hkk
      have c0 : wr.cell? ⟨w.heap.size + 1 + 1, 0, none⟩ = some (.slice none 0 0) := by rw [cell_of_heap hrep]; rfl
      have c1 : wr.cell? ⟨w.heap.size + 1 + 1, 1, none⟩ = some (.int .u64 0) := by rw [cell_of_heap hrep]; rfl
      have c2 : wr.cell? ⟨w.heap.size + 1 + 1, 2, none⟩ = some (.int .i64 0) := by rw [cell_of_heap hrep]; rfl
      have c3 : wr.cell? ⟨w.heap.size + 1 + 1, 3, none⟩ = some (.pointer none) := by rw [cell_of_heap hrep]; rfl
      have c4 : wr.cell? ⟨w.heap.size + 1 + 1, 4, none⟩ = some (.pointer none) := by rw [cell_of_heap hrep]; rfl
      have c5 : wr.cell? ⟨w.heap.size + 1 + 1, 5, none⟩ = some (.map none) := by rw [cell_of_heap hrep]; rfl
      have c6 : wr.cell? ⟨w.heap.size + 1 + 1, 6, none⟩ = some (.map (some (w.heap.size + 1))) := by rw [cell_of_heap hrep]; rfl
      have fz : ∀ i, wr.frozen? ⟨w.heap.size, i, none⟩ = false := free_of_heap hres
      have d0 : wr.cell? ⟨w.heap.size, 0, none⟩ = some (.slice none 0 0) := by rw [cell_of_heap hres]; rfl
      have d1 : wr.cell? ⟨w.heap.size, 1, none⟩ = some (.int .u64 0) := by rw [cell_of_heap hres]; rfl
      have d2 : wr.cell? ⟨w.heap.size, 2, none⟩ = some (.int .i64 0) := by rw [cell_of_heap hres]; rfl
      have d3 : wr.cell? ⟨w.heap.size, 3, none⟩ = some (.pointer none) := by rw [cell_of_heap hres]; rfl
      have d4 : wr.cell? ⟨w.heap.size, 4, none⟩ = some (.pointer none) := by rw [cell_of_heap hres]; rfl
      have d5 : wr.cell? ⟨w.heap.size, 5, none⟩ = some (.map none) := by rw [cell_of_heap hres]; rfl
      have d6 : wr.cell? ⟨w.heap.size, 6, none⟩ = some (.map none) := by rw [cell_of_heap hres]; rfl
      have HR : Hid (wr.ownsMap Yba.prog 26 (plainElem Yba.prog 4) (w.heap.size + 1) k (keySet kl K k) ∧ Below w.heap.size w wr) := ⟨hown, hB⟩
      clear hown hB hres hrep
      go_wp2
      refine bodyPost_ret (v := .agg (repArr (w.heap.size + 1))) (by simp [results, Yba.results6, go_sem, d0, d1, d2, d3, d4, d5, d6, repArr]) rfl ⟨w.heap.size + 1, rfl, by omega, ?_, ?_⟩
      · have hne : ∀ j, w.heap.size + 1 ≠ (⟨w.heap.size, j, none⟩ : Addr).block := fun j => by simp
        exact ((((((HR.out.1.setCell (hne 0) _).setCell (hne 1) _).setCell (hne 2) _).setCell (hne 3) _).setCell (hne 4) _).setCell (hne 5) _).setCell (hne 6) _
      · have hge : ∀ j, w.heap.size ≤ (⟨w.heap.size, j, none⟩ : Addr).block := fun j => by simp
        exact ((((((HR.out.2.setCell (hge 0) _).setCell (hge 1) _).setCell (hge 2) _).setCell (hge 3) _).setCell (hge 4) _).setCell (hge 5) _).setCell (hge 6) _
end Go.Proofs.Ybulkddpu
