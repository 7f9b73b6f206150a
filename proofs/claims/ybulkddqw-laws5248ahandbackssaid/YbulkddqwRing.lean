/-
  The ring of 256 points: zzs5248aid, zzs5248awithin, NodeID.Len, bytes.Compare, distance.compare, within, walked for every point.
-/
import Derived.Test.YbulkddqwClock
import Derived.Lib.Bytealg
namespace Go.Proofs.Ybulkddqw
open Go.RowKit

/-! ### The ring of 256 points -/
/-- The bytes of a point's Node-ID. -/
def idb (x : Int) : Nat → Int := fun j => if j = 0 then x else 0
/-- The Node-ID of point x. -/
def idv (x : Int) : Value := .agg (nl 16 (idb x)).toArray
theorem idb_byte {x : Int} (h0 : 0 ≤ x) (h1 : x ≤ 255) : ∀ j, j < 20 → 0 ≤ idb x j ∧ idb x j ≤ 255 := fun j _ => by unfold idb; split <;> omega
theorem i26 (n : Int) (a : Nat → Int) : (Yba.prog.info? 26).map (·.size) = some (nl n a).length := by rw [info26, length_nl]
theorem nl_heap {w : World} {b : Nat} {n : Int} {a : Nat → Int} {t : TypeId} (h : w.heap[b]? = some (.cells (nl n a).toArray t)) : w.rangeAt b 0 (nl n a) := range_of_heap h (fun j hj => by simp)

set_option maxRecDepth 100000 in
theorem aid_any (x : Int) (w : World) :
    Calls Yba.prog 6 #[.int .u8 x] w fun e w' => e = .returned (idv x) ∧ Below w.heap.size w w' := by
  go_enter Yba.func6, Yba.ntmps6
  go_upto_region 2 with fail
  refine wp_world (fun W => (∃ c1 : Array Value, W.heap[w.heap.size]? = some (.cells c1 26) ∧ c1.size = 21) ∧ W.heap[w.heap.size + 1]? = some (.cells (nl 0 (fun _ => 0)).toArray 26) ∧ Below w.heap.size w W)
    ⟨⟨_, heapOld (by simp) (heapNew rfl), rfl⟩, heapNew (by simp), ((Below.refl _ _).alloc (Nat.le_refl _) _).alloc (by simp) _⟩ ?_
  rintro W ⟨⟨c1, h1, hc1⟩, h2, hB⟩
  have e0 : ∃ v, W.cell? ⟨w.heap.size + 1, 0, none⟩ = some v := ⟨_, by rw [cell_of_heap h2]; rfl⟩
  obtain ⟨v0, e0⟩ := e0
  have f0 : W.frozen? ⟨w.heap.size + 1, 0, none⟩ = false := free_of_heap h2 _
  have HG : Hid _ := And.intro h1 (And.intro h2 hB)
  clear h1 h2 hB
  go_upto_region 3 with fail
  clear e0 f0
  refine wp_world (fun W => W.heap[w.heap.size]? = some (.cells c1 26) ∧ W.heap[w.heap.size + 1]? = some (.cells (nl 16 (fun _ => 0)).toArray 26) ∧ Below w.heap.size w W)
    ⟨(Below.heap_setCell _ _ _ _ (by simp)).trans HG.out.1, set_same HG.out.2.1 _ rfl, HG.out.2.2.setCell (p := ⟨w.heap.size + 1, 0, none⟩) (by simp) _⟩ ?_
  clear HG
  rintro W2 ⟨h1, h2, hB⟩
  have e0 : ∃ v, W2.cell? ⟨w.heap.size + 1, 1, none⟩ = some v := ⟨_, by rw [cell_of_heap h2]; rfl⟩
  obtain ⟨v1, e0⟩ := e0
  have f0 : W2.frozen? ⟨w.heap.size + 1, 1, none⟩ = false := free_of_heap h2 _
  have HG : Hid _ := And.intro h1 (And.intro h2 hB)
  clear h1 h2 hB
  go_upto_region 4 with fail
  clear e0 f0
  refine wp_world (fun W => W.heap[w.heap.size]? = some (.cells c1 26) ∧ W.heap[w.heap.size + 1]? = some (.cells (nl 16 (idb x)).toArray 26) ∧ Below w.heap.size w W)
    ⟨(Below.heap_setCell _ _ _ _ (by simp)).trans HG.out.1, set_same HG.out.2.1 _ rfl, HG.out.2.2.setCell (p := ⟨w.heap.size + 1, 1, none⟩) (by simp) _⟩ ?_
  clear HG
  rintro W' ⟨g1, g2, gB⟩
  have r2 := nl_heap g2
  have t1 : W'.there w.heap.size 0 (nl 16 (idb x)).length := there_of_heap g1 (by rw [length_nl]; omega)
  have i2 := i26 16 (idb x)
  have o2 := one_nl 16 (idb x)
  have HW : Hid ((W'.setCells w.heap.size 0 (nl 16 (idb x))).heap[w.heap.size]? = some (.cells (nl 16 (idb x)).toArray 26) ∧ Below w.heap.size w (W'.setCells w.heap.size 0 (nl 16 (idb x)))) := by
    refine ⟨heap_setCells_to g1 _ (fun j => ?_), below_setCells _ (by omega) _ _ _ gB⟩
    rw [length_nl]
    by_cases hj : j < 21
    · rw [if_pos (by omega)]; simp
    · rw [if_neg (by omega), Array.getElem?_eq_none (by rw [size_nl]; omega), Array.getElem?_eq_none (by omega)]
  clear g2 g1 gB
  go_wp2_with (first | (refine wpL_load 26 rfl (.tmp 3) rfl (nl 16 (idb x)) _ Yba.underlying26 rfl i2 _ _ rfl r2 ?_) | (refine wpL_store 26 rfl (.tmp 2) (.tmp 8) rfl (nl 16 (idb x)) i2 o2 _ _ rfl rfl t1 ?_; clear r2 t1 i2 o2))
  have hrg : (W'.setCells w.heap.size 0 (nl 16 (idb x))).rangeAt w.heap.size 0 (nl 16 (idb x)) := range_of_heap HW.out.1 (fun j hj => by simp)
  exact bodyPost_ret (v := idv x) (results_cell (b := w.heap.size) (o := 0) rfl rfl (result_row hrg Yba.underlying26 rfl (by rw [info26, length_nl]))) rfl ⟨rfl, HW.out.2⟩

/-- On the ring of 256 points: x lies clockwise after a and at or before b. -/
def wi (x a b : Int) : Bool := decide ((b - x) % 256 < (b - a) % 256)

theorem awithin_any (x a b : Int) (hx : 0 ≤ x ∧ x ≤ 255) (ha : 0 ≤ a ∧ a ≤ 255) (hb : 0 ≤ b ∧ b ≤ 255) (w : World) :
    Calls Yba.prog 8 #[.int .u8 x, .int .u8 a, .int .u8 b] w fun e w' => e = .returned (.bool (wi x a b)) ∧ w' = w := by
  obtain ⟨x0, x1⟩ := hx
  obtain ⟨a0, a1⟩ := ha
  obtain ⟨b0, b1⟩ := hb
  go_enter Yba.func8, Yba.ntmps8
  go_wp2
  go_ret
  exact ⟨rfl, rfl⟩

theorem len_any (n : Int) (hn0 : 0 ≤ n) (hn : n ≤ 255) (a : Nat → Int) (w : World) :
    Calls Yba.prog 14 #[.agg (nl n a).toArray] w fun e w' => e = .returned (.int .i64 n) ∧ Below w.heap.size w w' := by
  go_enter Yba.func14, Yba.ntmps14
  go_upto_region 1 with fail
  refine wp_world (fun W => W.heap[w.heap.size]? = some (.cells (nl n a).toArray 26) ∧ Below w.heap.size w W) ⟨heapNew rfl, (Below.refl _ _).alloc (Nat.le_refl _) _⟩ ?_
  rintro W ⟨h1, hB⟩
  have e0 : W.cell? ⟨w.heap.size, 0, none⟩ = some (.int .u8 n) := by rw [cell_of_heap h1]; rfl
  clear h1
  go_wp2
  go_ret
  exact ⟨rfl, hB⟩
theorem run_loadBytes {P : Program} (w : World) (b : Nat) : ∀ (zs : List Int) (o : Nat) (acc : ByteArray), w.rangeAt b o (zs.map (Value.int .u8)) →
    (Extern.Bytes.loadBytes ⟨b, o, none⟩ zs.length acc).run P w = .ok (zs.foldl (fun acc z => acc.push z.toNat.toUInt8) acc) w
  | [], _, _, _ => rfl
  | z :: zs, o, acc, h => by
    have h0 : w.cell? ⟨b, o, none⟩ = some (.int .u8 z) := h 0 _ rfl
    have h1 : w.rangeAt b (o + 1) (zs.map (Value.int .u8)) := fun j v hv => by
      have := h (j + 1) v (by simpa using hv)
      rw [show o + 1 + j = o + (j + 1) by omega]; exact this
    have ih := run_loadBytes (P := P) w b zs (o + 1) (acc.push z.toNat.toUInt8) h1
    rw [List.length_cons, Extern.Bytes.loadBytes]
    have e : (⟨b, o, none⟩ : Addr).add 1 = ⟨b, o + 1, none⟩ := by rw [Addr.add_mid]
    go_simp
theorem fold_bytes : ∀ (zs : List Int) (acc : ByteArray), (zs.foldl (fun acc z => acc.push z.toNat.toUInt8) acc).data.toList = acc.data.toList ++ zs.map (fun z => z.toNat.toUInt8)
  | [], acc => by simp
  | z :: zs, acc => by rw [List.foldl_cons, fold_bytes zs]; simp [ByteArray.push]

def zl (a : Nat → Int) : List Int := (List.range 20).map a
theorem bl_zl (a : Nat → Int) : bl a = (zl a).map (Value.int .u8) := by simp [bl, zl]
/-- How the bytes of a and b compare. -/
def cb (a b : Nat → Int) : Int := Lib.compareBytes ((zl a).map (fun z => z.toNat.toUInt8)) ((zl b).map (fun z => z.toNat.toUInt8))
theorem run_compare {P : Program} (w : World) (b1 b2 : Nat) (a b : Nat → Int) (c1 c2 : Nat) (h1 : w.rangeAt b1 0 (bl a)) (h2 : w.rangeAt b2 0 (bl b)) :
    (Extern.BytealgCompare.compare #[.slice (some ⟨b1, 0, none⟩) 20 c1, .slice (some ⟨b2, 0, none⟩) 20 c2]).run P w = .ok (.int .i64 (cb a b)) w := by
  change Sem.run P (do pure (goInt (Extern.BytealgCompare.cmp (← Extern.Bytes.bytesOf (.slice (some ⟨b1, 0, none⟩) 20 c1)) (← Extern.Bytes.bytesOf (.slice (some ⟨b2, 0, none⟩) 20 c2))))) w = _
  have e1 := run_loadBytes (P := P) w b1 (zl a) 0 .empty (by rw [← bl_zl]; exact h1)
  have e2 := run_loadBytes (P := P) w b2 (zl b) 0 .empty (by rw [← bl_zl]; exact h2)
  have l1 : (zl a).length = 20 := by simp [zl]
  have l2 : (zl b).length = 20 := by simp [zl]
  rw [l1] at e1
  rw [l2] at e2
  simp only [Extern.Bytes.bytesOf, Sem.run_bind, e1, e2, Sem.run_pure, Result.andThen]
  rw [Lib.cmp_eq, fold_bytes, fold_bytes]
  rfl
theorem compare_same : ∀ l : List UInt8, Lib.compareBytes l l = 0
  | [] => rfl
  | a :: l => by unfold Lib.compareBytes; rw [if_neg (UInt8.lt_irrefl a), if_neg (UInt8.lt_irrefl a), compare_same l]
theorem lt_u8 {p q : Int} (hp : 0 ≤ p ∧ p ≤ 255) (hq : 0 ≤ q ∧ q ≤ 255) : p.toNat.toUInt8 < q.toNat.toUInt8 ↔ p < q := by
  rw [UInt8.lt_iff_toNat_lt]
  have e : ∀ z : Int, 0 ≤ z ∧ z ≤ 255 → z.toNat.toUInt8.toNat = z.toNat := fun z hz => by
    simp
    omega
  rw [e p hp, e q hq]
  omega
theorem zl_idb (p : Int) : zl (idb p) = p :: List.replicate 19 0 := by
  simp [zl, idb, List.range_succ]
theorem compare_ids (p q : Int) (hp : 0 ≤ p ∧ p ≤ 255) (hq : 0 ≤ q ∧ q ≤ 255) :
    cb (idb p) (idb q) = if p < q then -1 else if q < p then 1 else 0 := by
  unfold cb
  rw [zl_idb, zl_idb, List.map_cons, List.map_cons]
  unfold Lib.compareBytes
  simp only [lt_u8 hp hq, lt_u8 hq hp, compare_same]

set_option maxRecDepth 100000 in
theorem bcompare_any (b1 b2 : Nat) (a b : Nat → Int) (w : World) (h1 : w.rangeAt b1 0 (bl a)) (h2 : w.rangeAt b2 0 (bl b)) :
    Calls Yba.prog 17 #[.slice (some ⟨b1, 0, none⟩) 20 20, .slice (some ⟨b2, 0, none⟩) 20 20] w fun e w' =>
      e = .returned (.int .i64 (cb a b)) ∧ w' = w := by
  go_enter Yba.func17, Yba.ntmps17
  go_wp2
  rw [run_callFunc_extern Yba.func18 (by kernel_rfl) (by kernel_rfl) (by kernel_rfl) (e := Extern.BytealgCompare.compare) (by kernel_rfl), run_compare w b1 b2 a b 20 20 h1 h2]
  simp only [Result.andThen]
  rw [Oper.upon_value]
  go_wp2
  go_ret
  exact ⟨rfl, rfl⟩

set_option maxRecDepth 100000 in
theorem compare_any (a b : Nat → Int) (w : World) :
    Calls Yba.prog 16 #[.agg (bl a).toArray, .agg (bl b).toArray] w fun e w' =>
      e = .returned (.int .i64 (cb a b)) ∧ Below w.heap.size w w' := by
  go_enter Yba.func16, Yba.ntmps16
  go_upto_region 1 with fail
  refine wp_world (fun W => W.rangeAt w.heap.size 0 (bl a) ∧ W.rangeAt (w.heap.size + 1) 0 (bl b) ∧ Below w.heap.size w W)
    ⟨range_of_heap (heapOld (by simp) (heapNew rfl)) (fun j hj => by simp), range_of_heap (heapNew (by simp)) (fun j hj => by simp), ((Below.refl _ _).alloc (Nat.le_refl _) _).alloc (by simp) _⟩ ?_
  rintro W ⟨h1, h2, hB⟩
  go_region_held3 (fun w' => w'.rangeAt w.heap.size 0 (bl a) ∧ w'.rangeAt (w.heap.size + 1) 0 (bl b) ∧ Below w.heap.size w w') (first | exact ⟨h1, h2, hB.drew⟩ | assumption) ((go_at_call 17; refine (bcompare_any _ _ a b W.drew h1 h2).mono ?_; rintro e w' ⟨rfl, rfl⟩))
  go_wp2
  go_ret
  exact ⟨rfl, hB.drew⟩

/-- The three boxes of 'within'. -/
def Three (B : Nat) (w : World) (x a b : Int) (W : World) : Prop := W.heap[B]? = some (.cells (nl 16 (idb x)).toArray 26) ∧ W.heap[B + 1]? = some (.cells (nl 16 (idb a)).toArray 26) ∧ W.heap[B + 1 + 1]? = some (.cells (nl 16 (idb b)).toArray 26) ∧ Below B w W
theorem Three.later {B : Nat} {w W W' : World} {x a b : Int} (h : Three B w x a b W) (k : Below W.heap.size W W') : Three B w x a b W' :=
  have l0 := lt_of_heap h.1
  ⟨(k.block _ l0).trans h.1, (k.block _ (lt_of_heap h.2.1)).trans h.2.1, (k.block _ (lt_of_heap h.2.2.1)).trans h.2.2.1, h.2.2.2.trans (k.mono (by omega))⟩
theorem bor_ids (x b : Int) : ∀ k, k ≤ 15 → bor 16 (idb x) (idb b) k = 0
  | 0, _ => rfl
  | k + 1, h => by
    have e := bor_ids x b k (by omega)
    unfold bor
    rw [e, if_neg]
    unfold idb
    rw [if_neg (by omega), if_neg (by omega)]
    omega
theorem dist_ids (x b : Int) : bl (dist 16 (idb x) (idb b)) = bl (idb ((b - x) % 256)) := bl_congr (fun j hj => by
  unfold dist
  by_cases h : j < 16
  · rw [if_pos h, bor_ids x b _ (by omega)]
    unfold idb
    by_cases h0 : j = 0
    · rw [if_pos h0, if_pos h0, if_pos h0]; omega
    · rw [if_neg h0, if_neg h0, if_neg h0]; rfl
  · rw [if_neg h]; unfold idb; rw [if_neg (by omega)])
theorem clock_ids (x b : Int) (hx : 0 ≤ x ∧ x ≤ 255) (hb : 0 ≤ b ∧ b ≤ 255) (w : World) :
    Calls Yba.prog 10 #[.agg (nl 16 (idb x)).toArray, .agg (nl 16 (idb b)).toArray] w fun e w' => e = .returned (.agg (bl (idb ((b - x) % 256))).toArray) ∧ Below w.heap.size w w' := by
  have := clockwise_any 16 (by omega) (idb x) (idb b) (idb_byte hx.1 hx.2) (idb_byte hb.1 hb.2) w
  rw [dist_ids] at this
  exact this
theorem wi_cb (x a b : Int) : decide (cb (idb ((b - x) % 256)) (idb ((b - a) % 256)) < 0) = wi x a b := by
  rw [compare_ids _ _ (by omega) (by omega)]
  unfold wi
  by_cases h : (b - x) % 256 < (b - a) % 256
  · rw [if_pos h]; simp [h]
  · rw [if_neg h]
    by_cases h2 : (b - a) % 256 < (b - x) % 256
    · rw [if_pos h2]; simp [h]
    · rw [if_neg h2]; simp [h]
set_option maxRecDepth 100000 in
set_option maxHeartbeats 1000000 in
theorem within_any (x a b : Int) (hx : 0 ≤ x ∧ x ≤ 255) (ha : 0 ≤ a ∧ a ≤ 255) (hb : 0 ≤ b ∧ b ≤ 255) (w : World) :
    Calls Yba.prog 15 #[idv x, idv a, idv b] w fun e w' => e = .returned (.bool (wi x a b)) ∧ Below w.heap.size w w' := by
  unfold idv
  go_enter Yba.func15, Yba.ntmps15
  go_upto_region 1 with fail
  refine wp_world (Three w.heap.size w x a b) ⟨heapOld (by simp; omega) (heapOld (by simp) (heapNew rfl)), heapOld (by simp) (heapNew (by simp)), heapNew (by simp), (((Below.refl _ _).alloc (Nat.le_refl _) _).alloc (by simp) _).alloc (by simp; omega) _⟩ ?_
  intro W hT
  refine wp_region_held_drew (S := Three w.heap.size w x a b) (by kernel_rfl) ⟨hT.1, hT.2.1, hT.2.2.1, hT.2.2.2.drew⟩ (fun hT1 => ?_)
  clear hT
  refine wpAnyH_take (i := 0) (oi := _) (v := _) rfl (by kernel_rfl) (by kernel_rfl) (by kernel_rfl) (fun _ _ _ h => h) (yieldsIf_load_mid (by rfl) 26 (.tmp 3) rfl w.heap.size 0 rfl (nl 16 (idb x)) _ (fun _ h => nl_heap h.1) Yba.underlying26 rfl (i26 16 _)) hT1 ?_
  simp only [Act.put]
  refine wpAnyH_take (i := 1) (oi := _) (v := _) rfl (by kernel_rfl) (by kernel_rfl) (by kernel_rfl) (fun _ _ _ h => h) (yieldsIf_load_mid (by rfl) 26 (.tmp 5) rfl (w.heap.size + 1 + 1) 0 rfl (nl 16 (idb b)) _ (fun _ h => nl_heap h.2.2.1) Yba.underlying26 rfl (i26 16 _)) hT1 ?_
  simp only [Act.put]
  refine wpAnyH_take (i := 3) (oi := _) (v := _) rfl (by kernel_rfl) (by kernel_rfl) (by kernel_rfl) (fun _ _ _ h => h) (yieldsIf_load_mid (by rfl) 26 (.tmp 4) rfl (w.heap.size + 1) 0 rfl (nl 16 (idb a)) _ (fun _ h => nl_heap h.2.1) Yba.underlying26 rfl (i26 16 _)) hT1 ?_
  simp only [Act.put]
  refine wpAnyH_take (i := 4) (oi := _) (v := _) rfl (by kernel_rfl) (by kernel_rfl) (by kernel_rfl) (fun _ _ _ h => h) (yieldsIf_load_mid (by rfl) 26 (.tmp 5) rfl (w.heap.size + 1 + 1) 0 rfl (nl 16 (idb b)) _ (fun _ h => nl_heap h.2.2.1) Yba.underlying26 rfl (i26 16 _)) hT1 ?_
  simp only [Act.put]
  refine wpAnyH_ready (rs := [2]) (by kernel_rfl) (by simp) ?_
  refine AllReadyH.cons (i := 2) rfl (fun K hK => ?_) AllReadyH.nil
  rw [if_pos (by rfl)]
  go_simp
  refine (clock_ids x b hx hb _).mono ?_
  rintro e W1 ⟨rfl, b1⟩
  refine hK.out _ _ (hT1.later b1) (fun hT2 => ?_)
  clear hK K hT1 b1
  refine wpAnyH_ready (rs := [5]) (by kernel_rfl) (by simp) ?_
  refine AllReadyH.cons (i := 5) rfl (fun K hK => ?_) AllReadyH.nil
  rw [if_pos (by rfl)]
  go_simp
  refine (clock_ids a b ha hb _).mono ?_
  rintro e W2 ⟨rfl, b2⟩
  refine hK.out _ _ (hT2.later b2) (fun hT3 => ?_)
  clear hK K hT2 b2
  refine wpAnyH_ready (rs := [6]) (by kernel_rfl) (by simp) ?_
  refine AllReadyH.cons (i := 6) rfl (fun K hK => ?_) AllReadyH.nil
  rw [if_pos (by rfl)]
  go_simp
  refine (compare_any _ _ _).mono ?_
  rintro e W3 ⟨rfl, b3⟩
  refine hK.out _ _ (hT3.later b3) (fun hT4 => ?_)
  clear hK K hT3 b3
  refine wpAnyH_ready (rs := [7]) (by kernel_rfl) (by simp) ?_
  refine AllReadyH.cons (i := 7) rfl (fun K hK => ?_) AllReadyH.nil
  rw [if_pos (by rfl)]
  go_simp
  refine hK.out _ _ hT4 (fun hT5 => ?_)
  clear hK K
  rw [wi_cb]
  refine wpAnyH_ready (rs := [8]) (by kernel_rfl) (by simp) ?_
  refine AllReadyH.cons (i := 8) rfl (fun K hK => ?_) AllReadyH.nil
  rw [if_pos (by rfl)]
  go_simp
  refine hK.out _ _ hT4 (fun hT5 => ?_)
  clear hK K
  refine wpAnyH_done (by kernel_rfl) ?_ _
  go_wp2
  go_ret
  exact ⟨rfl, hT4.2.2.2⟩
end Go.Proofs.Ybulkddqw
