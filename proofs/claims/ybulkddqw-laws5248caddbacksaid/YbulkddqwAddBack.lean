/-
  LawS5248CAddBack (number 4), walked for every sel and every two arrays of 20 bytes. Region 2 (it draws its order) is walked by hand: two loads of long arrays, three calls, an alloc that may come at any time, a store.
-/
import Derived.Test.YbulkddqwClock
namespace Go.Proofs.Ybulkddqw
open Go.RowKit
/-- The two boxes stand, and nothing elder is touched. -/
def Two (B : Nat) (w : World) (a b : Nat → Int) (W : World) : Prop := W.heap[B]? = some (.cells (bl a).toArray 24) ∧ W.heap[B + 1]? = some (.cells (bl b).toArray 24) ∧ Below B w W
theorem Two.later {B : Nat} {w W W' : World} {a b : Nat → Int} (h : Two B w a b W) (k : Below W.heap.size W W') : Two B w a b W' :=
  have l0 := lt_of_heap h.1
  ⟨(k.block _ l0).trans h.1, (k.block _ (lt_of_heap h.2.1)).trans h.2.1, h.2.2.trans (k.mono (by omega))⟩
theorem Two.r0 {B : Nat} {w W : World} {a b : Nat → Int} (h : Two B w a b W) : W.rangeAt B 0 (bl a) := range_of_heap h.1 (fun j hj => by simp)
theorem Two.r1 {B : Nat} {w W : World} {a b : Nat → Int} (h : Two B w a b W) : W.rangeAt (B + 1) 0 (bl b) := range_of_heap h.2.1 (fun j hj => by simp)
theorem i24 (a : Nat → Int) : (Yba.prog.info? 24).map (·.size) = some (bl a).length := by rw [info24, length_bl]

/-- The third box, made in the region. -/
def Box (B db : Nat) (W : World) : Prop := B + 2 ≤ db ∧ ∃ c : Array Value, W.heap[db]? = some (.cells c 63) ∧ c.size = 20
theorem Box.later {B db : Nat} {W W' : World} (h : Box B db W) (k : Below W.heap.size W W') : Box B db W' := by
  obtain ⟨h1, c, h2, h3⟩ := h
  exact ⟨h1, c, (k.block _ (lt_of_heap h2)).trans h2, h3⟩
theorem Box.make {B : Nat} {w W : World} {a b : Nat → Int} (h : Two B w a b W) {c : Array Value} (hc : c.size = 20) : Box B W.heap.size (W.alloc (.cells c 63)) :=
  ⟨lt_of_heap h.2.1, c, heapNew rfl, hc⟩
theorem Box.there {B db : Nat} {W : World} (h : Box B db W) (d : Nat → Int) : W.there db 0 (bl d).toArray.size := by
  obtain ⟨h1, c, h2, h3⟩ := h
  exact there_of_heap h2 (by rw [size_bl]; omega)
theorem Box.store {B db : Nat} {w W : World} {a b : Nat → Int} (h : Box B db W) (k : Two B w a b W) (d : Nat → Int) :
    (W.setCells db 0 (bl d).toArray.toList).heap[db]? = some (.cells (bl d).toArray 63) ∧ Two B w a b (W.setCells db 0 (bl d).toArray.toList) := by
  obtain ⟨h1, c, h2, h3⟩ := h
  refine ⟨heap_setCells_to h2 _ (fun j => ?_), (heap_setCells_other _ _ _ _ _ (by omega)).trans k.1, (heap_setCells_other _ _ _ _ _ (by omega)).trans k.2.1, below_setCells _ (by omega) _ _ _ k.2.2⟩
  rw [List.toList_toArray, length_bl]
  by_cases hj : j < 20
  · rw [if_pos (by omega)]; simp
  · rw [if_neg (by omega), Array.getElem?_eq_none (by rw [size_bl]; omega), Array.getElem?_eq_none (by omega)]
theorem i63 (a : Nat → Int) : (Yba.prog.info? 63).map (·.size) = some (bl a).toArray.size := by rw [info63, size_bl]

/-! ### The plain law: the distance laid upon a gives b -/
theorem dist_out {n j : Nat} {a b : Nat → Int} (h : n ≤ j) : dist n a b j = 0 := by unfold dist; rw [if_neg (by omega)]
theorem dist_byte (n : Nat) (a b : Nat → Int) (j : Nat) : 0 ≤ dist n a b j ∧ dist n a b j ≤ 255 := by
  unfold dist; split <;> omega
theorem dist_back {n k i0 : Nat} {a b : Nat → Int} (hk : k < n) (hi : i0 = n - 1 - k) (ha : 0 ≤ a i0 ∧ a i0 ≤ 255) (hb : 0 ≤ b i0 ∧ b i0 ≤ 255) :
    (bor n a b (k + 1) = 0 ∧ a i0 + dist n a b i0 + bor n a b k = b i0) ∨ (bor n a b (k + 1) = 1 ∧ a i0 + dist n a b i0 + bor n a b k = b i0 + 256) := by
  obtain ⟨c0, c1⟩ := bor_01 n a b k
  have hd : dist n a b i0 = (b i0 - a i0 - bor n a b k) % 256 := by
    unfold dist; rw [if_pos (by omega)]
    have : n - 1 - i0 = k := by omega
    rw [this]
  by_cases hneg : b i0 - a i0 - bor n a b k < 0
  · exact .inr ⟨bor_neg hi hneg, by rw [hd]; omega⟩
  · exact .inl ⟨bor_pos hi (by omega), by rw [hd]; omega⟩

set_option maxRecDepth 100000 in
set_option maxHeartbeats 1000000 in
theorem addBack_any (s : Int) (hs0 : 0 ≤ s) (hs1 : s ≤ 255) (a b : Nat → Int) (ha : ∀ j, j < 20 → 0 ≤ a j ∧ a j ≤ 255) (hb : ∀ j, j < 20 → 0 ≤ b j ∧ b j ≤ 255) (w : World) :
    Calls Yba.prog 4 #[.int .u8 s, .agg (bl a).toArray, .agg (bl b).toArray] w fun e w' => e = .returned (.bool true) ∧ Below w.heap.size w w' := by
  go_enter Yba.func4, Yba.ntmps4
  go_upto_region 2 with fail
  obtain ⟨n, hn⟩ : ∃ n : Nat, s % 21 = (n : Int) := ⟨(s % 21).toNat, by omega⟩
  have hn20 : n ≤ 20 := by omega
  rw [hn]
  refine wp_world (Two w.heap.size w a b) ⟨heapOld (by simp) (heapNew rfl), heapNew (by simp), ((Below.refl _ _).alloc (Nat.le_refl _) _).alloc (by simp) _⟩ ?_
  intro W hT
  clear hn
  go_cut [8] (fun s8 w8 => ∃ db, s8 = .pointer (some ⟨db, 0, none⟩) ∧ w8.heap[db]? = some (.cells (bl (dist n a b)).toArray 63) ∧ Two w.heap.size w a b w8)
  case first =>
    refine wp_region_held_drew (S := Two w.heap.size w a b) (by kernel_rfl) ⟨hT.1, hT.2.1, hT.2.2.drew⟩ (fun hT1 => ?_)
    clear hT
    refine wpAnyH_take (i := 0) (oi := _) (v := .int .i64 n) rfl (by kernel_rfl) (by kernel_rfl) (by kernel_rfl) (fun _ _ _ h => h) (Or.inl ⟨by rfl, fun _ _ => by go_simp⟩) hT1 ?_
    simp only [Act.put]
    refine wpAnyH_take (i := 1) (oi := _) (v := _) rfl (by kernel_rfl) (by kernel_rfl) (by kernel_rfl) (fun _ _ _ h => h) (yieldsIf_load_mid (by rfl) 24 (.tmp 4) rfl w.heap.size 0 rfl (bl a) _ (fun _ h => h.r0) Yba.underlying24 rfl (i24 a)) hT1 ?_
    simp only [Act.put]
    refine wpAnyH_take (i := 3) (oi := _) (v := .int .i64 n) rfl (by kernel_rfl) (by kernel_rfl) (by kernel_rfl) (fun _ _ _ h => h) (Or.inl ⟨by rfl, fun _ _ => by go_simp⟩) hT1 ?_
    simp only [Act.put]
    refine wpAnyH_take (i := 4) (oi := _) (v := _) rfl (by kernel_rfl) (by kernel_rfl) (by kernel_rfl) (fun _ _ _ h => h) (yieldsIf_load_mid (by rfl) 24 (.tmp 5) rfl (w.heap.size + 1) 0 rfl (bl b) _ (fun _ h => h.r1) Yba.underlying24 rfl (i24 b)) hT1 ?_
    simp only [Act.put]
    refine wpAnyH_ready (rs := [2, 7]) (by kernel_rfl) (by simp) ?_
    refine AllReadyH.cons (i := 2) rfl (fun K hK => ?_) ?_
    · rw [if_pos (by rfl)]
      go_simp
      refine (cid_any n hn20 a _).mono ?_
      rintro e W2 ⟨rfl, b2⟩
      refine hK.out _ _ (hT1.later b2) (fun hT2 => ?_)
      clear hK K hT1 b2
      refine wpAnyH_ready (rs := [5, 7]) (by kernel_rfl) (by simp) ?_
      refine AllReadyH.cons (i := 5) rfl (fun K hK => ?_) ?_
      · rw [if_pos (by rfl)]
        go_simp
        refine (cid_any n hn20 b _).mono ?_
        rintro e W3 ⟨rfl, b3⟩
        refine hK.out _ _ (hT2.later b3) (fun hT3 => ?_)
        clear hK K hT2 b3
        refine wpAnyH_ready (rs := [6, 7]) (by kernel_rfl) (by simp) ?_
        refine AllReadyH.cons (i := 6) rfl (fun K hK => ?_) ?_
        · rw [if_pos (by rfl)]
          go_simp
          refine (clockwise_any n hn20 a b ha hb _).mono ?_
          rintro e W4 ⟨rfl, b4⟩
          refine hK.out _ _ (hT3.later b4) (fun hT4 => ?_)
          clear hK K hT3 b4
          refine wpAnyH_ready (rs := [7]) (by kernel_rfl) (by simp) ?_
          refine AllReadyH.cons (i := 7) rfl (fun K hK => ?_) ?_
          · rw [if_pos (by rfl)]
            go_simp
            have hD5 := Box.make hT4 (c := (bl (fun _ => 0)).toArray) rfl
            refine hK.out _ _ (hT4.later ((Below.refl _ _).alloc (Nat.le_refl _) _)) (fun hT5 => ?_)
            clear hK K hT4
            refine wpAnyH_ready (rs := [8]) (by kernel_rfl) (by simp) ?_
            refine AllReadyH.cons (i := 8) rfl (fun K hK => ?_) ?_
            · rw [if_pos (by rfl)]
              refine wp_store_mid 63 (.tmp 8) (.tmp 22) rfl _ 0 (bl (dist n a b)).toArray rfl rfl (hD5.there _) (i63 _) (all_oneCell_toArray (one_bl _)) ?_
              have hE := hD5.store hT5 (dist n a b)
              refine hK.out _ _ hE.2 (fun hT9 => ?_)
              clear hK K hT5 hD5
              refine wpAnyH_done (by kernel_rfl) ?_ _
              go_wp2
              go_meet
              case rel => exact ⟨_, rfl, hE⟩
            exact AllReadyH.nil
          exact AllReadyH.nil
        refine AllReadyH.cons (i := 7) rfl (fun K hK => ?_) ?_
        · rw [if_pos (by rfl)]
          go_simp
          have hD6 := Box.make hT3 (c := (bl (fun _ => 0)).toArray) rfl
          refine hK.out _ _ (hT3.later ((Below.refl _ _).alloc (Nat.le_refl _) _)) (fun hT6 => ?_)
          clear hK K hT3
          refine wpAnyH_ready (rs := [6]) (by kernel_rfl) (by simp) ?_
          refine AllReadyH.cons (i := 6) rfl (fun K hK => ?_) ?_
          · rw [if_pos (by rfl)]
            go_simp
            refine (clockwise_any n hn20 a b ha hb _).mono ?_
            rintro e W7 ⟨rfl, b7⟩
            refine hK.out _ _ (hT6.later b7) (fun hT7 => ?_)
            have hD7 := hD6.later b7
            clear hK K hT6 b7 hD6
            refine wpAnyH_ready (rs := [8]) (by kernel_rfl) (by simp) ?_
            refine AllReadyH.cons (i := 8) rfl (fun K hK => ?_) ?_
            · rw [if_pos (by rfl)]
              refine wp_store_mid 63 (.tmp 8) (.tmp 22) rfl _ 0 (bl (dist n a b)).toArray rfl rfl (hD7.there _) (i63 _) (all_oneCell_toArray (one_bl _)) ?_
              have hE := hD7.store hT7 (dist n a b)
              refine hK.out _ _ hE.2 (fun hT9 => ?_)
              clear hK K hT7 hD7
              refine wpAnyH_done (by kernel_rfl) ?_ _
              go_wp2
              go_meet
              case rel => exact ⟨_, rfl, hE⟩
            exact AllReadyH.nil
          exact AllReadyH.nil
        exact AllReadyH.nil
      refine AllReadyH.cons (i := 7) rfl (fun K hK => ?_) ?_
      · rw [if_pos (by rfl)]
        go_simp
        have hD8 := Box.make hT2 (c := (bl (fun _ => 0)).toArray) rfl
        refine hK.out _ _ (hT2.later ((Below.refl _ _).alloc (Nat.le_refl _) _)) (fun hT8 => ?_)
        clear hK K hT2
        refine wpAnyH_ready (rs := [5]) (by kernel_rfl) (by simp) ?_
        refine AllReadyH.cons (i := 5) rfl (fun K hK => ?_) ?_
        · rw [if_pos (by rfl)]
          go_simp
          refine (cid_any n hn20 b _).mono ?_
          rintro e W9 ⟨rfl, b9⟩
          refine hK.out _ _ (hT8.later b9) (fun hT9 => ?_)
          have hD9 := hD8.later b9
          clear hK K hT8 b9 hD8
          refine wpAnyH_ready (rs := [6]) (by kernel_rfl) (by simp) ?_
          refine AllReadyH.cons (i := 6) rfl (fun K hK => ?_) ?_
          · rw [if_pos (by rfl)]
            go_simp
            refine (clockwise_any n hn20 a b ha hb _).mono ?_
            rintro e W10 ⟨rfl, b10⟩
            refine hK.out _ _ (hT9.later b10) (fun hT10 => ?_)
            have hD10 := hD9.later b10
            clear hK K hT9 b10 hD9
            refine wpAnyH_ready (rs := [8]) (by kernel_rfl) (by simp) ?_
            refine AllReadyH.cons (i := 8) rfl (fun K hK => ?_) ?_
            · rw [if_pos (by rfl)]
              refine wp_store_mid 63 (.tmp 8) (.tmp 22) rfl _ 0 (bl (dist n a b)).toArray rfl rfl (hD10.there _) (i63 _) (all_oneCell_toArray (one_bl _)) ?_
              have hE := hD10.store hT10 (dist n a b)
              refine hK.out _ _ hE.2 (fun hT9 => ?_)
              clear hK K hT10 hD10
              refine wpAnyH_done (by kernel_rfl) ?_ _
              go_wp2
              go_meet
              case rel => exact ⟨_, rfl, hE⟩
            exact AllReadyH.nil
          exact AllReadyH.nil
        exact AllReadyH.nil
      exact AllReadyH.nil
    refine AllReadyH.cons (i := 7) rfl (fun K hK => ?_) ?_
    · rw [if_pos (by rfl)]
      go_simp
      have hD11 := Box.make hT1 (c := (bl (fun _ => 0)).toArray) rfl
      refine hK.out _ _ (hT1.later ((Below.refl _ _).alloc (Nat.le_refl _) _)) (fun hT11 => ?_)
      clear hK K hT1
      refine wpAnyH_ready (rs := [2]) (by kernel_rfl) (by simp) ?_
      refine AllReadyH.cons (i := 2) rfl (fun K hK => ?_) ?_
      · rw [if_pos (by rfl)]
        go_simp
        refine (cid_any n hn20 a _).mono ?_
        rintro e W12 ⟨rfl, b12⟩
        refine hK.out _ _ (hT11.later b12) (fun hT12 => ?_)
        have hD12 := hD11.later b12
        clear hK K hT11 b12 hD11
        refine wpAnyH_ready (rs := [5]) (by kernel_rfl) (by simp) ?_
        refine AllReadyH.cons (i := 5) rfl (fun K hK => ?_) ?_
        · rw [if_pos (by rfl)]
          go_simp
          refine (cid_any n hn20 b _).mono ?_
          rintro e W13 ⟨rfl, b13⟩
          refine hK.out _ _ (hT12.later b13) (fun hT13 => ?_)
          have hD13 := hD12.later b13
          clear hK K hT12 b13 hD12
          refine wpAnyH_ready (rs := [6]) (by kernel_rfl) (by simp) ?_
          refine AllReadyH.cons (i := 6) rfl (fun K hK => ?_) ?_
          · rw [if_pos (by rfl)]
            go_simp
            refine (clockwise_any n hn20 a b ha hb _).mono ?_
            rintro e W14 ⟨rfl, b14⟩
            refine hK.out _ _ (hT13.later b14) (fun hT14 => ?_)
            have hD14 := hD13.later b14
            clear hK K hT13 b14 hD13
            refine wpAnyH_ready (rs := [8]) (by kernel_rfl) (by simp) ?_
            refine AllReadyH.cons (i := 8) rfl (fun K hK => ?_) ?_
            · rw [if_pos (by rfl)]
              refine wp_store_mid 63 (.tmp 8) (.tmp 22) rfl _ 0 (bl (dist n a b)).toArray rfl rfl (hD14.there _) (i63 _) (all_oneCell_toArray (one_bl _)) ?_
              have hE := hD14.store hT14 (dist n a b)
              refine hK.out _ _ hE.2 (fun hT9 => ?_)
              clear hK K hT14 hD14
              refine wpAnyH_done (by kernel_rfl) ?_ _
              go_wp2
              go_meet
              case rel => exact ⟨_, rfl, hE⟩
            exact AllReadyH.nil
          exact AllReadyH.nil
        exact AllReadyH.nil
      exact AllReadyH.nil
    exact AllReadyH.nil
  case rest =>
    obtain ⟨db, rfl, hD, hT2⟩ := hcut
    clear hT
    go_wp2
    go_loopw [9] (fun i wr => ∃ k : Nat, n ≤ k ∧ k ≤ 20 ∧ i = .int .i64 k ∧ wr.heap[db]? = some (.cells (bl (dist n a b)).toArray 63) ∧ Two w.heap.size w a b wr) (fun i _ => (20 - intOf i).toNat)
    case atStart => exact ⟨n, by omega, by omega, rfl, hD, hT2⟩
    case round =>
      obtain ⟨k, hk1, hk2, rfl, gD, gT⟩ := hrel
      clear hD hT2
      by_cases hlt : k < 20
      · have e1 : wr.cell? ⟨db, k, none⟩ = some (.int .u8 0) := by
          rw [cell_of_heap gD]; have := get_bl (dist n a b) k hlt; rw [dist_out hk1] at this; simpa using this
        have i1 : (0 : Int) ≤ (k : Int) := by omega
        have i2 : (k : Int) < 20 := by omega
        have HG : Hid _ := And.intro gD gT
        clear gD gT
        go_wp2_with fail
        go_roundw
        case rel => exact ⟨k + 1, by omega, by omega, rfl, HG.out⟩
        case measure => simp [intOf]; omega
      · have hkk : k = 20 := by omega
        subst hkk
        clear hk1 hk2 hlt
        go_wp2_with fail
        go_loopw [10, 11, 12] (fun ca i _ wr => ∃ (k : Nat) (x : Int), k ≤ n ∧ x = (n : Int) - 1 - k ∧ i = .int .i64 x ∧ ca = .int .i64 (bor n a b k) ∧ wr.heap[db]? = some (.cells (bl (dist n a b)).toArray 63) ∧ Two w.heap.size w a b wr) (fun _ i _ _ => (intOf i + 1).toNat)
        case atStart => exact ⟨0, _, by omega, by omega, rfl, rfl, gD, gT⟩
        case round =>
          obtain ⟨k, x, hkn, hx, rfl, rfl, gD, gT⟩ := hrel
          by_cases hlt : k < n
          · obtain ⟨i0, hi0⟩ : ∃ i0 : Nat, i0 = n - 1 - k := ⟨_, rfl⟩
            have hxi : x = (i0 : Int) := by omega
            subst hxi
            have hi20 : i0 < 20 := by omega
            have hback := dist_back hlt hi0 (ha i0 hi20) (hb i0 hi20)
            obtain ⟨a0, a1⟩ := ha i0 hi20
            obtain ⟨b0, b1⟩ := hb i0 hi20
            obtain ⟨d0, d1⟩ := dist_byte n a b i0
            obtain ⟨c0, c1⟩ := bor_01 n a b k
            have e1 : wr.cell? ⟨w.heap.size, i0, none⟩ = some (.int .u8 (a i0)) := by rw [cell_of_heap gT.1]; have := get_bl a i0 hi20; simpa using this
            have e2 : wr.cell? ⟨w.heap.size + 1, i0, none⟩ = some (.int .u8 (b i0)) := by rw [cell_of_heap gT.2.1]; have := get_bl b i0 hi20; simpa using this
            have e3 : wr.cell? ⟨db, i0, none⟩ = some (.int .u8 (dist n a b i0)) := by rw [cell_of_heap gD]; have := get_bl (dist n a b) i0 hi20; simpa using this
            have i1 : (0 : Int) ≤ (i0 : Int) := by omega
            have i2 : (i0 : Int) < 20 := by omega
            have HG : Hid _ := And.intro gD (And.intro gT (And.intro hx (And.intro hi0 hback)))
            clear gD gT hx hi0 hback
            go_wp2_with fail
            go_quiet (fail)
            rcases HG.out.2.2.2.2 with ⟨hz, hsum⟩ | ⟨hz, hsum⟩
            · rw [hsum]
              have sh : b i0 / 256 = 0 := by omega
              have sm : b i0 % 256 = b i0 := by omega
              go_wp2
              go_roundw
              case rel => exact ⟨k + 1, _, by omega, by have := HG.out.2.2.1; omega, rfl, by rw [hz], HG.out.1, HG.out.2.1.later (below_dN (Below.refl _ _) _)⟩
              case measure => simp [intOf]
            · rw [hsum]
              have sh : (b i0 + 256) / 256 = 1 := by omega
              have sm : (b i0 + 256) % 256 = b i0 := by omega
              go_wp2
              go_roundw
              case rel => exact ⟨k + 1, _, by omega, by have := HG.out.2.2.1; omega, rfl, by rw [hz], HG.out.1, HG.out.2.1.later (below_dN (Below.refl _ _) _)⟩
              case measure => simp [intOf]
          · have hkk : k = n := by omega
            subst hkk
            have hx1 : x = -1 := by omega
            subst hx1
            clear hx
            go_wp2
            go_ret
            exact ⟨rfl, gT.2.2⟩
end Go.Proofs.Ybulkddqw
