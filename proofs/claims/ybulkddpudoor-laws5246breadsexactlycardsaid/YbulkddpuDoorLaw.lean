/-
  S5246B, fourth text: the law's walk (function 3), plain and broken.
-/
import Derived.Test.YbulkddpuDoorPiece
namespace Go.Proofs.YbulkddpuDoor
open Go.RowKit

theorem new_any (s : ByteArray) (w : World) : Calls Ybad.prog 4 #[.string s] w fun e w' => e = .returned (.iface 32 (.pointer (some ⟨w.heap.size, 0, none⟩))) ∧ w' = w.alloc (.cells #[.string s] 34) := by
  go_enter Ybad.func4, Ybad.ntmps4
  go_wp2
  go_ret
  exact ⟨rfl, rfl⟩
theorem made_pList (D : Nat → Int) (n : Nat) : madeCells #[.int .u8 0] n = (pList D n 0).toArray := by
  apply Array.ext_getElem?
  intro j
  have h : (madeCells #[.int .u8 0] n)[j]? = (madeCells #[.int .u8 0] n).toList[j]? := by simp
  have h' : (pList D n 0).toArray[j]? = (pList D n 0)[j]? := by simp
  rw [h, h', get_pList, toList_madeCells_one, List.getElem?_replicate]
  by_cases hj : j < n <;> simp [hj]
theorem make_run (D : Nat → Int) (n : Nat) (h : n ≤ 1024) (w : World) : (Instr.makeSlice 22 (.int .i64 n) (.int .i64 n)).run Ybad.prog w = .ok (.slice (some ⟨w.heap.size, 0, none⟩) n n) (w.alloc (.cells (pList D n 0).toArray 5)) := by
  have h0 : (Ybad.prog.info? 5).map (fun i => (i.zero, i.size, i.bytes)) = some (some (.int .u8 0), 1, 1) := by kernel_rfl
  obtain ⟨i0, hi, hz0, hz1, hz2⟩ := info_parts h0
  have := run_make (P := Ybad.prog) w 22 5 i0 (.int .u8 0) Ybad.underlying22 hi hz0 .i64 .i64 n n (by omega) (by omega) (by rw [hz2]; omega) (by omega)
  rw [this, hz1, ← made_pList D n]
  simp [Value.cells]
theorem neq25_same (w : World) (a : Addr) : (binOp .neq 25 (.iface 32 (.pointer (some a))) (.iface 32 (.pointer (some a)))).run Ybad.prog w = .ok (.bool false) w := by
  have h32 : (Ybad.prog.info? 32).map (fun i => i.comparable) = some true := by kernel_rfl
  have h34 : (Ybad.prog.info? 34).map (fun i => i.size) = some 1 := by kernel_rfl
  obtain ⟨i, hi, hcmp⟩ := Option.map_eq_some_iff.1 h32
  obtain ⟨j, hj, _⟩ := Option.map_eq_some_iff.1 h34
  simp only [binOp]
  simp [Op.equal, Op.maxDepth, run_equalIn_iface_ptr_same (P := Ybad.prog) w 9998 a Ybad.underlying25 Ybad.underlying32 hi hcmp hj]
theorem heapNew {w : World} {o : Obj} {i : Nat} (h : i = w.heap.size) : (w.alloc o).heap[i]? = some o := by
  subst h; exact heap_alloc_new w o
theorem heapOld {w : World} {o x : Obj} {i : Nat} (h : i < w.heap.size) (h2 : w.heap[i]? = some x) : (w.alloc o).heap[i]? = some x := by
  rw [heap_alloc_old w o h]; exact h2
theorem IsCells.later {w w' : World} {b : Nat} (h : IsCells w b) (hB : Below w.heap.size w w') : IsCells w' b := by
  obtain ⟨c, t, h⟩ := h
  exact ⟨c, t, (hB.block b (lt_of_heap h)).trans h⟩
theorem IsCells.lt {w : World} {b : Nat} (h : IsCells w b) : b < w.heap.size := by
  obtain ⟨c, t, h⟩ := h; exact lt_of_heap h

theorem law_long (da : Option Addr) (dl dc : Nat) (sa : Option Addr) (sl sc : Nat) (x : Int) (br : Bool) (w : World) (hl : 1024 < dl) :
    Calls Ybad.prog 3 #[.slice da dl dc, .slice sa sl sc, .int .u16 x, .bool br] w fun e w' => e = .returned (.bool true) ∧ Below w.heap.size w w' := by
  have hli : (1024 : Int) < (dl : Int) := by omega
  go_enter Ybad.func3, Ybad.ntmps3
  go_wp2
  go_ret
  exact ⟨rfl, Below.refl _ _⟩

set_option maxRecDepth 100000 in
set_option maxHeartbeats 2000000 in
theorem law_plain (da : Option Addr) (db doff dl dc : Nat) (hda : 0 < dl → da = some ⟨db, doff, none⟩) (sa : Option Addr) (sb soff sl sc : Nat) (hsa : 0 < sl → sa = some ⟨sb, soff, none⟩) (ae au : Addr) (D S : Nat → Int) (x n : Nat) (hx : x ≤ 65535) (hxn : n = x % 1025) (w : World)
    (hD : ∀ j, j < dl → w.cell? ⟨db, doff + j, none⟩ = some (.int .u8 (D j))) (hS : ∀ j, j < sl → w.cell? ⟨sb, soff + j, none⟩ = some (.int .u8 (S j)) ∧ 0 ≤ S j ∧ S j ≤ 255)
    (hdl : dl ≤ 1024) (hsl : sl ≤ 9223372036854775807) (hdc : dl ≤ dc) (hdc2 : dc ≤ 9223372036854775807) (hne : au ≠ ae) (hcae : IsCells w ae.block) (hcau : IsCells w au.block) (hsz : 2 < w.heap.size)
    (hU : w.cell? ⟨0, 0, none⟩ = some (.iface 32 (.pointer (some au)))) (hE : w.cell? ⟨1, 0, none⟩ = some (.iface 32 (.pointer (some ae)))) :
    Calls Ybad.prog 3 #[.slice da dl dc, .slice sa sl sc, .int .u16 x, .bool false] w fun e w' => e = .returned (.bool true) ∧ Below w.heap.size w w' := by
  have hn : n ≤ 1024 := by omega
  have hmk := make_run D n hn
  have hli : ¬ (1024 : Int) < (dl : Int) := by omega
  have hxe : (x : Int) % 1025 = (n : Int) := by omega
  clear hxn
  have hB1 : Below w.heap.size w ((w.alloc (.cells (rArr da dl dc 0 sa sl sc 0 (failVal none)) 29)).alloc (.cells (pList D n 0).toArray 5)) := (((Below.refl _ _).alloc (Nat.le_refl _) _).alloc (by simp) _)
  have hdlt : 0 < dl → db < w.heap.size := fun h => World.block_lt_of_cell? w _ (hD 0 h)
  have hslt : 0 < sl → sb < w.heap.size := fun h => World.block_lt_of_cell? w _ (hS 0 h).1
  have HC : Hid _ := piece_any w.heap.size (w.heap.size + 1) n da db doff dl dc hda sa sb soff sl sc hsa none ae au D S ((w.alloc (.cells (rArr da dl dc 0 sa sl sc 0 (failVal none)) 29)).alloc (.cells (pList D n 0).toArray 5)) (heapOld (by simp) (heapNew (by simp))) (heapNew (by simp)) (by omega) (fun h => by have := hdlt h; omega) (fun h => by have := hslt h; omega) (by omega) (by omega)
    (fun j hj => (hB1.cell (p := ⟨db, doff + j, none⟩) (hdlt (by omega))).trans (hD j hj)) (fun j hj => ⟨(hB1.cell (p := ⟨sb, soff + j, none⟩) (hslt (by omega))).trans (hS j hj).1, (hS j hj).2⟩) hn hdl hsl hdc hdc2
    (fun fa hf => by cases hf) ⟨hcae.later hB1, by have := hcae.lt; omega, by have := hcae.lt; omega⟩ ((hB1.cell (p := ⟨0, 0, none⟩) (by simp; omega)).trans hU) ((hB1.cell (p := ⟨1, 0, none⟩) (by simp; omega)).trans hE) ⟨hne, hcau.later hB1, by have := hcau.lt; omega, by have := hcau.lt; omega⟩
  have HB1 : Hid (Below w.heap.size w ((w.alloc (.cells (rArr da dl dc 0 sa sl sc 0 (failVal none)) 29)).alloc (.cells (pList D n 0).toArray 5)) ∧ (0 < dl → db < w.heap.size) ∧ (∀ j, j < dl → w.cell? ⟨db, doff + j, none⟩ = some (.int .u8 (D j)))) := ⟨hB1, hdlt, hD⟩
  clear hB1 hD hS hdlt hslt hcae hcau hsa
  have z2 := neq25_same
  go_enter Ybad.func3, Ybad.ntmps3
  go_wp2_with fail
  refine Calls.mono HC.out ?_
  clear HC
  rintro e w2 ⟨k', he, hr2, hp2, hb2⟩
  have hB2 : Below w.heap.size w w2 := HB1.out.1.trans (hb2.below (fun i hi h => by rcases h with h | h <;> omega))
  have HF : Hid (Below w.heap.size w w2) := hB2
  have c1 : w2.cell? ⟨w.heap.size, 1, none⟩ = some (.int .i64 (min n dl : Nat)) := by rw [cell_of_heap hr2]; rfl
  have hpc : ∀ j, j < n → w2.cell? ⟨(w.heap.size + 1), j, none⟩ = some (if j < min n dl then .int .u8 (D j) else .int .u8 0) := fun j hj => by
    rw [cell_of_heap hp2]
    have h' : (pList D n (min n dl)).toArray[j]? = (pList D n (min n dl))[j]? := by simp
    rw [h', get_pList, if_pos hj]
  have HP : Hid (∀ j, j < n → w2.cell? ⟨(w.heap.size + 1), j, none⟩ = some (if j < min n dl then .int .u8 (D j) else .int .u8 0)) := hpc
  have HDD : Hid (∀ j, j < dl → w2.cell? ⟨db, doff + j, none⟩ = some (.int .u8 (D j))) := fun j hj => (hB2.cell (p := ⟨db, doff + j, none⟩) (HB1.out.2.1 (by omega))).trans (HB1.out.2.2 j hj)
  have gU : w2.cell? ⟨0, 0, none⟩ = some (.iface 32 (.pointer (some au))) := (hB2.cell (p := ⟨0, 0, none⟩) (by simp; omega)).trans hU
  clear hr2 hp2 hb2 hB2 hpc HB1 hU hE hmk
  rcases he with ⟨hl, rfl⟩ | ⟨hl, rfl⟩
  · have hmn : min n dl = n := by omega
    rw [hmn] at c1
    have HM : Hid (min n dl = n) := hmn
    clear hmn
    go_wp2
    go_loopw [14] (fun i wr => ∃ k m : Nat, k ≤ n ∧ i = .int .i64 k ∧ wr = w2.drewN m) (fun i _ => n - (intOf i).toNat)
    case atStart => exact ⟨0, 0, by omega, rfl, rfl⟩
    case round =>
      obtain ⟨k, m, hkn, rfl, rfl⟩ := hrel
      by_cases hlt : k < n
      · have hda' := hda (by omega)
        subst hda'
        clear hda
        have p1 : w2.cell? ⟨(w.heap.size + 1), k, none⟩ = some (.int .u8 (D k)) := by rw [HP.out k hlt, if_pos (by rw [HM.out]; exact hlt)]
        have p2 := HDD.out k (by omega)
        have i1 : (0 : Int) ≤ (k : Int) := by omega
        have i2 : (k : Int) < (n : Int) := by omega
        have i3 : (k : Int) < (dl : Int) := by omega
        go_wp2_with fail
        go_quiet (fail)
        go_wp2
        go_roundw
        case rel => exact ⟨k + 1, _, by omega, by go_num, rfl⟩
        case measure => simp [intOf]; omega
      · go_wp2
        go_ret
        exact ⟨rfl, HF.out.trans ⟨rfl, rfl, rfl, Nat.le_refl _, fun _ _ => rfl⟩⟩
  · have hmn : min n dl = dl := by omega
    rw [hmn] at c1
    have HM : Hid (min n dl = dl) := hmn
    clear hmn
    have hnl : ¬ (n : Int) ≤ (dl : Int) := by omega
    simp only [pieceErr]
    go_wp2
    go_loopw [15] (fun i wr => ∃ k m : Nat, k ≤ n ∧ i = .int .i64 k ∧ wr = w2.drewN m) (fun i _ => n - (intOf i).toNat)
    case atStart => exact ⟨0, 0, by omega, rfl, rfl⟩
    case round =>
      obtain ⟨k, m, hkn, rfl, rfl⟩ := hrel
      by_cases hlt : k < n
      · by_cases hkd : k < dl
        · have hda' := hda (by omega)
          subst hda'
          clear hda
          have p1 : w2.cell? ⟨(w.heap.size + 1), k, none⟩ = some (.int .u8 (D k)) := by rw [HP.out k hlt, if_pos (by rw [HM.out]; exact hkd)]
          have p2 := HDD.out k hkd
          have i1 : (0 : Int) ≤ (k : Int) := by omega
          have i2 : (k : Int) < (n : Int) := by omega
          have i3 : (k : Int) < (dl : Int) := by omega
          go_wp2_with fail
          go_quiet (fail)
          go_wp2
          go_roundw
          case rel => exact ⟨k + 1, _, by omega, by go_num, rfl⟩
          case measure => simp [intOf]; omega
        · have p1 : w2.cell? ⟨(w.heap.size + 1), k, none⟩ = some (.int .u8 0) := by rw [HP.out k hlt, if_neg (by rw [HM.out]; exact hkd)]
          have i1 : (0 : Int) ≤ (k : Int) := by omega
          have i2 : (k : Int) < (n : Int) := by omega
          have i3 : ¬ (k : Int) < (dl : Int) := by omega
          go_wp2
          go_roundw
          case rel => exact ⟨k + 1, _, by omega, by go_num, rfl⟩
          case measure => simp [intOf]; omega
      · go_wp2
        go_ret
        exact ⟨rfl, HF.out.trans ⟨rfl, rfl, rfl, Nat.le_refl _, fun _ _ => rfl⟩⟩
set_option maxRecDepth 100000 in
set_option maxHeartbeats 2000000 in
theorem law_broken (da : Option Addr) (db doff dl dc : Nat) (hda : 0 < dl → da = some ⟨db, doff, none⟩) (sa : Option Addr) (sb soff sl sc : Nat) (hsa : 0 < sl → sa = some ⟨sb, soff, none⟩) (ae au : Addr) (D S : Nat → Int) (x n : Nat) (hx : x ≤ 65535) (hxn : n = x % 1025) (w : World)
    (hD : ∀ j, j < dl → w.cell? ⟨db, doff + j, none⟩ = some (.int .u8 (D j))) (hS : ∀ j, j < sl → w.cell? ⟨sb, soff + j, none⟩ = some (.int .u8 (S j)) ∧ 0 ≤ S j ∧ S j ≤ 255)
    (hdl : dl ≤ 1024) (hsl : sl ≤ 9223372036854775807) (hdc : dl ≤ dc) (hdc2 : dc ≤ 9223372036854775807) (hne : au ≠ ae) (hcae : IsCells w ae.block) (hcau : IsCells w au.block) (hsz : 2 < w.heap.size)
    (hU : w.cell? ⟨0, 0, none⟩ = some (.iface 32 (.pointer (some au)))) (hE : w.cell? ⟨1, 0, none⟩ = some (.iface 32 (.pointer (some ae)))) :
    Calls Ybad.prog 3 #[.slice da dl dc, .slice sa sl sc, .int .u16 x, .bool true] w fun e w' => e = .returned (.bool true) ∧ Below w.heap.size w w' := by
  have hn : n ≤ 1024 := by omega
  have hmk := make_run D n hn
  have hli : ¬ (1024 : Int) < (dl : Int) := by omega
  have hxe : (x : Int) % 1025 = (n : Int) := by omega
  clear hxn
  have hB1 : Below w.heap.size w (((w.alloc (.cells #[.string { data := #[98, 114, 111, 107, 101, 110] }] 34)).alloc (.cells (rArr da dl dc 0 sa sl sc 0 (failVal (some ⟨w.heap.size, 0, none⟩))) 29)).alloc (.cells (pList D n 0).toArray 5)) := ((((Below.refl _ _).alloc (Nat.le_refl _) _).alloc (by simp) _).alloc (by simp; omega) _)
  have hdlt : 0 < dl → db < w.heap.size := fun h => World.block_lt_of_cell? w _ (hD 0 h)
  have hslt : 0 < sl → sb < w.heap.size := fun h => World.block_lt_of_cell? w _ (hS 0 h).1
  have HC : Hid _ := piece_any (w.heap.size + 1) (w.heap.size + 1 + 1) n da db doff dl dc hda sa sb soff sl sc hsa (some ⟨w.heap.size, 0, none⟩) ae au D S (((w.alloc (.cells #[.string { data := #[98, 114, 111, 107, 101, 110] }] 34)).alloc (.cells (rArr da dl dc 0 sa sl sc 0 (failVal (some ⟨w.heap.size, 0, none⟩))) 29)).alloc (.cells (pList D n 0).toArray 5)) (heapOld (by simp) (heapNew (by simp))) (heapNew (by simp)) (by omega) (fun h => by have := hdlt h; omega) (fun h => by have := hslt h; omega) (by omega) (by omega)
    (fun j hj => (hB1.cell (p := ⟨db, doff + j, none⟩) (hdlt (by omega))).trans (hD j hj)) (fun j hj => ⟨(hB1.cell (p := ⟨sb, soff + j, none⟩) (hslt (by omega))).trans (hS j hj).1, (hS j hj).2⟩) hn hdl hsl hdc hdc2
    (fun fa hf => by cases hf; exact ⟨fun e => by have := congrArg Addr.block e; simp at this; have := hcae.lt; omega, ⟨_, _, heapOld (by simp; omega) (heapOld (by simp) (heapNew rfl))⟩, by simp, by simp; omega⟩) ⟨hcae.later hB1, by have := hcae.lt; omega, by have := hcae.lt; omega⟩ ((hB1.cell (p := ⟨0, 0, none⟩) (by simp; omega)).trans hU) ((hB1.cell (p := ⟨1, 0, none⟩) (by simp; omega)).trans hE) ⟨hne, hcau.later hB1, by have := hcau.lt; omega, by have := hcau.lt; omega⟩
  have HB1 : Hid (Below w.heap.size w (((w.alloc (.cells #[.string { data := #[98, 114, 111, 107, 101, 110] }] 34)).alloc (.cells (rArr da dl dc 0 sa sl sc 0 (failVal (some ⟨w.heap.size, 0, none⟩))) 29)).alloc (.cells (pList D n 0).toArray 5)) ∧ (0 < dl → db < w.heap.size) ∧ (∀ j, j < dl → w.cell? ⟨db, doff + j, none⟩ = some (.int .u8 (D j)))) := ⟨hB1, hdlt, hD⟩
  clear hB1 hD hS hdlt hslt hcae hcau hsa
  have z2 := neq25_same
  go_enter Ybad.func3, Ybad.ntmps3
  go_wp2_with (go_at_call 4; refine (new_any _ _).mono ?_; rintro e w' ⟨rfl, rfl⟩)
  refine Calls.mono HC.out ?_
  clear HC
  rintro e w2 ⟨k', he, hr2, hp2, hb2⟩
  have hB2 : Below w.heap.size w w2 := HB1.out.1.trans (hb2.below (fun i hi h => by rcases h with h | h <;> omega))
  have HF : Hid (Below w.heap.size w w2) := hB2
  have c1 : w2.cell? ⟨(w.heap.size + 1), 1, none⟩ = some (.int .i64 (min n dl : Nat)) := by rw [cell_of_heap hr2]; rfl
  have hpc : ∀ j, j < n → w2.cell? ⟨(w.heap.size + 1 + 1), j, none⟩ = some (if j < min n dl then .int .u8 (D j) else .int .u8 0) := fun j hj => by
    rw [cell_of_heap hp2]
    have h' : (pList D n (min n dl)).toArray[j]? = (pList D n (min n dl))[j]? := by simp
    rw [h', get_pList, if_pos hj]
  have HP : Hid (∀ j, j < n → w2.cell? ⟨(w.heap.size + 1 + 1), j, none⟩ = some (if j < min n dl then .int .u8 (D j) else .int .u8 0)) := hpc
  have HDD : Hid (∀ j, j < dl → w2.cell? ⟨db, doff + j, none⟩ = some (.int .u8 (D j))) := fun j hj => (hB2.cell (p := ⟨db, doff + j, none⟩) (HB1.out.2.1 (by omega))).trans (HB1.out.2.2 j hj)
  have gU : w2.cell? ⟨0, 0, none⟩ = some (.iface 32 (.pointer (some au))) := (hB2.cell (p := ⟨0, 0, none⟩) (by simp; omega)).trans hU
  clear hr2 hp2 hb2 hB2 hpc HB1 hU hE hmk
  rcases he with ⟨hl, rfl⟩ | ⟨hl, rfl⟩
  · have hmn : min n dl = n := by omega
    rw [hmn] at c1
    have HM : Hid (min n dl = n) := hmn
    clear hmn
    go_wp2
    go_loopw [14] (fun i wr => ∃ k m : Nat, k ≤ n ∧ i = .int .i64 k ∧ wr = w2.drewN m) (fun i _ => n - (intOf i).toNat)
    case atStart => exact ⟨0, 0, by omega, rfl, rfl⟩
    case round =>
      obtain ⟨k, m, hkn, rfl, rfl⟩ := hrel
      by_cases hlt : k < n
      · have hda' := hda (by omega)
        subst hda'
        clear hda
        have p1 : w2.cell? ⟨(w.heap.size + 1 + 1), k, none⟩ = some (.int .u8 (D k)) := by rw [HP.out k hlt, if_pos (by rw [HM.out]; exact hlt)]
        have p2 := HDD.out k (by omega)
        have i1 : (0 : Int) ≤ (k : Int) := by omega
        have i2 : (k : Int) < (n : Int) := by omega
        have i3 : (k : Int) < (dl : Int) := by omega
        go_wp2_with fail
        go_quiet (fail)
        go_wp2
        go_roundw
        case rel => exact ⟨k + 1, _, by omega, by go_num, rfl⟩
        case measure => simp [intOf]; omega
      · go_wp2
        go_ret
        exact ⟨rfl, HF.out.trans ⟨rfl, rfl, rfl, Nat.le_refl _, fun _ _ => rfl⟩⟩
  · have hmn : min n dl = dl := by omega
    rw [hmn] at c1
    have HM : Hid (min n dl = dl) := hmn
    clear hmn
    have hnl : ¬ (n : Int) ≤ (dl : Int) := by omega
    simp only [pieceErr]
    go_wp2
    go_loopw [15] (fun i wr => ∃ k m : Nat, k ≤ n ∧ i = .int .i64 k ∧ wr = w2.drewN m) (fun i _ => n - (intOf i).toNat)
    case atStart => exact ⟨0, 0, by omega, rfl, rfl⟩
    case round =>
      obtain ⟨k, m, hkn, rfl, rfl⟩ := hrel
      by_cases hlt : k < n
      · by_cases hkd : k < dl
        · have hda' := hda (by omega)
          subst hda'
          clear hda
          have p1 : w2.cell? ⟨(w.heap.size + 1 + 1), k, none⟩ = some (.int .u8 (D k)) := by rw [HP.out k hlt, if_pos (by rw [HM.out]; exact hkd)]
          have p2 := HDD.out k hkd
          have i1 : (0 : Int) ≤ (k : Int) := by omega
          have i2 : (k : Int) < (n : Int) := by omega
          have i3 : (k : Int) < (dl : Int) := by omega
          go_wp2_with fail
          go_quiet (fail)
          go_wp2
          go_roundw
          case rel => exact ⟨k + 1, _, by omega, by go_num, rfl⟩
          case measure => simp [intOf]; omega
        · have p1 : w2.cell? ⟨(w.heap.size + 1 + 1), k, none⟩ = some (.int .u8 0) := by rw [HP.out k hlt, if_neg (by rw [HM.out]; exact hkd)]
          have i1 : (0 : Int) ≤ (k : Int) := by omega
          have i2 : (k : Int) < (n : Int) := by omega
          have i3 : ¬ (k : Int) < (dl : Int) := by omega
          go_wp2
          go_roundw
          case rel => exact ⟨k + 1, _, by omega, by go_num, rfl⟩
          case measure => simp [intOf]; omega
      · go_wp2
        go_ret
        exact ⟨rfl, HF.out.trans ⟨rfl, rfl, rfl, Nat.le_refl _, fun _ _ => rfl⟩⟩
end Go.Proofs.YbulkddpuDoor
