/-
  S5242A, first text: what newConn (function 5), newNoops, bufio.NewReader, NewReaderSize, NewWriterSize leave in memory. The composite literal of newConn draws its order (a channel, a call and two maps in any order): 24 ways, met again at one cut.
-/
import Derived.Test.YbulkddnqRows
import Derived.WalkKit
import Derived.WalkSpells
import Derived.WalkLawsBesides
import Derived.LaidEql
import Derived.OwnWalk
import Derived.Conc.SmallLaws
import Derived.Conc.LoneSelectN
import Derived.Deep.RegionHeld3
import Derived.Deep.DeepCutAuto
namespace Go.Proofs.Ybulkddnq
open Go.RowKit

theorem mkc (n : Nat) (h : n ≤ 1) (w : World) : (Instr.makeChan 58 (.int .i64 n)).run Yba.prog w = .ok (.chan (some w.heap.size)) (w.alloc (.chan n #[] false 0 0 false)) := by
  have h0 : (Yba.prog.info? 33).map (·.bytes) = some 0 := by kernel_rfl
  obtain ⟨i, hi, hb⟩ := Option.map_eq_some_iff.1 h0
  exact Conc.run_makeChan (P := Yba.prog) (w := w) Yba.underlying58 hi .i64 n (by omega) (by rw [hb]; omega)
theorem mkc0 (w : World) : (Instr.makeChan 58 (.int .i64 0)).run Yba.prog w = .ok (.chan (some w.heap.size)) (w.alloc (.chan 0 #[] false 0 0 false)) := mkc 0 (by omega) w
theorem mkc1 (w : World) : (Instr.makeChan 58 (.int .i64 1)).run Yba.prog w = .ok (.chan (some w.heap.size)) (w.alloc (.chan 1 #[] false 0 0 false)) := mkc 1 (by omega) w

/-- The cells of a new []byte. -/
def zs (n : Nat) : Array Value := madeCells #[.int .u8 0] n

theorem mks (n : Nat) (h : n ≤ 100000) (w : World) : (Instr.makeSlice 114 (.int .i64 n) (.int .i64 n)).run Yba.prog w = .ok (.slice (some ⟨w.heap.size, 0, none⟩) n n) (w.alloc (.cells (zs n) 5)) := by
  have h0 : (Yba.prog.info? 5).map (fun i => (i.zero, i.size, i.bytes)) = some (some (.int .u8 0), 1, 1) := by kernel_rfl
  obtain ⟨i0, hi, hz0, hz1, hz2⟩ := info_parts h0
  have := run_make (P := Yba.prog) w 114 5 i0 (.int .u8 0) Yba.underlying114 hi hz0 .i64 .i64 n n (by omega) (by omega) (by rw [hz2]; omega) (by omega)
  rw [this, hz1]
  simp [zs, Value.cells]

theorem ta64 (v : Value) (w : World) : (Instr.typeAssert (.iface 113 v) 120 64 true).run Yba.prog w = .ok (.tuple #[.pointer none, .bool false]) w := by kernel_rfl
theorem ta57 (v : Value) (w : World) : (Instr.typeAssert (.iface 111 v) 116 57 true).run Yba.prog w = .ok (.tuple #[.pointer none, .bool false]) w := by kernel_rfl

set_option maxHeartbeats 400000 in
theorem newWriterSize_any (v : Value) (n : Nat) (h1 : 1 ≤ n) (h2 : n ≤ 100000) (w : World) :
    Calls Yba.prog 16 #[.iface 113 v, .int .i64 n] w fun e w' => e = .returned (.pointer (some ⟨w.heap.size + 1, 0, none⟩)) ∧
      w' = (w.alloc (.cells (zs n) 5)).alloc (.cells #[.nilIface, .slice (some ⟨w.heap.size, 0, none⟩) n n, .int .i64 0, .iface 113 v] 122) := by
  have hmk := mks n h2
  have hta := ta64 v
  go_enter Yba.func16, Yba.ntmps16
  go_wp2
  go_ret
  exact ⟨rfl, rfl⟩

set_option maxHeartbeats 400000 in
theorem newReaderSize_any (v : Value) (n : Nat) (h1 : 16 ≤ n) (h2 : n ≤ 100000) (w : World) :
    Calls Yba.prog 21 #[.iface 111 v, .int .i64 n] w fun e w' => e = .returned (.pointer (some ⟨w.heap.size, 0, none⟩)) ∧
      w' = (w.alloc (.cells #[.slice (some ⟨w.heap.size + 1, 0, none⟩) n n, .iface 111 v, .int .i64 0, .int .i64 0, .nilIface, .int .i64 (-1), .int .i64 (-1)] 118)).alloc (.cells (zs n) 5) := by
  have hmk := mks n h2
  have hta := ta57 v
  go_enter Yba.func21, Yba.ntmps21
  go_wp2
  go_end0
  go_wp2
  go_ret
  exact ⟨rfl, rfl⟩

theorem newNoops_any (w : World) :
    Calls Yba.prog 14 #[] w fun e w' => e = .returned (.pointer (some ⟨w.heap.size + 1, 0, none⟩)) ∧
      w' = (w.alloc (.chan 1 #[] false 0 0 false)).alloc (.cells #[.chan (some w.heap.size), .int .i32 0, .int .u32 0, .bool false, .int .i64 180000000000, .int .u64 0, .int .i64 0, .pointer none, .int .u64 0, .int .i64 0, .pointer none] 78) := by
  have hmk := mkc1
  go_enter Yba.func14, Yba.ntmps14
  go_wp2
  go_ret
  exact ⟨rfl, rfl⟩

theorem keepAlloc {w : World} {a : Addr} {v : Value} (o : Obj) (h : w.cell? a = some v) : (w.alloc o).cell? a = some v := by
  rw [World.cell?_alloc_some _ _ _ (by rw [h]; rfl)]; exact h
theorem keepDrew {w : World} {a : Addr} {v : Value} (h : w.cell? a = some v) : w.drew.cell? a = some v := h

theorem heapTop (W : World) (o : Obj) (n : Nat) (h : n = W.heap.size) : (W.alloc o).drew.heap[n]? = some o := by
  subst h; exact heap_alloc_new W o
theorem heapNew {w : World} {o : Obj} {i : Nat} (h : i = w.heap.size) : (w.alloc o).heap[i]? = some o := by
  subst h; exact heap_alloc_new w o
theorem heapOld {w : World} {o x : Obj} {i : Nat} (h : i < w.heap.size) (h2 : w.heap[i]? = some x) : (w.alloc o).heap[i]? = some x := by
  rw [heap_alloc_old w o h]; exact h2
theorem heapDrew (w : World) (i : Nat) : w.drew.heap[i]? = w.heap[i]? := rfl

/-- The cells of a connection: r: the reader's pointer, x: the writer's, l: what roomMade.L holds. -/
def connArr (sb : Nat) (p : Option Addr) (bch bno bt bs : Nat) (r x : Option Addr) (l : Value) : Array Value :=
  #[.pointer (some ⟨sb, 0, none⟩), .pointer p, .nilIface, .pointer r, .bool false, .string ⟨#[]⟩, .chan (some bch), .int .u32 0, .int .i32 0, .int .u32 0, .int .u64 0, .int .u32 0, .pointer (some ⟨bno, 0, none⟩),
    .int .i32 0, .int .u32 0, .pointer x, .map (some bt), .bool false, .map (some bs), .int .i32 0, .int .u32 0, .bool false, .bool false, .int .u64 0, .int .u64 0, l, .int .u32 0, .int .u32 0, .int .u64 0, .pointer none, .pointer none, .int .u64 0, .bool false]
def noopArr (bnc : Nat) : Array Value :=
  #[.chan (some bnc), .int .i32 0, .int .u32 0, .bool false, .int .i64 180000000000, .int .u64 0, .int .i64 0, .pointer none, .int .u64 0, .int .i64 0, .pointer none]

/-- What stands behind the composite literal. -/
structure Conn0 (w0 : World) (sb : Nat) (p : Option Addr) (b bch bnc bt bs : Nat) (w : World) : Prop where
  hb : w.heap[b]? = some (.cells (connArr sb p bch (bnc + 1) bt bs none none .nilIface) 76)
  hch : w.heap[bch]? = some (.chan 0 #[] false 0 0 false)
  hno : w.heap[bnc + 1]? = some (.cells (noopArr bnc) 78)
  hnc : w.heap[bnc]? = some (.chan 1 #[] false 0 0 false)
  ht : w.heap[bt]? = some (.map #[] 0)
  hs : w.heap[bs]? = some (.map #[] 0)
  lb : w0.heap.size ≤ b
  lch : w0.heap.size ≤ bch
  lnc : w0.heap.size ≤ bnc
  lt : w0.heap.size ≤ bt
  ls : w0.heap.size ≤ bs
  below : Below w0.heap.size w0 w


theorem lt_of_heap {w : World} {b : Nat} {o : Obj} (h : w.heap[b]? = some o) : b < w.heap.size := by
  by_cases hb : b < w.heap.size
  · exact hb
  · rw [Array.getElem?_eq_none (by omega)] at h; cases h
theorem cell_of_heap {w : World} {b : Nat} {cs : Array Value} {t : TypeId} {fr : Nat × Nat} (h : w.heap[b]? = some (.cells cs t fr)) (k : Nat) : w.cell? ⟨b, k, none⟩ = cs[k]? := by
  simp [World.cell?, h]
theorem free_of_heap {w : World} {b : Nat} {cs : Array Value} {t : TypeId} (h : w.heap[b]? = some (.cells cs t)) (k : Nat) : w.frozen? ⟨b, k, none⟩ = false := by
  simp [World.frozen?, h]

/-- The cells of a bufio.Reader and of a bufio.Writer. -/
def readArr (bb : Nat) (v : Value) : Array Value := #[.slice (some ⟨bb, 0, none⟩) 4096 4096, .iface 111 v, .int .i64 0, .int .i64 0, .nilIface, .int .i64 (-1), .int .i64 (-1)]
def writeArr (bb : Nat) (v : Value) : Array Value := #[.nilIface, .slice (some ⟨bb, 0, none⟩) 65536 65536, .int .i64 0, .iface 113 v]

theorem newReader_any (v : Value) (w : World) :
    Calls Yba.prog 15 #[.iface 111 v] w fun e w' => ∃ br bb, e = .returned (.pointer (some ⟨br, 0, none⟩)) ∧ w.heap.size ≤ br ∧
      w'.heap[br]? = some (.cells (readArr bb v) 118) ∧ Below w.heap.size w w' := by
  go_enter Yba.func15, Yba.ntmps15
  go_wp2_with (go_at_call 21; refine (newReaderSize_any _ 4096 (by omega) (by omega) _).mono ?_; rintro e w' ⟨rfl, rfl⟩)
  go_ret
  exact ⟨w.heap.size, _, rfl, Nat.le_refl _, heapOld (by simp) (heapNew rfl), ((Below.refl _ _).alloc (Nat.le_refl _) _).alloc (by simp) _⟩
theorem newWriter_any (v : Value) (w : World) :
    Calls Yba.prog 16 #[.iface 113 v, .int .i64 65536] w fun e w' => ∃ bw bb, e = .returned (.pointer (some ⟨bw, 0, none⟩)) ∧ w.heap.size ≤ bw ∧
      w'.heap[bw]? = some (.cells (writeArr bb v) 122) ∧ Below w.heap.size w w' := by
  refine (newWriterSize_any v 65536 (by omega) (by omega) w).mono ?_
  rintro e w' ⟨rfl, rfl⟩
  exact ⟨w.heap.size + 1, _, rfl, by omega, heapNew (by simp), ((Below.refl _ _).alloc (Nat.le_refl _) _).alloc (by simp) _⟩

/-- What newConn leaves. -/
structure Conn (w0 : World) (sb : Nat) (p : Option Addr) (b bch bnc bt bs br bw bx by' : Nat) (w : World) : Prop where
  hb : w.heap[b]? = some (.cells (connArr sb p bch (bnc + 1) bt bs (some ⟨br, 0, none⟩) (some ⟨bw, 0, none⟩) (.iface 81 (.pointer (some ⟨b, 13, none⟩)))) 76)
  hch : w.heap[bch]? = some (.chan 0 #[] false 0 0 false)
  hno : w.heap[bnc + 1]? = some (.cells (noopArr bnc) 78)
  hnc : w.heap[bnc]? = some (.chan 1 #[] false 0 0 false)
  ht : w.heap[bt]? = some (.map #[] 0)
  hs : w.heap[bs]? = some (.map #[] 0)
  hr : w.heap[br]? = some (.cells (readArr bx (.agg #[.pointer (some ⟨b, 0, none⟩)])) 118)
  hw : w.heap[bw]? = some (.cells (writeArr by' (.agg #[.pointer (some ⟨b, 0, none⟩)])) 122)
  lb : w0.heap.size ≤ b
  lch : w0.heap.size ≤ bch
  lnc : w0.heap.size ≤ bnc
  lr : w0.heap.size ≤ br
  lw : w0.heap.size ≤ bw
  below : Below w0.heap.size w0 w

theorem ne_of_heap {w : World} {a b : Nat} {x y : Obj} (h : w.heap[a]? = some x) (k : w.heap[b]? = some y) (hne : x ≠ y) : a ≠ b := by
  intro e; subst e; rw [h] at k; exact hne (Option.some.inj k)

theorem set_same {w : World} {b k : Nat} {cs cs' : Array Value} {t : TypeId} (h : w.heap[b]? = some (.cells cs t)) (v : Value) (hcs : cs.setIfInBounds k v = cs') : (w.setCell ⟨b, k, none⟩ v).heap[b]? = some (.cells cs' t) := by
  rw [heap_setCell_same w b k cs t v h, hcs]

theorem conn_mk {w wc w1 w2 : World} {sb : Nat} {p : Option Addr} {b bch bnc bt bs br bw bx by' : Nat} (h : Conn0 w sb p b bch bnc bt bs wc)
    (r1 : wc.heap.size ≤ br) (r2 : w1.heap[br]? = some (.cells (readArr bx (.agg #[.pointer (some ⟨b, 0, none⟩)])) 118)) (r3 : Below wc.heap.size wc w1)
    (s1 : (w1.setCell ⟨b, 3, none⟩ (.pointer (some ⟨br, 0, none⟩))).heap.size ≤ bw) (s2 : w2.heap[bw]? = some (.cells (writeArr by' (.agg #[.pointer (some ⟨b, 0, none⟩)])) 122))
    (s3 : Below (w1.setCell ⟨b, 3, none⟩ (.pointer (some ⟨br, 0, none⟩))).heap.size (w1.setCell ⟨b, 3, none⟩ (.pointer (some ⟨br, 0, none⟩))) w2) :
    Conn w sb p b bch bnc bt bs br bw bx by' ((w2.setCell ⟨b, 15, none⟩ (.pointer (some ⟨bw, 0, none⟩))).setCell ⟨b, 25, none⟩ (.iface 81 (.pointer (some ⟨b, 13, none⟩)))) := by
  have hbl := lt_of_heap h.hb
  have hz : w.heap.size ≤ wc.heap.size := h.below.size
  have hz1 : wc.heap.size ≤ w1.heap.size := r3.size
  simp only [World.size_setCell] at s1 s3
  have up : ∀ {k : Nat} {o : Obj}, wc.heap[k]? = some o → k ≠ b → ((w2.setCell ⟨b, 15, none⟩ (.pointer (some ⟨bw, 0, none⟩))).setCell ⟨b, 25, none⟩ (.iface 81 (.pointer (some ⟨b, 13, none⟩)))).heap[k]? = some o := by
    intro k o hk hne
    have hl := lt_of_heap hk
    rw [Below.heap_setCell _ _ _ _ (by simpa using hne), Below.heap_setCell _ _ _ _ (by simpa using hne), s3.block k (by omega), Below.heap_setCell _ _ _ _ (by simpa using hne), r3.block k hl]
    exact hk
  have e1 : w1.heap[b]? = some (.cells (connArr sb p bch (bnc + 1) bt bs none none .nilIface) 76) := by rw [r3.block b hbl]; exact h.hb
  have e2 := set_same e1 (k := 3) (cs' := connArr sb p bch (bnc + 1) bt bs (some ⟨br, 0, none⟩) none .nilIface) (.pointer (some ⟨br, 0, none⟩)) rfl
  have e3 : w2.heap[b]? = some (.cells (connArr sb p bch (bnc + 1) bt bs (some ⟨br, 0, none⟩) none .nilIface) 76) := by rw [s3.block b (by omega)]; exact e2
  have e4 := set_same e3 (k := 15) (cs' := connArr sb p bch (bnc + 1) bt bs (some ⟨br, 0, none⟩) (some ⟨bw, 0, none⟩) .nilIface) (.pointer (some ⟨bw, 0, none⟩)) rfl
  have e5 := set_same e4 (k := 25) (cs' := connArr sb p bch (bnc + 1) bt bs (some ⟨br, 0, none⟩) (some ⟨bw, 0, none⟩) (.iface 81 (.pointer (some ⟨b, 13, none⟩)))) (.iface 81 (.pointer (some ⟨b, 13, none⟩))) rfl
  refine ⟨e5, up h.hch (ne_of_heap h.hch h.hb (by simp)), up h.hno (ne_of_heap h.hno h.hb (by simp)), up h.hnc (ne_of_heap h.hnc h.hb (by simp)), up h.ht (ne_of_heap h.ht h.hb (by simp)), up h.hs (ne_of_heap h.hs h.hb (by simp)),
    ?_, ?_, h.lb, h.lch, h.lnc, by omega, by omega, ?_⟩
  · have hne : br ≠ b := by omega
    have hl := lt_of_heap r2
    rw [Below.heap_setCell _ _ _ _ (by simpa using hne), Below.heap_setCell _ _ _ _ (by simpa using hne), s3.block br (by omega), Below.heap_setCell _ _ _ _ (by simpa using hne)]
    exact r2
  · have hne : bw ≠ b := by omega
    rw [Below.heap_setCell _ _ _ _ (by simpa using hne), Below.heap_setCell _ _ _ _ (by simpa using hne)]
    exact s2
  · have lb := h.lb
    exact (((((h.below.trans (r3.mono hz)).setCell (p := ⟨b, 3, none⟩) lb _).trans (s3.mono (by omega))).setCell (p := ⟨b, 15, none⟩) lb _).setCell (p := ⟨b, 25, none⟩) lb _)

set_option maxHeartbeats 20000000 in
theorem newConn_any (sb : Nat) (p : Option Addr) (w : World) (hs : w.cell? ⟨sb, 0, none⟩ = some (.pointer p)) :
    Calls Yba.prog 5 #[.pointer (some ⟨sb, 0, none⟩), .nilIface] w fun e w' => ∃ b bch bnc bt bs br bw bx by', e = .returned (.pointer (some ⟨b, 0, none⟩)) ∧ Conn w sb p b bch bnc bt bs br bw bx by' w' := by
  have hm0 := mkc0
  have hmm := @run_makeMap Yba.prog
  go_enter Yba.func5, Yba.ntmps5
  go_wp2
  go_cut [5] (fun s5 w5 => ∃ b bch bnc bt bs, s5 = .pointer (some ⟨b, 0, none⟩) ∧ Conn0 w sb p b bch bnc bt bs w5)
  case first =>
    go_region_held3 (fun w' => w'.cell? ⟨sb, 0, none⟩ = some (.pointer p)) (repeat (first | exact hs | apply keepDrew | apply keepAlloc))
      ((go_at_call 14; refine (newNoops_any _).mono ?_; rintro e w' ⟨rfl, rfl⟩))
    all_goals
      go_wp2
      go_meet
      case rel =>
        refine ⟨_, _, _, _, _, rfl, ⟨heapTop _ _ _ (by simp), ?_, ?_, ?_, ?_, ?_, ?_, ?_, ?_, ?_, ?_, ?_⟩⟩
        all_goals first
          | omega
          | (rw [heapDrew]; repeat (first | (refine heapNew ?_; (try simp only [World.size_alloc]); (try omega); done) | (refine heapOld ?_ ?_; (first | omega | (simp only [World.size_alloc]; omega)))))
          | (repeat (first | exact Below.refl _ _ | apply Below.drew | (refine Below.alloc ?_ ?_ _; rotate_left; (first | omega | (simp only [World.size_alloc]; omega)))))
  case rest =>
    obtain ⟨b, bch, bnc, bt, bs, rfl, hcn⟩ := hcut
    have hbl : b < wc.heap.size := lt_of_heap hcn.hb
    have HC : Hid (Conn0 w sb p b bch bnc bt bs wc) := hcn
    clear hcn hs hm0 hmm
    go_wp2_with fail
    refine (newReader_any _ _).mono ?_
    rintro e w1 ⟨br, bx, rfl, r1, r2, r3⟩
    have R1 : Hid (wc.heap.size ≤ br ∧ w1.heap[br]? = some (.cells (readArr bx (.agg #[.pointer (some ⟨b, 0, none⟩)])) 118) ∧ Below wc.heap.size wc w1) := ⟨r1, r2, r3⟩
    have c3 : w1.cell? ⟨b, 3, none⟩ = some (.pointer none) := by rw [r3.cell hbl, cell_of_heap HC.out.hb]; rfl
    have c15 : w1.cell? ⟨b, 15, none⟩ = some (.pointer none) := by rw [r3.cell hbl, cell_of_heap HC.out.hb]; rfl
    have c25 : w1.cell? ⟨b, 25, none⟩ = some .nilIface := by rw [r3.cell hbl, cell_of_heap HC.out.hb]; rfl
    have fz : ∀ k, w1.frozen? ⟨b, k, none⟩ = false := fun k => by rw [r3.frozen hbl]; exact free_of_heap HC.out.hb k
    have hbl1 : b < w1.heap.size := Nat.lt_of_lt_of_le hbl r3.size
    clear r1 r2 r3 hbl
    go_wp2_with fail
    refine (newWriter_any _ _).mono ?_
    rintro e w2 ⟨bw, by', rfl, s1, s2, s3⟩
    have d15 : w2.cell? ⟨b, 15, none⟩ = some (.pointer none) := by rw [s3.cell (by simpa using hbl1)]; simpa [World.cell?_setCell_other] using c15
    have d25 : w2.cell? ⟨b, 25, none⟩ = some .nilIface := by rw [s3.cell (by simpa using hbl1)]; simpa [World.cell?_setCell_other] using c25
    have fz2 : ∀ k, w2.frozen? ⟨b, k, none⟩ = false := fun k => by rw [s3.frozen (by simpa using hbl1)]; simpa using fz k
    have S1 := conn_mk HC.out R1.out.1 R1.out.2.1 R1.out.2.2 s1 s2 s3
    have S2 : Hid (Conn w sb p b bch bnc bt bs br bw bx by' ((w2.setCell ⟨b, 15, none⟩ (.pointer (some ⟨bw, 0, none⟩))).setCell ⟨b, 25, none⟩ (.iface 81 (.pointer (some ⟨b, 13, none⟩))))) := S1
    clear S1 s1 s2 s3 R1 HC c3 c15 c25 fz hbl1
    go_wp2
    go_ret
    exact ⟨b, bch, bnc, bt, bs, br, bw, bx, by', rfl, S2⟩

end Go.Proofs.Ybulkddnq
