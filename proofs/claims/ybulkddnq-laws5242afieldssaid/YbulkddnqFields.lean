/-
  S5242A, second text: the law's walk. Each call by its contract; the regions that draw only read.
-/
import Derived.Test.YbulkddnqConn
import Derived.Deep.QuietTactic
import Derived.BigQuiet
namespace Go.Proofs.Ybulkddnq
open Go.RowKit

/-- '!=', '==' between two pointers to one and the same place. -/
theorem eq_same {P : Program} (w : World) {t e : TypeId} {i : TypeInfo} (a : Addr) (h : P.underlying t = some (.pointer e)) (hi : P.info? e = some i) :
    (binOp .neq t (.pointer (some a)) (.pointer (some a))).run P w = .ok (.bool false) w := by
  have h1 : ∀ d : Nat, (Op.equalIn (d + 1) t (.pointer (some a)) (.pointer (some a))).run P w = .ok true w := fun d => by
    simp [Op.equalIn, run_underlying h, sizeOf, typeInfo, hi, run_sameAddr_same]
  simp only [binOp]
  simp [Op.equal, Op.maxDepth, h1 9999]
theorem info_some {t : TypeId} {n : Nat} (h : (Yba.prog.info? t).map (fun i => i.size) = some n) : ∃ i, Yba.prog.info? t = some i := by
  cases hi : Yba.prog.info? t with
  | none => simp [hi] at h
  | some i => exact ⟨i, rfl⟩
theorem ne27 (w : World) (a : Addr) : (binOp .neq 27 (.pointer (some a)) (.pointer (some a))).run Yba.prog w = .ok (.bool false) w := by
  obtain ⟨i, hi⟩ := info_some (t := 52) (n := 16) (by kernel_rfl)
  exact eq_same w a Yba.underlying27 hi
theorem ne22 (w : World) (a : Addr) : (binOp .neq 22 (.pointer (some a)) (.pointer (some a))).run Yba.prog w = .ok (.bool false) w := by
  obtain ⟨i, hi⟩ := info_some (t := 26) (n := 2) (by kernel_rfl)
  exact eq_same w a Yba.underlying22 hi
theorem ne22p (w : World) (p : Option Addr) : (binOp .neq 22 (.pointer p) (.pointer p)).run Yba.prog w = .ok (.bool false) w := by
  cases p with
  | none =>
    have h1 : ∀ d : Nat, (Op.equalIn (d + 1) 22 (.pointer none) (.pointer none)).run Yba.prog w = .ok true w := fun d => by
      simp [Op.equalIn, run_underlying Yba.underlying22]
    simp only [binOp]
    simp [Op.equal, Op.maxDepth, h1 9999]
  | some a => exact ne22 w a
theorem ch_nil (w : World) (c : Nat) : (binOp .eql 58 (.chan (some c)) (.chan none)).run Yba.prog w = .ok (.bool false) w := by
  have h1 : ∀ d : Nat, (Op.equalIn (d + 1) 58 (.chan (some c)) (.chan none)).run Yba.prog w = .ok false w := fun d => by
    simp [Op.equalIn, run_underlying Yba.underlying58]
  simp only [binOp]
  simp [Op.equal, Op.maxDepth, h1 9999]
theorem isZero_any (w : World) :
    Calls Yba.prog 6 #[.agg #[.int .u64 0, .int .i64 0, .pointer none]] w fun e w' => e = .returned (.bool true) ∧ Below w.heap.size w w' := by
  go_enter Yba.func6, Yba.ntmps6
  go_wp2
  go_ret
  exact ⟨rfl, (Below.refl _ _).alloc (Nat.le_refl _) _⟩
theorem rsize_any (br bb : Nat) (v : Value) (w : World) (h : w.heap[br]? = some (.cells (readArr bb v) 118)) :
    Calls Yba.prog 7 #[.pointer (some ⟨br, 0, none⟩)] w fun e w' => e = .returned (.int .i64 4096) ∧ w' = w := by
  have h0 : w.cell? ⟨br, 0, none⟩ = some (.slice (some ⟨bb, 0, none⟩) 4096 4096) := by rw [cell_of_heap h]; rfl
  clear h
  go_enter Yba.func7, Yba.ntmps7
  go_wp2
  go_ret
  exact ⟨rfl, rfl⟩
theorem wsize_any (br bb : Nat) (v : Value) (w : World) (h : w.heap[br]? = some (.cells (writeArr bb v) 122)) :
    Calls Yba.prog 8 #[.pointer (some ⟨br, 0, none⟩)] w fun e w' => e = .returned (.int .i64 65536) ∧ w' = w := by
  have h0 : w.cell? ⟨br, 1, none⟩ = some (.slice (some ⟨bb, 0, none⟩) 65536 65536) := by rw [cell_of_heap h]; rfl
  clear h
  go_enter Yba.func8, Yba.ntmps8
  go_wp2
  go_ret
  exact ⟨rfl, rfl⟩

theorem Conn.later {w0 w w' : World} {sb : Nat} {p : Option Addr} {b bch bnc bt bs br bw bx by' : Nat} (h : Conn w0 sb p b bch bnc bt bs br bw bx by' w) (k : Below w.heap.size w w') : Conn w0 sb p b bch bnc bt bs br bw bx by' w' := by
  have up : ∀ {k : Nat} {o : Obj}, w.heap[k]? = some o → w'.heap[k]? = some o := fun {i o} hi => (k.block i (lt_of_heap hi)).trans hi
  exact ⟨up h.hb, up h.hch, up h.hno, up h.hnc, up h.ht, up h.hs, up h.hr, up h.hw, h.lb, h.lch, h.lnc, h.lr, h.lw, h.below.trans (k.mono h.below.size)⟩

/-- The server's cells. -/
def srvArr (p : Option Addr) (fr : Int) (cl : Bool) : Array Value :=
  #[.pointer p, .int .u64 0, .int .i64 0, .pointer none, .int .i64 fr, .int .i32 0, .int .u32 0, .bool cl, .map none, .map none, .map none, .pointer none, .int .u64 0, .nilFunc, .int .u64 0, .int .u32 0]


theorem cap58 {w : World} {c cap : Nat} (h : w.heap[c]? = some (.chan cap #[] false 0 0 false)) : (Builtin.cap_ #[58] 3 #[.chan (some c)]).run Yba.prog w = .ok (.int .i64 cap) w := by
  have := Conc.run_cap_chan (P := Yba.prog) 58 3 Yba.underlying58 h
  simpa [goInt] using this
theorem len58 {w : World} {c cap : Nat} (h : w.heap[c]? = some (.chan cap #[] false 0 0 false)) : (Builtin.len_ #[58] 3 #[.chan (some c)]).run Yba.prog w = .ok (.int .i64 0) w := by
  have := Conc.run_len_chan (P := Yba.prog) 58 3 Yba.underlying58 h
  simpa [goInt] using this
theorem len65 {w : World} {c : Nat} (h : w.heap[c]? = some (.map #[] 0)) : (Builtin.len_ #[65] 3 #[.map (some c)]).run Yba.prog w = .ok (.int .i64 0) w := by
  have := run_len_map (P := Yba.prog) w 65 3 c #[] 0 (by simp [Program.mapKeyOf, Program.mapElemOf, Yba.underlying65]) h
  simpa [goInt] using this
theorem len66 {w : World} {c : Nat} (h : w.heap[c]? = some (.map #[] 0)) : (Builtin.len_ #[66] 3 #[.map (some c)]).run Yba.prog w = .ok (.int .i64 0) w := by
  have := run_len_map (P := Yba.prog) w 66 3 c #[] 0 (by simp [Program.mapKeyOf, Program.mapElemOf, Yba.underlying66]) h
  simpa [goInt] using this

theorem ne68 (w : World) (a : Addr) : (binOp .neq 68 (.iface 81 (.pointer (some a))) (.iface 81 (.pointer (some a)))).run Yba.prog w = .ok (.bool false) w := by
  have h81 : (Yba.prog.info? 81).map (fun i => i.comparable) = some true := by kernel_rfl
  obtain ⟨i, hi, hcmp⟩ := Option.map_eq_some_iff.1 h81
  obtain ⟨j, hj⟩ := info_some (t := 39) (n := 2) (by kernel_rfl)
  simp only [binOp]
  simp [Op.equal, Op.maxDepth, run_equalIn_iface_ptr_same (P := Yba.prog) w 9998 a Yba.underlying68 Yba.underlying81 hi hcmp hj]

theorem eq_other {P : Program} {w : World} {t e : TypeId} {i : TypeInfo} {a c : Addr} {ca cb : Array Value} {ta tb : TypeId} (h : P.underlying t = some (.pointer e)) (hi : P.info? e = some i) (hs : i.size ≠ 0)
    (hne : a ≠ c) (ha : w.heap[a.block]? = some (.cells ca ta (0, 0))) (hb : w.heap[c.block]? = some (.cells cb tb (0, 0))) :
    (binOp .eql t (.pointer (some a)) (.pointer (some c))).run P w = .ok (.bool false) w := by
  have h1 : ∀ d : Nat, (Op.equalIn (d + 1) t (.pointer (some a)) (.pointer (some c))).run P w = .ok false w := fun d => by
    simp [Op.equalIn, run_underlying h, sizeOf, typeInfo, hi, hs, run_sameAddr_other w hne ha hb]
  simp only [binOp]
  simp [Op.equal, Op.maxDepth, h1 9999]
theorem info_sz {t : TypeId} {n : Nat} (h : (Yba.prog.info? t).map (fun i => i.size) = some (n + 1)) : ∃ i, Yba.prog.info? t = some i ∧ i.size ≠ 0 := by
  obtain ⟨i, hi, hs⟩ := Option.map_eq_some_iff.1 h
  exact ⟨i, hi, by omega⟩
theorem far53 {w : World} {a c : Nat} {ca cb : Array Value} {ta tb : TypeId} (hne : a ≠ c) (ha : w.heap[a]? = some (.cells ca ta (0, 0))) (hb : w.heap[c]? = some (.cells cb tb (0, 0))) (n : Nat) :
    (binOp .eql 53 (.pointer (some ⟨a, 0, none⟩)) (.pointer (some ⟨c, 0, none⟩))).run Yba.prog (w.drewN n) = .ok (.bool false) (w.drewN n) := by
  obtain ⟨i, hi, hs⟩ := info_sz (t := 76) (n := 32) (by kernel_rfl)
  exact eq_other Yba.underlying53 hi hs (fun e => hne (congrArg Addr.block e)) ha hb
theorem far63 {w : World} {a c : Nat} {ca cb : Array Value} {ta tb : TypeId} (hne : a ≠ c) (ha : w.heap[a]? = some (.cells ca ta (0, 0))) (hb : w.heap[c]? = some (.cells cb tb (0, 0))) (n : Nat) :
    (binOp .eql 63 (.pointer (some ⟨a, 0, none⟩)) (.pointer (some ⟨c, 0, none⟩))).run Yba.prog (w.drewN n) = .ok (.bool false) (w.drewN n) := by
  obtain ⟨i, hi, hs⟩ := info_sz (t := 78) (n := 10) (by kernel_rfl)
  exact eq_other Yba.underlying63 hi hs (fun e => hne (congrArg Addr.block e)) ha hb
theorem far57 {w : World} {a c : Nat} {ca cb : Array Value} {ta tb : TypeId} (hne : a ≠ c) (ha : w.heap[a]? = some (.cells ca ta (0, 0))) (hb : w.heap[c]? = some (.cells cb tb (0, 0))) (n : Nat) :
    (binOp .eql 57 (.pointer (some ⟨a, 0, none⟩)) (.pointer (some ⟨c, 0, none⟩))).run Yba.prog (w.drewN n) = .ok (.bool false) (w.drewN n) := by
  obtain ⟨i, hi, hs⟩ := info_sz (t := 118) (n := 6) (by kernel_rfl)
  exact eq_other Yba.underlying57 hi hs (fun e => hne (congrArg Addr.block e)) ha hb
theorem far64 {w : World} {a c : Nat} {ca cb : Array Value} {ta tb : TypeId} (hne : a ≠ c) (ha : w.heap[a]? = some (.cells ca ta (0, 0))) (hb : w.heap[c]? = some (.cells cb tb (0, 0))) (n : Nat) :
    (binOp .eql 64 (.pointer (some ⟨a, 0, none⟩)) (.pointer (some ⟨c, 0, none⟩))).run Yba.prog (w.drewN n) = .ok (.bool false) (w.drewN n) := by
  obtain ⟨i, hi, hs⟩ := info_sz (t := 122) (n := 3) (by kernel_rfl)
  exact eq_other Yba.underlying64 hi hs (fun e => hne (congrArg Addr.block e)) ha hb
theorem ch_far (w : World) {a c : Nat} (hne : a ≠ c) : (binOp .eql 58 (.chan (some a)) (.chan (some c))).run Yba.prog w = .ok (.bool false) w := by
  have h1 : ∀ d : Nat, (Op.equalIn (d + 1) 58 (.chan (some a)) (.chan (some c))).run Yba.prog w = .ok false w := fun d => by
    simp [Op.equalIn, run_underlying Yba.underlying58, hne]
  simp only [binOp]
  simp [Op.equal, Op.maxDepth, h1 9999]
theorem below_dN {W w : World} {B : Nat} (h : Below B W w) (n : Nat) : Below B W (w.drewN n) := ⟨h.os, h.tape, h.output, h.size, h.block⟩

set_option maxHeartbeats 4000000 in
set_option maxRecDepth 100000 in
theorem walk (a0 : Bool) (a1 : Int) (a2 : Bool) (w : World) :
    Calls Yba.prog 3 #[.bool a0, .int .i64 a1, .bool a2] w fun e w' => e = .returned (.bool true) ∧ Below w.heap.size w w' := by
  have q1 := ne27
  have q2 := ne22p
  have q3 := ch_nil
  have q4 : ∀ (w : World) (r : Option Nat), (binOp .eql 65 (.map r) (.map none)).run Yba.prog w = .ok (.bool r.isNone) w := fun w r => run_eql_map_nil w _ _ _ r Yba.underlying65
  have q5 : ∀ (w : World) (r : Option Nat), (binOp .eql 66 (.map r) (.map none)).run Yba.prog w = .ok (.bool r.isNone) w := fun w r => run_eql_map_nil w _ _ _ r Yba.underlying66
  have q6 := ne68
  have q7 : ∀ (w : World) (r : Option Nat), (binOp .neq 40 (.map r) (.map none)).run Yba.prog w = .ok (.bool (!r.isNone)) w := fun w r => run_neq_map_nil w _ _ _ r Yba.underlying40
  have q8 : ∀ (w : World) (r : Option Nat), (binOp .neq 41 (.map r) (.map none)).run Yba.prog w = .ok (.bool (!r.isNone)) w := fun w r => run_neq_map_nil w _ _ _ r Yba.underlying41
  have q9 : ∀ (w : World) (r : Option Nat), (binOp .neq 42 (.map r) (.map none)).run Yba.prog w = .ok (.bool (!r.isNone)) w := fun w r => run_neq_map_nil w _ _ _ r Yba.underlying42
  cases a0
  · go_enter Yba.func3, Yba.ntmps3
    go_wp2_with fail
    refine (newConn_any (w.heap.size) (none) _ (by simp)).mono ?_
    rintro e w1 ⟨b, bch, bnc, bt, bs, br, bw, bx, by', rfl, hc⟩
    have hsrv : w1.heap[w.heap.size]? = some (.cells (srvArr (none) a1 a2) 52) := by rw [hc.below.block _ (by simp)]; exact heapNew (by simp)
    have hB : Below w.heap.size w w1 := ((Below.refl _ _).alloc (Nat.le_refl _) _).trans (hc.below.mono (by simp only [World.size_alloc]; omega))
    have HC : Hid (Conn _ _ _ b bch bnc bt bs br bw bx by' w1) := hc
    have HS : Hid (w1.heap[w.heap.size]? = some (.cells (srvArr (none) a1 a2) 52) ∧ Below w.heap.size w w1) := ⟨hsrv, hB⟩
    clear hsrv hB hc
    have c0 : w1.cell? ⟨b, 0, none⟩ = some (.pointer (some ⟨w.heap.size, 0, none⟩)) := by rw [cell_of_heap HC.out.hb]; rfl
    have c1 : w1.cell? ⟨b, 1, none⟩ = some (.pointer (none)) := by rw [cell_of_heap HC.out.hb]; rfl
    have c2 : w1.cell? ⟨b, 2, none⟩ = some (.nilIface) := by rw [cell_of_heap HC.out.hb]; rfl
    have c6 : w1.cell? ⟨b, 6, none⟩ = some (.chan (some bch)) := by rw [cell_of_heap HC.out.hb]; rfl
    have c12 : w1.cell? ⟨b, 12, none⟩ = some (.pointer (some ⟨bnc + 1, 0, none⟩)) := by rw [cell_of_heap HC.out.hb]; rfl
    have n0 : w1.cell? ⟨bnc + 1, 0, none⟩ = some (.chan (some bnc)) := by rw [cell_of_heap HC.out.hno]; rfl
    have n3 : w1.cell? ⟨bnc + 1, 3, none⟩ = some (.bool false) := by rw [cell_of_heap HC.out.hno]; rfl
    have n4 : w1.cell? ⟨bnc + 1, 4, none⟩ = some (.int .i64 180000000000) := by rw [cell_of_heap HC.out.hno]; rfl
    have n5 : w1.cell? ⟨bnc + 1, 5, none⟩ = some (.int .u64 0) := by rw [cell_of_heap HC.out.hno]; rfl
    have n6 : w1.cell? ⟨bnc + 1, 6, none⟩ = some (.int .i64 0) := by rw [cell_of_heap HC.out.hno]; rfl
    have n7 : w1.cell? ⟨bnc + 1, 7, none⟩ = some (.pointer none) := by rw [cell_of_heap HC.out.hno]; rfl
    have k1 := cap58 HC.out.hch
    have k2 := len58 HC.out.hch
    have k3 := cap58 HC.out.hnc
    have k4 := len58 HC.out.hnc
    go_wp2_with fail
    refine (isZero_any _).mono ?_
    rintro e w2 ⟨rfl, hb2⟩
    have HC2 : Hid (Conn _ _ _ b bch bnc bt bs br bw bx by' w2) := HC.out.later hb2
    have HS2 : Hid (w2.heap[w.heap.size]? = some (.cells (srvArr (none) a1 a2) 52) ∧ Below w.heap.size w w2) := ⟨(hb2.block _ (lt_of_heap HS.out.1)).trans HS.out.1, HS.out.2.trans (hb2.mono HS.out.2.size)⟩
    clear c0 c1 c2 c6 c12 n0 n3 n4 n5 n6 n7 k1 k2 k3 k4 HC HS hb2
    have n8 : w2.cell? ⟨bnc + 1, 8, none⟩ = some (.int .u64 0) := by rw [cell_of_heap HC2.out.hno]; rfl
    have n9 : w2.cell? ⟨bnc + 1, 9, none⟩ = some (.int .i64 0) := by rw [cell_of_heap HC2.out.hno]; rfl
    have n10 : w2.cell? ⟨bnc + 1, 10, none⟩ = some (.pointer none) := by rw [cell_of_heap HC2.out.hno]; rfl
    go_wp2_with fail
    refine (isZero_any _).mono ?_
    rintro e w3 ⟨rfl, hb3⟩
    have HC3 : Hid (Conn _ _ _ b bch bnc bt bs br bw bx by' w3) := HC2.out.later hb3
    have HS3 : Hid (w3.heap[w.heap.size]? = some (.cells (srvArr (none) a1 a2) 52) ∧ Below w.heap.size w w3) := ⟨(hb3.block _ (lt_of_heap HS2.out.1)).trans HS2.out.1, HS2.out.2.trans (hb3.mono HS2.out.2.size)⟩
    clear n8 n9 n10 HC2 HS2 hb3
    have c3 : w3.cell? ⟨b, 3, none⟩ = some (.pointer (some ⟨br, 0, none⟩)) := by rw [cell_of_heap HC3.out.hb]; rfl
    have c15 : w3.cell? ⟨b, 15, none⟩ = some (.pointer (some ⟨bw, 0, none⟩)) := by rw [cell_of_heap HC3.out.hb]; rfl
    have c16 : w3.cell? ⟨b, 16, none⟩ = some (.map (some bt)) := by rw [cell_of_heap HC3.out.hb]; rfl
    have c18 : w3.cell? ⟨b, 18, none⟩ = some (.map (some bs)) := by rw [cell_of_heap HC3.out.hb]; rfl
    have c25 : w3.cell? ⟨b, 25, none⟩ = some (.iface 81 (.pointer (some ⟨b, 13, none⟩))) := by rw [cell_of_heap HC3.out.hb]; rfl
    have m1 := len65 HC3.out.ht
    have m2 := len66 HC3.out.hs
    go_wp2_with fail
    refine (rsize_any br bx _ _ HC3.out.hr).mono ?_
    rintro e w' ⟨rfl, rfl⟩
    go_wp2_with fail
    refine (wsize_any bw by' _ _ HC3.out.hw).mono ?_
    rintro e w' ⟨rfl, rfl⟩
    go_wp2_with fail
    go_quiet (fail)
    clear c3 c15 c16 c18 c25 m1 m2
    have c4 : w'.cell? ⟨b, 4, none⟩ = some (.bool false) := by rw [cell_of_heap HC3.out.hb]; rfl
    have c5 : w'.cell? ⟨b, 5, none⟩ = some (.string ⟨#[]⟩) := by rw [cell_of_heap HC3.out.hb]; rfl
    have c17 : w'.cell? ⟨b, 17, none⟩ = some (.bool false) := by rw [cell_of_heap HC3.out.hb]; rfl
    have c21 : w'.cell? ⟨b, 21, none⟩ = some (.bool false) := by rw [cell_of_heap HC3.out.hb]; rfl
    have c22 : w'.cell? ⟨b, 22, none⟩ = some (.bool false) := by rw [cell_of_heap HC3.out.hb]; rfl
    have c23 : w'.cell? ⟨b, 23, none⟩ = some (.int .u64 0) := by rw [cell_of_heap HC3.out.hb]; rfl
    have c24 : w'.cell? ⟨b, 24, none⟩ = some (.int .u64 0) := by rw [cell_of_heap HC3.out.hb]; rfl
    have c32 : w'.cell? ⟨b, 32, none⟩ = some (.bool false) := by rw [cell_of_heap HC3.out.hb]; rfl
    have s0 : w'.cell? ⟨w.heap.size, 0, none⟩ = some (.pointer (none)) := by rw [cell_of_heap HS3.out.1]; rfl
    have s4 : w'.cell? ⟨w.heap.size, 4, none⟩ = some (.int .i64 a1) := by rw [cell_of_heap HS3.out.1]; rfl
    have s7 : w'.cell? ⟨w.heap.size, 7, none⟩ = some (.bool a2) := by rw [cell_of_heap HS3.out.1]; rfl
    have s8 : w'.cell? ⟨w.heap.size, 8, none⟩ = some (.map none) := by rw [cell_of_heap HS3.out.1]; rfl
    have s9 : w'.cell? ⟨w.heap.size, 9, none⟩ = some (.map none) := by rw [cell_of_heap HS3.out.1]; rfl
    have s10 : w'.cell? ⟨w.heap.size, 10, none⟩ = some (.map none) := by rw [cell_of_heap HS3.out.1]; rfl
    go_wp2_with fail
    clear c4 c5 c17 c21 c22 c23 c24 c32 s4 s7 s8 s9 s10
    refine (newConn_any (w.heap.size) (none) _ (by simpa using s0)).mono ?_
    rintro e w5 ⟨b2, bch2, bnc2, bt2, bs2, br2, bw2, bx2, by2, rfl, hd⟩
    have HD : Hid (Conn _ _ _ b2 bch2 bnc2 bt2 bs2 br2 bw2 bx2 by2 w5) := hd
    have HC5 : Hid (Conn _ _ _ b bch bnc bt bs br bw bx by' w5) := HC3.out.later (by simpa using (below_dN (Below.refl _ _) nq).trans hd.below)
    have HS5 : Hid (Below w.heap.size w w5) := HS3.out.2.trans (((below_dN (Below.refl _ _) nq).trans (by simpa using hd.below)).mono HS3.out.2.size)
    have hz1 : b < w'.heap.size := lt_of_heap HC3.out.hb
    have hz2 : bch < w'.heap.size := lt_of_heap HC3.out.hch
    have hz3 : bnc < w'.heap.size := lt_of_heap HC3.out.hnc
    have hz4 : br < w'.heap.size := lt_of_heap HC3.out.hr
    have hz5 : bw < w'.heap.size := lt_of_heap HC3.out.hw
    have y1 : w'.heap.size ≤ b2 := hd.lb
    have y2 : w'.heap.size ≤ bch2 := hd.lch
    have y3 : w'.heap.size ≤ bnc2 := hd.lnc
    have y4 : w'.heap.size ≤ br2 := hd.lr
    have y5 : w'.heap.size ≤ bw2 := hd.lw
    have f1 := far53 (show b2 ≠ b by omega) HD.out.hb HC5.out.hb
    have f2 := far63 (show bnc2 + 1 ≠ bnc + 1 by omega) HD.out.hno HC5.out.hno
    have f3 := far57 (show br2 ≠ br by omega) HD.out.hr HC5.out.hr
    have f4 := far64 (show bw2 ≠ bw by omega) HD.out.hw HC5.out.hw
    have f5 := fun w => ch_far w (show bch2 ≠ bch by omega)
    clear hd hz1 hz2 hz3 hz4 hz5 y1 y2 y3 y4 y5 s0 HC3 HS3
    have d0 : w5.cell? ⟨b2, 0, none⟩ = some (.pointer (some ⟨w.heap.size, 0, none⟩)) := by rw [cell_of_heap HD.out.hb]; rfl
    have d1 : w5.cell? ⟨b2, 1, none⟩ = some (.pointer (none)) := by rw [cell_of_heap HD.out.hb]; rfl
    have d3 : w5.cell? ⟨b2, 3, none⟩ = some (.pointer (some ⟨br2, 0, none⟩)) := by rw [cell_of_heap HD.out.hb]; rfl
    have d6 : w5.cell? ⟨b2, 6, none⟩ = some (.chan (some bch2)) := by rw [cell_of_heap HD.out.hb]; rfl
    have d12 : w5.cell? ⟨b2, 12, none⟩ = some (.pointer (some ⟨bnc2 + 1, 0, none⟩)) := by rw [cell_of_heap HD.out.hb]; rfl
    have d15 : w5.cell? ⟨b2, 15, none⟩ = some (.pointer (some ⟨bw2, 0, none⟩)) := by rw [cell_of_heap HD.out.hb]; rfl
    have d25 : w5.cell? ⟨b2, 25, none⟩ = some (.iface 81 (.pointer (some ⟨b2, 13, none⟩))) := by rw [cell_of_heap HD.out.hb]; rfl
    have e3 : w5.cell? ⟨b, 3, none⟩ = some (.pointer (some ⟨br, 0, none⟩)) := by rw [cell_of_heap HC5.out.hb]; rfl
    have e6 : w5.cell? ⟨b, 6, none⟩ = some (.chan (some bch)) := by rw [cell_of_heap HC5.out.hb]; rfl
    have e12 : w5.cell? ⟨b, 12, none⟩ = some (.pointer (some ⟨bnc + 1, 0, none⟩)) := by rw [cell_of_heap HC5.out.hb]; rfl
    have e15 : w5.cell? ⟨b, 15, none⟩ = some (.pointer (some ⟨bw, 0, none⟩)) := by rw [cell_of_heap HC5.out.hb]; rfl
    clear HC5 HD
    go_wp2_with fail
    go_quiet (fail)
    clear e3 e6 e12 e15 d3 d6 d12 d15 f1 f2 f3 f4 f5
    go_wp2_with fail
    go_quiet (fail)
    go_wp2
    go_ret
    exact ⟨rfl, below_dN (below_dN HS5.out _) _⟩
  · go_enter Yba.func3, Yba.ntmps3
    go_wp2_with fail
    refine (newConn_any (w.heap.size + 1) (some ⟨w.heap.size, 0, none⟩) _ (by simp)).mono ?_
    rintro e w1 ⟨b, bch, bnc, bt, bs, br, bw, bx, by', rfl, hc⟩
    have hsrv : w1.heap[w.heap.size + 1]? = some (.cells (srvArr (some ⟨w.heap.size, 0, none⟩) a1 a2) 52) := by rw [hc.below.block _ (by simp)]; exact heapNew (by simp)
    have hB : Below w.heap.size w w1 := (((Below.refl _ _).alloc (Nat.le_refl _) _).alloc (by simp) _).trans (hc.below.mono (by simp only [World.size_alloc]; omega))
    have HC : Hid (Conn _ _ _ b bch bnc bt bs br bw bx by' w1) := hc
    have HS : Hid (w1.heap[w.heap.size + 1]? = some (.cells (srvArr (some ⟨w.heap.size, 0, none⟩) a1 a2) 52) ∧ Below w.heap.size w w1) := ⟨hsrv, hB⟩
    clear hsrv hB hc
    have c0 : w1.cell? ⟨b, 0, none⟩ = some (.pointer (some ⟨w.heap.size + 1, 0, none⟩)) := by rw [cell_of_heap HC.out.hb]; rfl
    have c1 : w1.cell? ⟨b, 1, none⟩ = some (.pointer (some ⟨w.heap.size, 0, none⟩)) := by rw [cell_of_heap HC.out.hb]; rfl
    have c2 : w1.cell? ⟨b, 2, none⟩ = some (.nilIface) := by rw [cell_of_heap HC.out.hb]; rfl
    have c6 : w1.cell? ⟨b, 6, none⟩ = some (.chan (some bch)) := by rw [cell_of_heap HC.out.hb]; rfl
    have c12 : w1.cell? ⟨b, 12, none⟩ = some (.pointer (some ⟨bnc + 1, 0, none⟩)) := by rw [cell_of_heap HC.out.hb]; rfl
    have n0 : w1.cell? ⟨bnc + 1, 0, none⟩ = some (.chan (some bnc)) := by rw [cell_of_heap HC.out.hno]; rfl
    have n3 : w1.cell? ⟨bnc + 1, 3, none⟩ = some (.bool false) := by rw [cell_of_heap HC.out.hno]; rfl
    have n4 : w1.cell? ⟨bnc + 1, 4, none⟩ = some (.int .i64 180000000000) := by rw [cell_of_heap HC.out.hno]; rfl
    have n5 : w1.cell? ⟨bnc + 1, 5, none⟩ = some (.int .u64 0) := by rw [cell_of_heap HC.out.hno]; rfl
    have n6 : w1.cell? ⟨bnc + 1, 6, none⟩ = some (.int .i64 0) := by rw [cell_of_heap HC.out.hno]; rfl
    have n7 : w1.cell? ⟨bnc + 1, 7, none⟩ = some (.pointer none) := by rw [cell_of_heap HC.out.hno]; rfl
    have k1 := cap58 HC.out.hch
    have k2 := len58 HC.out.hch
    have k3 := cap58 HC.out.hnc
    have k4 := len58 HC.out.hnc
    go_wp2_with fail
    refine (isZero_any _).mono ?_
    rintro e w2 ⟨rfl, hb2⟩
    have HC2 : Hid (Conn _ _ _ b bch bnc bt bs br bw bx by' w2) := HC.out.later hb2
    have HS2 : Hid (w2.heap[w.heap.size + 1]? = some (.cells (srvArr (some ⟨w.heap.size, 0, none⟩) a1 a2) 52) ∧ Below w.heap.size w w2) := ⟨(hb2.block _ (lt_of_heap HS.out.1)).trans HS.out.1, HS.out.2.trans (hb2.mono HS.out.2.size)⟩
    clear c0 c1 c2 c6 c12 n0 n3 n4 n5 n6 n7 k1 k2 k3 k4 HC HS hb2
    have n8 : w2.cell? ⟨bnc + 1, 8, none⟩ = some (.int .u64 0) := by rw [cell_of_heap HC2.out.hno]; rfl
    have n9 : w2.cell? ⟨bnc + 1, 9, none⟩ = some (.int .i64 0) := by rw [cell_of_heap HC2.out.hno]; rfl
    have n10 : w2.cell? ⟨bnc + 1, 10, none⟩ = some (.pointer none) := by rw [cell_of_heap HC2.out.hno]; rfl
    go_wp2_with fail
    refine (isZero_any _).mono ?_
    rintro e w3 ⟨rfl, hb3⟩
    have HC3 : Hid (Conn _ _ _ b bch bnc bt bs br bw bx by' w3) := HC2.out.later hb3
    have HS3 : Hid (w3.heap[w.heap.size + 1]? = some (.cells (srvArr (some ⟨w.heap.size, 0, none⟩) a1 a2) 52) ∧ Below w.heap.size w w3) := ⟨(hb3.block _ (lt_of_heap HS2.out.1)).trans HS2.out.1, HS2.out.2.trans (hb3.mono HS2.out.2.size)⟩
    clear n8 n9 n10 HC2 HS2 hb3
    have c3 : w3.cell? ⟨b, 3, none⟩ = some (.pointer (some ⟨br, 0, none⟩)) := by rw [cell_of_heap HC3.out.hb]; rfl
    have c15 : w3.cell? ⟨b, 15, none⟩ = some (.pointer (some ⟨bw, 0, none⟩)) := by rw [cell_of_heap HC3.out.hb]; rfl
    have c16 : w3.cell? ⟨b, 16, none⟩ = some (.map (some bt)) := by rw [cell_of_heap HC3.out.hb]; rfl
    have c18 : w3.cell? ⟨b, 18, none⟩ = some (.map (some bs)) := by rw [cell_of_heap HC3.out.hb]; rfl
    have c25 : w3.cell? ⟨b, 25, none⟩ = some (.iface 81 (.pointer (some ⟨b, 13, none⟩))) := by rw [cell_of_heap HC3.out.hb]; rfl
    have m1 := len65 HC3.out.ht
    have m2 := len66 HC3.out.hs
    go_wp2_with fail
    refine (rsize_any br bx _ _ HC3.out.hr).mono ?_
    rintro e w' ⟨rfl, rfl⟩
    go_wp2_with fail
    refine (wsize_any bw by' _ _ HC3.out.hw).mono ?_
    rintro e w' ⟨rfl, rfl⟩
    go_wp2_with fail
    go_quiet (fail)
    clear c3 c15 c16 c18 c25 m1 m2
    have c4 : w'.cell? ⟨b, 4, none⟩ = some (.bool false) := by rw [cell_of_heap HC3.out.hb]; rfl
    have c5 : w'.cell? ⟨b, 5, none⟩ = some (.string ⟨#[]⟩) := by rw [cell_of_heap HC3.out.hb]; rfl
    have c17 : w'.cell? ⟨b, 17, none⟩ = some (.bool false) := by rw [cell_of_heap HC3.out.hb]; rfl
    have c21 : w'.cell? ⟨b, 21, none⟩ = some (.bool false) := by rw [cell_of_heap HC3.out.hb]; rfl
    have c22 : w'.cell? ⟨b, 22, none⟩ = some (.bool false) := by rw [cell_of_heap HC3.out.hb]; rfl
    have c23 : w'.cell? ⟨b, 23, none⟩ = some (.int .u64 0) := by rw [cell_of_heap HC3.out.hb]; rfl
    have c24 : w'.cell? ⟨b, 24, none⟩ = some (.int .u64 0) := by rw [cell_of_heap HC3.out.hb]; rfl
    have c32 : w'.cell? ⟨b, 32, none⟩ = some (.bool false) := by rw [cell_of_heap HC3.out.hb]; rfl
    have s0 : w'.cell? ⟨w.heap.size + 1, 0, none⟩ = some (.pointer (some ⟨w.heap.size, 0, none⟩)) := by rw [cell_of_heap HS3.out.1]; rfl
    have s4 : w'.cell? ⟨w.heap.size + 1, 4, none⟩ = some (.int .i64 a1) := by rw [cell_of_heap HS3.out.1]; rfl
    have s7 : w'.cell? ⟨w.heap.size + 1, 7, none⟩ = some (.bool a2) := by rw [cell_of_heap HS3.out.1]; rfl
    have s8 : w'.cell? ⟨w.heap.size + 1, 8, none⟩ = some (.map none) := by rw [cell_of_heap HS3.out.1]; rfl
    have s9 : w'.cell? ⟨w.heap.size + 1, 9, none⟩ = some (.map none) := by rw [cell_of_heap HS3.out.1]; rfl
    have s10 : w'.cell? ⟨w.heap.size + 1, 10, none⟩ = some (.map none) := by rw [cell_of_heap HS3.out.1]; rfl
    go_wp2_with fail
    clear c4 c5 c17 c21 c22 c23 c24 c32 s4 s7 s8 s9 s10
    refine (newConn_any (w.heap.size + 1) (some ⟨w.heap.size, 0, none⟩) _ (by simpa using s0)).mono ?_
    rintro e w5 ⟨b2, bch2, bnc2, bt2, bs2, br2, bw2, bx2, by2, rfl, hd⟩
    have HD : Hid (Conn _ _ _ b2 bch2 bnc2 bt2 bs2 br2 bw2 bx2 by2 w5) := hd
    have HC5 : Hid (Conn _ _ _ b bch bnc bt bs br bw bx by' w5) := HC3.out.later (by simpa using (below_dN (Below.refl _ _) nq).trans hd.below)
    have HS5 : Hid (Below w.heap.size w w5) := HS3.out.2.trans (((below_dN (Below.refl _ _) nq).trans (by simpa using hd.below)).mono HS3.out.2.size)
    have hz1 : b < w'.heap.size := lt_of_heap HC3.out.hb
    have hz2 : bch < w'.heap.size := lt_of_heap HC3.out.hch
    have hz3 : bnc < w'.heap.size := lt_of_heap HC3.out.hnc
    have hz4 : br < w'.heap.size := lt_of_heap HC3.out.hr
    have hz5 : bw < w'.heap.size := lt_of_heap HC3.out.hw
    have y1 : w'.heap.size ≤ b2 := hd.lb
    have y2 : w'.heap.size ≤ bch2 := hd.lch
    have y3 : w'.heap.size ≤ bnc2 := hd.lnc
    have y4 : w'.heap.size ≤ br2 := hd.lr
    have y5 : w'.heap.size ≤ bw2 := hd.lw
    have f1 := far53 (show b2 ≠ b by omega) HD.out.hb HC5.out.hb
    have f2 := far63 (show bnc2 + 1 ≠ bnc + 1 by omega) HD.out.hno HC5.out.hno
    have f3 := far57 (show br2 ≠ br by omega) HD.out.hr HC5.out.hr
    have f4 := far64 (show bw2 ≠ bw by omega) HD.out.hw HC5.out.hw
    have f5 := fun w => ch_far w (show bch2 ≠ bch by omega)
    clear hd hz1 hz2 hz3 hz4 hz5 y1 y2 y3 y4 y5 s0 HC3 HS3
    have d0 : w5.cell? ⟨b2, 0, none⟩ = some (.pointer (some ⟨w.heap.size + 1, 0, none⟩)) := by rw [cell_of_heap HD.out.hb]; rfl
    have d1 : w5.cell? ⟨b2, 1, none⟩ = some (.pointer (some ⟨w.heap.size, 0, none⟩)) := by rw [cell_of_heap HD.out.hb]; rfl
    have d3 : w5.cell? ⟨b2, 3, none⟩ = some (.pointer (some ⟨br2, 0, none⟩)) := by rw [cell_of_heap HD.out.hb]; rfl
    have d6 : w5.cell? ⟨b2, 6, none⟩ = some (.chan (some bch2)) := by rw [cell_of_heap HD.out.hb]; rfl
    have d12 : w5.cell? ⟨b2, 12, none⟩ = some (.pointer (some ⟨bnc2 + 1, 0, none⟩)) := by rw [cell_of_heap HD.out.hb]; rfl
    have d15 : w5.cell? ⟨b2, 15, none⟩ = some (.pointer (some ⟨bw2, 0, none⟩)) := by rw [cell_of_heap HD.out.hb]; rfl
    have d25 : w5.cell? ⟨b2, 25, none⟩ = some (.iface 81 (.pointer (some ⟨b2, 13, none⟩))) := by rw [cell_of_heap HD.out.hb]; rfl
    have e3 : w5.cell? ⟨b, 3, none⟩ = some (.pointer (some ⟨br, 0, none⟩)) := by rw [cell_of_heap HC5.out.hb]; rfl
    have e6 : w5.cell? ⟨b, 6, none⟩ = some (.chan (some bch)) := by rw [cell_of_heap HC5.out.hb]; rfl
    have e12 : w5.cell? ⟨b, 12, none⟩ = some (.pointer (some ⟨bnc + 1, 0, none⟩)) := by rw [cell_of_heap HC5.out.hb]; rfl
    have e15 : w5.cell? ⟨b, 15, none⟩ = some (.pointer (some ⟨bw, 0, none⟩)) := by rw [cell_of_heap HC5.out.hb]; rfl
    clear HC5 HD
    go_wp2_with fail
    go_quiet (fail)
    clear e3 e6 e12 e15 d3 d6 d12 d15 f1 f2 f3 f4 f5
    go_wp2_with fail
    go_quiet (fail)
    go_wp2
    go_ret
    exact ⟨rfl, below_dN (below_dN HS5.out _) _⟩
end Go.Proofs.Ybulkddnq
