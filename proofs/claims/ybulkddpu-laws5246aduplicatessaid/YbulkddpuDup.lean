/-
  S5246A, third text: the law over made IDs (function 4): make, a loop that fills the slice, the check by its contract.
-/
import Derived.Test.YbulkddpuCheck
import Derived.OpenShut
namespace Go.Proofs.Ybulkddpu
open Go.RowKit Go.Maps

/-- The cells of the ID that the law makes: first byte a, last byte t. -/
def idCells (a t : Int) : List Value :=
  [.int .u8 a, .int .u8 0, .int .u8 0, .int .u8 0, .int .u8 0, .int .u8 0, .int .u8 0, .int .u8 0, .int .u8 0, .int .u8 0, .int .u8 0, .int .u8 0, .int .u8 0, .int .u8 0, .int .u8 0, .int .u8 0, .int .u8 0, .int .u8 0, .int .u8 0, .int .u8 t]

theorem mk22 (n : Nat) (h : n ≤ 1024) : ∃ c : Array Value, c.size = n * 20 ∧ ∀ w : World, (Instr.makeSlice 22 (.int .i64 n) (.int .i64 n)).run Yba.prog w = .ok (.slice (some ⟨w.heap.size, 0, none⟩) n n) (w.alloc (.cells c 26)) := by
  have h0 : (Yba.prog.info? 26).map (fun i => (i.size, i.bytes)) = some (20, 20) := by kernel_rfl
  obtain ⟨i0, hi, hz⟩ := Option.map_eq_some_iff.1 h0
  simp only [Prod.mk.injEq] at hz
  have hzero : ((Yba.prog.info? 26).bind (fun i => i.zero)).isSome = true := by kernel_rfl
  rw [hi] at hzero
  obtain ⟨z, hz0⟩ := Option.isSome_iff_exists.1 hzero
  refine ⟨madeCells z.cells (n * 20), size_madeCells _ _, fun w => ?_⟩
  have := run_make (P := Yba.prog) w 22 26 i0 z Yba.underlying22 hi hz0 .i64 .i64 n n (by omega) (by omega) (by rw [hz.2]; omega) (by omega)
  rw [this, hz.1]
  simp

theorem wf_u8 {n : Int} (h0 : 0 ≤ n) (h1 : n ≤ 255) : (Lit.int .u8 n).wf = true := WalkArith.wf_u8 ⟨h0, h1⟩
theorem isId_mk {a t : Int} (h0 : 0 ≤ a) (h1 : a ≤ 255) (h2 : 0 ≤ t) (h3 : t ≤ 255) : IsId (idCells a t) := by
  refine ⟨rfl, fun v hv => ?_⟩
  simp only [idCells, List.mem_cons, List.not_mem_nil, or_false] at hv
  rcases hv with rfl | rfl | rfl | rfl | rfl | rfl | rfl | rfl | rfl | rfl | rfl | rfl | rfl | rfl | rfl | rfl | rfl | rfl | rfl | rfl
  all_goals first | exact ⟨_, rfl, wf_u8 h0 h1⟩ | exact ⟨_, rfl, wf_u8 h2 h3⟩ | exact ⟨0, rfl, by decide⟩

theorem wpList_store_row {ops : Array Oper} {rest : List Oper} {op : Oper} {a : Act} {W : World} {Q : Exit → Act → World → Prop} (hgd : op.guard = none) (x y : Operand) (ho : op.op = .store 26 x y)
    (cs : List Value) (hid : IsId cs) (b o : Nat) (hx : a.eval x = .pointer (some ⟨b, o, none⟩)) (hy : a.eval y = .agg cs.toArray) (hth : W.there b o 20)
    (h : wpList Yba.prog ops Q rest (a.put op.dst undef) (W.setCells b o cs)) : wpList Yba.prog ops Q (op :: rest) a W := by
  have hl : cs.toArray.size = 20 := by simpa using hid.1
  exact wpList_store_mid hgd 26 x y ho b o cs.toArray hx hy (by rw [hl]; exact hth) (by rw [info26, hl]) (id_one hid) h

theorem below_setCells {B : Nat} {a : World} (b : Nat) (hb : B ≤ b) : ∀ (vs : List Value) (o : Nat) (w : World), Below B a w → Below B a (w.setCells b o vs)
  | [], _, _, h => h
  | v :: r, o, w, h => by
    rw [World.setCells]
    exact below_setCells b hb r (o + 1) _ (h.setCell (p := ⟨b, o, none⟩) hb v)
theorem size_setCells (b : Nat) : ∀ (vs : List Value) (o : Nat) (w : World), (w.setCells b o vs).heap.size = w.heap.size
  | [], _, _ => rfl
  | v :: r, o, w => by
    rw [World.setCells, size_setCells b r (o + 1) _]
    simp
theorem dup_step {w wr : World} {k len : Nat} {Z : Nat → Int} {t : Int} (o : Obj) (hsz : w.heap.size < wr.heap.size) (hlt : k < len)
    (hin : ∀ j, j < k → wr.rangeAt w.heap.size (j * 20) (idCells (Z j % 5) t)) (hth : ∀ j, j < len → wr.there w.heap.size (j * 20) 20) (hB : Below w.heap.size w wr) :
    (∀ j, j < k + 1 → ((wr.alloc o).setCells w.heap.size (k * 20) (idCells (Z k % 5) t)).rangeAt w.heap.size (j * 20) (idCells (Z j % 5) t)) ∧
    (∀ j, j < len → ((wr.alloc o).setCells w.heap.size (k * 20) (idCells (Z k % 5) t)).there w.heap.size (j * 20) 20) ∧
    Below w.heap.size w ((wr.alloc o).setCells w.heap.size (k * 20) (idCells (Z k % 5) t)) ∧ w.heap.size < ((wr.alloc o).setCells w.heap.size (k * 20) (idCells (Z k % 5) t)).heap.size := by
  have hth' : ∀ j, j < len → (wr.alloc o).there w.heap.size (j * 20) 20 := fun j hj i hi => by
    have h1 := hth j hj i hi
    rw [World.cell?_alloc_past _ _ _ hsz, World.frozen?_alloc_past _ _ _ hsz]
    exact h1
  refine ⟨fun j hj => ?_, fun j hj => World.there_setCells (hth' j hj) _ _ _, below_setCells _ (Nat.le_refl _) _ _ _ (hB.alloc (by omega) _), by rw [size_setCells]; simp; omega⟩
  by_cases e : j = k
  · subst e
    exact World.rangeAt_setCells_same _ _ _ _ (hth' j hlt)
  · refine World.rangeAt_setCells_apart (rangeAt_below (hin j (by omega)) ((Below.refl _ _).alloc (Nat.le_refl _) _)) _ _ _ ?_
    right; left
    show j * 20 + 20 ≤ k * 20
    omega

set_option maxHeartbeats 1000000 in
theorem dup_walk (a : Option Addr) (b off len cap : Nat) (hcap : len ≤ 1024) (ha : 0 < len → a = some ⟨b, off, none⟩) (Z : Nat → Int) (t : Int) (w : World) (hc : ∀ j, j < len → w.cell? ⟨b, off + j, none⟩ = some (.int .u8 (Z j))) (hw : ∀ j, j < len → 0 ≤ Z j ∧ Z j ≤ 255) (ht0 : 0 ≤ t) (ht1 : t ≤ 255) :
    Calls Yba.prog 4 #[.slice a len cap, .int .u8 t] w fun e w' => e = .returned (.bool true) ∧ Below w.heap.size w w' := by
  obtain ⟨c, hcs, hmk⟩ := mk22 len hcap
  have hli : ¬ (1024 : Int) < (len : Int) := by omega
  go_enter Yba.func4, Yba.ntmps4
  go_wp2
  clear hmk
  go_loopw [6] (fun i wr => ∃ k : Nat, k ≤ len ∧ i = .int .i64 k ∧ (∀ j, j < k → wr.rangeAt w.heap.size (j * 20) (idCells (Z j % 5) t)) ∧ (∀ j, j < len → wr.there w.heap.size (j * 20) 20) ∧ Below w.heap.size w wr ∧ w.heap.size < wr.heap.size) (fun i _ => len - (intOf i).toNat)
  case atStart =>
    refine ⟨0, Nat.zero_le _, rfl, fun j hj => by omega, fun j hj => ?_, (Below.refl _ _).alloc (Nat.le_refl _) _, by simp⟩
    intro i hi
    have e := cell_of_heap (heapNew (w := w) (o := .cells c 26) rfl) (j * 20 + i)
    refine ⟨?_, free_of_heap (heapNew rfl) _⟩
    rw [e]
    simp
    omega
  case round =>
    obtain ⟨k, hkl, rfl, hin, hth, hB, hsz⟩ := hrel
    by_cases hlt : k < len
    · have ha' := ha (by omega)
      subst ha'
      clear ha
      have hck : wr.cell? ⟨b, off + k, none⟩ = some (.int .u8 (Z k)) := by
        rw [hB.cell (World.block_lt_of_cell? w _ (hc k hlt))]; exact hc k hlt
      obtain ⟨z0, z1⟩ := hw k hlt
      have HR : Hid ((∀ j, j < k → wr.rangeAt w.heap.size (j * 20) (idCells (Z j % 5) t)) ∧ (∀ j, j < len → wr.there w.heap.size (j * 20) 20) ∧ Below w.heap.size w wr) := ⟨hin, hth, hB⟩
      clear hin hth hB hc hw
      have hbl := World.block_lt_of_cell? wr _ hck
      have hidk : IsId (idCells (Z k % 5) t) := isId_mk (by omega) (by omega) ht0 ht1
      have hinf : (Yba.prog.info? 26).map (·.size) = some (idCells (Z k % 5) t).length := info26
      have hrg : (wr.alloc (.cells #[.int .u8 (Z k % 5), .int .u8 0, .int .u8 0, .int .u8 0, .int .u8 0, .int .u8 0, .int .u8 0, .int .u8 0, .int .u8 0, .int .u8 0, .int .u8 0, .int .u8 0, .int .u8 0, .int .u8 0, .int .u8 0, .int .u8 0, .int .u8 0, .int .u8 0, .int .u8 0, .int .u8 t] 26)).rangeAt wr.heap.size 0 (idCells (Z k % 5) t) := range_new wr 26 (idCells (Z k % 5) t)
      have hth : (wr.alloc (.cells #[.int .u8 (Z k % 5), .int .u8 0, .int .u8 0, .int .u8 0, .int .u8 0, .int .u8 0, .int .u8 0, .int .u8 0, .int .u8 0, .int .u8 0, .int .u8 0, .int .u8 0, .int .u8 0, .int .u8 0, .int .u8 0, .int .u8 0, .int .u8 0, .int .u8 0, .int .u8 0, .int .u8 t] 26)).there w.heap.size (k * 20) 20 := fun i hi => by
        have h1 := HR.out.2.1 k hlt i hi
        rw [World.cell?_alloc_past _ _ _ hsz, World.frozen?_alloc_past _ _ _ hsz]
        exact h1
      go_upto_region 10 with fail
      go_wp2_with (first
        | (refine wpList_load_mid rfl 26 (.tmp 7) rfl wr.heap.size 0 rfl (idCells (Z k % 5) t) _ hrg Yba.underlying26 rfl hinf ?_)
        | (refine wpList_store_row rfl (.tmp 31) (.tmp 30) rfl _ hidk _ _ rfl rfl hth ?_; clear hrg hth hinf))
      have R := dup_step (Obj.cells #[.int .u8 (Z k % 5), .int .u8 0, .int .u8 0, .int .u8 0, .int .u8 0, .int .u8 0, .int .u8 0, .int .u8 0, .int .u8 0, .int .u8 0, .int .u8 0, .int .u8 0, .int .u8 0, .int .u8 0, .int .u8 0, .int .u8 0, .int .u8 0, .int .u8 0, .int .u8 0, .int .u8 t] 26) hsz hlt HR.out.1 HR.out.2.1 HR.out.2.2
      go_roundw
      case rel => exact ⟨k + 1, by omega, by go_num, R⟩
      case measure => simp [intOf]; omega
    · have hkk : k = len := by omega
      subst hkk
      have hH : Held wr w.heap.size 0 k (fun j => idCells (Z j % 5) t) := ⟨fun j hj => by
        obtain ⟨z0, z1⟩ := hw j hj
        exact isId_mk (by omega) (by omega) ht0 ht1, fun j hj => by rw [Nat.zero_add]; exact hin j hj⟩
      have HB : Hid (Below w.heap.size w wr ∧ Held wr w.heap.size 0 k (fun j => idCells (Z j % 5) t)) := ⟨hB, hH⟩
      clear hin hth hB hH hc hw ha
      go_wp2_with fail
      refine (check_any (some ⟨w.heap.size, 0, none⟩) w.heap.size 0 k k (fun _ => rfl) _ _ hcap HB.out.2).mono ?_
      rintro e w1 ⟨rfl, hB1⟩
      have HB1 : Hid (Below wr.heap.size wr w1) := hB1
      clear hB1
      go_wp2
      go_ret
      exact ⟨rfl, HB.out.1.trans (HB1.out.mono HB.out.1.size)⟩
theorem dup_long (a : Option Addr) (len cap : Nat) (t : Int) (w : World) (hl : 1024 < len) :
    Calls Yba.prog 4 #[.slice a len cap, .int .u8 t] w fun e w' => e = .returned (.bool true) ∧ Below w.heap.size w w' := by
  have hli : (1024 : Int) < (len : Int) := by omega
  go_enter Yba.func4, Yba.ntmps4
  go_wp2
  go_ret
  exact ⟨rfl, Below.refl _ _⟩
end Go.Proofs.Ybulkddpu
