/-
  S5246B, first text: the law's own reader (function 23): a read at the end of the data; a read that gives bytes.
-/
import Derived.Test.YbulkddpuDoorRows
import Derived.WalkKit
import Derived.WalkSpells
import Derived.WalkLawsBesides
import Derived.LaidEql
import Derived.OwnWalk
import Derived.Laws.CopyOwn
import Derived.Laws.CopyRow
import Derived.Deep.RegionHeld3
import Derived.Deep.DeepCutAuto
import Derived.Deep.CutBlock
import Derived.BigQuiet
namespace Go.Proofs.YbulkddpuDoor
open Go.RowKit

/-- w' is w but for the blocks of which S speaks. -/
structure But (w w' : World) (S : Nat → Prop) : Prop where
  os : w'.os = w.os
  tape : w'.tape = w.tape
  output : w'.output = w.output
  size : w'.heap.size = w.heap.size
  block : ∀ i, ¬ S i → w'.heap[i]? = w.heap[i]?
theorem But.refl (w : World) (S : Nat → Prop) : But w w S := ⟨rfl, rfl, rfl, rfl, fun _ _ => rfl⟩
theorem But.trans {a b c : World} {S : Nat → Prop} (h : But a b S) (k : But b c S) : But a c S :=
  ⟨k.os.trans h.os, k.tape.trans h.tape, k.output.trans h.output, k.size.trans h.size, fun i hi => (k.block i hi).trans (h.block i hi)⟩
theorem But.mono {a b : World} {S T : Nat → Prop} (h : But a b S) (hST : ∀ i, S i → T i) : But a b T := ⟨h.os, h.tape, h.output, h.size, fun i hi => h.block i (fun hs => hi (hST i hs))⟩
theorem But.drewN {a b : World} {S : Nat → Prop} (h : But a b S) (n : Nat) : But a (b.drewN n) S := ⟨h.os, h.tape, h.output, h.size, h.block⟩
theorem But.drew {a b : World} {S : Nat → Prop} (h : But a b S) : But a b.drew S := ⟨h.os, h.tape, h.output, h.size, h.block⟩
theorem But.setCell {a b : World} {S : Nat → Prop} (h : But a b S) {p : Addr} (hp : S p.block) (v : Value) : But a (b.setCell p v) S :=
  h.trans ⟨rfl, rfl, rfl, by simp, fun i hi => Below.heap_setCell _ _ _ _ (fun e => hi (by rw [e]; exact hp))⟩
theorem But.below {a b : World} {S : Nat → Prop} (h : But a b S) {B : Nat} (hB : ∀ i, i < B → ¬ S i) : Below B a b := ⟨h.os, h.tape, h.output, by rw [h.size]; exact Nat.le_refl _, fun i hi => h.block i (hB i hi)⟩
theorem But.cell {a b : World} {S : Nat → Prop} (h : But a b S) {p : Addr} (hp : ¬ S p.block) : b.cell? p = a.cell? p := World.cell?_of_block (w := a) (h.block p.block hp)
theorem But.frozen {a b : World} {S : Nat → Prop} (h : But a b S) {p : Addr} (hp : ¬ S p.block) : b.frozen? p = a.frozen? p := World.frozen?_of_block (w := a) (h.block p.block hp)

theorem lt_of_heap {w : World} {b : Nat} {o : Obj} (h : w.heap[b]? = some o) : b < w.heap.size := by
  by_cases hb : b < w.heap.size
  · exact hb
  · rw [Array.getElem?_eq_none (by omega)] at h; cases h
theorem cell_of_heap {w : World} {b : Nat} {cs : Array Value} {t : TypeId} {fr : Nat × Nat} (h : w.heap[b]? = some (.cells cs t fr)) (k : Nat) : w.cell? ⟨b, k, none⟩ = cs[k]? := by
  simp [World.cell?, h]
theorem free_of_heap {w : World} {b : Nat} {cs : Array Value} {t : TypeId} (h : w.heap[b]? = some (.cells cs t)) (k : Nat) : w.frozen? ⟨b, k, none⟩ = false := by
  simp [World.frozen?, h]
theorem set_same {w : World} {b k : Nat} {cs cs' : Array Value} {t : TypeId} (h : w.heap[b]? = some (.cells cs t)) (v : Value) (hcs : cs.setIfInBounds k v = cs') : (w.setCell ⟨b, k, none⟩ v).heap[b]? = some (.cells cs' t) := by
  rw [heap_setCell_same w b k cs t v h, hcs]

/-- The reader's cells. -/
def rArr (da : Option Addr) (dl dc : Nat) (pos : Int) (sa : Option Addr) (sl sc : Nat) (k : Int) (fl : Value) : Array Value :=
  #[.slice da dl dc, .int .i64 pos, .slice sa sl sc, .int .i64 k, fl]

/-- What a read at the end of the data answers. -/
def endErr (ae : Addr) : Option Addr → Value
  | some fa => .iface 32 (.pointer (some fa))
  | none => .iface 32 (.pointer (some ae))
/-- The reader's error as a value. -/
def failVal : Option Addr → Value
  | some fa => .iface 32 (.pointer (some fa))
  | none => .nilIface

set_option maxHeartbeats 1000000 in
theorem read_end (rb : Nat) (pv : Option Addr) (pl pc : Nat) (da : Option Addr) (dl dc : Nat) (sa : Option Addr) (sl sc : Nat) (k : Int) (fl : Option Addr) (ae : Addr) (w : World) (hr : w.heap[rb]? = some (.cells (rArr da dl dc dl sa sl sc k (failVal fl)) 29))
    (hpl : 1 ≤ pl) (hpm : pl ≤ 2000) (hE : w.cell? ⟨1, 0, none⟩ = some (.iface 32 (.pointer (some ae)))) :
    Calls Ybad.prog 23 #[.pointer (some ⟨rb, 0, none⟩), .slice pv pl pc] w fun e w' => e = .returned (.tuple #[.int .i64 0, endErr ae fl]) ∧ ∃ n, w' = w.drewN n := by
  have c0 : w.cell? ⟨rb, 0, none⟩ = some (.slice da dl dc) := by rw [cell_of_heap hr]; rfl
  have c1 : w.cell? ⟨rb, 1, none⟩ = some (.int .i64 dl) := by rw [cell_of_heap hr]; rfl
  have c4 : w.cell? ⟨rb, 4, none⟩ = some (failVal fl) := by rw [cell_of_heap hr]; rfl
  have t0 : ((pl : Int) == 0) = false := by simp; omega
  cases fl with
  | none =>
    simp only [failVal] at c4
    simp only [endErr]
    go_enter Ybad.func23, Ybad.ntmps23
    go_wp2_with fail
    go_quiet (fail)
    go_wp2_with fail
    go_quiet (fail)
    go_wp2
    go_ret2
    exact ⟨rfl, _, by rw [World.drewN_drewN]⟩
  | some fa =>
    simp only [failVal] at c4
    simp only [endErr]
    go_enter Ybad.func23, Ybad.ntmps23
    go_wp2_with fail
    go_quiet (fail)
    go_wp2_with fail
    go_quiet (fail)
    go_wp2
    go_ret2
    exact ⟨rfl, _, by rw [World.drewN_drewN]⟩

/-- m bytes of the data from pos on. -/
def bytesAt (D : Nat → Int) (pos m : Nat) : List Value := (List.range m).map fun j => .int .u8 (D (pos + j))
theorem length_bytesAt (D : Nat → Int) (pos m : Nat) : (bytesAt D pos m).length = m := by simp [bytesAt]
theorem info5 : (Ybad.prog.info? 5).map (·.size) = some 1 := by kernel_rfl
theorem copy_run (pb po pl pc db doff pos m sl2 c2 : Nat) (hs2 : sl2 = m) (cur : Array Value) (D : Nat → Int) (w : World) (hp : w.heap[pb]? = some (.cells cur 5)) (hcur : po + pl ≤ cur.size) (hm : m ≤ pl)
    (hD : ∀ j, j < m → w.cell? ⟨db, doff + (pos + j), none⟩ = some (.int .u8 (D (pos + j)))) :
    (Builtin.copy_ #[22, 22] 3 #[.slice (some ⟨pb, po, none⟩) pl pc, .slice (some ⟨db, doff + pos, none⟩) sl2 c2]).run Ybad.prog w = .ok (.int .i64 m) (w.setRow pb (splice cur.toList po (bytesAt D pos m)).toArray) := by
  subst hs2
  have hl := length_bytesAt D pos sl2
  have := run_copy_row (P := Ybad.prog) w 22 22 3 5 pb po pl pc ⟨db, doff + pos, none⟩ sl2 c2 cur 5 (bytesAt D pos sl2) Ybad.underlying22 info5 hp (by rw [hl]; exact (Nat.min_eq_left hm).symm) (fun j v hv => by
    have hj : j < sl2 := by rw [← hl]; exact (List.getElem?_eq_some_iff.1 hv).1
    rw [Addr.add_mid, Nat.add_assoc, hD j hj]
    simp [bytesAt, hj] at hv
    rw [hv]) (by rw [hl]; omega) (fun v hv => by
    simp only [bytesAt, List.mem_map] at hv
    obtain ⟨j, _, rfl⟩ := hv
    rfl)
  rw [this, hl]
  simp [splice, goInt, hl]

set_option maxRecDepth 100000 in
set_option maxHeartbeats 1000000 in
theorem read_some (rb pb po pl pc : Nat) (db doff dl dc : Nat) (sa : Option Addr) (sb soff sl sc : Nat) (hsa : 0 < sl → sa = some ⟨sb, soff, none⟩) (pos k : Nat) (fl : Option Addr) (cur : Array Value) (D S : Nat → Int) (w : World)
    (hr : w.heap[rb]? = some (.cells (rArr (some ⟨db, doff, none⟩) dl dc pos sa sl sc k (failVal fl)) 29)) (hp : w.heap[pb]? = some (.cells cur 5)) (hne : pb ≠ rb) (hdb : db ≠ rb) (hcur : po + pl ≤ cur.size)
    (hD : ∀ j, j < dl → w.cell? ⟨db, doff + j, none⟩ = some (.int .u8 (D j))) (hS : ∀ j, j < sl → w.cell? ⟨sb, soff + j, none⟩ = some (.int .u8 (S j)) ∧ 0 ≤ S j ∧ S j ≤ 255)
    (hpl : 1 ≤ pl) (hpm : pl ≤ 2000) (hdl : dl ≤ 1024) (hpos : pos < dl) (hk : k ≤ 2000) (hsl : sl ≤ 9223372036854775807) (hdc : dl ≤ dc) (hdc2 : dc ≤ 9223372036854775807) :
    Calls Ybad.prog 23 #[.pointer (some ⟨rb, 0, none⟩), .slice (some ⟨pb, po, none⟩) pl pc] w fun e w' => ∃ m k' : Nat, e = .returned (.tuple #[.int .i64 m, .nilIface]) ∧ 1 ≤ m ∧ m ≤ pl ∧ m ≤ dl - pos ∧ k' ≤ k + 1 ∧
      w'.heap[rb]? = some (.cells (rArr (some ⟨db, doff, none⟩) dl dc (pos + m : Nat) sa sl sc k' (failVal fl)) 29) ∧ w'.heap[pb]? = some (.cells (splice cur.toList po (bytesAt D pos m)).toArray 5) ∧ But w w' (fun i => i = rb ∨ i = pb) := by
  have c0 : w.cell? ⟨rb, 0, none⟩ = some (.slice (some ⟨db, doff, none⟩) dl dc) := by rw [cell_of_heap hr]; rfl
  have c1 : w.cell? ⟨rb, 1, none⟩ = some (.int .i64 pos) := by rw [cell_of_heap hr]; rfl
  have c2 : w.cell? ⟨rb, 2, none⟩ = some (.slice sa sl sc) := by rw [cell_of_heap hr]; rfl
  have c3 : w.cell? ⟨rb, 3, none⟩ = some (.int .i64 k) := by rw [cell_of_heap hr]; rfl
  have fz : ∀ i, w.frozen? ⟨rb, i, none⟩ = false := free_of_heap hr
  have t0 : ((pl : Int) == 0) = false := by simp; omega
  go_enter Ybad.func23, Ybad.ntmps23
  go_wp2_with fail
  go_quiet (fail)
  go_wp2_with fail
  go_quiet (fail)
  go_upto_if 46 with fail
  go_cut [6] (fun s6 wc => ∃ (m0 k' : Nat), s6 = .int .i64 m0 ∧ 1 ≤ m0 ∧ m0 ≤ dl - pos ∧ k' ≤ k + 1 ∧ wc.heap[rb]? = some (.cells (rArr (some ⟨db, doff, none⟩) dl dc pos sa sl sc k' (failVal fl)) 29) ∧ But w wc (· = rb))
  case first =>
    by_cases hs : 0 < sl
    · have hsa' := hsa hs
      subst hsa'
      obtain ⟨h1, h2, h3⟩ := hS (k % sl) (Nat.mod_lt _ hs)
      have e1 : (k : Int) % (sl : Int) = ((k % sl : Nat) : Int) := by omega
      have e2 : ((sl : Int) == 0) = false := by simp; omega
      have e3 : (k % sl : Nat) < sl := Nat.mod_lt _ hs
      obtain ⟨x, hx⟩ : ∃ x, x = k % sl := ⟨_, rfl⟩
      rw [← hx] at h1 h2 h3 e1 e3
      clear hx
      clear hS
      go_wp2_with fail
      go_quiet (fail)
      have HR : Hid (w.heap[rb]? = some (.cells (rArr (some ⟨db, doff, none⟩) dl dc pos (some ⟨sb, soff, none⟩) sl sc k (failVal fl)) 29)) := hr
      clear hr
      go_wp2
      all_goals
        go_meet
        case rel =>
          first
            | refine ⟨(1 + S x % 7).toNat, k + 1, by rw [Int.toNat_of_nonneg (by omega)], by omega, by omega, by omega, ?_, ?_⟩
            | refine ⟨dl - pos, k + 1, by rw [Int.ofNat_sub (by omega)], by omega, by omega, by omega, ?_, ?_⟩
          · exact set_same (w := w) HR.out _ rfl
          · exact (((But.refl w (· = rb)).setCell (p := ⟨rb, 3, none⟩) rfl _).drewN _)
    · go_wp2
      go_meet
      case rel =>
        exact ⟨dl - pos, k, by rw [Int.ofNat_sub (by omega)], by omega, by omega, by omega, hr, (But.refl _ _).drewN _⟩
  case rest =>
    obtain ⟨m0, k', rfl, hm1, hm2, hk', hr', hbut⟩ := hcut
    have HC : Hid (k' ≤ k + 1 ∧ wc.heap[rb]? = some (.cells (rArr (some ⟨db, doff, none⟩) dl dc pos sa sl sc k' (failVal fl)) 29) ∧ But w wc (· = rb)) := ⟨hk', hr', hbut⟩
    have d0 : wc.cell? ⟨rb, 0, none⟩ = some (.slice (some ⟨db, doff, none⟩) dl dc) := by rw [cell_of_heap hr']; rfl
    have d1 : wc.cell? ⟨rb, 1, none⟩ = some (.int .i64 pos) := by rw [cell_of_heap hr']; rfl
    have hf : ∀ i, wc.frozen? ⟨rb, i, none⟩ = false := free_of_heap hr'
    clear c0 c1 c2 c3 fz hr hr' hbut hS hsa
    go_upto_if 80 with fail
    go_cut [6] (fun s6 w6 => ∃ m : Nat, s6 = .int .i64 m ∧ 1 ≤ m ∧ m ≤ pl ∧ m ≤ dl - pos ∧ w6 = wc)
    case first =>
      by_cases hlt : pl < m0
      · go_wp2
        go_meet
        case rel => exact ⟨pl, rfl, by omega, by omega, by omega, rfl⟩
      · go_wp2
        go_meet
        case rel => exact ⟨m0, rfl, by omega, by omega, by omega, rfl⟩
    case rest =>
      rename_i wcc
      obtain ⟨m, rfl, hm3, hm4, hm5, rfl⟩ := hcut
      clear hm1 hm2
      have i1 : (0 : Int) ≤ (pos : Int) := by omega
      have i2 : (pos : Int) ≤ (pos : Int) + (m : Int) := by omega
      have i3 : (pos : Int) + (m : Int) ≤ (dc : Int) := by omega
      have iw : IntKind.i64.wrap ((pos : Int) + (m : Int)) = (pos : Int) + (m : Int) := by rw [IntKind.wrap_i64]; omega
      have hW : wc.drew.heap[pb]? = some (.cells cur 5) := (HC.out.2.2.block pb hne).trans hp
      have hcp := copy_run pb po pl pc db doff pos m (((pos : Int) + (m : Int)).toNat - pos) (dc - pos) (by omega) cur D wc.drew hW hcur hm4 (fun j hj => by
        have h1 := hD (pos + j) (by omega)
        exact (HC.out.2.2.cell (p := ⟨db, doff + (pos + j), none⟩) hdb).trans h1)
      obtain ⟨X, hX⟩ : ∃ X, X = (splice cur.toList po (bytesAt D pos m)).toArray := ⟨_, rfl⟩
      rw [← hX] at hcp
      have HX : Hid (X = (splice cur.toList po (bytesAt D pos m)).toArray) := hX
      clear hX
      have hsame : ∀ i, i ≠ pb → (wc.drew.setRow pb X).heap[i]? = wc.heap[i]? := fun i hi => setRow_other wc.drew pb i X hi
      have g0 : (wc.drew.setRow pb X).cell? ⟨rb, 0, none⟩ = some (.slice (some ⟨db, doff, none⟩) dl dc) := (World.cell?_of_block (w := wc) (hsame rb (Ne.symm hne))).trans d0
      have g1 : (wc.drew.setRow pb X).cell? ⟨rb, 1, none⟩ = some (.int .i64 pos) := (World.cell?_of_block (w := wc) (hsame rb (Ne.symm hne))).trans d1
      have gf : ∀ i, (wc.drew.setRow pb X).frozen? ⟨rb, i, none⟩ = false := fun i => (World.frozen?_of_block (w := wc) (hsame rb (Ne.symm hne))).trans (hf i)
      have HW : Hid ((wc.drew.setRow pb X).heap[pb]? = some (.cells X 5) ∧ But wc (wc.drew.setRow pb X) (· = pb) ∧ ∀ i, i ≠ pb → (wc.drew.setRow pb X).heap[i]? = wc.heap[i]?) :=
        ⟨setRow_heap _ _ _ _ _ _ hW, ⟨rfl, rfl, rfl, by simp [World.setRow], fun i hi => setRow_other wc.drew pb i X hi⟩, hsame⟩
      clear hsame hW hD hp
      go_wp2_with fail
      go_region_held3 (fun w' => w'.cell? ⟨rb, 0, none⟩ = some (.slice (some ⟨db, doff, none⟩) dl dc) ∧ w'.cell? ⟨rb, 1, none⟩ = some (.int .i64 pos))
        (first | exact ⟨d0, d1⟩ | exact ⟨g0, g1⟩)
        (fail)
      go_wp2
      go_ret2
      refine ⟨m, k', rfl, hm3, hm4, hm5, HC.out.1, ?_, ?_, ?_⟩
      · exact set_same ((HW.out.2.2 rb (Ne.symm hne)).trans HC.out.2.1) _ rfl
      · rw [← HX.out]
        exact (Below.heap_setCell _ _ _ _ hne).trans HW.out.1
      · exact ((HC.out.2.2.mono (fun i hi => Or.inl hi)).trans (HW.out.2.1.mono (fun i hi => Or.inr hi))).setCell (p := ⟨rb, 1, none⟩) (Or.inl rfl) _
end Go.Proofs.YbulkddpuDoor
