/-
  S5246B, second text: io.ReadAtLeast over that reader (function 7).
-/
import Derived.Test.YbulkddpuDoorRead
namespace Go.Proofs.YbulkddpuDoor
open Go.RowKit

/-- The buffer behind q bytes read. -/
def pList (D : Nat → Int) (n q : Nat) : List Value := (List.range n).map fun j => if j < q then .int .u8 (D j) else .int .u8 0
theorem length_pList (D : Nat → Int) (n q : Nat) : (pList D n q).length = n := by simp [pList]
theorem get_pList (D : Nat → Int) (n q j : Nat) : (pList D n q)[j]? = if j < n then some (if j < q then .int .u8 (D j) else .int .u8 0) else none := by
  unfold pList
  by_cases h : j < n
  · simp [h]
  · simp [h]
theorem splice_pList (D : Nat → Int) (n q m : Nat) (h : q + m ≤ n) : splice (pList D n q) q (bytesAt D q m) = pList D n (q + m) := by
  apply List.ext_getElem?
  intro j
  rw [get_pList]
  unfold splice
  rw [List.getElem?_append, List.length_take, length_pList, Nat.min_eq_left (by omega)]
  by_cases h1 : j < q
  · rw [if_pos h1, List.getElem?_take, if_pos h1, get_pList]
    by_cases h2 : j < n
    · simp [h2, h1]; omega
    · omega
  · rw [if_neg h1, List.getElem?_append, length_bytesAt]
    by_cases h2 : j - q < m
    · rw [if_pos h2]
      have e : q + (j - q) = j := by omega
      have h3 : j < n := by omega
      have h4 : j < q + m := by omega
      simp [bytesAt, h2, e, h3, h4]
    · rw [if_neg h2, List.getElem?_drop, get_pList]
      have e : q + m + (j - q - m) = j := by omega
      rw [e]
      by_cases h3 : j < n
      · rw [if_pos h3, if_pos h3, if_neg (by omega), if_neg (by omega)]
      · rw [if_neg h3, if_neg h3]

theorem nil_ahead (a : Addr) (w : World) : (nilAhead 165 27 (.pointer (some a)) "Read").run Ybad.prog w = .ok (some false) w := by kernel_rfl
theorem method_read (a : Addr) (w : World) : (method 165 27 (.pointer (some a)) "Read").run Ybad.prog w = .ok (23, .pointer (some a)) w := by kernel_rfl

/-- '==' between two errors of one make. -/
theorem eq25_same (w : World) (a : Addr) : (binOp .eql 25 (.iface 32 (.pointer (some a))) (.iface 32 (.pointer (some a)))).run Ybad.prog w = .ok (.bool true) w := by
  have h32 : (Ybad.prog.info? 32).map (fun i => i.comparable) = some true := by kernel_rfl
  have h34 : (Ybad.prog.info? 34).map (fun i => i.size) = some 1 := by kernel_rfl
  obtain ⟨i, hi, hcmp⟩ := Option.map_eq_some_iff.1 h32
  obtain ⟨j, hj, _⟩ := Option.map_eq_some_iff.1 h34
  exact run_eql_iface_ptr_same (P := Ybad.prog) w a Ybad.underlying25 Ybad.underlying32 hi hcmp hj
theorem eq25_other {w : World} {a b : Addr} {ca cb : Array Value} {ta tb : TypeId} (hne : a ≠ b) (ha : w.heap[a.block]? = some (.cells ca ta (0, 0))) (hb : w.heap[b.block]? = some (.cells cb tb (0, 0))) :
    (binOp .eql 25 (.iface 32 (.pointer (some a))) (.iface 32 (.pointer (some b)))).run Ybad.prog w = .ok (.bool false) w := by
  have h32 : (Ybad.prog.info? 32).map (fun i => i.comparable) = some true := by kernel_rfl
  have h34 : (Ybad.prog.info? 34).map (fun i => i.size) = some 1 := by kernel_rfl
  obtain ⟨i, hi, hcmp⟩ := Option.map_eq_some_iff.1 h32
  obtain ⟨j, hj, hs⟩ := Option.map_eq_some_iff.1 h34
  exact run_eql_iface_ptr_other (P := Ybad.prog) w Ybad.underlying25 Ybad.underlying32 hi hcmp hj (by omega) hne ha hb
theorem eq25_nil (w : World) (a : Addr) : (binOp .eql 25 (.iface 32 (.pointer (some a))) .nilIface).run Ybad.prog w = .ok (.bool false) w :=
  run_eql_held_nil w 25 32 _ (by simp [Program.methodsAt, Ybad.underlying25])

/-- A block of cells that may be written. -/
def IsCells (w : World) (b : Nat) : Prop := ∃ c t, w.heap[b]? = some (.cells c t (0, 0))
/-- What ReadAtLeast answers where the data end first. -/
def atErr (dl : Nat) (au ae : Addr) : Option Addr → Value
  | some fa => .iface 32 (.pointer (some fa))
  | none => if 0 < dl then .iface 32 (.pointer (some au)) else .iface 32 (.pointer (some ae))

def errM : Value → Nat
  | .nilIface => 1
  | _ => 0

set_option maxRecDepth 100000 in
set_option maxHeartbeats 1000000 in
theorem atLeast_any (rb pb n : Nat) (da : Option Addr) (db doff dl dc : Nat) (hda : 0 < dl → da = some ⟨db, doff, none⟩) (sa : Option Addr) (sb soff sl sc : Nat) (hsa : 0 < sl → sa = some ⟨sb, soff, none⟩) (fl : Option Addr) (ae au : Addr) (D S : Nat → Int) (w : World)
    (hr : w.heap[rb]? = some (.cells (rArr da dl dc 0 sa sl sc 0 (failVal fl)) 29)) (hp : w.heap[pb]? = some (.cells (pList D n 0).toArray 5)) (hne : pb ≠ rb) (hdb : 0 < dl → db ≠ rb ∧ db ≠ pb) (hsb : 0 < sl → sb ≠ rb ∧ sb ≠ pb) (h1 : 1 < rb) (h2 : 1 < pb)
    (hD : ∀ j, j < dl → w.cell? ⟨db, doff + j, none⟩ = some (.int .u8 (D j))) (hS : ∀ j, j < sl → w.cell? ⟨sb, soff + j, none⟩ = some (.int .u8 (S j)) ∧ 0 ≤ S j ∧ S j ≤ 255)
    (hn : n ≤ 1024) (hdl : dl ≤ 1024) (hsl : sl ≤ 9223372036854775807) (hdc : dl ≤ dc) (hdc2 : dc ≤ 9223372036854775807)
    (hfa : ∀ fa, fl = some fa → fa ≠ ae ∧ IsCells w fa.block ∧ fa.block ≠ rb ∧ fa.block ≠ pb) (hae : IsCells w ae.block ∧ ae.block ≠ rb ∧ ae.block ≠ pb) (hU : w.cell? ⟨0, 0, none⟩ = some (.iface 32 (.pointer (some au)))) (hE : w.cell? ⟨1, 0, none⟩ = some (.iface 32 (.pointer (some ae)))) :
    Calls Ybad.prog 7 #[.iface 27 (.pointer (some ⟨rb, 0, none⟩)), .slice (some ⟨pb, 0, none⟩) n n, .int .i64 n] w fun e w' => ∃ k' : Nat,
      ((n ≤ dl ∧ e = .returned (.tuple #[.int .i64 n, .nilIface])) ∨ (dl < n ∧ e = .returned (.tuple #[.int .i64 dl, atErr dl au ae fl]))) ∧
      w'.heap[rb]? = some (.cells (rArr da dl dc (min n dl : Nat) sa sl sc k' (failVal fl)) 29) ∧ w'.heap[pb]? = some (.cells (pList D n (min n dl)).toArray 5) ∧ But w w' (fun i => i = rb ∨ i = pb) := by
  go_enter Ybad.func7, Ybad.ntmps7
  go_wp2
  go_loopw [6, 7] (fun i e wr => ∃ q k' : Nat, q ≤ n ∧ q ≤ dl ∧ k' ≤ q ∧ i = .int .i64 q ∧ wr.heap[rb]? = some (.cells (rArr da dl dc q sa sl sc k' (failVal fl)) 29) ∧ wr.heap[pb]? = some (.cells (pList D n q).toArray 5) ∧ But w wr (fun i => i = rb ∨ i = pb) ∧
      (e = .nilIface ∨ (e = endErr ae fl ∧ q = dl ∧ dl < n))) (fun i e _ => 2 * (n - (intOf i).toNat) + errM e)
  case atStart => exact ⟨0, 0, by omega, by omega, by omega, rfl, hr, hp, But.refl _ _, Or.inl rfl⟩
  case round =>
    obtain ⟨q, k', hqn, hqd, hkq, rfl, hr', hp', hbut, herr⟩ := hrel
    rcases herr with rfl | ⟨rfl, hqe, hdn⟩
    · by_cases hlt : q < n
      · have i1 : (0 : Int) ≤ (q : Int) := by omega
        have i2 : (q : Int) ≤ (n : Int) := by omega
        have hnq : ¬ n = q := by omega
        have hna := nil_ahead
        have hmr := method_read
        by_cases hqd' : q < dl
        · have hda' := hda (by omega)
          subst hda'
          have hdbq := hdb (by omega)
          have HR : Hid (wr.heap[rb]? = some (.cells (rArr (some ⟨db, doff, none⟩) dl dc q sa sl sc k' (failVal fl)) 29) ∧ wr.heap[pb]? = some (.cells (pList D n q).toArray 5) ∧ But w wr (fun i => i = rb ∨ i = pb)) := ⟨hr', hp', hbut⟩
          have HDD : Hid (∀ j, j < dl → wr.drew.cell? ⟨db, doff + j, none⟩ = some (.int .u8 (D j))) := fun j hj => (hbut.cell (p := ⟨db, doff + j, none⟩) (fun h => h.elim hdbq.1 hdbq.2)).trans (hD j hj)
          have HSS : Hid (∀ j, j < sl → wr.drew.cell? ⟨sb, soff + j, none⟩ = some (.int .u8 (S j)) ∧ 0 ≤ S j ∧ S j ≤ 255) := fun j hj =>
            ⟨(hbut.cell (p := ⟨sb, soff + j, none⟩) (fun h => h.elim (hsb (by omega)).1 (hsb (by omega)).2)).trans (hS j hj).1, (hS j hj).2⟩
          have HX := @read_some rb pb q (n - q) (n - q) db doff dl dc sa sb soff sl sc hsa q k' fl (pList D n q).toArray D S wr.drew HR.out.1 HR.out.2.1 hne hdbq.1 (by simp [length_pList]; omega) HDD.out HSS.out (by omega) (by omega) hdl hqd' (by omega) hsl hdc hdc2
          have HC : Hid _ := HX
          clear HX hr' hp' hbut hr hp hD hS HDD HSS hU hE
          go_wp2_with fail
          go_region_held3 (fun w' => True) (trivial) ((go_at_call 23; refine Calls.mono HC.out ?_; intro e w2 hpost; obtain ⟨m, k2, rfl, hm1, hm2, hm3, hk2, hr2, hp2, hb2⟩ := hpost))
          have R2 : Hid (w2.heap[rb]? = some (.cells (rArr (some ⟨db, doff, none⟩) dl dc (q + m : Nat) sa sl sc k2 (failVal fl)) 29) ∧ w2.heap[pb]? = some (.cells (pList D n (q + m)).toArray 5) ∧ But w w2 (fun i => i = rb ∨ i = pb)) :=
            ⟨hr2, by rw [← splice_pList D n q m (by omega)]; exact hp2, HR.out.2.2.drew.trans hb2⟩
          clear hr2 hp2 hb2 HR
          go_wp2
          go_roundw
          case rel => exact ⟨q + m, k2, by omega, by omega, by omega, by go_num, R2.out.1, R2.out.2.1, R2.out.2.2, Or.inl rfl⟩
          case measure => simp [intOf, errM]; omega
        · have hqe : q = dl := by omega
          subst hqe
          have hE' : wr.drew.cell? ⟨1, 0, none⟩ = some (.iface 32 (.pointer (some ae))) := (hbut.cell (p := ⟨1, 0, none⟩) (fun h => by rcases h with h | h <;> simp at h <;> omega)).trans hE
          have HC : Hid _ := read_end rb (some ⟨pb, q, none⟩) (n - q) (n - q) da q dc sa sl sc k' fl ae wr.drew hr' (by omega) (by omega) hE'
          have HR : Hid (wr.heap[rb]? = some (.cells (rArr da q dc q sa sl sc k' (failVal fl)) 29) ∧ wr.heap[pb]? = some (.cells (pList D n q).toArray 5) ∧ But w wr (fun i => i = rb ∨ i = pb)) := ⟨hr', hp', hbut⟩
          clear hr' hp' hbut hr hp hD hS hU hE hE'
          go_wp2_with fail
          go_region_held3 (fun w' => True) (trivial) ((go_at_call 23; refine Calls.mono HC.out ?_; intro e w2 hpost; obtain ⟨rfl, n2, rfl⟩ := hpost))
          go_wp2
          go_roundw
          case rel => exact ⟨q, k', by omega, by omega, by omega, rfl, HR.out.1, HR.out.2.1, HR.out.2.2.drewN _, Or.inr ⟨rfl, rfl, hlt⟩⟩
          case measure => cases fl <;> simp [intOf, errM, endErr]
      · have hqe : q = n := by omega
        subst hqe
        have HR : Hid (wr.heap[rb]? = some (.cells (rArr da dl dc q sa sl sc k' (failVal fl)) 29) ∧ wr.heap[pb]? = some (.cells (pList D q q).toArray 5) ∧ But w wr (fun i => i = rb ∨ i = pb)) := ⟨hr', hp', hbut⟩
        clear hr' hp' hbut hr hp hD hS hU hE
        have hmn : min q dl = q := by omega
        go_wp2
        go_ret2
        exact ⟨k', Or.inl ⟨by omega, rfl⟩, by rw [hmn]; exact HR.out.1, by rw [hmn]; exact HR.out.2.1, HR.out.2.2⟩
    · subst hqe
      have hmn : min n q = q := by omega
      have HR : Hid (wr.heap[rb]? = some (.cells (rArr da q dc q sa sl sc k' (failVal fl)) 29) ∧ wr.heap[pb]? = some (.cells (pList D n q).toArray 5) ∧ But w wr (fun i => i = rb ∨ i = pb)) := ⟨hr', hp', hbut⟩
      have hE' : wr.cell? ⟨1, 0, none⟩ = some (.iface 32 (.pointer (some ae))) := (hbut.cell (p := ⟨1, 0, none⟩) (fun h => by rcases h with h | h <;> simp at h <;> omega)).trans hE
      have hU' : wr.cell? ⟨0, 0, none⟩ = some (.iface 32 (.pointer (some au))) := (hbut.cell (p := ⟨0, 0, none⟩) (fun h => by rcases h with h | h <;> simp at h <;> omega)).trans hU
      have z1 := eq25_nil
      have z2 := eq25_same
      have hlt : q < n := hdn
      cases fl with
      | none =>
        clear hr' hp' hbut hr hp hD hS hU hE
        simp only [endErr]
        by_cases h0 : 0 < q
        · go_wp2
          go_ret2
          exact ⟨k', Or.inr ⟨by omega, by simp [atErr, h0]⟩, by rw [hmn]; exact HR.out.1, by rw [hmn]; exact HR.out.2.1, HR.out.2.2⟩
        · go_wp2
          go_ret2
          exact ⟨k', Or.inr ⟨by omega, by simp [atErr, h0]⟩, by rw [hmn]; exact HR.out.1, by rw [hmn]; exact HR.out.2.1, HR.out.2.2⟩
      | some fa =>
        obtain ⟨f1, ⟨cf, tf, f2⟩, f3, f4⟩ := hfa fa rfl
        obtain ⟨⟨ca, ta, a2⟩, a3, a4⟩ := hae
        have z3 := eq25_other (w := wr) f1 ((hbut.block _ (fun h => h.elim f3 f4)).trans f2) ((hbut.block _ (fun h => h.elim a3 a4)).trans a2)
        clear hr' hp' hbut hr hp hD hS hU hE f1 f2 a2 hfa
        simp only [endErr]
        by_cases h0 : 0 < q
        · go_wp2
          go_ret2
          exact ⟨k', Or.inr ⟨by omega, rfl⟩, by rw [hmn]; exact HR.out.1, by rw [hmn]; exact HR.out.2.1, HR.out.2.2⟩
        · go_wp2
          go_ret2
          exact ⟨k', Or.inr ⟨by omega, rfl⟩, by rw [hmn]; exact HR.out.1, by rw [hmn]; exact HR.out.2.1, HR.out.2.2⟩
end Go.Proofs.YbulkddpuDoor
