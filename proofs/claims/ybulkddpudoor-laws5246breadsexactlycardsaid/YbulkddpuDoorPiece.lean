/-
  S5246B, third text: io.ReadFull (6) and readPiece (5).
-/
import Derived.Test.YbulkddpuDoorAtLeast
namespace Go.Proofs.YbulkddpuDoor
open Go.RowKit

set_option maxRecDepth 100000 in
theorem full_any (rb pb n : Nat) (da : Option Addr) (db doff dl dc : Nat) (hda : 0 < dl → da = some ⟨db, doff, none⟩) (sa : Option Addr) (sb soff sl sc : Nat) (hsa : 0 < sl → sa = some ⟨sb, soff, none⟩) (fl : Option Addr) (ae au : Addr) (D S : Nat → Int) (w : World)
    (hr : w.heap[rb]? = some (.cells (rArr da dl dc 0 sa sl sc 0 (failVal fl)) 29)) (hp : w.heap[pb]? = some (.cells (pList D n 0).toArray 5)) (hne : pb ≠ rb) (hdb : 0 < dl → db ≠ rb ∧ db ≠ pb) (hsb : 0 < sl → sb ≠ rb ∧ sb ≠ pb) (h1 : 1 < rb) (h2 : 1 < pb)
    (hD : ∀ j, j < dl → w.cell? ⟨db, doff + j, none⟩ = some (.int .u8 (D j))) (hS : ∀ j, j < sl → w.cell? ⟨sb, soff + j, none⟩ = some (.int .u8 (S j)) ∧ 0 ≤ S j ∧ S j ≤ 255)
    (hn : n ≤ 1024) (hdl : dl ≤ 1024) (hsl : sl ≤ 9223372036854775807) (hdc : dl ≤ dc) (hdc2 : dc ≤ 9223372036854775807)
    (hfa : ∀ fa, fl = some fa → fa ≠ ae ∧ IsCells w fa.block ∧ fa.block ≠ rb ∧ fa.block ≠ pb) (hae : IsCells w ae.block ∧ ae.block ≠ rb ∧ ae.block ≠ pb) (hU : w.cell? ⟨0, 0, none⟩ = some (.iface 32 (.pointer (some au)))) (hE : w.cell? ⟨1, 0, none⟩ = some (.iface 32 (.pointer (some ae)))) :
    Calls Ybad.prog 6 #[.iface 27 (.pointer (some ⟨rb, 0, none⟩)), .slice (some ⟨pb, 0, none⟩) n n] w fun e w' => ∃ k' : Nat,
      ((n ≤ dl ∧ e = .returned (.tuple #[.int .i64 n, .nilIface])) ∨ (dl < n ∧ e = .returned (.tuple #[.int .i64 dl, atErr dl au ae fl]))) ∧
      w'.heap[rb]? = some (.cells (rArr da dl dc (min n dl : Nat) sa sl sc k' (failVal fl)) 29) ∧ w'.heap[pb]? = some (.cells (pList D n (min n dl)).toArray 5) ∧ But w w' (fun i => i = rb ∨ i = pb) := by
  have HC : Hid _ := atLeast_any rb pb n da db doff dl dc hda sa sb soff sl sc hsa fl ae au D S w hr hp hne hdb hsb h1 h2 hD hS hn hdl hsl hdc hdc2 hfa hae hU hE
  clear hr hp hD hS hU hE hfa hae hda hsa hdb hsb
  go_enter Ybad.func6, Ybad.ntmps6
  go_wp2_with fail
  refine Calls.mono HC.out ?_
  clear HC
  rintro e w2 ⟨k', he, hr2, hp2, hb2⟩
  have HR : Hid _ := And.intro hr2 (And.intro hp2 hb2)
  clear hr2 hp2 hb2
  rcases he with ⟨hl, rfl⟩ | ⟨hl, rfl⟩
  · go_wp2
    go_ret2
    exact ⟨k', Or.inl ⟨hl, rfl⟩, HR.out⟩
  · go_wp2
    go_ret2
    exact ⟨k', Or.inr ⟨hl, rfl⟩, HR.out⟩

/-- What readPiece answers where the data end first. -/
def pieceErr (au : Addr) : Option Addr → Value
  | some fa => .iface 32 (.pointer (some fa))
  | none => .iface 32 (.pointer (some au))

set_option maxRecDepth 100000 in
theorem piece_any (rb pb n : Nat) (da : Option Addr) (db doff dl dc : Nat) (hda : 0 < dl → da = some ⟨db, doff, none⟩) (sa : Option Addr) (sb soff sl sc : Nat) (hsa : 0 < sl → sa = some ⟨sb, soff, none⟩) (fl : Option Addr) (ae au : Addr) (D S : Nat → Int) (w : World)
    (hr : w.heap[rb]? = some (.cells (rArr da dl dc 0 sa sl sc 0 (failVal fl)) 29)) (hp : w.heap[pb]? = some (.cells (pList D n 0).toArray 5)) (hne : pb ≠ rb) (hdb : 0 < dl → db ≠ rb ∧ db ≠ pb) (hsb : 0 < sl → sb ≠ rb ∧ sb ≠ pb) (h1 : 1 < rb) (h2 : 1 < pb)
    (hD : ∀ j, j < dl → w.cell? ⟨db, doff + j, none⟩ = some (.int .u8 (D j))) (hS : ∀ j, j < sl → w.cell? ⟨sb, soff + j, none⟩ = some (.int .u8 (S j)) ∧ 0 ≤ S j ∧ S j ≤ 255)
    (hn : n ≤ 1024) (hdl : dl ≤ 1024) (hsl : sl ≤ 9223372036854775807) (hdc : dl ≤ dc) (hdc2 : dc ≤ 9223372036854775807)
    (hfa : ∀ fa, fl = some fa → fa ≠ ae ∧ IsCells w fa.block ∧ fa.block ≠ rb ∧ fa.block ≠ pb) (hae : IsCells w ae.block ∧ ae.block ≠ rb ∧ ae.block ≠ pb) (hU : w.cell? ⟨0, 0, none⟩ = some (.iface 32 (.pointer (some au)))) (hE : w.cell? ⟨1, 0, none⟩ = some (.iface 32 (.pointer (some ae)))) (hau : au ≠ ae ∧ IsCells w au.block ∧ au.block ≠ rb ∧ au.block ≠ pb) :
    Calls Ybad.prog 5 #[.iface 27 (.pointer (some ⟨rb, 0, none⟩)), .slice (some ⟨pb, 0, none⟩) n n] w fun e w' => ∃ k' : Nat,
      ((n ≤ dl ∧ e = .returned .nilIface) ∨ (dl < n ∧ e = .returned (pieceErr au fl))) ∧
      w'.heap[rb]? = some (.cells (rArr da dl dc (min n dl : Nat) sa sl sc k' (failVal fl)) 29) ∧ w'.heap[pb]? = some (.cells (pList D n (min n dl)).toArray 5) ∧ But w w' (fun i => i = rb ∨ i = pb) := by
  have HC : Hid _ := full_any rb pb n da db doff dl dc hda sa sb soff sl sc hsa fl ae au D S w hr hp hne hdb hsb h1 h2 hD hS hn hdl hsl hdc hdc2 hfa hae hU hE
  clear hr hp hD hS hda hsa hdb hsb
  have z1 := fun (w : World) (a : Addr) => run_eql_iface_nil_left (P := Ybad.prog) w 32 (.pointer (some a)) Ybad.underlying25
  have z2 := eq25_same
  go_enter Ybad.func5, Ybad.ntmps5
  go_wp2_with fail
  refine Calls.mono HC.out ?_
  clear HC
  rintro e w2 ⟨k', he, hr2, hp2, hb2⟩
  have hE' : w2.cell? ⟨1, 0, none⟩ = some (.iface 32 (.pointer (some ae))) := (hb2.cell (p := ⟨1, 0, none⟩) (fun h => by rcases h with h | h <;> simp at h <;> omega)).trans hE
  have hU' : w2.cell? ⟨0, 0, none⟩ = some (.iface 32 (.pointer (some au))) := (hb2.cell (p := ⟨0, 0, none⟩) (fun h => by rcases h with h | h <;> simp at h <;> omega)).trans hU
  have HR : Hid _ := And.intro hr2 (And.intro hp2 hb2)
  obtain ⟨⟨ca, ta, a2⟩, a3, a4⟩ := hae
  obtain ⟨u1, ⟨cu, tu, u2⟩, u3, u4⟩ := hau
  have z3 := eq25_other (w := w2) u1 ((hb2.block _ (fun h => h.elim u3 u4)).trans u2) ((hb2.block _ (fun h => h.elim a3 a4)).trans a2)
  rcases he with ⟨hl, rfl⟩ | ⟨hl, rfl⟩
  · clear hr2 hp2 hb2 hE hU hfa a2 u2
    go_wp2
    go_ret
    exact ⟨k', Or.inl ⟨hl, rfl⟩, HR.out⟩
  · cases fl with
    | some fa =>
      obtain ⟨f1, ⟨cf, tf, f2⟩, f3, f4⟩ := hfa fa rfl
      have z4 := eq25_other (w := w2) f1 ((hb2.block _ (fun h => h.elim f3 f4)).trans f2) ((hb2.block _ (fun h => h.elim a3 a4)).trans a2)
      clear hr2 hp2 hb2 hE hU hfa a2 u2 f2
      simp only [atErr]
      go_wp2
      go_ret
      exact ⟨k', Or.inr ⟨hl, rfl⟩, HR.out⟩
    | none =>
      clear hr2 hp2 hb2 hE hU hfa a2 u2
      by_cases h0 : 0 < dl
      · simp only [atErr, h0, if_true]
        go_wp2
        go_ret
        exact ⟨k', Or.inr ⟨hl, rfl⟩, HR.out⟩
      · simp only [atErr, h0, if_false]
        go_wp2
        go_ret
        exact ⟨k', Or.inr ⟨hl, rfl⟩, HR.out⟩
end Go.Proofs.YbulkddpuDoor
