/-
  slices.Equal at two rows of held values that hold the same: true.
-/
import Derived.Test.YbulkddqwBacks
import Derived.Test.YbulkddqwHand
namespace Go.Proofs.Ybulkddqw
open Go.RowKit Go.Maps Go.ChangeMaps
theorem row_read {w : World} {base : Nat} {P : Nat → Nat} {kd : Nat → Int} {L : List Nat} {v : Value} (h : w.ownsRow base 54 3 v L.length (rowC P kd L)) :
    ∃ (sa : Option Addr) (g cap : Nat), v = .slice sa L.length cap ∧ (0 < L.length → sa = some ⟨g, 0, none⟩) ∧ w.rangeAt g 0 (rowC P kd L) := by
  rcases h.2 with ⟨e, hn⟩ | ⟨g, cap, cur, e, _⟩
  · refine ⟨none, 0, 0, by rw [e, hn], fun h0 => by omega, ?_⟩
    have : L = [] := List.length_eq_zero_iff.1 hn
    rw [this]
    intro j u hj
    simp [rowC] at hj
  · refine ⟨_, g, cap, e, fun _ => rfl, fun j u hj => ?_⟩
    have := h.cells (g := g) (by rw [e]; rfl) j u hj
    rw [Addr.add_mid] at this
    exact this
theorem size51 (W : World) : (sizeOf 51).run Yba.prog W = .ok 35 W := by kernel_rfl
theorem ptr_eq (d p : Nat) (W : World) : (Op.equalIn (d + 1) 38 (.pointer (some ⟨p, 0, none⟩)) (.pointer (some ⟨p, 0, none⟩))).run Yba.prog W = .ok true W := by
  unfold Op.equalIn
  simp only [Sem.run_bind, run_underlying Yba.underlying38, Result.andThen_ok, size51]
  simp [run_sameAddr_same]
theorem equal_any (P : Nat → Nat) (kd : Nat → Int) (L : List Nat) (hL : L.length ≤ 1024) (v1 v2 : Value) (b1 b2 : Nat) (w : World) (h1 : w.ownsRow b1 54 3 v1 L.length (rowC P kd L)) (h2 : w.ownsRow b2 54 3 v2 L.length (rowC P kd L)) :
    Calls Yba.prog 9 #[v1, v2] w fun e w' => e = .returned (.bool true) ∧ Below w.heap.size w w' := by
  obtain ⟨sa, g, cap, rfl, hsa, hr1⟩ := row_read h1
  obtain ⟨sb, g2, cap2, rfl, hsb, hr2⟩ := row_read h2
  clear h1 h2
  go_enter Yba.func9, Yba.ntmps9
  go_wp2_with fail
  go_loopw [13] (fun i wr => ∃ (k m : Nat), k ≤ L.length ∧ i = .int .i64 k ∧ wr = w.drewN m) (fun i _ => (L.length - intOf i).toNat)
  case atStart => exact ⟨0, 0, by omega, rfl, rfl⟩
  case round =>
    obtain ⟨k, m, hk, rfl, rfl⟩ := hrel
    by_cases hlt : k < L.length
    · obtain ⟨i, hi⟩ : ∃ i, L[k]? = some i := ⟨_, List.getElem?_eq_getElem hlt⟩
      obtain rfl := hsa (by omega)
      obtain rfl := hsb (by omega)
      have x1 := row_el hr1 hi
      have x2 := row_el hr2 hi
      simp only [Nat.zero_add] at x1 x2
      obtain ⟨e1, e2, e3⟩ := x1
      obtain ⟨f1, f2, f3⟩ := x2
      have i1 : (0 : Int) ≤ (k : Int) := by omega
      have i2 : (k : Int) < (L.length : Int) := by omega
      clear hr1 hr2
      have q1 := fun W => ptr_eq 9998 (P i) W
      have q2 := Yba.underlying54
      go_wp2_with fail
      go_quiet (fail)
      go_wp2
      go_roundw
      case rel => exact ⟨k + 1, m + nq, by omega, rfl, rfl⟩
      case measure => simp [intOf]; omega
    · have hkk : k = L.length := by omega
      subst hkk
      go_wp2
      go_ret
      exact ⟨rfl, below_dN (Below.refl _ _) _⟩
end Go.Proofs.Ybulkddqw
