/-
  handBacks: the state behind one append more.
-/
import Derived.Test.YbulkddqwGrow
namespace Go.Proofs.Ybulkddqw
open Go.RowKit Go.Maps Go.ChangeMaps
theorem eqm_some (b : Nat) (W : World) : (binOp .eql 34 (.map (some b)) (.map none)).run Yba.prog W = .ok (.bool false) W := by rfl
theorem eqm_none (W : World) : (binOp .eql 34 (.map none) (.map none)).run Yba.prog W = .ok (.bool true) W := by rfl
theorem row_not_cells {w : World} {base : Nat} {size : Nat} {v : Value} {n : Nat} {xs : List Value} {b : Nat} {cs : Array Value} {t : TypeId} (hr : w.ownsRow base 54 size v n xs) (hc : w.heap[b]? = some (.cells cs t)) (ht : t ≠ 54) : v.ownBlock ≠ some b := by
  rcases hr.2 with ⟨rfl, _⟩ | ⟨g, cap, cur, rfl, _, hg, _⟩
  · simp [Value.ownBlock]
  · intro e
    simp only [Value.ownBlock, Option.some.injEq] at e
    subst e
    rw [hc] at hg
    injection hg with hg
    injection hg with _ hg
    exact ht hg
theorem Kept2.cells {W W' : World} {i : Nat} {row : Option Nat} (h : Kept2 W W' i row) {b : Nat} {cs : Array Value} {t : TypeId} (hc : W.heap[b]? = some (.cells cs t)) (h1 : b ≠ i) (h2 : row ≠ some b) : W'.heap[b]? = some (.cells cs t) :=
  (h.block b (lt_of_heap hc) h1 (Ne.symm h2)).trans hc
theorem RangeOf.same {k : TypeId} {w w' : World} {b r c : Nat} {f : Nat → Option Value} {lf : Nat → Bool} (h : RangeOf k w b r f lf c) (hb : w'.heap[b]? = w.heap[b]?) (hr : w'.heap[r]? = w.heap[r]?) : RangeOf k w' b r f lf c := by
  obtain ⟨D, left, ⟨es, clock, since, seen, c0, h1, h2, h3, h4, h5, h6⟩, v, hl⟩ := h
  exact ⟨D, left, ⟨es, clock, since, seen, c0, hb.trans h1, h2, h3, h4, hr.trans h5, h6⟩, v, hl⟩
/-- The state behind one append more. -/
theorem St.grow {B : Nat} {w : World} {P : Nat → Nat} {kd : Nat → Int} {sf frm : Int} {ldr prd : Value} {n : Nat} {L : Nat → Int} {U U' : Nat → Bool} {C C' : Nat → List Nat} {ib ib' : Nat → Nat} {sv sv' : Nat → Value} {W W' : World} {x : Nat}
    (hsz : w.heap.size = B) (tab : W.heap[B]? = some (.cells (tl sf prd).toArray 32)) (hol : W.heap[B + 1]? = some (.cells (hl sf frm ldr).toArray 30)) (bel : Below B w W) (bk : BK B P kd (ldp n L frm) W (B + 1 + 1) U C ib sv)
    (hx : x < 256) (hl : ldp n L frm x < 256) (hU : U (ldp n L frm x) = true) (hB : BK B P kd (ldp n L frm) W' (B + 1 + 1) U' C' ib' sv') (hk : Kept2 W W' (ib (ldp n L frm x)) (slOf C sv x).ownBlock) (ok : Uok n L frm U' C') (out : ∀ r, ¬ r < 256 → C' r = []) :
    St B w P kd sf frm ldr prd n L U' C' ib' sv' W' where
  size := hsz
  tab := hk.cells tab ((bk.inner _ hl hU).notCells tab) (row_not_cells (bk.rows x hx) tab (by decide))
  hol := hk.cells hol ((bk.inner _ hl hU).notCells hol) (row_not_cells (bk.rows x hx) hol (by decide))
  bk := hB
  ok := ok
  out := out
  bel := ⟨hk.os.trans bel.os, hk.tape.trans bel.tape, hk.output.trans bel.output, Nat.le_trans bel.size hk.size, fun k hkB => (hk.block k (by have := bel.size; omega) (by have := bk.ibBase _ hl hU; omega) (fun e => by
    have := ((bk.rows x hx).lt k e.symm).1; omega)).trans (bel.block k hkB)⟩
theorem range_grow {B : Nat} {P : Nat → Nat} {kd : Nat → Int} {lp : Nat → Nat} {U : Nat → Bool} {C : Nat → List Nat} {ib : Nat → Nat} {sv : Nat → Value} {W W' : World} {x bv it c bko : Nat} {fv : Nat → Option Value} {lf : Nat → Bool}
    (bk : BK B P kd lp W bko U C ib sv) (hx : x < 256) (hl : lp x < 256) (hU : U (lp x) = true) (hbv : bv < B) (hk : Kept2 W W' (ib (lp x)) (slOf C sv x).ownBlock) (h : RangeOf 55 W bv it fv lf c) : RangeOf 55 W' bv it fv lf c := by
  have hin := bk.inner _ hl hU
  refine h.same (hk.block _ h.map.lt (by have := bk.ibBase _ hl hU; omega) (fun e => by have := ((bk.rows x hx).lt bv e.symm).1; omega)) (hk.block _ h.lt (fun e => ?_) (fun e => ?_))
  · obtain ⟨m, s, a, c', hit⟩ := h.iter
    obtain ⟨D, ⟨es, clock, hb, _⟩, _⟩ := hin
    rw [e, hb] at hit; cases hit
  · obtain ⟨m, s, a, c', hit⟩ := h.iter
    rcases (bk.rows x hx).2 with ⟨e1, _⟩ | ⟨g, cap, cur, e1, _, hgg, _⟩
    · rw [e1] at e; cases e
    · rw [e1] at e
      simp only [Value.ownBlock, Option.some.injEq] at e
      subst e
      rw [hgg] at hit; cases hit
theorem ok_grow {n : Nat} {L : Nat → Int} {frm : Int} {U : Nat → Bool} {C : Nat → List Nat} {x i : Nat} (hx : x < 256) (h1 : ∀ l, l < 256 → U l = true → l = ldp n L frm x ∨ ∃ r, r < 256 ∧ C r ≠ [] ∧ ldp n L frm r = l) (h2 : ∀ r, r < 256 → C r ≠ [] → U (ldp n L frm r) = true) (hU : U (ldp n L frm x) = true) : Uok n L frm U (updC C x i) := by
  refine ⟨fun l hl hu => ?_, fun r hr hc => ?_⟩
  · rcases h1 l hl hu with rfl | ⟨r, hr, hc, hlr⟩
    · exact ⟨x, hx, by unfold updC; simp, rfl⟩
    · refine ⟨r, hr, ?_, hlr⟩
      unfold updC
      by_cases h : r = x
      · simp [h]
      · rwa [if_neg h]
  · unfold updC at hc
    by_cases h : r = x
    · rw [h]; exact hU
    · rw [if_neg h] at hc; exact h2 r hr hc
end Go.Proofs.Ybulkddqw
