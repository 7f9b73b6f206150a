/-
  What handBacks hands back so far: the map of maps, the rows of held values behind it, and what one append more does to them (no Go text here).
-/
import Derived.Test.YbulkddqwMaps
import Derived.Maps.AppendAt
namespace Go.Proofs.Ybulkddqw
open Go.RowKit Go.Maps Go.ChangeMaps

/-! ### Rows of held values -/
/-- The cells of held value i: stored at block P i, of kind kd i. -/
def el (P : Nat → Nat) (kd : Nat → Int) (i : Nat) : List Value := [.pointer (some ⟨P i, 0, none⟩), .int .u32 (kd i), .int .u64 0]
def rowC (P : Nat → Nat) (kd : Nat → Int) (L : List Nat) : List Value := L.flatMap (el P kd)
theorem rowC_snoc (P : Nat → Nat) (kd : Nat → Int) (L : List Nat) (i : Nat) : rowC P kd (L ++ [i]) = rowC P kd L ++ el P kd i := by simp [rowC]
theorem length_rowC (P : Nat → Nat) (kd : Nat → Int) (L : List Nat) : (rowC P kd L).length = L.length * 3 := by
  induction L with
  | nil => rfl
  | cons a l ih => simp only [rowC, List.flatMap_cons, List.length_append, List.length_cons] at ih ⊢; rw [ih]; simp [el]; omega
theorem MapOf.notRow {k : TypeId} {w : World} {b : Nat} {f : Nat → Option Value} (h : MapOf k w b f) {base : Nat} {e : TypeId} {size : Nat} {v : Value} {n : Nat} {xs : List Value} (hr : w.ownsRow base e size v n xs) : v.ownBlock ≠ some b := by
  obtain ⟨D, ⟨es, clock, hb, _⟩, _⟩ := h
  rcases hr.2 with ⟨rfl, _⟩ | ⟨g, cap, cur, rfl, _, hg, _⟩
  · simp [Value.ownBlock]
  · intro e
    simp only [Value.ownBlock, Option.some.injEq] at e
    subst e
    rw [hb] at hg
    cases hg
theorem row_some {w : World} {base : Nat} {e : TypeId} {size : Nat} {v : Value} {n : Nat} {xs : List Value} (hr : w.ownsRow base e size v n xs) (hn : n ≠ 0) : ∃ g, v.ownBlock = some g := by
  rcases hr.2 with ⟨_, h⟩ | ⟨g, cap, cur, rfl, _⟩
  · exact absurd h hn
  · exact ⟨g, rfl⟩
theorem row_ne {w w' : World} {row : Option Nat} {base : Nat} {e : TypeId} {size : Nat} {v : Value} {n : Nat} {xs : List Value} (hr : w.ownsRow base e size v n xs) (hg : w.grownBy w' row) (hne : v.ownBlock ≠ row) : w'.ownsRow base e size v n xs :=
  hr.kept hg (.inr hne)

/-! ### What is handed back so far: by leader, by resource -/
/-- The value of the resource r so far. -/
def slOf (C : Nat → List Nat) (sv : Nat → Value) (r : Nat) : Value := if C r = [] then .slice none 0 0 else sv r
structure BK (base : Nat) (P : Nat → Nat) (kd : Nat → Int) (ldp : Nat → Nat) (w : World) (bk : Nat) (U : Nat → Bool) (C : Nat → List Nat) (ib : Nat → Nat) (sv : Nat → Value) : Prop where
  outer : MapOf 26 w bk (fun l => if U l = true then some (.map (some (ib l))) else none)
  inner : ∀ l, l < 256 → U l = true → MapOf 55 w (ib l) (fun r => if C r ≠ [] ∧ ldp r = l then some (sv r) else none)
  rows : ∀ r, r < 256 → w.ownsRow base 54 3 (slOf C sv r) (C r).length (rowC P kd (C r))
  apart : ∀ l l', l < 256 → l' < 256 → U l = true → U l' = true → l ≠ l' → ib l ≠ ib l'
  notOut : ∀ l, l < 256 → U l = true → ib l ≠ bk
  rowsApart : ∀ r r', r < 256 → r' < 256 → r ≠ r' → C r ≠ [] → (slOf C sv r).ownBlock ≠ (slOf C sv r').ownBlock
  ibBase : ∀ l, l < 256 → U l = true → base ≤ ib l
section
variable {base : Nat} {P : Nat → Nat} {kd : Nat → Int} {ldp : Nat → Nat} {w : World} {bk : Nat} {U : Nat → Bool} {C : Nat → List Nat} {ib : Nat → Nat} {sv : Nat → Value}
theorem BK.later {w' : World} (h : BK base P kd ldp w bk U C ib sv) (k : w.grownBy w' none) : BK base P kd ldp w' bk U C ib sv where
  outer := h.outer.kept k (by simp)
  inner l hl hu := (h.inner l hl hu).kept k (by simp)
  rows r hr := (h.rows r hr).kept k (by cases (slOf C sv r).ownBlock <;> simp)
  apart := h.apart
  notOut := h.notOut
  rowsApart := h.rowsApart
  ibBase := h.ibBase
theorem BK.start (base : Nat) (P : Nat → Nat) (kd : Nat → Int) (ldp : Nat → Nat) {w : World} {bk : Nat} (h : MapOf 26 w bk (fun _ => none)) : BK base P kd ldp w bk (fun _ => false) (fun _ => []) (fun _ => 0) (fun _ => .slice none 0 0) where
  outer := h
  inner l hl hu := by cases hu
  rows r hr := World.ownsRow_nil w base 54 3
  apart l l' _ _ hu := by cases hu
  notOut l _ hu := by cases hu
  rowsApart r r' _ _ _ hne := absurd rfl hne
  ibBase l _ hu := by cases hu
/-- A new leader: an empty map is made and laid into the outer one. -/
theorem BK.newLeader (h : BK base P kd ldp w bk U C ib sv) {l : Nat} (hl : l < 256) (hu : U l = false) (hC : ∀ r, r < 256 → C r ≠ [] → U (ldp r) = true) (hldp : ∀ r, ¬ r < 256 → C r = []) (hbase : base ≤ w.heap.size) :
    ∃ w', (Instr.mapUpdate 56 (.map (some bk)) (idv (l : Int)) (.map (some w.heap.size))).run Yba.prog (w.alloc (.map #[] 0)) = .ok () w' ∧
      BK base P kd ldp w' bk (fun y => U y || y == l) C (fun y => if y = l then w.heap.size else ib y) sv ∧ (w.alloc (.map #[] 0)).grownBy w' (some bk) := by
  have h1 := h.later (World.grownBy_alloc w (.map #[] 0) none)
  obtain ⟨w', hrun, hm, hg⟩ := h1.outer.put ky26 Yba.underlying56 hl (.map (some w.heap.size))
  have hlt := h.outer.lt
  refine ⟨w', hrun, ⟨?_, fun y hy huy => ?_, fun r hr => ?_, fun y y' hy hy' huy huy' hne => ?_, fun y hy huy => ?_, h.rowsApart, fun y hy huy => ?_⟩, hg⟩
  · refine cast ?_ hm
    congr 1
    funext y
    unfold upd
    by_cases hy : y = l
    · subst hy; simp
    · simp [hy]
  · by_cases hyl : y = l
    · subst hyl
      rw [if_pos rfl]
      have e : (fun r => if C r ≠ [] ∧ ldp r = y then some (sv r) else none) = fun _ => (none : Option Value) := by
        funext r
        rw [if_neg]
        rintro ⟨hc, hr⟩
        by_cases hr2 : r < 256
        · have := hC r hr2 hc
          rw [hr, hu] at this; cases this
        · exact hc (hldp r hr2)
      rw [e]
      exact (MapOf.make 55 w).kept hg (by simp; omega)
    · rw [if_neg hyl]
      have huy' : U y = true := by simpa [hyl] using huy
      exact (h1.inner y hy huy').kept hg (by simp; exact h.notOut y hy huy')
  · exact row_ne (h1.rows r hr) hg (h1.outer.notRow (h1.rows r hr))
  · by_cases e1 : y = l
    · subst e1
      rw [if_pos rfl, if_neg (Ne.symm hne)]
      have := (h.inner y' hy' (by simpa [Ne.symm hne] using huy')).lt
      omega
    · rw [if_neg e1]
      have hu1 : U y = true := by simpa [e1] using huy
      by_cases e2 : y' = l
      · rw [if_pos e2]
        have := (h.inner y hy hu1).lt
        omega
      · rw [if_neg e2]
        exact h.apart y y' hy hy' hu1 (by simpa [e2] using huy') hne
  · by_cases e1 : y = l
    · rw [if_pos e1]; omega
    · rw [if_neg e1]; exact h.notOut y hy (by simpa [e1] using huy)
  · by_cases e1 : y = l
    · rw [if_pos e1]; exact hbase
    · rw [if_neg e1]; exact h.ibBase y hy (by simpa [e1] using huy)
def updC (C : Nat → List Nat) (r i : Nat) : Nat → List Nat := fun y => if y = r then C r ++ [i] else C y
def updS (sv : Nat → Value) (r : Nat) (v : Value) : Nat → Value := fun y => if y = r then v else sv y
/-- One value more at the resource r. -/
theorem BK.append (h : BK base P kd ldp w bk U C ib sv) {r : Nat} (hr : r < 256) (hld : ldp r < 256) (hl : U (ldp r) = true) (i : Nat) (zero33 : ∀ u : World, (zeroValue 33).run Yba.prog u = .ok (.slice none 0 0) u) :
    ∃ (st : Nat) (w6 : World), (Instr.mapEntry 34 (.map (some (ib (ldp r)))) (idv (r : Int))).run Yba.prog w = .ok (.tuple #[slOf C sv r, goInt st]) w6 ∧ w.grownBy w6 (some (ib (ldp r))) ∧ w6.heap.size = w.heap.size ∧
      w6.ownsRow base 54 3 (slOf C sv r) (C r).length (rowC P kd (C r)) ∧
      ∀ (v' : Value) (w8 : World), w8.ownsRow base 54 3 v' ((C r).length + 1) (rowC P kd (C r) ++ el P kd i) → w6.grownBy w8 (slOf C sv r).ownBlock → (v'.ownBlock = (slOf C sv r).ownBlock ∨ v'.ownBlock = some w6.heap.size) →
        ∃ w10, (Instr.entryStore 34 (.map (some (ib (ldp r)))) (goInt st) v').run Yba.prog w8 = .ok () w10 ∧ BK base P kd ldp w10 bk U (updC C r i) ib (updS sv r v') ∧ w8.grownBy w10 (some (ib (ldp r))) := by
  have hin := h.inner (ldp r) hld hl
  obtain ⟨st, w6, hrun, hg6, hs6, hst⟩ := hin.entry ky55 Yba.underlying34 zero33 hr
  have hv0 : ((fun r' => if C r' ≠ [] ∧ ldp r' = ldp r then some (sv r') else none) r).getD (.slice none 0 0) = slOf C sv r := by
    unfold slOf
    by_cases hc : C r = []
    · simp [hc]
    · simp [hc]
  rw [hv0] at hrun
  have hrow6 : ∀ y, y < 256 → w6.ownsRow base 54 3 (slOf C sv y) (C y).length (rowC P kd (C y)) := fun y hy => row_ne (h.rows y hy) hg6 (hin.notRow (h.rows y hy))
  refine ⟨st, w6, hrun, hg6, hs6, hrow6 r hr, fun v' w8 hv' hg8 hloc => ?_⟩
  have hib : ib (ldp r) < w.heap.size := hin.lt
  have hnr := hin.notRow (h.rows r hr)
  have e8 : w8.heap[ib (ldp r)]? = w6.heap[ib (ldp r)]? := hg8.block _ (by rw [hs6]; exact hib) (fun e => hnr e.symm)
  obtain ⟨w10, hrun10, hm10, hg10⟩ := hst w8 v' e8
  obtain ⟨g', hg'⟩ := row_some hv' (by omega)
  have hfresh : ∀ y, y < 256 → (slOf C sv y).ownBlock ≠ some w6.heap.size := fun y hy e => by
    have := ((hrow6 y hy).lt _ e).2; omega
  have hne' : ∀ y, y < 256 → y ≠ r → v'.ownBlock ≠ (slOf C sv y).ownBlock := fun y hy hyr => by
    rcases hloc with e | e
    · by_cases hc : C r = []
      · intro e2
        have : (slOf C sv r).ownBlock = none := by unfold slOf; rw [if_pos hc]; rfl
        rw [e, this] at hg'; cases hg'
      · rw [e]; exact h.rowsApart r y hr hy (Ne.symm hyr) hc
    · rw [e]; exact fun e2 => hfresh y hy e2.symm
  have hmap8 : ∀ {k : TypeId} {b : Nat} {f : Nat → Option Value}, MapOf k w b f → b ≠ ib (ldp r) → MapOf k w10 b f := fun {k b f} hm hb => by
    have a6 := hm.kept hg6 (by simpa using hb)
    have a8 := a6.kept hg8 (fun e => (hm.notRow (h.rows r hr)) e.symm)
    exact a8.kept hg10 (by simpa using hb)
  have hvne : v'.ownBlock ≠ some (ib (ldp r)) := by
    rcases hloc with e | e
    · rw [e]; exact hnr
    · rw [e, hs6]; simp; omega
  have sl' : ∀ y, slOf (updC C r i) (updS sv r v') y = if y = r then v' else slOf C sv y := fun y => by
    unfold slOf updC updS
    by_cases hy : y = r
    · subst hy; simp
    · simp [hy]
  refine ⟨w10, hrun10, ⟨hmap8 h.outer (Ne.symm (h.notOut _ hld hl)), fun y hy huy => ?_, fun y hy => ?_, h.apart, h.notOut, fun y y' hy hy' hne hc => ?_, h.ibBase⟩, hg10⟩
  · by_cases hyl : y = ldp r
    · subst hyl
      refine cast ?_ hm10
      congr 1
      funext z
      unfold upd updC updS
      by_cases hz : z = r
      · subst hz; simp
      · simp [hz]
    · refine cast ?_ (hmap8 (h.inner y hy huy) (h.apart y _ hy hld huy hl hyl))
      congr 1
      funext z
      unfold updC updS
      by_cases hz : z = r
      · subst hz
        rw [if_neg (fun e => hyl e.2.symm), if_neg (fun e => hyl e.2.symm)]
      · simp [hz]
  · rw [sl' y]
    unfold updC
    by_cases hyr : y = r
    · subst hyr
      rw [if_pos rfl, if_pos rfl, rowC_snoc, List.length_append]
      exact row_ne hv' hg10 hvne
    · rw [if_neg hyr, if_neg hyr]
      have a8 : w8.ownsRow base 54 3 (slOf C sv y) (C y).length (rowC P kd (C y)) := by
        refine (hrow6 y hy).kept hg8 ?_
        by_cases hc : C y = []
        · exact .inl (by unfold slOf; rw [if_pos hc]; rfl)
        · exact .inr (h.rowsApart y r hy hr hyr hc)
      exact row_ne a8 hg10 (hin.notRow (h.rows y hy))
  · rw [sl' y, sl' y']
    by_cases hyr : y = r
    · subst hyr
      rw [if_pos rfl, if_neg (Ne.symm hne)]
      exact hne' y' hy' (Ne.symm hne)
    · rw [if_neg hyr]
      have hcy : C y ≠ [] := by unfold updC at hc; rwa [if_neg hyr] at hc
      by_cases hyr' : y' = r
      · rw [if_pos hyr']
        exact Ne.symm (hne' y hy hyr)
      · rw [if_neg hyr']
        exact h.rowsApart y y' hy hy' hne hcy
end
end Go.Proofs.Ybulkddqw
