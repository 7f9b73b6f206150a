/-
  For the walk of handBacks: the loop over the map at its operations, what handBacks answers, the state between two rounds.
-/
import Derived.Test.YbulkddqwBacks
import Derived.Maps.RangeWalk
namespace Go.Proofs.Ybulkddqw
open Go.RowKit Go.Maps Go.ChangeMaps

/-! ### The loop's operations, for the walk -/
theorem wpL_range {ops : Array Oper} {rest : List Oper} {o : Oper} {a : Act} {w : World} {Q : Exit → Act → World → Prop} {k : TypeId} (K : Ky k) (hgd : o.guard = none) (m : Operand) (t e : TypeId) (hop : o.op = Op.range t m) (ht : Yba.prog.underlying t = some (.map k e))
    (b : Nat) (f : Nat → Option Value) (hm : a.eval m = .map (some b)) (h : MapOf k w b f)
    (hK : ∀ w', RangeOf k w' b w.heap.size f (fun x => (f x).isSome) (cnt f) → w.grownBy w' none → w'.heap.size = w.heap.size + 1 → wpList Yba.prog ops Q rest (a.put o.dst (.pointer (some ⟨w.heap.size, 0, none⟩))) w') :
    wpList Yba.prog ops Q (o :: rest) a w := by
  refine wpList_plain hgd fun K' hK' => ?_
  obtain ⟨w', hrun, r1, r2, r3⟩ := h.range K ht
  unfold Oper.wp
  simp [execOp, hop, hm, hrun, Result.andThen]
  exact hK' _ _ (hK w' r1 r2 r3)
theorem wpL_next {ops : Array Oper} {rest : List Oper} {o : Oper} {a : Act} {w : World} {Q : Exit → Act → World → Prop} {k : TypeId} (K : Ky k) (hgd : o.guard = none) (it : Operand) (hop : o.op = Op.next it false)
    (b r c : Nat) (f : Nat → Option Value) (lf : Nat → Bool) (hsh : ∀ x v, x < 256 → f x = some v → ∃ sa len cap, v = .slice sa len cap) (hit : a.eval it = .pointer (some ⟨r, 0, none⟩)) (h : RangeOf k w b r f lf c)
    (hDone : (∀ x, x < 256 → lf x = false) → wpList Yba.prog ops Q rest (a.put o.dst (.tuple #[.bool false])) w)
    (hMore : ∀ (x : Nat) (sa : Option Addr) (len cap : Nat) (w' : World) (c' : Nat), x < 256 → lf x = true → f x = some (.slice sa len cap) → RangeOf k w' b r f (fun y => lf y && y != x) c' → c' < c → w.grownBy w' (some r) → w'.heap.size = w.heap.size →
      (Instr.entry (.pointer (some ⟨r, 0, none⟩))).run Yba.prog w' = .ok (.tuple #[.agg (nl 16 (idb (x : Int))).toArray, .slice sa len cap]) w' → wpList Yba.prog ops Q rest (a.put o.dst (.tuple #[.bool true, .agg (nl 16 (idb (x : Int))).toArray, .slice sa len cap])) w') :
    wpList Yba.prog ops Q (o :: rest) a w := by
  refine wpList_plain hgd fun K' hK' => ?_
  unfold Oper.wp
  rcases h.next K o.type with ⟨hl, hrun⟩ | ⟨x, v, w', c', hx, hlx, hf, hrun, hrg, hlt, hgr, hsz, hen⟩
  · simp [execOp, hop, hit, hrun, Result.andThen]
    exact hK' _ _ (hDone hl)
  · obtain ⟨sa, len, cap, rfl⟩ := hsh x v hx hf
    simp [execOp, hop, hit, hrun, Result.andThen]
    exact hK' _ _ (hMore x sa len cap w' c' hx hlx hf hrg hlt hgr hsz hen)

/-! ### What handBacks answers -/
/-- Does the leader's peer want value i? 's': where the leader's range starts. -/
def keepI (hf : Nat → Bool) (fr : Nat → Int) (self s : Int) (i : Nat) : Bool := !(hf i && fr i != self && (s == self || wi (fr i) s self))
/-- The leader's point for the resource r. -/
def ldp (n : Nat) (L : Nat → Int) (frm : Int) (r : Nat) : Nat := match ldOf n L frm (r : Int) with
  | some p => (L p).toNat
  | none => 0
/-- The values of resource r that are handed back. -/
def Kp (hf : Nat → Bool) (fr : Nat → Int) (self frm : Int) (n : Nat) (L : Nat → Int) (np : Nat) (Lp : Nat → Int) (V : Nat → List Nat) (r : Nat) : List Nat := match ldOf n L frm (r : Int) with
  | some p => if resp np Lp (r : Int) self = true then [] else (V r).filter (keepI hf fr self (st n L frm p))
  | none => []
def sfn (hf : Nat → Bool) (i : Nat) : Int := if hf i = true then 16 else 0
def sfa (hf : Nat → Bool) (fr : Nat → Int) (i : Nat) : Nat → Int := if hf i = true then idb (fr i) else fun _ => 0
/-- What the caller hands to handBacks. -/
structure Given (w : World) (P : Nat → Nat) (kd : Nat → Int) (hf : Nat → Bool) (fr : Nat → Int) (bv : Nat) (fv : Nat → Option Value) (V : Nat → List Nat) : Prop where
  map : MapOf 55 w bv fv
  rows : ∀ r v, r < 256 → fv r = some v → w.ownsRow 0 54 3 v (V r).length (rowC P kd (V r))
  nov : ∀ r, fv r = none → V r = []
  short : ∀ r, (V r).length ≤ 1024
  stored : ∀ r i, i ∈ V r → w.rangeAt (P i) 14 (nl (sfn hf i) (sfa hf fr i))
  bytes : ∀ r i, i ∈ V r → 0 ≤ fr i ∧ fr i ≤ 255
theorem Given.shape {w : World} {P : Nat → Nat} {kd : Nat → Int} {hf : Nat → Bool} {fr : Nat → Int} {bv : Nat} {fv : Nat → Option Value} {V : Nat → List Nat} (G : Given w P kd hf fr bv fv V) : ∀ x v, x < 256 → fv x = some v → ∃ sa len cap, v = .slice sa len cap := fun x v hx hv => by
  rcases (G.rows x v hx hv).2 with ⟨rfl, _⟩ | ⟨g, cap, cur, rfl, _⟩
  · exact ⟨none, 0, 0, rfl⟩
  · exact ⟨_, _, _, rfl⟩
theorem Given.row {w : World} {P : Nat → Nat} {kd : Nat → Int} {hf : Nat → Bool} {fr : Nat → Int} {bv : Nat} {fv : Nat → Option Value} {V : Nat → List Nat} (G : Given w P kd hf fr bv fv V) {x : Nat} {sa : Option Addr} {len cap : Nat} (hx : x < 256) (hv : fv x = some (.slice sa len cap)) :
    len = (V x).length ∧ ∃ g, (0 < len → sa = some ⟨g, 0, none⟩) ∧ w.rangeAt g 0 (rowC P kd (V x)) := by
  have h := G.rows x _ hx hv
  rcases h.2 with ⟨e, hn⟩ | ⟨g, cap', cur, e, _⟩
  · simp only [Value.slice.injEq] at e
    obtain ⟨rfl, rfl, rfl⟩ := e
    refine ⟨hn.symm, 0, fun h0 => absurd h0 (by omega), ?_⟩
    have : rowC P kd (V x) = [] := by
      have : V x = [] := List.length_eq_zero_iff.1 hn
      rw [this]; rfl
    rw [this]
    intro j v hj
    simp at hj
  · simp only [Value.slice.injEq] at e
    obtain ⟨rfl, rfl, rfl⟩ := e
    refine ⟨rfl, g, fun _ => rfl, fun j v hj => ?_⟩
    have := h.cells (g := g) rfl j v hj
    rw [Addr.add_mid] at this
    exact this
/-- The leaders in the outer map are just those that something is handed back to. -/
def Uok (n : Nat) (L : Nat → Int) (frm : Int) (U : Nat → Bool) (C : Nat → List Nat) : Prop := (∀ l, l < 256 → U l = true → ∃ r, r < 256 ∧ C r ≠ [] ∧ ldp n L frm r = l) ∧ ∀ r, r < 256 → C r ≠ [] → U (ldp n L frm r) = true
theorem grown_below {w w' : World} (h : Below w.heap.size w w') : w.grownBy w' none := ⟨h.os, h.tape, h.output, h.size, fun k hk _ => h.block k hk⟩
theorem below_grown {w w' : World} (h : w.grownBy w' none) : Below w.heap.size w w' := ⟨h.os, h.tape, h.output, h.size, fun k hk => h.block k hk (by simp)⟩
theorem zero33 : ∀ u : World, (zeroValue 33).run Yba.prog u = .ok (.slice none 0 0) u := fun u => by kernel_rfl
theorem info55 : (Yba.prog.info? 55).map (·.size) = some 21 := by kernel_rfl
theorem i55 (n : Int) (a : Nat → Int) : (Yba.prog.info? 55).map (·.size) = some (nl n a).length := by rw [info55, length_nl]
/-- The state between two rounds of handBacks' loop. -/
structure St (B : Nat) (w : World) (P : Nat → Nat) (kd : Nat → Int) (sf frm : Int) (ldr prd : Value) (n : Nat) (L : Nat → Int) (U : Nat → Bool) (C : Nat → List Nat) (ib : Nat → Nat) (sv : Nat → Value) (W : World) : Prop where
  size : w.heap.size = B
  tab : W.heap[B]? = some (.cells (tl sf prd).toArray 32)
  hol : W.heap[B + 1]? = some (.cells (hl sf frm ldr).toArray 30)
  bk : BK B P kd (ldp n L frm) W (B + 1 + 1) U C ib sv
  ok : Uok n L frm U C
  out : ∀ r, ¬ r < 256 → C r = []
  bel : Below B w W
theorem St.later {B : Nat} {w : World} {P : Nat → Nat} {kd : Nat → Int} {sf frm : Int} {ldr prd : Value} {n : Nat} {L : Nat → Int} {U : Nat → Bool} {C : Nat → List Nat} {ib : Nat → Nat} {sv : Nat → Value} {W W' : World}
    (h : St B w P kd sf frm ldr prd n L U C ib sv W) (k : Below W.heap.size W W') : St B w P kd sf frm ldr prd n L U C ib sv W' :=
  ⟨h.size, (k.block _ (lt_of_heap h.tab)).trans h.tab, (k.block _ (lt_of_heap h.hol)).trans h.hol, h.bk.later (grown_below k), h.ok, h.out, h.bel.trans (k.mono (by have := h.bel.size; have := h.size; omega))⟩
theorem BK.iter {base : Nat} {P : Nat → Nat} {kd : Nat → Int} {lp : Nat → Nat} {w w' : World} {bk : Nat} {U : Nat → Bool} {C : Nat → List Nat} {ib : Nat → Nat} {sv : Nat → Value} {it : Nat}
    (h : BK base P kd lp w bk U C ib sv) (hg : w.grownBy w' (some it)) (hit : ∃ m s a c, w.heap[it]? = some (.mapIter m s a c)) : BK base P kd lp w' bk U C ib sv := by
  obtain ⟨m, s, a, c, hit⟩ := hit
  have hm : ∀ {k : TypeId} {b : Nat} {f : Nat → Option Value}, MapOf k w b f → MapOf k w' b f := fun {k b f} hm => hm.kept hg (fun e => by
    obtain ⟨D, ⟨es, clock, hb, _⟩, _⟩ := hm
    simp only [Option.some.injEq] at e
    subst e
    rw [hb] at hit; cases hit)
  refine ⟨hm h.outer, fun l hl hu => hm (h.inner l hl hu), fun r hr => row_ne (h.rows r hr) hg (fun e => ?_), h.apart, h.notOut, h.rowsApart, h.ibBase⟩
  rcases (h.rows r hr).2 with ⟨e1, _⟩ | ⟨g, cap, cur, e1, _, hgg, _⟩
  · rw [e1] at e; cases e
  · rw [e1] at e
    simp only [Value.ownBlock, Option.some.injEq] at e
    subst e
    rw [hgg] at hit; cases hit
theorem RangeOf.iter {k : TypeId} {w : World} {b r c : Nat} {f : Nat → Option Value} {lf : Nat → Bool} (h : RangeOf k w b r f lf c) : ∃ m s a c, w.heap[r]? = some (.mapIter m s a c) := by
  obtain ⟨D, left, ⟨es, clock, since, seen, c0, _, _, _, _, hr, _⟩, _⟩ := h
  exact ⟨_, _, _, _, hr⟩
theorem St.iter {B : Nat} {w : World} {P : Nat → Nat} {kd : Nat → Int} {sf frm : Int} {ldr prd : Value} {n : Nat} {L : Nat → Int} {U : Nat → Bool} {C : Nat → List Nat} {ib : Nat → Nat} {sv : Nat → Value} {W W' : World} {it : Nat}
    (h : St B w P kd sf frm ldr prd n L U C ib sv W) (hg : W.grownBy W' (some it)) (hit : ∃ m s a c, W.heap[it]? = some (.mapIter m s a c)) (hb : B + 1 < it) : St B w P kd sf frm ldr prd n L U C ib sv W' :=
  ⟨h.size, (hg.block _ (lt_of_heap h.tab) (by simp; omega)).trans h.tab, (hg.block _ (lt_of_heap h.hol) (by simp; omega)).trans h.hol, h.bk.iter hg hit, h.ok, h.out,
    ⟨hg.os.trans h.bel.os, hg.tape.trans h.bel.tape, hg.output.trans h.bel.output, Nat.le_trans h.bel.size hg.size, fun k hk => (hg.block k (by have := h.bel.size; have := h.size; omega) (by simp; omega)).trans (h.bel.block k hk)⟩⟩
theorem rangeOf_ids {w : World} {sa : Option Addr} {g n : Nat} {L : Nat → Int} {B : Nat} {W : World} (h : Ids w sa g n L) (hs : w.heap.size = B) (hb : Below B w W) : Ids W sa g n L := h.later (hs ▸ hb)
/-- The load of a whole value under a guard that holds. -/
theorem wpLg_load {ops : Array Oper} {rest : List Oper} {op : Oper} {a : Act} {w : World} {Q : Exit → Act → World → Prop} (ty : TypeId) (hw : Region.wanted op (yielded ops a.tmps) = true) (x : Operand) (ho : op.op = .load ty x) (cs : List Value) (d : TypeDesc) (hu : Yba.prog.underlying ty = some d) (hd : d.isRow = true) (hi : (Yba.prog.info? ty).map (·.size) = some cs.length)
    (b o : Nat) (hx : a.eval x = .pointer (some ⟨b, o, none⟩)) (hc : w.rangeAt b o cs) (h : wpList Yba.prog ops Q rest (a.put op.dst (.agg cs.toArray)) w) : wpList Yba.prog ops Q (op :: rest) a w :=
  wpList_step fun K hK => by rw [if_pos hw]; exact wp_load_mid ty x ho b o hx cs d hc hu hd hi (hK _ _ h)
theorem eq_ids {a b : Int} (ha : 0 ≤ a ∧ a ≤ 255) (hb : 0 ≤ b ∧ b ≤ 255) (w : World) : (Op.equal 26 (.agg (nl 16 (idb a)).toArray) (.agg (nl 16 (idb b)).toArray)).run Yba.prog w = .ok (a == b) w := by
  obtain ⟨x, rfl⟩ : ∃ x : Nat, a = (x : Int) := ⟨a.toNat, by omega⟩
  obtain ⟨y, rfl⟩ : ∃ y : Nat, b = (y : Int) := ⟨b.toNat, by omega⟩
  obtain ⟨r, hr, hiff⟩ := run_equal_deep (P := Yba.prog) w (m := 3) (by omega) (k := 26) (by kernel_rfl) (by kernel_rfl) (ky26.key x (by omega)) (ky26.key y (by omega))
  have e : r = ((x : Int) == (y : Int)) := by
    by_cases h : x = y
    · subst h
      rw [hiff.2 rfl]; simp
    · cases r
      · symm; rw [beq_eq_false_iff_ne]; omega
      · exact absurd (ky26.inj (by omega) (by omega) (hiff.1 rfl)) h
  rw [← e]; exact hr
/-- The element at place j of a row. -/
theorem row_el {w : World} {g : Nat} {P : Nat → Nat} {kd : Nat → Int} : ∀ {V : List Nat} {o j i : Nat}, w.rangeAt g o (rowC P kd V) → V[j]? = some i →
    w.cell? ⟨g, o + j * 3, none⟩ = some (.pointer (some ⟨P i, 0, none⟩)) ∧ w.cell? ⟨g, o + j * 3 + 1, none⟩ = some (.int .u32 (kd i)) ∧ w.cell? ⟨g, o + j * 3 + 2, none⟩ = some (.int .u64 0)
  | [], _, _, _, _, h => by simp at h
  | a :: V, o, 0, i, h, hj => by
    simp at hj
    subst hj
    exact ⟨h 0 _ rfl, h 1 _ rfl, h 2 _ rfl⟩
  | a :: V, o, j + 1, i, h, hj => by
    have h2 : w.rangeAt g (o + 3) (rowC P kd V) := by
      have h3 : w.rangeAt g o (el P kd a ++ rowC P kd V) := h
      exact range_app_right h3
    have := row_el (j := j) h2 (by simpa using hj)
    have e : o + (j + 1) * 3 = o + 3 + j * 3 := by omega
    rw [e]; exact this
def Cur (K : Nat → List Nat) (lf : Nat → Bool) (r : Nat) : List Nat := if r < 256 ∧ lf r = false then K r else []

/-- While resource x is gone through: j of its values are done. -/
def inC (hf : Nat → Bool) (fr : Nat → Int) (self s : Int) (K : Nat → List Nat) (lf : Nat → Bool) (V : Nat → List Nat) (x j : Nat) (y : Nat) : List Nat := if y = x then ((V x).take j).filter (keepI hf fr self s) else Cur K lf y
theorem inC_zero {hf : Nat → Bool} {fr : Nat → Int} {self s : Int} {K : Nat → List Nat} {lf : Nat → Bool} {V : Nat → List Nat} {x : Nat} (hl : lf x = true) : inC hf fr self s K lf V x 0 = Cur K lf := by
  funext y
  unfold inC
  by_cases h : y = x
  · subst h; rw [if_pos rfl]; unfold Cur; rw [if_neg (by rw [hl]; simp)]; simp
  · rw [if_neg h]
theorem inC_end {hf : Nat → Bool} {fr : Nat → Int} {self s : Int} {K : Nat → List Nat} {lf : Nat → Bool} {V : Nat → List Nat} {x j : Nat} (hx : x < 256) (hj : j = (V x).length) (hK : K x = (V x).filter (keepI hf fr self s)) : inC hf fr self s K lf V x j = Cur K (fun y => lf y && y != x) := by
  funext y
  unfold inC
  by_cases h : y = x
  · subst h
    rw [if_pos rfl, hj, List.take_length]
    unfold Cur
    rw [if_pos ⟨hx, by simp⟩, hK]
  · rw [if_neg h]
    unfold Cur
    have : (y != x) = true := by simpa using h
    simp only [this, Bool.and_true]
theorem inC_keep {hf : Nat → Bool} {fr : Nat → Int} {self s : Int} {K : Nat → List Nat} {lf : Nat → Bool} {V : Nat → List Nat} {x j i : Nat} (hj : (V x)[j]? = some i) (hk : keepI hf fr self s i = true) : inC hf fr self s K lf V x (j + 1) = updC (inC hf fr self s K lf V x j) x i := by
  funext y
  unfold updC inC
  by_cases h : y = x
  · subst h
    simp only [if_true, List.take_add_one, hj, Option.toList_some, List.filter_append]
    simp [hk]
  · rw [if_neg h, if_neg h, if_neg h]
theorem inC_drop {hf : Nat → Bool} {fr : Nat → Int} {self s : Int} {K : Nat → List Nat} {lf : Nat → Bool} {V : Nat → List Nat} {x j i : Nat} (hj : (V x)[j]? = some i) (hk : keepI hf fr self s i = false) : inC hf fr self s K lf V x (j + 1) = inC hf fr self s K lf V x j := by
  funext y
  unfold inC
  by_cases h : y = x
  · subst h
    simp only [if_true, List.take_add_one, hj, Option.toList_some, List.filter_append]
    simp [hk]
  · rw [if_neg h, if_neg h]
theorem cur_same {K : Nat → List Nat} {lf : Nat → Bool} {x : Nat} (hK : K x = []) (hl : lf x = true) : Cur K lf = Cur K (fun y => lf y && y != x) := by
  funext r
  unfold Cur
  by_cases hr : r = x
  · subst hr
    rw [if_neg (by rw [hl]; simp), hK]; simp
  · have : (r != x) = true := by simpa using hr
    simp only [this, Bool.and_true]

end Go.Proofs.Ybulkddqw
