/-
  Maps keyed by the Node-IDs of the ring, whatever value is an element: the kit's laws on maps (ownsMap, ranges) with a reader that keeps the element as it is; and the two-step store of m[k] = append(m[k], v).
-/
import Derived.Test.YbulkddqwHolders
import Derived.Maps.Own
import Derived.Maps.OwnSet
import Derived.Maps.Range
import Derived.WideKeyEntry
import Derived.DeepKeys4
namespace Go.Proofs.Ybulkddqw
open Go.RowKit Go.Maps Go.ChangeMaps

/-! ### Maps keyed by the points' Node-IDs; whatever value is an element -/
/-- The reader that keeps an element as it is. -/
def hv (v : Value) : Option (DataW Value × List MemPlace) := some (.held v, [])
def kl (P : Program) (k : TypeId) (x : Nat) : Lit := (keyOf P k (idv (x : Int))).getD (.bool false)
theorem laidY : laidOutB Yba.prog = true := by kernel_rfl
structure Ky (k : TypeId) : Prop where
  law : WideMaps.KeyLaw Yba.prog k
  key : ∀ x : Nat, x < 256 → keyOf Yba.prog k (idv (x : Int)) = some (kl Yba.prog k x)
theorem all26 : ((List.range 256).all fun x => (keyOf Yba.prog 26 (idv ((x : Nat) : Int))).isSome) = true := by kernel_rfl
theorem all55 : ((List.range 256).all fun x => (keyOf Yba.prog 55 (idv ((x : Nat) : Int))).isSome) = true := by kernel_rfl
theorem ky26 : Ky 26 where
  law := deep_law_laid laidY (m := 3) (by omega) (of_decide_eq_true (by kernel_rfl)) (by kernel_rfl) (by kernel_rfl)
  key x hx := by
    have := List.all_eq_true.1 all26 x (by simpa using hx)
    obtain ⟨l, hl⟩ := Option.isSome_iff_exists.1 this
    unfold kl; rw [hl]; rfl
theorem ky55 : Ky 55 where
  law := deep_law_laid laidY (m := 3) (by omega) (of_decide_eq_true (by kernel_rfl)) (by kernel_rfl) (by kernel_rfl)
  key x hx := by
    have := List.all_eq_true.1 all55 x (by simpa using hx)
    obtain ⟨l, hl⟩ := Option.isSome_iff_exists.1 this
    unfold kl; rw [hl]; rfl
theorem idv_inj {x y : Int} (h : idv x = idv y) : x = y := by
  have h2 : (nl 16 (idb x)).toArray = (nl 16 (idb y)).toArray := by injection h
  have h3 : (nl 16 (idb x)) = (nl 16 (idb y)) := by simpa using h2
  have h4 := get_nl 16 (idb x) 0 (by omega)
  rw [h3, get_nl 16 (idb y) 0 (by omega)] at h4
  simp [idb] at h4
  exact h4.symm
theorem Ky.inj {k : TypeId} (K : Ky k) {x y : Nat} (hx : x < 256) (hy : y < 256) (h : kl Yba.prog k x = kl Yba.prog k y) : x = y := by
  have := K.law.inj (K.key x hx) (by rw [h]; exact K.key y hy)
  have := idv_inj this
  omega
theorem Ky.keyed {k : TypeId} (K : Ky k) : Keyed Yba.prog k := Keyed.of_law K.law

def cnt (f : Nat → Option Value) : Nat := ((List.range 256).filter fun x => (f x).isSome).length
theorem cnt_le (f : Nat → Option Value) : cnt f ≤ 256 := by
  have := List.length_filter_le (fun x => (f x).isSome) (List.range 256)
  simpa [cnt] using this
def upd (f : Nat → Option Value) (x : Nat) (v : Value) : Nat → Option Value := fun y => if y = x then some v else f y
theorem filter_add {p q : Nat → Bool} {x : Nat} (hp : p x = false) (hq : ∀ y, q y = (p y || y == x)) : ∀ l : List Nat, l.Nodup → x ∈ l → (l.filter q).length = (l.filter p).length + 1
  | [], _, h => by simp at h
  | a :: l, hn, h => by
    obtain ⟨h1, h2⟩ := List.nodup_cons.1 hn
    by_cases hax : a = x
    · subst hax
      have e : ∀ y ∈ l, q y = p y := fun y hy => by
        have : y ≠ a := fun e => h1 (e ▸ hy)
        rw [hq y]; simp [this]
      rw [List.filter_cons, List.filter_cons, hq a, hp]
      simp [List.filter_congr e]
    · have hl : x ∈ l := by simpa [Ne.symm hax] using h
      have ih := filter_add hp hq l h2 hl
      rw [List.filter_cons, List.filter_cons, hq a]
      have : (a == x) = false := by simpa using hax
      rw [this, Bool.or_false]
      split
      · simp [ih]
      · exact ih
theorem cnt_new {f : Nat → Option Value} {x : Nat} (hx : x < 256) (v : Value) (h : f x = none) : cnt (upd f x v) = cnt f + 1 := by
  unfold cnt
  refine filter_add (x := x) (by rw [h]; rfl) (fun y => ?_) _ List.nodup_range (by simpa using hx)
  unfold upd
  by_cases hy : y = x
  · subst hy; simp
  · simp [hy]
theorem cnt_old {f : Nat → Option Value} {x : Nat} (v : Value) (h : (f x).isSome = true) : cnt (upd f x v) = cnt f := by
  unfold cnt
  congr 1
  apply List.filter_congr
  intro y _
  unfold upd
  by_cases hy : y = x
  · subst hy; rw [if_pos rfl, h]; rfl
  · rw [if_neg hy]

/-- The datum D holds just f. -/
structure View (k : TypeId) (D : DataW Value) (f : Nat → Option Value) : Prop where
  has : ∀ x, x < 256 → Maps.has D (kl Yba.prog k x) = (f x).isSome
  at' : ∀ x v, x < 256 → f x = some v → ∀ zd, D.atKey (kl Yba.prog k x) zd = .held v
  keys : ∀ l, Maps.has D l = true → ∃ x, x < 256 ∧ l = kl Yba.prog k x
  size : Maps.size D = cnt f
theorem view_empty (k : TypeId) : View k (.map []) (fun _ => none) where
  has x hx := rfl
  at' x v hx h := by cases h
  keys l h := by cases h
  size := by
    have : cnt (fun _ => none) = 0 := by
      unfold cnt
      rw [List.length_eq_zero_iff, List.filter_eq_nil_iff]
      intros
      simp
    rw [this]; rfl
theorem View.put {k : TypeId} (K : Ky k) {D : DataW Value} {f : Nat → Option Value} (h : View k D f) (hT : Tidy D) {x : Nat} (hx : x < 256) (v : Value) : View k (D.put (kl Yba.prog k x) (.held v)) (upd f x v) where
  has y hy := by
    unfold upd
    by_cases hyx : y = x
    · subst hyx
      rw [Maps.has_put_same hT.isMap (K.keyed.key (K.key y hy))]; simp
    · rw [Maps.has_put_other (fun e => hyx (K.inj hy hx e)), if_neg hyx]; exact h.has y hy
  at' y u hy hu zd := by
    unfold upd at hu
    by_cases hyx : y = x
    · subst hyx
      rw [if_pos rfl] at hu
      cases hu
      exact Maps.atKey_put_same hT.isMap (K.keyed.key (K.key y hy)) _ _
    · rw [if_neg hyx] at hu
      rw [Maps.atKey_put_other (fun e => hyx (K.inj hy hx e))]; exact h.at' y u hy hu zd
  keys l hl := by
    by_cases hlx : l = kl Yba.prog k x
    · exact ⟨x, hx, hlx⟩
    · rw [Maps.has_put_other hlx] at hl; exact h.keys l hl
  size := by
    rw [Maps.size_put hT, h.has x hx, h.size]
    cases hf : f x with
    | none => simp [cnt_new hx v hf]
    | some u => simp [cnt_old v (by rw [hf]; rfl : (f x).isSome = true)]

/-- Block b is a map of type 'keyed by k' that holds just f. -/
def MapOf (k : TypeId) (w : World) (b : Nat) (f : Nat → Option Value) : Prop := ∃ D, w.ownsMap Yba.prog k hv b 256 D ∧ View k D f
theorem tighten {k : TypeId} {w : World} {b n : Nat} {D : DataW Value} (h : w.ownsMap Yba.prog k hv b n D) (hs : Maps.size D ≤ 256) : w.ownsMap Yba.prog k hv b 256 D := by
  obtain ⟨es, clock, hb, F, _, rfl⟩ := h
  exact ⟨es, clock, hb, F, by simpa [Maps.size, length_sorted] using hs, rfl⟩
theorem MapOf.make (k : TypeId) (w : World) : MapOf k (w.alloc (.map #[] 0)) w.heap.size (fun _ => none) :=
  ⟨_, (World.ownsMap_made w Yba.prog k hv).mono (by omega), view_empty k⟩
theorem MapOf.lt {k : TypeId} {w : World} {b : Nat} {f : Nat → Option Value} (h : MapOf k w b f) : b < w.heap.size := by obtain ⟨D, h, _⟩ := h; exact h.lt
theorem MapOf.kept {k : TypeId} {w w' : World} {b : Nat} {f : Nat → Option Value} {row : Option Nat} (h : MapOf k w b f) (hg : w.grownBy w' row) (hne : some b ≠ row) : MapOf k w' b f := by
  obtain ⟨D, h, v⟩ := h; exact ⟨D, h.kept hg hne, v⟩
theorem MapOf.same {k : TypeId} {w w' : World} {b : Nat} {f : Nat → Option Value} (h : MapOf k w b f) (hb : w'.heap[b]? = w.heap[b]?) : MapOf k w' b f := by
  obtain ⟨D, ⟨es, clock, h1, h2⟩, v⟩ := h; exact ⟨D, ⟨es, clock, hb.trans h1, h2⟩, v⟩
theorem MapOf.look {k : TypeId} (K : Ky k) {w : World} {b : Nat} {f : Nat → Option Value} (h : MapOf k w b f) {t e : TypeId} (ht : Yba.prog.underlying t = some (.map k e)) {z : Value} (hz : (zeroValue e).run Yba.prog w = .ok z w) {x : Nat} (hx : x < 256) :
    (Instr.lookup t (.map (some b)) (idv (x : Int)) false).run Yba.prog w = .ok ((f x).getD z) w := by
  obtain ⟨D, h, v⟩ := h
  obtain ⟨u, ps, hrun, hu⟩ := h.lookup K.keyed ht hz (zd := .held z) (zp := []) rfl (K.key x hx)
  rw [hrun]
  have e : DataW.held u = D.atKey (kl Yba.prog k x) (.held z) := by have := hu; unfold hv at this; injection this with this; injection this
  cases hf : f x with
  | none =>
    rw [Maps.atKey_of_not_has (by rw [v.has x hx, hf]; rfl)] at e
    injection e with e; rw [e]; rfl
  | some y =>
    rw [v.at' x y hx hf] at e
    injection e with e; rw [e]; rfl
theorem look_nil26 {w : World} {x : Nat} (hx : x < 256) {z : Value} (hz : (zeroValue 33).run Yba.prog w = .ok z w) : (Instr.lookup 34 (.map none) (idv (x : Int)) false).run Yba.prog w = .ok z w :=
  Maps.look_nil false ky55.keyed Yba.underlying34 hz (ky55.key x hx)
theorem MapOf.put {k : TypeId} (K : Ky k) {w : World} {b : Nat} {f : Nat → Option Value} (h : MapOf k w b f) {t e : TypeId} (ht : Yba.prog.underlying t = some (.map k e)) {x : Nat} (hx : x < 256) (v : Value) :
    ∃ w', (Instr.mapUpdate t (.map (some b)) (idv (x : Int)) v).run Yba.prog w = .ok () w' ∧ MapOf k w' b (upd f x v) ∧ w.grownBy w' (some b) := by
  obtain ⟨D, h, vw⟩ := h
  obtain ⟨w', h1, h2, h3⟩ := h.update K.keyed ht (by unfold maxLen; omega) (K.key x hx) (d := .held v) (ps := []) (val := v) rfl
  have vw' := vw.put K (h.tidy K.keyed) hx v
  exact ⟨w', h1, ⟨_, tighten h2 (by rw [vw'.size]; exact cnt_le _), vw'⟩, h3⟩
theorem MapOf.len {k : TypeId} {w : World} {b : Nat} {f : Nat → Option Value} (h : MapOf k w b f) {t e : TypeId} (ht : Yba.prog.underlying t = some (.map k e)) (ty : TypeId) : (Builtin.len_ #[t] ty #[.map (some b)]).run Yba.prog w = .ok (.int .i64 (cnt f)) w := by
  obtain ⟨D, h, vw⟩ := h
  rw [h.len ht ty, vw.size]
theorem MapOf.entry {k : TypeId} (K : Ky k) {w : World} {b : Nat} {f : Nat → Option Value} (h : MapOf k w b f) {t e : TypeId} (ht : Yba.prog.underlying t = some (.map k e)) {z : Value} (hz : ∀ u : World, (zeroValue e).run Yba.prog u = .ok z u) {x : Nat} (hx : x < 256) :
    ∃ (st : Nat) (w1 : World), (Instr.mapEntry t (.map (some b)) (idv (x : Int))).run Yba.prog w = .ok (.tuple #[(f x).getD z, goInt st]) w1 ∧ w.grownBy w1 (some b) ∧ w1.heap.size = w.heap.size ∧
      ∀ (w2 : World) (v : Value), w2.heap[b]? = w1.heap[b]? → ∃ w3, (Instr.entryStore t (.map (some b)) (goInt st) v).run Yba.prog w2 = .ok () w3 ∧ MapOf k w3 b (upd f x v) ∧ w2.grownBy w3 (some b) := by
  have hm := h
  obtain ⟨D, ⟨es, clock, hb, F, hs, hD⟩, vw⟩ := h
  obtain ⟨v0, st, es1, clock1, hrun, hval, hst⟩ := WideElems.entry_then_store K.law ht hz hb F (K.key x hx)
  have hlook := hm.look K ht (hz w) hx
  have e0 : v0 = (f x).getD z := by
    rcases Maps.fit_look false K.keyed ht (hz w) hb F (K.key x hx) with ⟨hr, hno, _⟩ | ⟨e1, y, he1, hk1, hr, _⟩
    · rw [hr] at hlook
      injection hlook with hlook
      rcases hval with ⟨e0, he0, hk0, rfl⟩ | ⟨_, rfl⟩
      · exact absurd hk0 (hno e0 he0)
      · exact hlook
    · rw [hr] at hlook
      injection hlook with hlook
      rcases hval with ⟨e0, he0, hk0, rfl⟩ | ⟨hno, _⟩
      · have : e0 = e1 := entry_eq_of_key ((MapKept.stamped_iff es clock).1 F.stamped).2.2 he0 he1 (hk0.trans hk1.symm)
        rw [this]; exact hlook
      · exact absurd hk1 (hno e1 he1)
  subst e0
  refine ⟨st, _, hrun, ⟨rfl, rfl, rfl, by simp [setBlock], fun i _ hi => heap_setBlock_other hb _ (fun e => hi (by rw [e]))⟩, by simp [setBlock], fun w2 v hw2 => ?_⟩
  rw [heap_setBlock_same hb] at hw2
  obtain ⟨es', clock', hr2, hup⟩ := hst w2 v hw2
  obtain ⟨w', h1, h2, _⟩ := hm.put K ht hx v
  rw [hup] at h1
  injection h1 with _ h1
  subst h1
  refine ⟨_, hr2, h2.same ?_, ⟨rfl, rfl, rfl, by simp [setBlock], fun i _ hi => heap_setBlock_other hw2 _ (fun e => hi (by rw [e]))⟩⟩
  rw [heap_setBlock_same hw2, heap_setBlock_same hb]

/-! ### The loop over such a map -/
/-- Block r loops over the map of block b, which holds f; the points of lf are still to come, c entries in all. -/
def RangeOf (k : TypeId) (w : World) (b r : Nat) (f : Nat → Option Value) (lf : Nat → Bool) (c : Nat) : Prop :=
  ∃ D left, w.ranges Yba.prog k hv b r 256 D left c ∧ View k D f ∧ ∀ x, x < 256 → left (kl Yba.prog k x) = lf x
theorem MapOf.range {k : TypeId} (K : Ky k) {w : World} {b : Nat} {f : Nat → Option Value} (h : MapOf k w b f) {t e : TypeId} (ht : Yba.prog.underlying t = some (.map k e)) :
    ∃ w', (Instr.range t (.map (some b))).run Yba.prog w = .ok (.pointer (some ⟨w.heap.size, 0, none⟩)) w' ∧ RangeOf k w' b w.heap.size f (fun x => (f x).isSome) (cnt f) ∧ w.grownBy w' none ∧ w'.heap.size = w.heap.size + 1 := by
  obtain ⟨D, h, v⟩ := h
  obtain ⟨w', h1, h2, h3, h4⟩ := h.range K.keyed ht
  exact ⟨w', h1, ⟨D, _, by rw [← v.size]; exact h2, v, v.has⟩, h3, h4⟩
theorem RangeOf.kept {k : TypeId} {w w' : World} {b r c : Nat} {f : Nat → Option Value} {lf : Nat → Bool} {row : Option Nat} (h : RangeOf k w b r f lf c) (hg : w.grownBy w' row) (hb : some b ≠ row) (hr : some r ≠ row) : RangeOf k w' b r f lf c := by
  obtain ⟨D, left, h, v, hl⟩ := h; exact ⟨D, left, h.kept hg hb hr, v, hl⟩
theorem RangeOf.map {k : TypeId} {w : World} {b r c : Nat} {f : Nat → Option Value} {lf : Nat → Bool} (h : RangeOf k w b r f lf c) : MapOf k w b f := by
  obtain ⟨D, left, h, v, hl⟩ := h; exact ⟨D, h.owns, v⟩
theorem RangeOf.lt {k : TypeId} {w : World} {b r c : Nat} {f : Nat → Option Value} {lf : Nat → Bool} (h : RangeOf k w b r f lf c) : r < w.heap.size := by
  obtain ⟨D, left, h, v, hl⟩ := h; exact h.lt
theorem RangeOf.left_eq {k : TypeId} {w : World} {b r c : Nat} {f : Nat → Option Value} {lf : Nat → Bool} (h : RangeOf k w b r f lf c) : w.rangeLeft b r = c := by
  obtain ⟨D, left, h, v, hl⟩ := h; exact h.left_eq
theorem RangeOf.next {k : TypeId} (K : Ky k) {w : World} {b r c : Nat} {f : Nat → Option Value} {lf : Nat → Bool} (h : RangeOf k w b r f lf c) (ty : TypeId) :
    ((∀ x, x < 256 → lf x = false) ∧ (Instr.next (.pointer (some ⟨r, 0, none⟩)) false ty).run Yba.prog w = .ok (.tuple #[.bool false]) w) ∨
    ∃ (x : Nat) (v : Value) (w' : World) (c' : Nat), x < 256 ∧ lf x = true ∧ f x = some v ∧ (Instr.next (.pointer (some ⟨r, 0, none⟩)) false ty).run Yba.prog w = .ok (.tuple #[.bool true, idv (x : Int), v]) w' ∧
      RangeOf k w' b r f (fun y => lf y && y != x) c' ∧ c' < c ∧ w.grownBy w' (some r) ∧ w'.heap.size = w.heap.size ∧ (Instr.entry (.pointer (some ⟨r, 0, none⟩))).run Yba.prog w' = .ok (.tuple #[idv (x : Int), v]) w' := by
  obtain ⟨D, left, h, vw, hl⟩ := h
  rcases h.next K.keyed ty with ⟨_, h2, h3⟩ | ⟨key, v, l, y, w', c', hkey, hleft, hv', hat, hrun, hrg, hlt, hg, hsz, hen⟩
  · exact .inl ⟨fun x hx => by rw [← hl x hx]; exact h2 _, h3⟩
  · have hhas : Maps.has D l = true := Maps.has_true_of_atKey hat
    obtain ⟨x, hx, rfl⟩ := vw.keys l hhas
    have ek : key = idv (x : Int) := K.law.inj hkey (K.key x hx)
    subst ek
    have hf : f x = some v := by
      have h1 := vw.has x hx
      rw [hhas] at h1
      obtain ⟨u, hu⟩ := Option.isSome_iff_exists.1 h1.symm
      have e1 := vw.at' x u hx hu .nil
      rw [hat .nil] at e1
      unfold hv at hv'
      injection hv' with hv'
      rw [← hv'] at e1
      injection e1 with e1
      rw [hu, e1]
    refine .inr ⟨x, v, w', c', hx, by rw [← hl x hx]; exact hleft, hf, hrun, ⟨D, _, hrg, vw, fun y' hy' => ?_⟩, hlt, hg, hsz, hen⟩
    dsimp only
    rw [← hl y' hy']
    by_cases hyx : y' = x
    · subst hyx
      rw [WideAt.sameKey_self (K.keyed.key (K.key y' hx))]; simp
    · rw [Maps.sameKey_ne (fun e => hyx (K.inj hy' hx e))]
      have : (y' != x) = true := by simpa using hyx
      rw [this]; simp
end Go.Proofs.Ybulkddqw
