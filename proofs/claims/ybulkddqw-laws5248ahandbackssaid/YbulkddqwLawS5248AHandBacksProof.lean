/-
  A PROOF OF 'Rows.LawS5248AHandBacksSaid': two bytes, two slices of bytes, a slice of structs of four cells.
-/
import Derived.Test.YbulkddqwRows
import Derived.WalkKit
import Derived.ProofKit
import Derived.OpenShut
import Derived.ShutString
import Derived.ChangeOld
import Derived.Below
import Derived.Deep.Slices
import Derived.Lib.SmallJoins
import Derived.Test.YbulkddqwLawA
namespace Go.Proofs.Ybulkddqw.lawS5248AHandBacks
open Go.ChangeShapes Go.WideShapes Go.ChangeAt Go.RowKit
theorem own : ownKnob Yba.prog.godebug = none := by kernel_rfl
theorem laidOut : laidOutB Yba.prog = true := by kernel_rfl
theorem cells5 : Yba.prog.cellsOf 5 = 1 := by kernel_rfl
theorem cells4 : Yba.prog.cellsOf 4 = 1 := by kernel_rfl
theorem cells35 : Yba.prog.cellsOf 35 = 1 := by kernel_rfl
theorem cells37 : Yba.prog.cellsOf 37 = 4 := by kernel_rfl

set_option maxRecDepth 100000 in
/-- Whatever the five arguments: long ones are let through at once; the others are walked. -/
theorem walk (self frm : Int) (hself : 0 ≤ self ∧ self ≤ 255) (hfrm : 0 ≤ frm ∧ frm ≤ 255) (sl sp se : Option Addr) (n cap np capp ne cape gl ol gp op ge oe : Nat) (L Lp re fr : Nat → Int) (hf : Nat → Bool) (kd : Nat → Int) (w : World)
    (hL : Bys w sl gl ol n L) (hLp : Bys w sp gp op np Lp) (hE : Ens w se ge oe ne re fr hf kd) :
    Calls Yba.prog 3 #[.int .u8 self, .int .u8 frm, .slice sl n cap, .slice sp np capp, .slice se ne cape] w fun e w' => e = .returned (.bool true) ∧ Below w.heap.size w w' := by
  by_cases h1 : ne ≤ 1024
  · by_cases h2 : n ≤ 1024
    · by_cases h3 : np ≤ 1024
      · exact law_any self frm hself hfrm sl sp se n cap np capp ne cape gl ol gp op ge oe L Lp re fr hf kd w h2 h3 h1 hL hLp hE
      · have i1 : ¬ (1024 : Int) < (ne : Int) := by omega
        have i2 : ¬ (1024 : Int) < (n : Int) := by omega
        have i3 : (1024 : Int) < (np : Int) := by omega
        clear hL hLp hE
        go_enter Yba.func3, Yba.ntmps3
        go_wp2
        go_ret
        exact ⟨rfl, Below.refl _ _⟩
    · have i1 : ¬ (1024 : Int) < (ne : Int) := by omega
      have i2 : (1024 : Int) < (n : Int) := by omega
      clear hL hLp hE
      go_enter Yba.func3, Yba.ntmps3
      go_wp2
      go_ret
      exact ⟨rfl, Below.refl _ _⟩
  · have i1 : (1024 : Int) < (ne : Int) := by omega
    clear hL hLp hE
    go_enter Yba.func3, Yba.ntmps3
    go_wp2
    go_ret
    exact ⟨rfl, Below.refl _ _⟩

theorem bys_of_trod {H : Type} {enc : TypeId × Value → H} {W : World} {base : Nat} {spare : Nat → Bool} {held : Bool} {fuel len cap : Nat} {a0 : Option Addr} {x : DataW H × List MemPlace}
    (hf : DataW.trod enc Yba.prog W base spare held fuel 22 [.slice a0 len cap] = some x) :
    len ≤ maxLen ∧ ∃ (b off : Nat) (L : Nat → Int), Bys W a0 b off len L := by
  rcases Deep.open_slice Yba.underlying22 hf with ⟨hcs, _⟩ | ⟨a, l, c, m, n, D, Pl, hcs, _, hl, hm, hmm, _, hel⟩
  · simp at hcs
    obtain ⟨_, rfl, _⟩ := hcs
    exact ⟨by unfold maxLen; omega, 0, 0, fun _ => 0, fun h => by omega, fun i hi => by omega, fun i hi => by omega⟩
  · simp at hcs
    obtain ⟨rfl, rfl, rfl⟩ := hcs
    refine ⟨by omega, ?_⟩
    have hlm : len ≤ m := by rw [hmm]; split <;> omega
    rw [cells5] at hel
    have hx : ∀ i, i < len → ∃ z : Int, W.cell? (a.add i) = some (.int .u8 z) ∧ 0 ≤ z ∧ z ≤ 255 := fun i hi => by
      obtain ⟨cs', h1, h2⟩ := hel i (by omega)
      obtain ⟨z, rfl, _, hw⟩ := DataW.trod_int Yba.underlying5 h2
      obtain ⟨_, hl2, hcell⟩ := World.cells?_some h1
      have h3 := hcell 0 (by omega)
      rw [Nat.mul_one] at h3
      refine ⟨z, ?_, bounds_u8 hw⟩
      have e : (a.add i).add 0 = a.add i := by
        simp [Addr.add]
      rw [e] at h3
      exact h3
    by_cases h0 : 0 < len
    · obtain ⟨b, off, spot⟩ := a
      have hspot : spot = none := by
        obtain ⟨z, h1, _⟩ := hx 0 h0
        simpa [Addr.add] using World.cell?_spot h1
      subst hspot
      refine ⟨b, off, fun i => if h : i < len then (hx i h).choose else 0, fun _ => rfl, fun i hi => ?_, fun i hi => ?_⟩
      · simp only [hi, dif_pos]
        rw [← Addr.add_mid]
        exact (hx i hi).choose_spec.1
      · simp only [hi, dif_pos]
        exact (hx i hi).choose_spec.2
    · exact ⟨0, 0, fun _ => 0, fun h => absurd h h0, fun i hi => by omega, fun i hi => by omega⟩

theorem entry_of_trod {H : Type} {enc : TypeId × Value → H} {W : World} {base : Nat} {spare : Nat → Bool} {held : Bool} {fuel : Nat} {cs : List Value} {x : DataW H × List MemPlace}
    (h : DataW.trod enc Yba.prog W base spare held fuel 37 cs = some x) : ∃ (a b : Int) (c : Bool) (d : Int), cs = en a b c d ∧ (0 ≤ a ∧ a ≤ 255) ∧ 0 ≤ b ∧ b ≤ 255 := by
  obtain ⟨y0, y1, y2, y3, n, _, hl, h0, h1, h2, h3⟩ := Joins.trod_struct4 Yba.underlying37 h
  rw [cells37] at hl
  simp only [cells5, cells4, cells35] at h0 h1 h2 h3
  match cs, hl with
  | [c0, c1, c2, c3], _ =>
    simp only [List.drop_zero, List.drop_succ_cons, List.take_succ_cons, List.take_zero] at h0 h1 h2 h3
    obtain ⟨z0, e0, _, w0⟩ := DataW.trod_int Yba.underlying5 h0
    obtain ⟨z1, e1, _, w1⟩ := DataW.trod_int Yba.underlying5 h1
    obtain ⟨b2, e2, _⟩ := DataW.trod_bool Yba.underlying4 h2
    obtain ⟨z3, e3, _, w3⟩ := DataW.trod_int Yba.underlying35 h3
    simp only [List.cons.injEq, and_true] at e0 e1 e2 e3
    subst e0 e1 e2 e3
    exact ⟨z0, z1, b2, z3, rfl, bounds_u8 w0, bounds_u8 w1⟩

theorem ens_of_trod {H : Type} {enc : TypeId × Value → H} {W : World} {base : Nat} {spare : Nat → Bool} {held : Bool} {fuel len cap : Nat} {a0 : Option Addr} {x : DataW H × List MemPlace}
    (hf : DataW.trod enc Yba.prog W base spare held fuel 23 [.slice a0 len cap] = some x) :
    len ≤ maxLen ∧ ∃ (b off : Nat) (re fr : Nat → Int) (hf : Nat → Bool) (kd : Nat → Int), Ens W a0 b off len re fr hf kd := by
  rcases Deep.open_slice Yba.underlying23 hf with ⟨hcs, _⟩ | ⟨a, l, c, m, n, D, Pl, hcs, _, hl, hm, hmm, _, hel⟩
  · simp at hcs
    obtain ⟨_, rfl, _⟩ := hcs
    exact ⟨by unfold maxLen; omega, 0, 0, fun _ => 0, fun _ => 0, fun _ => false, fun _ => 0, fun h => by omega, fun i hi => by omega, fun i hi => by omega⟩
  · simp at hcs
    obtain ⟨rfl, rfl, rfl⟩ := hcs
    refine ⟨by omega, ?_⟩
    have hlm : len ≤ m := by rw [hmm]; split <;> omega
    rw [cells37] at hel
    have hx : ∀ i, i < len → ∃ q : Int × Int × Bool × Int, W.cells? base (a.add (i * 4)) 4 = some (en q.1 q.2.1 q.2.2.1 q.2.2.2) ∧ (0 ≤ q.1 ∧ q.1 ≤ 255) ∧ 0 ≤ q.2.1 ∧ q.2.1 ≤ 255 := fun i hi => by
      obtain ⟨cs', h1, h2⟩ := hel i (by omega)
      obtain ⟨p, q, r, s, rfl, h3⟩ := entry_of_trod h2
      exact ⟨(p, q, r, s), h1, h3⟩
    by_cases h0 : 0 < len
    · obtain ⟨b, off, spot⟩ := a
      have hspot : spot = none := by
        obtain ⟨q, h1, _⟩ := hx 0 h0
        obtain ⟨_, hl2, hcell⟩ := World.cells?_some h1
        have h3 := hcell 0 (by omega)
        simpa [Addr.add] using World.cell?_spot h3
      subst hspot
      refine ⟨b, off, fun i => if h : i < len then (hx i h).choose.1 else 0, fun i => if h : i < len then (hx i h).choose.2.1 else 0, fun i => if h : i < len then (hx i h).choose.2.2.1 else false, fun i => if h : i < len then (hx i h).choose.2.2.2 else 0, fun _ => rfl, fun i hi => ?_, fun i hi => ?_⟩
      · simp only [hi, dif_pos]
        intro j v hv
        have hsp := (hx i hi).choose_spec
        obtain ⟨_, hl2, hcell⟩ := World.cells?_some hsp.1
        have hj : j < 4 := by rw [← hl2]; exact (List.getElem?_eq_some_iff.1 hv).1
        have h3 := hcell j hj
        have e : ((⟨b, off, none⟩ : Addr).add (i * 4)).add j = ⟨b, off + i * 4 + j, none⟩ := by rw [Addr.add_mid, Addr.add_mid]
        exact (congrArg W.cell? e.symm).trans (h3.trans hv)
      · simp only [hi, dif_pos]
        exact (hx i hi).choose_spec.2
    · exact ⟨0, 0, fun _ => 0, fun _ => 0, fun _ => false, fun _ => 0, fun h => absurd h h0, fun i hi => by omega, fun i hi => by omega⟩

set_option maxRecDepth 100000 in
theorem lifted (os : Os) (started : os.Started) (H : Type) (enc : TypeId × Value → H) :
    ReturnsInHanded {} Yba.checked os 3 .any (Rows.lawS5248AHandBacksSpec.pre6 enc Yba.prog Yba.f3 Rows.lawS5248AHandBacksRow.domain false) (Rows.lawS5248AHandBacksSpec.post enc Yba.prog Yba.f3 false true false false) := by
  refine returnsInHanded_of_change (C := Yba.checked) own started (by kernel_rfl) Yba.func3
    (ChangeSpec.witness6 (enc := enc) (C := Yba.checked) false ⟨#[], #[.int .u8 0, .int .u8 0, .slice none 0 0, .slice none 0 0, .slice none 0 0], []⟩ 8 (by kernel_rfl) (by kernel_rfl) (by kernel_rfl) (by kernel_rfl)) ?_
  intro W base args ds gs before hval0 hW hcnd _
  have hval : ∀ (j : Nat) t v, Yba.f3.params[j]? = some t → args[j]? = some v → Value.okWide Yba.prog W .any base t v := hval0
  have hW' := hW
  obtain ⟨p, q, hA0, hV, rfl, hfz, hnd⟩ := hW
  have hA : DataW.TrodAll enc Yba.prog W 0 (fun _ => true) true Yba.f3.params.toList args.toList ds p := hA0
  rw [Yba.params3] at hA hval
  obtain ⟨v0, vs0, d0, ds0, p0, q0, hargs, rfl, rfl, h0, r0⟩ := trodAll_cons hA
  obtain ⟨v1, vs1, d1, ds1, p1, q1, rfl, rfl, rfl, h1, r1⟩ := trodAll_cons r0
  obtain ⟨v2, vs2, d2, ds2, p2, q2, rfl, rfl, rfl, h2, r2⟩ := trodAll_cons r1
  obtain ⟨v3, vs3, d3, ds3, p3, q3, rfl, rfl, rfl, h3, r3⟩ := trodAll_cons r2
  obtain ⟨v4, vs4, d4, ds4, p4, q4, rfl, rfl, rfl, h4, r4⟩ := trodAll_cons r3
  obtain ⟨rfl, rfl, rfl⟩ := trodAll_nil r4
  obtain rfl : args = #[v0, v1, v2, v3, v4] := by cases args; simp_all
  obtain ⟨rfl, rfl⟩ := trodVars_none hV
  have k0 := h0
  have k1 := h1
  have k2 := h2
  have k3 := h3
  have k4 := h4
  have lt0 : ∀ x ∈ p0, x.block < W.heap.size := by obtain ⟨m, hm⟩ := k0; exact DataW.trod_lt m _ _ _ hm
  have lt1 : ∀ x ∈ p1, x.block < W.heap.size := by obtain ⟨m, hm⟩ := k1; exact DataW.trod_lt m _ _ _ hm
  have lt2 : ∀ x ∈ p2, x.block < W.heap.size := by obtain ⟨m, hm⟩ := k2; exact DataW.trod_lt m _ _ _ hm
  have lt3 : ∀ x ∈ p3, x.block < W.heap.size := by obtain ⟨m, hm⟩ := k3; exact DataW.trod_lt m _ _ _ hm
  have lt4 : ∀ x ∈ p4, x.block < W.heap.size := by obtain ⟨m, hm⟩ := k4; exact DataW.trod_lt m _ _ _ hm
  obtain ⟨self, rfl, _, _, hz⟩ := open_int Yba.underlying5 (hval 0 5 v0 rfl rfl) h0
  have hself := bounds_u8 hz
  obtain ⟨frm, rfl, _, _, hz2⟩ := open_int Yba.underlying5 (hval 1 5 v1 rfl rfl) h1
  have hfrm := bounds_u8 hz2
  obtain ⟨a2, len2, cap2, rfl⟩ := okWide_slice Yba.underlying22 (hval 2 22 v2 rfl rfl)
  obtain ⟨a3, len3, cap3, rfl⟩ := okWide_slice Yba.underlying22 (hval 3 22 v3 rfl rfl)
  obtain ⟨a4, len4, cap4, rfl⟩ := okWide_slice Yba.underlying23 (hval 4 23 v4 rfl rfl)
  obtain ⟨_, b2, o2, L, hL⟩ : len2 ≤ maxLen ∧ ∃ (b off : Nat) (L : Nat → Int), Bys W a2 b off len2 L := by
    obtain ⟨fuel, hf⟩ := h2
    exact bys_of_trod hf
  obtain ⟨_, b3, o3, Lp, hLp⟩ : len3 ≤ maxLen ∧ ∃ (b off : Nat) (L : Nat → Int), Bys W a3 b off len3 L := by
    obtain ⟨fuel, hf⟩ := h3
    exact bys_of_trod hf
  obtain ⟨_, b4, o4, re, fr, hf, kd, hE⟩ : len4 ≤ maxLen ∧ ∃ (b off : Nat) (re fr : Nat → Int) (hf : Nat → Bool) (kd : Nat → Int), Ens W a4 b off len4 re fr hf kd := by
    obtain ⟨fuel, hf⟩ := h4
    exact ens_of_trod hf
  clear hA0 hval0
  refine (walk self frm hself hfrm a2 a3 a4 len2 cap2 len3 cap3 len4 cap4 b2 o2 b3 o3 b4 o4 L Lp re fr hf kd W hL hLp hE).mono fun e W' ⟨he, bel⟩ => ?_
  subst he
  exact ⟨_, rfl, _, _, _, [], _, [], hW', trodAll_mk1 (shut_bool Yba.underlying4 _), (trodAll_cons_mk (Below.trod laidOut (by kernel_rfl) (of_decide_eq_true (by kernel_rfl)) k0 bel lt0) (trodAll_cons_mk (Below.trod laidOut (by kernel_rfl) (of_decide_eq_true (by kernel_rfl)) k1 bel lt1) (trodAll_cons_mk (Below.trod laidOut (by kernel_rfl) (of_decide_eq_true (by kernel_rfl)) k2 bel lt2) (trodAll_cons_mk (Below.trod laidOut (by kernel_rfl) (of_decide_eq_true (by kernel_rfl)) k3 bel lt3) (trodAll_cons_mk (Below.trod laidOut (by kernel_rfl) (of_decide_eq_true (by kernel_rfl)) k4 bel lt4) trodAll_mk0))))), rfl, bel.frame _, fun h => by cases h⟩

theorem over : Rows.lawS5248AHandBacksRow.holds Yba.pinned (OpenSpec.ofChange Rows.lawS5248AHandBacksSpec) :=
  OpenClaim.holds_of_wide 3 Yba.f3 rfl rfl rfl rfl rfl rfl rfl ⟨rfl, rfl, rfl, rfl, rfl⟩ rfl rfl rfl rfl rfl (by kernel_rfl) Yba.func3 (by kernel_rfl)
    (of_decide_eq_true (by kernel_rfl)) (by unfold Func.isWrapper; first | (rw [if_pos (by decide +kernel)]; kernel_rfl) | (rw [if_neg (by decide +kernel)]; exact ⟨rfl, rfl⟩))
    (fun os started H enc _ => lifted os started H enc)

/-- ████ THE STATEMENT ████ -/
theorem proved : Rows.LawS5248AHandBacksSaid := over
end Go.Proofs.Ybulkddqw.lawS5248AHandBacks
