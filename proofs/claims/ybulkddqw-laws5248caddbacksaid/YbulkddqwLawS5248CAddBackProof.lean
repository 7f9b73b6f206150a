/-
  A PROOF OF 'Rows.LawS5248CAddBackSaid': a byte and two arrays of 20 bytes by value.
-/
import Derived.Test.YbulkddqwRows
import Derived.WalkKit
import Derived.ProofKit
import Derived.OpenShut
import Derived.ShutString
import Derived.ChangeOld
import Derived.Below
import Derived.Deep.Slices
import Derived.Test.YbulkddqwAddBack
namespace Go.Proofs.Ybulkddqw.lawS5248CAddBack
open Go.ChangeShapes Go.WideShapes Go.ChangeAt Go.RowKit

theorem own : ownKnob Yba.prog.godebug = none := by kernel_rfl
theorem laidOut : laidOutB Yba.prog = true := by kernel_rfl
theorem cells5 : Yba.prog.cellsOf 5 = 1 := by kernel_rfl
theorem cells24 : Yba.prog.cellsOf 24 = 20 := by kernel_rfl

theorem bytes_of_trod {H : Type} {enc : TypeId × Value → H} {W : World} {base : Nat} {sp : Nat → Bool} {held : Bool} {v : Value} {d : DataW H} {ps : List MemPlace} {r : Reach} {b0 : Nat}
    (hv : Value.okWide Yba.prog W r b0 24 v) (hd : DataW.Trod enc Yba.prog W base sp held 24 v d ps) : ∃ a : Nat → Int, v = .agg (bl a).toArray ∧ ∀ j, j < 20 → 0 ≤ a j ∧ a j ≤ 255 := by
  unfold Value.okWide at hv
  rw [Yba.underlying24] at hv
  obtain ⟨cs, rfl, hsz, _⟩ := hv
  rw [cells24] at hsz
  obtain ⟨fuel, hf⟩ := hd
  obtain ⟨xs, q, _, _, hlen, hxs, hget⟩ := DataW.trod_array Yba.underlying24 hf
  have hcell : ∀ j, j < 20 → ∃ z : Int, cs[j]? = some (.int .u8 z) ∧ 0 ≤ z ∧ z ≤ 255 := fun j hj => by
    have hg := hget j hj
    rw [cells5, Nat.mul_one, List.getElem?_eq_getElem (by omega)] at hg
    obtain ⟨z, hz, _, hw⟩ := DataW.trod_int Yba.underlying5 hg
    have hj' : j < cs.toList.length := by simpa using (by omega : j < cs.size)
    rw [show (Value.agg cs).cells = cs from rfl, List.drop_eq_getElem_cons hj', List.take_succ_cons, List.take_zero] at hz
    refine ⟨z, ?_, bounds_u8 hw⟩
    rw [Array.getElem?_eq_getElem (by omega)]
    simpa using (List.cons.inj hz).1
  refine ⟨fun j => if h : j < 20 then (hcell j h).choose else 0, ?_, fun j hj => ?_⟩
  · congr 1
    apply Array.ext_getElem?
    intro j
    by_cases hj : j < 20
    · rw [(hcell j hj).choose_spec.1]
      have := get_bl (fun j => if h : j < 20 then (hcell j h).choose else 0) j hj
      simp only [hj, dif_pos] at this
      simpa using this.symm
    · rw [Array.getElem?_eq_none (by omega), Array.getElem?_eq_none (by rw [size_bl]; omega)]
  · simp only [hj, dif_pos]
    exact (hcell j hj).choose_spec.2

set_option maxRecDepth 100000 in
theorem lifted (os : Os) (started : os.Started) (H : Type) (enc : TypeId × Value → H) :
    ReturnsInHanded {} Yba.checked os 4 .any (Rows.lawS5248CAddBackSpec.pre6 enc Yba.prog Yba.f4 Rows.lawS5248CAddBackRow.domain false) (Rows.lawS5248CAddBackSpec.post enc Yba.prog Yba.f4 false true false false) := by
  refine returnsInHanded_of_change (C := Yba.checked) own started (by kernel_rfl) Yba.func4
    (ChangeSpec.witness6 (enc := enc) (C := Yba.checked) false ⟨#[], #[.int .u8 0, .agg (bl (fun _ => 0)).toArray, .agg (bl (fun _ => 0)).toArray], []⟩ 8 (by kernel_rfl) (by kernel_rfl) (by kernel_rfl) (by kernel_rfl)) ?_
  intro W base args ds gs before hval0 hW hcnd _
  have hval : ∀ (j : Nat) t v, Yba.f4.params[j]? = some t → args[j]? = some v → Value.okWide Yba.prog W .any base t v := hval0
  have hW' := hW
  obtain ⟨p, q, hA0, hV, rfl, hfz, hnd⟩ := hW
  have hA : DataW.TrodAll enc Yba.prog W 0 (fun _ => true) true Yba.f4.params.toList args.toList ds p := hA0
  rw [Yba.params4] at hA hval
  obtain ⟨v0, vs0, d0, ds0, p0, q0, hargs, rfl, rfl, h0, r0⟩ := trodAll_cons hA
  obtain ⟨v1, vs1, d1, ds1, p1, q1, rfl, rfl, rfl, h1, r1⟩ := trodAll_cons r0
  obtain ⟨v2, vs2, d2, ds2, p2, q2, rfl, rfl, rfl, h2, r2⟩ := trodAll_cons r1
  obtain ⟨rfl, rfl, rfl⟩ := trodAll_nil r2
  obtain rfl : args = #[v0, v1, v2] := by cases args; simp_all
  obtain ⟨rfl, rfl⟩ := trodVars_none hV
  have k0 := h0
  have k1 := h1
  have k2 := h2
  have lt0 : ∀ x ∈ p0, x.block < W.heap.size := by obtain ⟨m, hm⟩ := k0; exact DataW.trod_lt m _ _ _ hm
  have lt1 : ∀ x ∈ p1, x.block < W.heap.size := by obtain ⟨m, hm⟩ := k1; exact DataW.trod_lt m _ _ _ hm
  have lt2 : ∀ x ∈ p2, x.block < W.heap.size := by obtain ⟨m, hm⟩ := k2; exact DataW.trod_lt m _ _ _ hm
  obtain ⟨z, rfl, _, _, hz⟩ := open_int Yba.underlying5 (hval 0 5 v0 rfl rfl) h0
  obtain ⟨hz0, hz1⟩ := bounds_u8 hz
  obtain ⟨a, rfl, ha⟩ := bytes_of_trod (hval 1 24 v1 rfl rfl) h1
  obtain ⟨b, rfl, hb⟩ := bytes_of_trod (hval 2 24 v2 rfl rfl) h2
  clear hA0 hval0
  refine (addBack_any z hz0 hz1 a b ha hb W).mono fun e W' ⟨he, bel⟩ => ?_
  subst he
  exact ⟨_, rfl, _, _, _, [], _, [], hW', trodAll_mk1 (shut_bool Yba.underlying4 _), (trodAll_cons_mk (Below.trod laidOut (by kernel_rfl) (of_decide_eq_true (by kernel_rfl)) k0 bel lt0) (trodAll_cons_mk (Below.trod laidOut (by kernel_rfl) (of_decide_eq_true (by kernel_rfl)) k1 bel lt1) (trodAll_cons_mk (Below.trod laidOut (by kernel_rfl) (of_decide_eq_true (by kernel_rfl)) k2 bel lt2) trodAll_mk0))), rfl, bel.frame _, fun h => by cases h⟩

theorem over : Rows.lawS5248CAddBackRow.holds Yba.pinned (OpenSpec.ofChange Rows.lawS5248CAddBackSpec) :=
  OpenClaim.holds_of_wide 4 Yba.f4 rfl rfl rfl rfl rfl rfl rfl ⟨rfl, rfl, rfl, rfl, rfl⟩ rfl rfl rfl rfl rfl (by kernel_rfl) Yba.func4 (by kernel_rfl)
    (of_decide_eq_true (by kernel_rfl)) (by unfold Func.isWrapper; first | (rw [if_pos (by decide +kernel)]; kernel_rfl) | (rw [if_neg (by decide +kernel)]; exact ⟨rfl, rfl⟩))
    (fun os started H enc _ => lifted os started H enc)

/-- ████ THE STATEMENT ████ -/
theorem proved : Rows.LawS5248CAddBackSaid := over
end Go.Proofs.Ybulkddqw.lawS5248CAddBack
