/-
  A PROOF OF 'Rows.LawS5246AExactSaid': the argument is a slice of arrays of 20 bytes; the frame after the one that proof-skeleton.mjs writes for slices of integers.
-/
import Derived.Test.YbulkddpuRows
import Derived.WalkKit
import Derived.ProofKit
import Derived.OpenShut
import Derived.ShutString
import Derived.ChangeOld
import Derived.Below
import Derived.Deep.Slices
import Derived.Test.YbulkddpuCheck
namespace Go.Proofs.Ybulkddpu.lawS5246AExact
open Go.ChangeShapes Go.WideShapes Go.ChangeAt Go.RowKit

theorem own : ownKnob Yba.prog.godebug = none := by kernel_rfl

theorem walk (a : Option Addr) (b off len cap : Nat) (ha : 0 < len → a = some ⟨b, off, none⟩) (K : Nat → List Value) (w : World) (hH : Held w b off len K) (hm : len ≤ maxLen) :
    Calls Yba.prog 3 #[.slice a len cap] w fun e w' => e = .returned (.bool true) ∧ Below w.heap.size w w' := by
  unfold maxLen at hm
  by_cases hl : len ≤ 1024
  · have hli : ¬ (1024 : Int) < (len : Int) := by omega
    go_enter Yba.func3, Yba.ntmps3
    go_wp2_with fail
    refine (check_any a b off len cap ha K _ hl hH).mono ?_
    rintro e w1 ⟨rfl, hB⟩
    go_wp2
    go_ret
    exact ⟨rfl, hB⟩
  · have hli : (1024 : Int) < (len : Int) := by omega
    go_enter Yba.func3, Yba.ntmps3
    go_wp2
    go_ret
    exact ⟨rfl, Below.refl _ _⟩

theorem held_of_trod {H : Type} {enc : TypeId × Value → H} {W : World} {base : Nat} {spare : Nat → Bool} {held : Bool} {fuel len cap : Nat} {a0 : Option Addr} {x : DataW H × List MemPlace}
    (hf : DataW.trod enc Yba.prog W base spare held fuel 22 [.slice a0 len cap] = some x) :
    len ≤ maxLen ∧ ∃ (b off : Nat) (K : Nat → List Value), (0 < len → a0 = some ⟨b, off, none⟩) ∧ Held W b off len K := by
  rcases Deep.open_slice Yba.underlying22 hf with ⟨hcs, _⟩ | ⟨a, l, c, m, n, D, Pl, hcs, _, hl, hm, hmm, _, hel⟩
  · simp at hcs
    obtain ⟨_, rfl, _⟩ := hcs
    exact ⟨by unfold maxLen; omega, 0, 0, fun _ => [], fun h => by omega, ⟨fun i hi => by omega, fun i hi => by omega⟩⟩
  · simp at hcs
    obtain ⟨rfl, rfl, rfl⟩ := hcs
    refine ⟨by omega, ?_⟩
    have hlm : len ≤ m := by rw [hmm]; split <;> omega
    rw [cells26] at hel
    have hx : ∀ i, i < len → ∃ cs', W.cells? base (a.add (i * 20)) 20 = some cs' ∧ IsId cs' := fun i hi => by
      obtain ⟨cs', h1, h2⟩ := hel i (by omega)
      refine ⟨cs', h1, ?_⟩
      obtain ⟨xs, q, _, _, hlen, hxs, hget⟩ := DataW.trod_array Yba.underlying26 h2
      rw [cells26] at hlen
      refine ⟨hlen, fun v hv => ?_⟩
      obtain ⟨j, hj, rfl⟩ := List.getElem_of_mem hv
      have hg := hget j (by omega)
      rw [cells5, Nat.mul_one, List.getElem?_eq_getElem (by omega)] at hg
      obtain ⟨z, hz, _, hw⟩ := DataW.trod_int Yba.underlying5 hg
      rw [List.drop_eq_getElem_cons hj, List.take_succ_cons, List.take_zero] at hz
      exact ⟨z, (List.cons.inj hz).1, hw⟩
    by_cases h0 : 0 < len
    · obtain ⟨b, off, spot⟩ := a
      have hspot : spot = none := by
        obtain ⟨cs', h1, h2⟩ := hx 0 h0
        obtain ⟨_, hl2, hcell⟩ := World.cells?_some h1
        have h3 := hcell 0 (by omega)
        rw [List.getElem?_eq_getElem (by omega)] at h3
        simpa [Addr.add] using World.cell?_spot h3
      subst hspot
      refine ⟨b, off, fun i => if h : i < len then (hx i h).choose else [], fun _ => rfl, ⟨fun i hi => ?_, fun i hi => ?_⟩⟩
      · simp only [hi, dif_pos]
        exact (hx i hi).choose_spec.2
      · simp only [hi, dif_pos]
        intro j v hv
        have hsp := (hx i hi).choose_spec
        obtain ⟨_, hl2, hcell⟩ := World.cells?_some hsp.1
        have hj : j < 20 := by rw [← hl2]; exact (List.getElem?_eq_some_iff.1 hv).1
        have h3 := hcell j hj
        have e : ((⟨b, off, none⟩ : Addr).add (i * 20)).add j = ⟨b, off + i * 20 + j, none⟩ := by rw [Addr.add_mid, Addr.add_mid]
        exact (congrArg W.cell? e.symm).trans (h3.trans hv)
    · exact ⟨0, 0, fun _ => [], fun h => absurd h h0, ⟨fun i hi => by omega, fun i hi => by omega⟩⟩

set_option maxRecDepth 100000 in
theorem lifted (os : Os) (started : os.Started) (H : Type) (enc : TypeId × Value → H) :
    ReturnsInHanded {} Yba.checked os 3 .any (Rows.lawS5246AExactSpec.pre6 enc Yba.prog Yba.f3 Rows.lawS5246AExactRow.domain false) (Rows.lawS5246AExactSpec.post enc Yba.prog Yba.f3 false true false false) := by
  refine returnsInHanded_of_change (C := Yba.checked) own started (by kernel_rfl) Yba.func3
    (ChangeSpec.witness6 (enc := enc) (C := Yba.checked) false ⟨#[], #[.slice none 0 0], []⟩ 8 (by kernel_rfl) (by kernel_rfl) (by kernel_rfl) (by kernel_rfl)) ?_
  intro W base args ds gs before hval0 hW hcnd _
  have hval : ∀ (j : Nat) t v, Yba.f3.params[j]? = some t → args[j]? = some v → Value.okWide Yba.prog W .any base t v := hval0
  have hW' := hW
  obtain ⟨p, q, hA0, hV, rfl, hfz, hnd⟩ := hW
  have hA : DataW.TrodAll enc Yba.prog W 0 (fun _ => true) true Yba.f3.params.toList args.toList ds p := hA0
  rw [Yba.params3] at hA hval
  obtain ⟨v0, vs0, d0, ds0, p0, q0, hargs, rfl, rfl, h0, r0⟩ := trodAll_cons hA
  obtain ⟨rfl, rfl, rfl⟩ := trodAll_nil r0
  obtain rfl : args = #[v0] := by cases args; simp_all
  obtain ⟨rfl, rfl⟩ := trodVars_none hV
  obtain ⟨a0, len0, cap0, rfl⟩ := okWide_slice Yba.underlying22 (hval 0 22 v0 rfl rfl)
  have k0 := h0
  have lt0 : ∀ x ∈ p0, x.block < W.heap.size := by obtain ⟨m, hm⟩ := k0; exact DataW.trod_lt m _ _ _ hm
  obtain ⟨hm0, b, off, K, ha, hH⟩ : len0 ≤ maxLen ∧ ∃ (b off : Nat) (K : Nat → List Value), (0 < len0 → a0 = some ⟨b, off, none⟩) ∧ Held W b off len0 K := by
    obtain ⟨fuel, hf⟩ := h0
    exact held_of_trod hf
  clear hA0 hval0
  refine (walk a0 b off len0 cap0 ha K W hH hm0).mono fun e W' ⟨he, bel⟩ => ?_
  subst he
  exact ⟨_, rfl, _, _, _, [], _, [], hW', trodAll_mk1 (shut_bool Yba.underlying4 _), (trodAll_cons_mk (Below.trod laidOut (by kernel_rfl) (of_decide_eq_true (by kernel_rfl)) k0 bel lt0) trodAll_mk0), rfl, bel.frame _, fun h => by cases h⟩

theorem over : Rows.lawS5246AExactRow.holds Yba.pinned (OpenSpec.ofChange Rows.lawS5246AExactSpec) :=
  OpenClaim.holds_of_wide 3 Yba.f3 rfl rfl rfl rfl rfl rfl rfl ⟨rfl, rfl, rfl, rfl, rfl⟩ rfl rfl rfl rfl rfl (by kernel_rfl) Yba.func3 (by kernel_rfl)
    (of_decide_eq_true (by kernel_rfl)) (by unfold Func.isWrapper; first | (rw [if_pos (by decide +kernel)]; kernel_rfl) | (rw [if_neg (by decide +kernel)]; exact ⟨rfl, rfl⟩))
    (fun os started H enc _ => lifted os started H enc)

/-- ████ THE STATEMENT ████ -/
theorem proved : Rows.LawS5246AExactSaid := over
end Go.Proofs.Ybulkddpu.lawS5246AExact
