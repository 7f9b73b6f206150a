/-
  A PROOF OF 'Rows.LawS5246BReadsExactlyCardSaid': the row, its three listed sentinels (io.ErrShortBuffer, io.EOF, io.ErrUnexpectedEOF) read off the condition; the card by the given tie.
-/
import Derived.Test.YbulkddpuDoorRows
import Derived.Test.YbulkddpuDoorTie
import Derived.Test.YbulkddpuDoorCards
import Derived.Test.YbulkddpuDoorLaw
import Derived.WalkKit
import Derived.ProofKit
import Derived.OpenShut
import Derived.ShutString
import Derived.ChangeOld
import Derived.Below
import Derived.LaidLaws
import Derived.LaidMore
import Derived.Stop.Joined
import Derived.SevenTiedAt
namespace Go.Proofs.YbulkddpuDoor.lawS5246BReadsExactly
open Go.ChangeShapes Go.WideShapes Go.ChangeAt Go.RowKit

theorem own : ownKnob Ybad.prog.godebug = none := by kernel_rfl
theorem laidOut : laidOutB Ybad.prog = true := by kernel_rfl
theorem gU : Ybad.prog.globalNamed "io.ErrUnexpectedEOF" = some 0 := by kernel_rfl
theorem gE : Ybad.prog.globalNamed "io.EOF" = some 1 := by kernel_rfl
theorem gS : Ybad.prog.globalNamed "io.ErrShortBuffer" = some 2 := by kernel_rfl
theorem tU : (Ybad.prog.globals[0]?).map (·.type) = some 25 := by kernel_rfl
theorem tE : (Ybad.prog.globals[1]?).map (·.type) = some 25 := by kernel_rfl
theorem tS : (Ybad.prog.globals[2]?).map (·.type) = some 25 := by kernel_rfl
theorem cells34 : Ybad.prog.cellsOf 34 = 1 := by kernel_rfl
theorem cells9 : Ybad.prog.cellsOf 9 = 1 := by kernel_rfl
theorem star : "*" ++ "errors.errorString" = "*errors.errorString" := by decide
theorem row32 (u : TypeId) (h : Ybad.prog.typeName? 3 u = some "*errors.errorString") : u = 32 :=
  typeName_ptr_named (nm := "errors.errorString") (by rw [star]; kernel_rfl) (by kernel_rfl) (by decide) u (by rw [star]; exact h)

abbrev laid3 : List (String × DataW Unit) := [("io.ErrShortBuffer", Rows.laid_io_ErrShortBuffer), ("io.EOF", Rows.laid_io_EOF), ("io.ErrUnexpectedEOF", Rows.laid_io_ErrUnexpectedEOF)]

/-- The door's own heap meets the condition. -/
theorem door_met (os : Os) (args : Array Value) : laidMetH Ybad.prog laid3 ((World.doorLaid Ybad.prog 66 os).forCall (fun _ _ => 0) ⟨#[], args, []⟩).memory :=
  laidMetH_of_parts3 (fuel := 8) (laidMet_of_run' 8 (by kernel_rfl) (by kernel_rfl)) (by kernel_rfl) (by kernel_rfl)

/-- What the condition gives the walks. -/
theorem of_laid {W : World} (h : laidMetH Ybad.prog laid3 W) : ∃ au ae : Addr, W.cell? ⟨0, 0, none⟩ = some (.iface 32 (.pointer (some au))) ∧ W.cell? ⟨1, 0, none⟩ = some (.iface 32 (.pointer (some ae))) ∧
    au ≠ ae ∧ IsCells W ae.block ∧ IsCells W au.block ∧ 2 < W.heap.size := by
  rw [MakeChecks.laidMetH_plain _ _ _ (by kernel_rfl)] at h
  obtain ⟨ps, ⟨g2, t2, cs2, f2, p2, q2, hg2, ht2, hv2, hd2, ⟨g1, t1, cs1, f1, p1, q1, hg1, ht1, hv1, hd1, ⟨g0, t0, cs0, f0, p0, q0, hg0, ht0, hv0, hd0, hq0, e0⟩, e1⟩, e2⟩, hnd, hrows⟩ := h
  obtain rfl := Option.some.inj (gS.symm.trans hg2)
  obtain rfl := Option.some.inj (gE.symm.trans hg1)
  obtain rfl := Option.some.inj (gU.symm.trans hg0)
  obtain rfl := Option.some.inj (tS.symm.trans ht2)
  obtain rfl := Option.some.inj (tE.symm.trans ht1)
  obtain rfl := Option.some.inj (tU.symm.trans ht0)
  have hq0' : q0 = [] := hq0
  subst hq0'
  subst e0
  subst e1
  subst e2
  obtain ⟨l0⟩ := cs0
  obtain ⟨l1⟩ := cs1
  obtain ⟨l2⟩ := cs2
  have ok0 : ∀ u v, l0 = [.iface u v] → Value.okWide Ybad.prog W .any 0 u v := fun u v e => by
    subst e
    exact (hrows 0 0 (by simp [MemPlace.row])).2 u v (by simpa using World.var?_cell hg0 hv0 0)
  have ok1 : ∀ u v, l1 = [.iface u v] → Value.okWide Ybad.prog W .any 0 u v := fun u v e => by
    subst e
    exact (hrows 1 0 (by simp [MemPlace.row])).2 u v (by simpa using World.var?_cell hg1 hv1 0)
  have ok2 : ∀ u v, l2 = [.iface u v] → Value.okWide Ybad.prog W .any 0 u v := fun u v e => by
    subst e
    exact (hrows 2 0 (by simp [MemPlace.row])).2 u v (by simpa using World.var?_cell hg2 hv2 0)
  obtain ⟨a0, s0, rfl, hc0, hs0, hz0, rfl⟩ := errorString_of_trod Ybad.underlying25 row32 Ybad.underlying32 Ybad.underlying34 rfl rfl Ybad.underlying9 cells34 cells9 hd0 ok0
  obtain ⟨a1, s1, rfl, hc1, hs1, hz1, rfl⟩ := errorString_of_trod Ybad.underlying25 row32 Ybad.underlying32 Ybad.underlying34 rfl rfl Ybad.underlying9 cells34 cells9 hd1 ok1
  obtain ⟨a2, s2, rfl, hc2, hs2, hz2, rfl⟩ := errorString_of_trod Ybad.underlying25 row32 Ybad.underlying32 Ybad.underlying34 rfl rfl Ybad.underlying9 cells34 cells9 hd2 ok2
  obtain ⟨c0, t0, hb0⟩ := (hrows a0.block a0.off (by simp [MemPlace.row])).1
  obtain ⟨c1, t1, hb1⟩ := (hrows a1.block a1.off (by simp [MemPlace.row])).1
  have x0 : W.cell? ⟨0, 0, none⟩ = some (.iface 32 (.pointer (some a0))) := by simpa using World.var?_cell hg0 hv0 0
  have x1 : W.cell? ⟨1, 0, none⟩ = some (.iface 32 (.pointer (some a1))) := by simpa using World.var?_cell hg1 hv1 0
  have x2 : W.cell? ⟨2, 0, none⟩ = some (.iface 32 (.pointer (some a2))) := by simpa using World.var?_cell hg2 hv2 0
  refine ⟨a0, a1, x0, x1, ?_, ⟨c1, t1, hb1⟩, ⟨c0, t0, hb0⟩, World.block_lt_of_cell? W _ x2⟩
  rintro rfl
  simp [MemPlace.row] at hnd

/-- WHAT THE WALK IS TOLD OF A SLICE OF BYTES THAT CAME IN. -/
theorem row_of {H : Type} {enc : TypeId × Value → H} {W : World} {base : Nat} {spare : Nat → Bool} {held : Bool} {fuel len cap : Nat} {a0 : Option Addr} {x : DataW H × List MemPlace}
    (hf : DataW.trod enc Ybad.prog W base spare held fuel 22 [.slice a0 len cap] = some x) (hsp : ∀ b, spare b = true) :
    len ≤ cap ∧ cap ≤ 9223372036854775807 ∧ ∃ (b off : Nat) (D : Nat → Int), (0 < len → a0 = some ⟨b, off, none⟩) ∧ ∀ j, j < len → W.cell? ⟨b, off + j, none⟩ = some (.int .u8 (D j)) ∧ 0 ≤ D j ∧ D j ≤ 255 := by
  rcases open_ints Ybad.underlying22 Ybad.underlying5 (by kernel_rfl) hf with ⟨hcs, _⟩ | ⟨x, l, c, zs, hcs, _, hl, hm, hz, _, hcell, hwz⟩
  · simp at hcs
    obtain ⟨rfl, rfl, rfl⟩ := hcs
    exact ⟨by omega, by omega, 0, 0, fun _ => 0, fun h => by omega, fun j hj => by omega⟩
  · simp at hcs
    obtain ⟨rfl, rfl, rfl⟩ := hcs
    have hzl : zs.length = cap := by simpa [hsp] using hz
    refine ⟨hl, hm, ?_⟩
    by_cases h0 : 0 < len
    · obtain ⟨b, off, rfl, hc⟩ := ints_at hcell (by omega)
      refine ⟨b, off, fun j => zs.getD j 0, fun _ => rfl, fun j hj => ⟨hc j (by omega), ?_⟩⟩
      have hmem : zs.getD j 0 ∈ zs := by
        rw [List.getD_eq_getElem?_getD, List.getElem?_eq_getElem (by omega), Option.getD_some]
        exact List.getElem_mem (by omega)
      exact bounds_u8 (hwz _ hmem)
    · exact ⟨0, 0, fun _ => 0, fun h => absurd h h0, fun j hj => by omega⟩

set_option maxRecDepth 100000 in
theorem lifted (os : Os) (started : os.Started) (H : Type) (enc : TypeId × Value → H) :
    ReturnsInHanded {} Ybad.checked os 3 .any (fun w args => (Rows.lawS5246BReadsExactlySpec.pre enc Ybad.prog Ybad.f3 [] false w args ∧ laidMetH Ybad.prog laid3 w) ∧ sizedMet enc Ybad.prog Ybad.f3 (OpenSpec.ofChange Rows.lawS5246BReadsExactlySpec) false w args)
      (Rows.lawS5246BReadsExactlySpec.post enc Ybad.prog Ybad.f3 false true false false) := by
  refine returnsInHanded_of_change_and (C := Ybad.checked) (X := fun w _ => laidMetH Ybad.prog laid3 w) (fun _ _ _ hh h => h.of_heap hh) own started (by kernel_rfl) Ybad.func3
    (ChangeSpec.witness_shaped (enc := enc) (C := Ybad.checked) (os := os) (X := fun w _ => laidMetH Ybad.prog laid3 w) false (World.doorLaid Ybad.prog 66 os) #[.slice none 0 0, .slice none 0 0, .int .u16 0, .bool false] 8 rfl (World.shaped_of_RefB (by kernel_rfl) (by kernel_rfl)) (by kernel_rfl) (by kernel_rfl) (by kernel_rfl) (door_met os _)) ?_
  intro W base args ds gs before hval0 hW _ _ hL _
  have hval : ∀ (j : Nat) t v, Ybad.f3.params[j]? = some t → args[j]? = some v → Value.okWide Ybad.prog W .any base t v := hval0
  have hW' := hW
  obtain ⟨p, q, hA0, hV, rfl, hfz, hnd⟩ := hW
  have hA : DataW.TrodAll enc Ybad.prog W 0 (fun _ => true) true Ybad.f3.params.toList args.toList ds p := hA0
  rw [Ybad.params3] at hA hval
  obtain ⟨v0, vs0, d0, ds0, p0, q0, hargs, rfl, rfl, h0, r0⟩ := trodAll_cons hA
  obtain ⟨v1, vs1, d1, ds1, p1, q1, rfl, rfl, rfl, h1, r1⟩ := trodAll_cons r0
  obtain ⟨v2, vs2, d2, ds2, p2, q2, rfl, rfl, rfl, h2, r2⟩ := trodAll_cons r1
  obtain ⟨v3, vs3, d3, ds3, p3, q3, rfl, rfl, rfl, h3, r3⟩ := trodAll_cons r2
  obtain ⟨rfl, rfl, rfl⟩ := trodAll_nil r3
  obtain rfl : args = #[v0, v1, v2, v3] := by cases args; simp_all
  obtain ⟨rfl, rfl⟩ := trodVars_none hV
  obtain ⟨a0, len0, cap0, rfl⟩ := okWide_slice Ybad.underlying22 (hval 0 22 v0 rfl rfl)
  obtain ⟨a1, len1, cap1, rfl⟩ := okWide_slice Ybad.underlying22 (hval 1 22 v1 rfl rfl)
  have k0 := h0
  have k1 := h1
  have lt0 : ∀ x ∈ p0, x.block < W.heap.size := by obtain ⟨m, hm⟩ := k0; exact DataW.trod_lt m _ _ _ hm
  have lt1 : ∀ x ∈ p1, x.block < W.heap.size := by obtain ⟨m, hm⟩ := k1; exact DataW.trod_lt m _ _ _ hm
  obtain ⟨m0, hf0⟩ := h0
  obtain ⟨m1, hf1⟩ := h1
  obtain ⟨c0, c0', db, doff, D, hda, hD⟩ := row_of hf0 (fun _ => rfl)
  obtain ⟨c1, c1', sb, soff, S, hsa, hS⟩ := row_of hf1 (fun _ => rfl)
  obtain ⟨x, rfl, rfl, rfl, w2⟩ := open_int Ybad.underlying23 (hval 2 23 v2 rfl rfl) h2
  obtain ⟨br, rfl, rfl, rfl⟩ := open_bool Ybad.underlying4 (hval 3 4 v3 rfl rfl) h3
  obtain ⟨au, ae, hU, hE, hne, hcae, hcau, hsz⟩ := of_laid hL
  clear hA0 hval0
  have fin : Calls Ybad.prog 3 #[.slice a0 len0 cap0, .slice a1 len1 cap1, .int .u16 x, .bool br] W fun e w' => e = .returned (.bool true) ∧ Below W.heap.size W w' := by
    by_cases hl : len0 ≤ 1024
    · obtain ⟨b0, b1⟩ := bounds_u16 w2
      obtain ⟨xn, rfl⟩ := Int.eq_ofNat_of_zero_le b0
      cases br
      · exact law_plain a0 db doff len0 cap0 hda a1 sb soff len1 cap1 hsa ae au D S xn (xn % 1025) (by omega) rfl W (fun j hj => (hD j hj).1) hS hl (by omega) c0 c0' hne hcae hcau hsz hU hE
      · exact law_broken a0 db doff len0 cap0 hda a1 sb soff len1 cap1 hsa ae au D S xn (xn % 1025) (by omega) rfl W (fun j hj => (hD j hj).1) hS hl (by omega) c0 c0' hne hcae hcau hsz hU hE
    · exact law_long a0 len0 cap0 a1 len1 cap1 x br W (by omega)
  refine fin.mono fun e W' ⟨he, bel⟩ => ?_
  subst he
  exact ⟨_, rfl, _, _, _, [], _, [], hW', trodAll_mk1 (shut_bool Ybad.underlying4 _), (trodAll_cons_mk (Below.trod laidOut (by kernel_rfl) (of_decide_eq_true (by kernel_rfl)) k0 bel lt0) (trodAll_cons_mk (Below.trod laidOut (by kernel_rfl) (of_decide_eq_true (by kernel_rfl)) k1 bel lt1) (trodAll_cons_mk (shut_int Ybad.underlying23 w2) (trodAll_cons_mk (shut_bool Ybad.underlying4 _) trodAll_mk0)))), rfl, bel.frame _, fun h => by cases h⟩

theorem row_holds : Rows.LawS5246BReadsExactlySaid :=
  OpenClaim.holds_of_wide 3 Ybad.f3 rfl rfl rfl rfl rfl rfl rfl ⟨rfl, rfl, rfl, rfl, rfl⟩ rfl rfl rfl rfl rfl (by kernel_rfl) Ybad.func3 (by kernel_rfl)
    (of_decide_eq_true (by kernel_rfl)) (by unfold Func.isWrapper; first | (rw [if_pos (by decide +kernel)]; kernel_rfl) | (rw [if_neg (by decide +kernel)]; exact ⟨rfl, rfl⟩))
    (fun os started H enc _ => lifted os started H enc)

/-- ████ THE STATEMENT: THE TIED CARD ████ -/
theorem proved : Rows.LawS5246BReadsExactlyCardSaid :=
  Claim7.holds_tied_plain_at .later [] [.sentinel, .sentinel, .sentinel] true (true, "04b0cc2407426a380992d97b44a3e7e0ca28e8886a76cc2e5e8adb2188644306") true
    row_holds (fun _ h => by cases h) (by kernel_rfl) (fun _ h => by cases h) lawS5246BReadsExactly_row_tie rfl ⟨rfl, rfl⟩ (by kernel_rfl) rfl
    (fun f fn hf hfn => by
      obtain rfl : f = 3 := Option.some.inj ((show Ybad.prog.funcNamed "example.com/hexring/hexring.LawS5246BReadsExactly" = some 3 by kernel_rfl).symm.trans hf) |>.symm
      obtain rfl : fn = Ybad.f3 := (Option.some.inj (Ybad.func3.symm.trans hfn)).symm
      exact ⟨by kernel_rfl, fun j t ht => by
        rw [Ybad.params3] at ht
        have hm : t ∈ [22, 22, 23, 4] := by simpa using Array.mem_of_getElem? ht
        have hall : ([22, 22, 23, 4].all fun u => !Ybad.prog.wantsStandIn u) = true := by kernel_rfl
        exact (show Ybad.prog.wantsStandIn t = false by simpa using List.all_eq_true.1 hall t hm)⟩)
    (by kernel_rfl)
end Go.Proofs.YbulkddpuDoor.lawS5246BReadsExactly
