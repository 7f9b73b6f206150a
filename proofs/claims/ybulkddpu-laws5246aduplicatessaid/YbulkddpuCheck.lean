/-
  S5246A, second text: zzs5246acheck (function 5) returns true: two nested loops over the IDs, the map as the set of keys.
-/
import Derived.Test.YbulkddpuIds
import Derived.BigQuiet
namespace Go.Proofs.Ybulkddpu
open Go.RowKit Go.Maps

theorem isZero_any (w : World) :
    Calls Yba.prog 7 #[.agg #[.int .u64 0, .int .i64 0, .pointer none]] w fun e w' => e = .returned (.bool true) ∧ Below w.heap.size w w' := by
  go_enter Yba.func7, Yba.ntmps7
  go_wp2
  go_ret
  exact ⟨rfl, (Below.refl _ _).alloc (Nat.le_refl _) _⟩

theorem ownsMap_below {w w' : World} {m n : Nat} {D : DataW Unit} (h : w.ownsMap Yba.prog 26 (plainElem Yba.prog 4) m n D) (hB : Below w.heap.size w w') : w'.ownsMap Yba.prog 26 (plainElem Yba.prog 4) m n D := by
  have hlt := h.lt
  obtain ⟨es, clock, hb, r⟩ := h
  exact ⟨es, clock, (hB.block m hlt).trans hb, r⟩
theorem below_dN {W w : World} {B : Nat} (h : Below B W w) (n : Nat) : Below B W (w.drewN n) := ⟨h.os, h.tape, h.output, h.size, h.block⟩

section
variable {kl : List Value → Lit} {K : Nat → List Value} {len : Nat}
theorem tidy_keySet (hk : KeyFn kl) (hid : ∀ i, i < len → IsId (K i)) : ∀ n, n ≤ len → Tidy (keySet kl K n)
  | 0, _ => tidy_empty
  | n + 1, h => by
    rw [keySet_succ]
    exact (tidy_keySet hk hid n (by omega)).put (law.key (hk _ (hid n (by omega)))) _
theorem has_keySet (hk : KeyFn kl) (hid : ∀ i, i < len → IsId (K i)) {k : Nat} (hkl : k < len) : ∀ n, n ≤ len → (has (keySet kl K n) (kl (K k)) = true ↔ ∃ j, j < n ∧ K j = K k)
  | 0, _ => by
    constructor
    · intro h; cases h
    · rintro ⟨j, hj, _⟩; omega
  | n + 1, h => by
    have ih := has_keySet hk hid hkl n (by omega)
    rw [keySet_succ]
    by_cases e : K n = K k
    · rw [e, has_put_same (tidy_keySet hk hid n (by omega)).isMap (law.key (hk _ (hid k hkl)))]
      exact ⟨fun _ => ⟨n, by omega, e⟩, fun _ => rfl⟩
    · rw [has_put_other (fun h' => e (kl_inj hk (hid n (by omega)) (hid k hkl) h'.symm)), ih]
      constructor
      · rintro ⟨j, hj, he⟩; exact ⟨j, by omega, he⟩
      · rintro ⟨j, hj, he⟩
        by_cases hjn : j = n
        · subst hjn; exact absurd he e
        · exact ⟨j, by omega, he⟩
theorem atKey_keySet (hk : KeyFn kl) (hid : ∀ i, i < len → IsId (K i)) {k : Nat} (hkl : k < len) (z : DataW Unit) : ∀ n, n ≤ len → k < n → (keySet kl K n).atKey (kl (K k)) z = .lit (.bool true)
  | 0, _, h => by omega
  | n + 1, h, hn => by
    rw [keySet_succ]
    by_cases e : K n = K k
    · rw [e, atKey_put_same (tidy_keySet hk hid n (by omega)).isMap (law.key (hk _ (hid k hkl)))]
    · rw [atKey_put_other (fun h' => e (kl_inj hk (hid n (by omega)) (hid k hkl) h'.symm))]
      refine atKey_keySet hk hid hkl z n (by omega) ?_
      by_cases hkn : k = n
      · subst hkn; exact absurd rfl e
      · omega
theorem size_step (hk : KeyFn kl) (hid : ∀ i, i < len → IsId (K i)) {n : Nat} (hn : n < len) (bo : Bool) (hbo : bo = true ↔ ∃ j, j < n ∧ K j = K n) : Maps.size (keySet kl K (n + 1)) = if bo then Maps.size (keySet kl K n) else Maps.size (keySet kl K n) + 1 := by
  rw [keySet_succ, size_put (tidy_keySet hk hid n (by omega))]
  have : has (keySet kl K n) (kl (K n)) = bo := by rw [Bool.eq_iff_iff, has_keySet hk hid hn n (by omega), hbo]
  rw [this]
theorem size_le_n (hk : KeyFn kl) (hid : ∀ i, i < len → IsId (K i)) : ∀ n, n ≤ len → Maps.size (keySet kl K n) ≤ n
  | 0, _ => Nat.le_refl _
  | n + 1, h => by
    have ih := size_le_n hk hid n (by omega)
    rw [keySet_succ, size_put (tidy_keySet hk hid n (by omega))]
    split <;> omega
theorem zero4 (w : World) : (zeroValue 4).run Yba.prog w = .ok (.bool false) w := by kernel_rfl
theorem look_id (hk : KeyFn kl) (hid : ∀ i, i < len → IsId (K i)) {w : World} {m k : Nat} (hkl : k < len) (hown : w.ownsMap Yba.prog 26 (plainElem Yba.prog 4) m len (keySet kl K len)) :
    (Instr.lookup 35 (.map (some m)) (.agg (K k).toArray) true).run Yba.prog w = .ok (.tuple #[.bool true, .bool true]) w := by
  obtain ⟨v, ps, hrun, hv⟩ := hown.look_ok law Yba.underlying35 (zero4 w) (plainElem_bool Yba.underlying4 false) (hk _ (hid k hkl))
  rw [(has_keySet hk hid hkl len (Nat.le_refl _)).2 ⟨k, hkl, rfl⟩] at hrun
  rw [atKey_keySet hk hid hkl _ len (Nat.le_refl _) hkl] at hv
  have hv' : v = .bool true := by
    unfold plainElem at hv
    rw [Yba.underlying4] at hv
    cases v <;> simp at hv
    rw [hv.1]
  rw [hrun, hv']
end

/-- One operation of a quiet walk, by its run in every world of the class. -/
theorem wpQuiet_run {P : Program} {ops : Array Oper} {w : World} {Q : Act → Prop} {o : Oper} {rest : List Oper} {a : Act} (hg : o.guard = none) (v : Value)
    (hrun : ∀ n, (execOp a.eval o).run P (w.drewN n) = .ok (.value v) (w.drewN n))
    (h : wpQuiet P ops (fun w' => ∃ n, w' = w.drewN n) Q rest (a.put o.dst v)) : wpQuiet P ops (fun w' => ∃ n, w' = w.drewN n) Q (o :: rest) a := by
  refine wpQuiet_step fun K hK => ?_
  rw [if_pos (by simp [Region.wanted, hg])]
  refine ⟨v, ?_, hK _ h⟩
  rintro w' ⟨n, rfl⟩
  unfold Oper.quietAt
  rw [hrun n]
  exact ⟨rfl, rfl⟩
theorem wpQuiet_load {ops : Array Oper} {w : World} {Q : Act → Prop} {o : Oper} {rest : List Oper} {a : Act} (hg : o.guard = none) (x : Operand) (ho : o.op = .load 26 x)
    (b off : Nat) (hx : a.eval x = .pointer (some ⟨b, off, none⟩)) (cs : List Value) (hid : IsId cs) (hc : w.rangeAt b off cs)
    (h : wpQuiet Yba.prog ops (fun w' => ∃ n, w' = w.drewN n) Q rest (a.put o.dst (.agg cs.toArray))) : wpQuiet Yba.prog ops (fun w' => ∃ n, w' = w.drewN n) Q (o :: rest) a := by
  refine wpQuiet_run hg (.agg cs.toArray) (fun n => ?_) h
  have hc' : (w.drewN n).rangeAt b off cs := hc
  unfold execOp
  simp only [ho, hx, Instr.loadAt, Instr.sureAddr, Sem.run_bind, Sem.run_pure, Result.andThen_ok, run_loadVar_mid (w.drewN n) b off 26 cs _ hc' Yba.underlying26 rfl (by rw [info26, hid.1])]
theorem wpQuiet_lookup {ops : Array Oper} {w : World} {Q : Act → Prop} {o : Oper} {rest : List Oper} {a : Act} (hg : o.guard = none) (y x : Operand) (ho : o.op = .lookup 35 y x true)
    (m : Nat) (hy : a.eval y = .map (some m)) (cs : List Value) (hx : a.eval x = .agg cs.toArray) (v : Value) (hrun : ∀ n, (Instr.lookup 35 (.map (some m)) (.agg cs.toArray) true).run Yba.prog (w.drewN n) = .ok v (w.drewN n))
    (h : wpQuiet Yba.prog ops (fun w' => ∃ n, w' = w.drewN n) Q rest (a.put o.dst v)) : wpQuiet Yba.prog ops (fun w' => ∃ n, w' = w.drewN n) Q (o :: rest) a := by
  refine wpQuiet_run hg v (fun n => ?_) h
  unfold execOp
  simp only [ho, hx, hy, Sem.run_bind, hrun n, Result.andThen_ok, Sem.run_pure]

set_option maxHeartbeats 2000000 in
theorem check_any (a : Option Addr) (b off len cap : Nat) (ha : 0 < len → a = some ⟨b, off, none⟩) (K : Nat → List Value) (w : World) (hlen : len ≤ 1024) (hH : Held w b off len K) :
    Calls Yba.prog 5 #[.slice a len cap] w fun e w' => e = .returned (.bool true) ∧ Below w.heap.size w w' := by
  obtain ⟨kl, hk⟩ := exists_kl
  have q1 : ∀ (w : World) (r : Option Nat), (binOp .eql 35 (.map r) (.map none)).run Yba.prog w = .ok (.bool r.isNone) w := fun w r => run_eql_map_nil w _ _ _ r Yba.underlying35
  have q2 : ∀ (w : World) (r : Option Nat), (binOp .neq 34 (.map r) (.map none)).run Yba.prog w = .ok (.bool (!r.isNone)) w := fun w r => run_neq_map_nil w _ _ _ r Yba.underlying34
  have q3 : ∀ (w : World), (binOp .neq 28 (.slice none 0 0) (.slice none 0 0)).run Yba.prog w = .ok (.bool false) w := fun w => run_neq_slice_nil_any w _ _ _ _ _ _ _ Yba.underlying28
  go_enter Yba.func5, Yba.ntmps5
  go_wp2_with fail
  refine (newReplicas_any a b off len cap ha K _ hlen hH kl hk).mono ?_
  rintro e w1 ⟨m, rfl, hm, hown, hB⟩
  have H1 : Hid (w.heap.size ≤ m ∧ w1.ownsMap Yba.prog 26 (plainElem Yba.prog 4) m len (keySet kl K len) ∧ Below w.heap.size w w1 ∧ Held w1 b off len K) := ⟨hm, hown, hB, hH.later hB⟩
  clear hm hown hB hH
  go_wp2_with fail
  refine (isZero_any _).mono ?_
  rintro e w2 ⟨rfl, hb2⟩
  have hz1 : w1.heap.size + 1 ≤ w2.heap.size := by simpa using hb2.size
  have hb1 : Below w1.heap.size w1 w2 := ((Below.refl _ _).alloc (Nat.le_refl _) _).trans (hb2.mono (by simp))
  have hrep : w2.heap[w1.heap.size]? = some (.cells (repArr m) 37) := (hb2.block _ (by simp)).trans (heapNew rfl)
  have H2 : Hid (w2.ownsMap Yba.prog 26 (plainElem Yba.prog 4) m len (keySet kl K len) ∧ Below w.heap.size w w2 ∧ Held w2 b off len K) :=
    ⟨ownsMap_below H1.out.2.1 hb1, H1.out.2.2.1.trans (hb1.mono H1.out.2.2.1.size), H1.out.2.2.2.later hb1⟩
  have c6 : w2.cell? ⟨w1.heap.size, 6, none⟩ = some (.map (some m)) := by rw [cell_of_heap hrep]; rfl
  clear H1 hb2 hb1 hrep
  go_wp2
  go_loopw [4, 5] (fun d i wr => ∃ k n : Nat, k ≤ len ∧ i = .int .i64 k ∧ d = .int .i64 (Maps.size (keySet kl K k)) ∧ wr = w2.drewN n) (fun _ i _ => len - (intOf i).toNat)
  case atStart => exact ⟨0, 0, Nat.zero_le _, rfl, rfl, rfl⟩
  case round =>
    obtain ⟨k, n, hkl, rfl, rfl, rfl⟩ := hrel
    by_cases hlt : k < len
    · have ha' := ha (by omega)
      subst ha'
      clear ha
      have hid := H2.out.2.2.id k hlt
      have hrow := H2.out.2.2.row k hlt
      go_upto_block 2 with fail
      go_cut [6] (fun s6 wc => ∃ (bo : Bool) (n' : Nat), s6 = .bool bo ∧ (bo = true ↔ ∃ j, j < k ∧ K j = K k) ∧ wc = w2.drewN n')
      case first =>
        go_wp2_with fail
        go_loopw [6, 7] (fun d j wr => ∃ jn n' : Nat, jn ≤ k ∧ j = .int .i64 jn ∧ d = .bool false ∧ (∀ i, i < jn → K i ≠ K k) ∧ wr = w2.drewN n') (fun _ j _ => k - (intOf j).toNat)
        case atStart => exact ⟨0, n, Nat.zero_le _, rfl, rfl, fun i hi => absurd hi (by omega), rfl⟩
        case round =>
          obtain ⟨j, n2, hjk, rfl, rfl, hno, rfl⟩ := hrel
          by_cases hjlt : j < k
          · have hidj := H2.out.2.2.id j (by omega)
            have hrowj := H2.out.2.2.row j (by omega)
            obtain ⟨r, hr, heq⟩ := eqId hidj hid
            have HN : Hid (∀ i, i < j → K i ≠ K k) := hno
            have HRR : Hid (r = true ↔ K j = K k) := hr
            clear hno hr
            have i1 : (0 : Int) ≤ (j : Int) := by omega
            have i2 : (j : Int) < (len : Int) := by omega
            have i3 : (0 : Int) ≤ (k : Int) := by omega
            have i4 : (k : Int) < (len : Int) := by omega
            go_wp2_with fail
            refine wp_region_quiet_lit (by kernel_rfl) (by kernel_rfl) ?_
            repeat (first
              | (refine wpQuiet_load rfl (.tmp 49) rfl b (off + j * 20) rfl (K j) hidj hrowj ?_; simp only [Act.put, List.setIfInBounds_toArray, List.set_cons_zero, List.set_cons_succ])
              | (refine wpQuiet_load rfl (.tmp 53) rfl b (off + k * 20) rfl (K k) hid hrow ?_; simp only [Act.put, List.setIfInBounds_toArray, List.set_cons_zero, List.set_cons_succ])
              | go_big_quiet_step (fail)
              | quiet_step (fail))
            refine wpQuiet_nil ?_
            intro _ hw'
            obtain ⟨nq, hw''⟩ := hw'
            subst hw''
            cases r
            · have hne : K j ≠ K k := fun h => by have := HRR.out.2 h; cases this
              go_wp2
              go_roundw
              case rel =>
                refine ⟨j + 1, n2 + nq, by omega, by go_num, rfl, fun i hi => ?_, rfl⟩
                by_cases hij : i < j
                · exact HN.out i hij
                · have : i = j := by omega
                  subst this; exact hne
              case measure => simp [intOf]; omega
            · have hyes : K j = K k := HRR.out.1 rfl
              have HY : Hid (K j = K k) := hyes
              clear hyes
              go_wp2
              go_meet
              case rel => exact ⟨true, n2 + nq, rfl, ⟨fun _ => ⟨j, hjlt, HY.out⟩, fun _ => rfl⟩, rfl⟩
          · have hjk' : j = k := by omega
            subst hjk'
            have HN : Hid (∀ i, i < j → K i ≠ K j) := hno
            clear hno
            go_wp2
            go_meet
            case rel => exact ⟨false, n2, rfl, ⟨fun h => (by cases h), fun ⟨i, hi, he⟩ => absurd he (HN.out i hi)⟩, rfl⟩
      case rest =>
        obtain ⟨bo, n', rfl, hbo, rfl⟩ := hcut
        have hst := size_step hk H2.out.2.2.id hlt bo hbo
        have hle := size_le_n hk H2.out.2.2.id k hkl
        have hlook : ∀ x y, (Instr.lookup 35 (.map (some m)) (.agg (K k).toArray) true).run Yba.prog ((w2.drewN x).drewN y) = .ok (.tuple #[.bool true, .bool true]) ((w2.drewN x).drewN y) := fun x y => look_id (w := (w2.drewN x).drewN y) hk H2.out.2.2.id hlt H2.out.1
        have i3 : (0 : Int) ≤ (k : Int) := by omega
        have i4 : (k : Int) < (len : Int) := by omega
        clear hbo
        cases bo
        · have HST : Hid (Maps.size (keySet kl K (k + 1)) = Maps.size (keySet kl K k) + 1) := hst
          clear hst
          go_wp2_with fail
          refine wp_region_quiet_lit (by kernel_rfl) (by kernel_rfl) ?_
          iterate 5 (first | go_big_quiet_step (fail) | quiet_step (fail))
          refine wpQuiet_load rfl (.tmp 65) rfl b (off + k * 20) rfl (K k) hid hrow ?_
          simp only [Act.put, List.setIfInBounds_toArray, List.set_cons_zero, List.set_cons_succ]
          refine wpQuiet_lookup rfl (.tmp 62) (.tmp 66) rfl m rfl (K k) rfl _ (hlook n') ?_
          simp only [Act.put, List.setIfInBounds_toArray, List.set_cons_zero, List.set_cons_succ]
          repeat (first | go_big_quiet_step (fail) | quiet_step (fail))
          refine wpQuiet_nil ?_
          intro _ hw'
          obtain ⟨nq, hw''⟩ := hw'
          subst hw''
          go_wp2
          go_roundw
          case rel => exact ⟨k + 1, n' + nq, by omega, by go_num, by rw [HST.out]; go_num, rfl⟩
          case measure => simp [intOf]; omega
        · have HST : Hid (Maps.size (keySet kl K (k + 1)) = Maps.size (keySet kl K k)) := hst
          clear hst
          go_wp2_with fail
          refine wp_region_quiet_lit (by kernel_rfl) (by kernel_rfl) ?_
          iterate 5 (first | go_big_quiet_step (fail) | quiet_step (fail))
          refine wpQuiet_load rfl (.tmp 65) rfl b (off + k * 20) rfl (K k) hid hrow ?_
          simp only [Act.put, List.setIfInBounds_toArray, List.set_cons_zero, List.set_cons_succ]
          refine wpQuiet_lookup rfl (.tmp 62) (.tmp 66) rfl m rfl (K k) rfl _ (hlook n') ?_
          simp only [Act.put, List.setIfInBounds_toArray, List.set_cons_zero, List.set_cons_succ]
          repeat (first | go_big_quiet_step (fail) | quiet_step (fail))
          refine wpQuiet_nil ?_
          intro _ hw'
          obtain ⟨nq, hw''⟩ := hw'
          subst hw''
          go_wp2
          go_roundw
          case rel => exact ⟨k + 1, n' + nq, by omega, by go_num, by rw [HST.out], rfl⟩
          case measure => simp [intOf]; omega
    · have hkk : k = len := by omega
      subst hkk
      have hl : ∀ ty, (Builtin.len_ #[35] ty #[.map (some m)]).run Yba.prog (w2.drewN n) = .ok (.int .i64 (Maps.size (keySet kl K k))) (w2.drewN n) := fun ty => World.ownsMap.len (w := w2.drewN n) H2.out.1 Yba.underlying35 ty
      clear ha
      go_wp2
      go_ret
      exact ⟨by simp, below_dN H2.out.2.1 _⟩
end Go.Proofs.Ybulkddpu
