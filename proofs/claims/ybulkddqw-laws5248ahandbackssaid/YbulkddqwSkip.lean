/-
  handBacks, region 11 (it draws its order): whether a value is left out: four cases, each walked whatever the order; the region is taken out of the translation by a function.
-/
import Derived.Test.YbulkddqwHand
namespace Go.Proofs.Ybulkddqw
open Go.RowKit Go.Maps Go.ChangeMaps
/-- The region with that number, out of a function's text. -/
def regCode (id : Nat) : Code → Option Code
  | .region i ops b => if i = id then some (.region i ops b) else none
  | .seq a b => match regCode id a with
    | some c => some c
    | none => regCode id b
  | .block _ c => regCode id c
  | .loop c => regCode id c
  | .cond _ a b => match regCode id a with
    | some c => some c
    | none => regCode id b
  | _ => none
theorem takeL {P : Program} {ops : Array Oper} {Q : Exit → Act → World → Prop} {md : Region.Mode} {S : World → Prop} {i d : Nat} {oi : Oper} {v : Value} {fuel : Nat} {listed : Array Bool} {l l' : List Value} {df : List Deferred} {w : World} (hi : ops[i]? = some oi) (hd : oi.dst = some d)
    (hs : Region.noSelect ops = true) (hf : Region.free md ops listed i = true) (hr : (Region.ready md ops listed).contains i = true) (hQ : ∀ c a w, Q (.panic c) (a.put oi.dst v) w → Q (.panic c) a w) (hy : YieldsIf P ops S oi v ⟨l.toArray, df⟩) (hS : S w) (hl : l.set d v = l')
    (h : wpAnyH P md ops Q S fuel (listed.setIfInBounds i true) ⟨l'.toArray, df⟩ w) : wpAnyH P md ops Q S (fuel + 1) listed ⟨l.toArray, df⟩ w := by
  refine wpAnyH_take hi hs hf hr hQ hy hS ?_
  have e : (⟨l.toArray, df⟩ : Act).put oi.dst v = ⟨l'.toArray, df⟩ := by
    rw [hd, ← hl]; simp [Act.put]
  rw [e]; exact h
theorem guard26 : Yba.prog.eqGuardType Yba.prog.depth 26 = false := by kernel_rfl
theorem eq_bin {f s : Int} {r : Bool} (e : ∀ W, (Op.equal 26 (.agg (nl 16 (idb f)).toArray) (.agg (nl 16 (idb s)).toArray)).run Yba.prog W = .ok r W) {a : Act} {o : Oper} {x y : Operand} (ho : o.op = .binOp .eql 26 x y 26) (hx : a.eval x = .agg (nl 16 (idb f)).toArray) (hy : a.eval y = .agg (nl 16 (idb s)).toArray) (W : World) :
    (execOp a.eval o).run Yba.prog W = .ok (.value (.bool r)) W := by
  unfold execOp
  simp only [ho, hx, hy, binOp, Sem.run_bind, e, run_eqGuard_agg _ _ _ _ _ _ _ guard26, Result.andThen]
  rfl
theorem ne_bin {f s : Int} {r : Bool} (e : ∀ W, (Op.equal 26 (.agg (nl 16 (idb f)).toArray) (.agg (nl 16 (idb s)).toArray)).run Yba.prog W = .ok r W) {a : Act} {o : Oper} {x y : Operand} (ho : o.op = .binOp .neq 26 x y 26) (hx : a.eval x = .agg (nl 16 (idb f)).toArray) (hy : a.eval y = .agg (nl 16 (idb s)).toArray) (W : World) :
    (execOp a.eval o).run Yba.prog W = .ok (.value (.bool (!r))) W := by
  unfold execOp
  simp only [ho, hx, hy, binOp, Sem.run_bind, e, run_eqGuard_agg _ _ _ _ _ _ _ guard26, Result.andThen]
  rfl

set_option maxRecDepth 100000 in
set_option maxHeartbeats 4000000 in
theorem skipA (c : Code) (hc : Yba.f7.body.bind (regCode 11) = some c) (Q : Exit → Act → World → Prop) (hQ : ∀ ch a a' w, Q (.panic ch) a w → Q (.panic ch) a' w) (W : World) (b15 b11 bh pp : Nat) 
    (c15 : W.cell? ⟨b15, 0, none⟩ = some (.pointer (some ⟨pp, 0, none⟩))) (rP : W.rangeAt pp 14 (nl 0 (fun _ => 0))) (u0 u1 u2 u3 u4 u6 u7 u8 u9 u10 u12 u13 u14 u16 u17 u18 u19 u20 u21 u22 u23 u24 u25 u26 u27 u28 u29 u30 u31 u32 u33 u34 u35 u36 u37 u38 u39 u40 u41 u42 u43 u44 u45 u46 u47 u48 u49 u50 u51 u52 u53 u54 u55 u56 u57 u58 u59 u60 u61 u62 u63 u64 u65 u66 u67 u68 u69 u70 u71 u72 u73 u74 u75 u76 u77 u78 u79 u80 u81 u82 u83 u84 u85 u86 u87 u88 u89 u90 u91 u92 u93 u94 u95 u96 u97 u98 u99 u100 u101 : Value)
    (hend : ∀ (v49 v50 v51 v52 v53 v54 v55 v56 v57 v58 v59 v60 v61 v62 v63 v64 v65 v66 v67 v68 v69 v70 v71 v72 v73 v74 v75 v76 v77 v78 v79 v80 v81 : Value) (W' : World), Below W.heap.size W W' → Q .normal ⟨#[u0, u1, u2, u3, u4, .pointer (some ⟨bh, 0, none⟩), u6, u7, u8, u9, u10, .pointer (some ⟨b11, 0, none⟩), u12, u13, u14, .pointer (some ⟨b15, 0, none⟩), u16, u17, u18, u19, u20, u21, u22, u23, u24, u25, u26, u27, u28, u29, u30, u31, u32, u33, u34, u35, u36, u37, u38, u39, u40, u41, u42, u43, u44, u45, u46, u47, u48, v49, v50, v51, v52, v53, v54, v55, v56, v57, v58, v59, v60, v61, v62, v63, v64, v65, v66, v67, v68, v69, v70, v71, v72, v73, v74, v75, v76, v77, v78, v79, v80, v81, .bool false, u83, u84, u85, u86, u87, u88, u89, u90, u91, u92, u93, u94, u95, u96, u97, u98, u99, u100, u101], []⟩ W') :
    c.wp Yba.prog Q ⟨#[u0, u1, u2, u3, u4, .pointer (some ⟨bh, 0, none⟩), u6, u7, u8, u9, u10, .pointer (some ⟨b11, 0, none⟩), u12, u13, u14, .pointer (some ⟨b15, 0, none⟩), u16, u17, u18, u19, u20, u21, u22, u23, u24, u25, u26, u27, u28, u29, u30, u31, u32, u33, u34, u35, u36, u37, u38, u39, u40, u41, u42, u43, u44, u45, u46, u47, u48, u49, u50, u51, u52, u53, u54, u55, u56, u57, u58, u59, u60, u61, u62, u63, u64, u65, u66, u67, u68, u69, u70, u71, u72, u73, u74, u75, u76, u77, u78, u79, u80, u81, u82, u83, u84, u85, u86, u87, u88, u89, u90, u91, u92, u93, u94, u95, u96, u97, u98, u99, u100, u101], []⟩ W := by
  obtain rfl : c = ((Yba.f7.body.bind (regCode 11)).getD .skip) := by rw [hc]; rfl
  clear hc
  conv => arg 2; whnf
  dsimp only
  refine wp_region_held_drew (S := Below W.heap.size W) (by kernel_rfl) (Below.refl _ _).drew (fun hT1 => ?_)
  refine takeL (i := 0) (d := 49) (v := .pointer (some ⟨b15, 0, none⟩)) rfl rfl (by kernel_rfl) (by kernel_rfl) (by kernel_rfl) (fun _ _ _ h => hQ _ _ _ _ h) (Or.inl ⟨by rfl, fun _ h => by go_simp⟩) hT1 (by simp only [List.set_cons_succ, List.set_cons_zero]; rfl) ?_
  refine takeL (i := 1) (d := 50) (v := .pointer (some ⟨pp, 0, none⟩)) rfl rfl (by kernel_rfl) (by kernel_rfl) (by kernel_rfl) (fun _ _ _ h => hQ _ _ _ _ h) (Or.inl ⟨by rfl, fun _ h => by have e0 := cell_later h c15; go_simp⟩) hT1 (by simp only [List.set_cons_succ, List.set_cons_zero]; rfl) ?_
  refine takeL (i := 2) (d := 51) (v := .pointer (some ⟨pp, 0, none⟩)) rfl rfl (by kernel_rfl) (by kernel_rfl) (by kernel_rfl) (fun _ _ _ h => hQ _ _ _ _ h) (Or.inl ⟨by rfl, fun _ h => by go_simp⟩) hT1 (by simp only [List.set_cons_succ, List.set_cons_zero]; rfl) ?_
  refine takeL (i := 3) (d := 52) (v := .pointer (some ⟨pp, 14, none⟩)) rfl rfl (by kernel_rfl) (by kernel_rfl) (by kernel_rfl) (fun _ _ _ h => hQ _ _ _ _ h) (Or.inl ⟨by rfl, fun _ h => by go_simp⟩) hT1 (by simp only [List.set_cons_succ, List.set_cons_zero]; rfl) ?_
  refine takeL (i := 4) (d := 53) rfl rfl (by kernel_rfl) (by kernel_rfl) (by kernel_rfl) (fun _ _ _ h => hQ _ _ _ _ h) (yieldsIf_load_mid (by rfl) 26 (.tmp 52) rfl pp 14 rfl (nl 0 (fun _ => 0)) _ (fun _ h => range_later h rP) Yba.underlying26 rfl (i26 0 _)) hT1 (by simp only [List.set_cons_succ, List.set_cons_zero]; rfl) ?_
  refine wpAnyH_ready (rs := [5]) (by kernel_rfl) (by simp) ?_
  refine AllReadyH.cons (i := 5) rfl (fun K hK => ?_) AllReadyH.nil
  rw [if_pos (by rfl)]
  go_simp
  refine (len_any 0 (by omega) (by omega) (fun _ => 0) _).mono ?_
  rintro e W11 ⟨rfl, bW11⟩
  refine hK.out _ _ (hT1.trans (bW11.mono hT1.size)) (fun hT2 => ?_)
  clear hK K
  refine takeL (i := 6) (d := 55) (v := .bool false) rfl rfl (by kernel_rfl) (by kernel_rfl) (by kernel_rfl) (fun _ _ _ h => hQ _ _ _ _ h) (Or.inl ⟨by rfl, fun _ h => by go_simp⟩) hT2 (by simp only [List.set_cons_succ, List.set_cons_zero]; rfl) ?_
  refine takeL (i := 7) (d := 56) (v := .bool false) rfl rfl (by kernel_rfl) (by kernel_rfl) (by kernel_rfl) (fun _ _ _ h => hQ _ _ _ _ h) (Or.inl ⟨by rfl, fun _ h => by go_simp⟩) hT2 (by simp only [List.set_cons_succ, List.set_cons_zero]; rfl) ?_
  refine takeL (i := 8) (d := 57) (v := undef) rfl rfl (by kernel_rfl) (by kernel_rfl) (by kernel_rfl) (fun _ _ _ h => hQ _ _ _ _ h) (Or.inr ⟨by rfl, rfl⟩) hT2 (by simp only [List.set_cons_succ, List.set_cons_zero]; rfl) ?_
  refine takeL (i := 9) (d := 58) (v := undef) rfl rfl (by kernel_rfl) (by kernel_rfl) (by kernel_rfl) (fun _ _ _ h => hQ _ _ _ _ h) (Or.inr ⟨by rfl, rfl⟩) hT2 (by simp only [List.set_cons_succ, List.set_cons_zero]; rfl) ?_
  refine takeL (i := 10) (d := 59) (v := undef) rfl rfl (by kernel_rfl) (by kernel_rfl) (by kernel_rfl) (fun _ _ _ h => hQ _ _ _ _ h) (Or.inr ⟨by rfl, rfl⟩) hT2 (by simp only [List.set_cons_succ, List.set_cons_zero]; rfl) ?_
  refine takeL (i := 11) (d := 60) (v := undef) rfl rfl (by kernel_rfl) (by kernel_rfl) (by kernel_rfl) (fun _ _ _ h => hQ _ _ _ _ h) (Or.inr ⟨by rfl, rfl⟩) hT2 (by simp only [List.set_cons_succ, List.set_cons_zero]; rfl) ?_
  refine takeL (i := 12) (d := 61) (v := undef) rfl rfl (by kernel_rfl) (by kernel_rfl) (by kernel_rfl) (fun _ _ _ h => hQ _ _ _ _ h) (Or.inr ⟨by rfl, rfl⟩) hT2 (by simp only [List.set_cons_succ, List.set_cons_zero]; rfl) ?_
  refine takeL (i := 13) (d := 62) (v := undef) rfl rfl (by kernel_rfl) (by kernel_rfl) (by kernel_rfl) (fun _ _ _ h => hQ _ _ _ _ h) (Or.inr ⟨by rfl, rfl⟩) hT2 (by simp only [List.set_cons_succ, List.set_cons_zero]; rfl) ?_
  refine takeL (i := 14) (d := 63) (v := undef) rfl rfl (by kernel_rfl) (by kernel_rfl) (by kernel_rfl) (fun _ _ _ h => hQ _ _ _ _ h) (Or.inr ⟨by rfl, rfl⟩) hT2 (by simp only [List.set_cons_succ, List.set_cons_zero]; rfl) ?_
  refine takeL (i := 15) (d := 64) (v := undef) rfl rfl (by kernel_rfl) (by kernel_rfl) (by kernel_rfl) (fun _ _ _ h => hQ _ _ _ _ h) (Or.inr ⟨by rfl, rfl⟩) hT2 (by simp only [List.set_cons_succ, List.set_cons_zero]; rfl) ?_
  refine takeL (i := 16) (d := 65) (v := .bool false) rfl rfl (by kernel_rfl) (by kernel_rfl) (by kernel_rfl) (fun _ _ _ h => hQ _ _ _ _ h) (Or.inl ⟨by rfl, fun _ h => by go_simp⟩) hT2 (by simp only [List.set_cons_succ, List.set_cons_zero]; rfl) ?_
  refine takeL (i := 17) (d := 66) (v := .bool false) rfl rfl (by kernel_rfl) (by kernel_rfl) (by kernel_rfl) (fun _ _ _ h => hQ _ _ _ _ h) (Or.inl ⟨by rfl, fun _ h => by go_simp⟩) hT2 (by simp only [List.set_cons_succ, List.set_cons_zero]; rfl) ?_
  refine takeL (i := 18) (d := 67) (v := undef) rfl rfl (by kernel_rfl) (by kernel_rfl) (by kernel_rfl) (fun _ _ _ h => hQ _ _ _ _ h) (Or.inr ⟨by rfl, rfl⟩) hT2 (by simp only [List.set_cons_succ, List.set_cons_zero]; rfl) ?_
  refine takeL (i := 19) (d := 68) (v := undef) rfl rfl (by kernel_rfl) (by kernel_rfl) (by kernel_rfl) (fun _ _ _ h => hQ _ _ _ _ h) (Or.inr ⟨by rfl, rfl⟩) hT2 (by simp only [List.set_cons_succ, List.set_cons_zero]; rfl) ?_
  refine takeL (i := 20) (d := 69) (v := undef) rfl rfl (by kernel_rfl) (by kernel_rfl) (by kernel_rfl) (fun _ _ _ h => hQ _ _ _ _ h) (Or.inr ⟨by rfl, rfl⟩) hT2 (by simp only [List.set_cons_succ, List.set_cons_zero]; rfl) ?_
  refine takeL (i := 21) (d := 70) (v := undef) rfl rfl (by kernel_rfl) (by kernel_rfl) (by kernel_rfl) (fun _ _ _ h => hQ _ _ _ _ h) (Or.inr ⟨by rfl, rfl⟩) hT2 (by simp only [List.set_cons_succ, List.set_cons_zero]; rfl) ?_
  refine takeL (i := 22) (d := 71) (v := undef) rfl rfl (by kernel_rfl) (by kernel_rfl) (by kernel_rfl) (fun _ _ _ h => hQ _ _ _ _ h) (Or.inr ⟨by rfl, rfl⟩) hT2 (by simp only [List.set_cons_succ, List.set_cons_zero]; rfl) ?_
  refine takeL (i := 23) (d := 72) (v := undef) rfl rfl (by kernel_rfl) (by kernel_rfl) (by kernel_rfl) (fun _ _ _ h => hQ _ _ _ _ h) (Or.inr ⟨by rfl, rfl⟩) hT2 (by simp only [List.set_cons_succ, List.set_cons_zero]; rfl) ?_
  refine takeL (i := 24) (d := 73) (v := undef) rfl rfl (by kernel_rfl) (by kernel_rfl) (by kernel_rfl) (fun _ _ _ h => hQ _ _ _ _ h) (Or.inr ⟨by rfl, rfl⟩) hT2 (by simp only [List.set_cons_succ, List.set_cons_zero]; rfl) ?_
  refine takeL (i := 25) (d := 74) (v := undef) rfl rfl (by kernel_rfl) (by kernel_rfl) (by kernel_rfl) (fun _ _ _ h => hQ _ _ _ _ h) (Or.inr ⟨by rfl, rfl⟩) hT2 (by simp only [List.set_cons_succ, List.set_cons_zero]; rfl) ?_
  refine takeL (i := 26) (d := 75) (v := undef) rfl rfl (by kernel_rfl) (by kernel_rfl) (by kernel_rfl) (fun _ _ _ h => hQ _ _ _ _ h) (Or.inr ⟨by rfl, rfl⟩) hT2 (by simp only [List.set_cons_succ, List.set_cons_zero]; rfl) ?_
  refine takeL (i := 27) (d := 76) (v := undef) rfl rfl (by kernel_rfl) (by kernel_rfl) (by kernel_rfl) (fun _ _ _ h => hQ _ _ _ _ h) (Or.inr ⟨by rfl, rfl⟩) hT2 (by simp only [List.set_cons_succ, List.set_cons_zero]; rfl) ?_
  refine takeL (i := 28) (d := 77) (v := undef) rfl rfl (by kernel_rfl) (by kernel_rfl) (by kernel_rfl) (fun _ _ _ h => hQ _ _ _ _ h) (Or.inr ⟨by rfl, rfl⟩) hT2 (by simp only [List.set_cons_succ, List.set_cons_zero]; rfl) ?_
  refine takeL (i := 29) (d := 78) (v := undef) rfl rfl (by kernel_rfl) (by kernel_rfl) (by kernel_rfl) (fun _ _ _ h => hQ _ _ _ _ h) (Or.inr ⟨by rfl, rfl⟩) hT2 (by simp only [List.set_cons_succ, List.set_cons_zero]; rfl) ?_
  refine takeL (i := 30) (d := 79) (v := undef) rfl rfl (by kernel_rfl) (by kernel_rfl) (by kernel_rfl) (fun _ _ _ h => hQ _ _ _ _ h) (Or.inr ⟨by rfl, rfl⟩) hT2 (by simp only [List.set_cons_succ, List.set_cons_zero]; rfl) ?_
  refine takeL (i := 31) (d := 80) (v := undef) rfl rfl (by kernel_rfl) (by kernel_rfl) (by kernel_rfl) (fun _ _ _ h => hQ _ _ _ _ h) (Or.inr ⟨by rfl, rfl⟩) hT2 (by simp only [List.set_cons_succ, List.set_cons_zero]; rfl) ?_
  refine takeL (i := 32) (d := 81) (v := undef) rfl rfl (by kernel_rfl) (by kernel_rfl) (by kernel_rfl) (fun _ _ _ h => hQ _ _ _ _ h) (Or.inr ⟨by rfl, rfl⟩) hT2 (by simp only [List.set_cons_succ, List.set_cons_zero]; rfl) ?_
  refine takeL (i := 33) (d := 82) (v := .bool false) rfl rfl (by kernel_rfl) (by kernel_rfl) (by kernel_rfl) (fun _ _ _ h => hQ _ _ _ _ h) (Or.inl ⟨by rfl, fun _ h => by go_simp⟩) hT2 (by simp only [List.set_cons_succ, List.set_cons_zero]; rfl) ?_
  refine wpAnyH_done (by kernel_rfl) ?_ _
  exact hend _ _ _ _ _ _ _ _ _ _ _ _ _ _ _ _ _ _ _ _ _ _ _ _ _ _ _ _ _ _ _ _ _ _ hT2

set_option maxRecDepth 100000 in
set_option maxHeartbeats 4000000 in
theorem skipB (c : Code) (hc : Yba.f7.body.bind (regCode 11) = some c) (Q : Exit → Act → World → Prop) (hQ : ∀ ch a a' w, Q (.panic ch) a w → Q (.panic ch) a' w) (W : World) (b15 b11 bh pp : Nat) (f self : Int) (hf : 0 ≤ f ∧ f ≤ 255) (hself : 0 ≤ self ∧ self ≤ 255) (hfs : (f == self) = true)
    (c15 : W.cell? ⟨b15, 0, none⟩ = some (.pointer (some ⟨pp, 0, none⟩))) (rP : W.rangeAt pp 14 (nl 16 (idb f))) (rs : W.rangeAt bh 0 (nl 16 (idb self))) (u0 u1 u2 u3 u4 u6 u7 u8 u9 u10 u12 u13 u14 u16 u17 u18 u19 u20 u21 u22 u23 u24 u25 u26 u27 u28 u29 u30 u31 u32 u33 u34 u35 u36 u37 u38 u39 u40 u41 u42 u43 u44 u45 u46 u47 u48 u49 u50 u51 u52 u53 u54 u55 u56 u57 u58 u59 u60 u61 u62 u63 u64 u65 u66 u67 u68 u69 u70 u71 u72 u73 u74 u75 u76 u77 u78 u79 u80 u81 u82 u83 u84 u85 u86 u87 u88 u89 u90 u91 u92 u93 u94 u95 u96 u97 u98 u99 u100 u101 : Value)
    (hend : ∀ (v49 v50 v51 v52 v53 v54 v55 v56 v57 v58 v59 v60 v61 v62 v63 v64 v65 v66 v67 v68 v69 v70 v71 v72 v73 v74 v75 v76 v77 v78 v79 v80 v81 : Value) (W' : World), Below W.heap.size W W' → Q .normal ⟨#[u0, u1, u2, u3, u4, .pointer (some ⟨bh, 0, none⟩), u6, u7, u8, u9, u10, .pointer (some ⟨b11, 0, none⟩), u12, u13, u14, .pointer (some ⟨b15, 0, none⟩), u16, u17, u18, u19, u20, u21, u22, u23, u24, u25, u26, u27, u28, u29, u30, u31, u32, u33, u34, u35, u36, u37, u38, u39, u40, u41, u42, u43, u44, u45, u46, u47, u48, v49, v50, v51, v52, v53, v54, v55, v56, v57, v58, v59, v60, v61, v62, v63, v64, v65, v66, v67, v68, v69, v70, v71, v72, v73, v74, v75, v76, v77, v78, v79, v80, v81, .bool false, u83, u84, u85, u86, u87, u88, u89, u90, u91, u92, u93, u94, u95, u96, u97, u98, u99, u100, u101], []⟩ W') :
    c.wp Yba.prog Q ⟨#[u0, u1, u2, u3, u4, .pointer (some ⟨bh, 0, none⟩), u6, u7, u8, u9, u10, .pointer (some ⟨b11, 0, none⟩), u12, u13, u14, .pointer (some ⟨b15, 0, none⟩), u16, u17, u18, u19, u20, u21, u22, u23, u24, u25, u26, u27, u28, u29, u30, u31, u32, u33, u34, u35, u36, u37, u38, u39, u40, u41, u42, u43, u44, u45, u46, u47, u48, u49, u50, u51, u52, u53, u54, u55, u56, u57, u58, u59, u60, u61, u62, u63, u64, u65, u66, u67, u68, u69, u70, u71, u72, u73, u74, u75, u76, u77, u78, u79, u80, u81, u82, u83, u84, u85, u86, u87, u88, u89, u90, u91, u92, u93, u94, u95, u96, u97, u98, u99, u100, u101], []⟩ W := by
  obtain rfl : c = ((Yba.f7.body.bind (regCode 11)).getD .skip) := by rw [hc]; rfl
  clear hc
  conv => arg 2; whnf
  dsimp only
  have eqF := fun W => eq_ids hf hself W
  rw [hfs] at eqF
  refine wp_region_held_drew (S := Below W.heap.size W) (by kernel_rfl) (Below.refl _ _).drew (fun hT1 => ?_)
  refine takeL (i := 0) (d := 49) (v := .pointer (some ⟨b15, 0, none⟩)) rfl rfl (by kernel_rfl) (by kernel_rfl) (by kernel_rfl) (fun _ _ _ h => hQ _ _ _ _ h) (Or.inl ⟨by rfl, fun _ h => by go_simp⟩) hT1 (by simp only [List.set_cons_succ, List.set_cons_zero]; rfl) ?_
  refine takeL (i := 1) (d := 50) (v := .pointer (some ⟨pp, 0, none⟩)) rfl rfl (by kernel_rfl) (by kernel_rfl) (by kernel_rfl) (fun _ _ _ h => hQ _ _ _ _ h) (Or.inl ⟨by rfl, fun _ h => by have e0 := cell_later h c15; go_simp⟩) hT1 (by simp only [List.set_cons_succ, List.set_cons_zero]; rfl) ?_
  refine takeL (i := 2) (d := 51) (v := .pointer (some ⟨pp, 0, none⟩)) rfl rfl (by kernel_rfl) (by kernel_rfl) (by kernel_rfl) (fun _ _ _ h => hQ _ _ _ _ h) (Or.inl ⟨by rfl, fun _ h => by go_simp⟩) hT1 (by simp only [List.set_cons_succ, List.set_cons_zero]; rfl) ?_
  refine takeL (i := 3) (d := 52) (v := .pointer (some ⟨pp, 14, none⟩)) rfl rfl (by kernel_rfl) (by kernel_rfl) (by kernel_rfl) (fun _ _ _ h => hQ _ _ _ _ h) (Or.inl ⟨by rfl, fun _ h => by go_simp⟩) hT1 (by simp only [List.set_cons_succ, List.set_cons_zero]; rfl) ?_
  refine takeL (i := 4) (d := 53) rfl rfl (by kernel_rfl) (by kernel_rfl) (by kernel_rfl) (fun _ _ _ h => hQ _ _ _ _ h) (yieldsIf_load_mid (by rfl) 26 (.tmp 52) rfl pp 14 rfl (nl 16 (idb f)) _ (fun _ h => range_later h rP) Yba.underlying26 rfl (i26 16 _)) hT1 (by simp only [List.set_cons_succ, List.set_cons_zero]; rfl) ?_
  refine wpAnyH_ready (rs := [5]) (by kernel_rfl) (by simp) ?_
  refine AllReadyH.cons (i := 5) rfl (fun K hK => ?_) AllReadyH.nil
  rw [if_pos (by rfl)]
  go_simp
  refine (len_any 16 (by omega) (by omega) (idb f) _).mono ?_
  rintro e W11 ⟨rfl, bW11⟩
  refine hK.out _ _ (hT1.trans (bW11.mono hT1.size)) (fun hT2 => ?_)
  clear hK K
  refine takeL (i := 6) (d := 55) (v := .bool true) rfl rfl (by kernel_rfl) (by kernel_rfl) (by kernel_rfl) (fun _ _ _ h => hQ _ _ _ _ h) (Or.inl ⟨by rfl, fun _ h => by go_simp⟩) hT2 (by simp only [List.set_cons_succ, List.set_cons_zero]; rfl) ?_
  refine takeL (i := 7) (d := 56) (v := .bool true) rfl rfl (by kernel_rfl) (by kernel_rfl) (by kernel_rfl) (fun _ _ _ h => hQ _ _ _ _ h) (Or.inl ⟨by rfl, fun _ h => by go_simp⟩) hT2 (by simp only [List.set_cons_succ, List.set_cons_zero]; rfl) ?_
  refine takeL (i := 8) (d := 57) (v := .pointer (some ⟨b15, 0, none⟩)) rfl rfl (by kernel_rfl) (by kernel_rfl) (by kernel_rfl) (fun _ _ _ h => hQ _ _ _ _ h) (Or.inl ⟨by rfl, fun _ h => by go_simp⟩) hT2 (by simp only [List.set_cons_succ, List.set_cons_zero]; rfl) ?_
  refine takeL (i := 9) (d := 58) (v := .pointer (some ⟨pp, 0, none⟩)) rfl rfl (by kernel_rfl) (by kernel_rfl) (by kernel_rfl) (fun _ _ _ h => hQ _ _ _ _ h) (Or.inl ⟨by rfl, fun _ h => by have e0 := cell_later h c15; go_simp⟩) hT2 (by simp only [List.set_cons_succ, List.set_cons_zero]; rfl) ?_
  refine takeL (i := 10) (d := 59) (v := .pointer (some ⟨pp, 0, none⟩)) rfl rfl (by kernel_rfl) (by kernel_rfl) (by kernel_rfl) (fun _ _ _ h => hQ _ _ _ _ h) (Or.inl ⟨by rfl, fun _ h => by go_simp⟩) hT2 (by simp only [List.set_cons_succ, List.set_cons_zero]; rfl) ?_
  refine takeL (i := 11) (d := 60) (v := .pointer (some ⟨pp, 14, none⟩)) rfl rfl (by kernel_rfl) (by kernel_rfl) (by kernel_rfl) (fun _ _ _ h => hQ _ _ _ _ h) (Or.inl ⟨by rfl, fun _ h => by go_simp⟩) hT2 (by simp only [List.set_cons_succ, List.set_cons_zero]; rfl) ?_
  refine takeL (i := 12) (d := 61) rfl rfl (by kernel_rfl) (by kernel_rfl) (by kernel_rfl) (fun _ _ _ h => hQ _ _ _ _ h) (yieldsIf_load_mid (by rfl) 26 (.tmp 60) rfl pp 14 rfl (nl 16 (idb f)) _ (fun _ h => range_later h rP) Yba.underlying26 rfl (i26 16 _)) hT2 (by simp only [List.set_cons_succ, List.set_cons_zero]; rfl) ?_
  refine takeL (i := 13) (d := 62) (v := .pointer (some ⟨bh, 0, none⟩)) rfl rfl (by kernel_rfl) (by kernel_rfl) (by kernel_rfl) (fun _ _ _ h => hQ _ _ _ _ h) (Or.inl ⟨by rfl, fun _ h => by go_simp⟩) hT2 (by simp only [List.set_cons_succ, List.set_cons_zero]; rfl) ?_
  refine takeL (i := 14) (d := 63) rfl rfl (by kernel_rfl) (by kernel_rfl) (by kernel_rfl) (fun _ _ _ h => hQ _ _ _ _ h) (yieldsIf_load_mid (by rfl) 26 (.tmp 62) rfl bh 0 rfl (nl 16 (idb self)) _ (fun _ h => range_later h rs) Yba.underlying26 rfl (i26 16 _)) hT2 (by simp only [List.set_cons_succ, List.set_cons_zero]; rfl) ?_
  refine takeL (i := 15) (d := 64) (v := .bool false) rfl rfl (by kernel_rfl) (by kernel_rfl) (by kernel_rfl) (fun _ _ _ h => hQ _ _ _ _ h) (Or.inl ⟨by rfl, fun W _ => ne_bin eqF (x := .tmp 61) (y := .tmp 63) rfl rfl rfl W⟩) hT2 (by simp only [List.set_cons_succ, List.set_cons_zero]; rfl) ?_
  refine takeL (i := 16) (d := 65) (v := .bool false) rfl rfl (by kernel_rfl) (by kernel_rfl) (by kernel_rfl) (fun _ _ _ h => hQ _ _ _ _ h) (Or.inl ⟨by rfl, fun _ h => by go_simp⟩) hT2 (by simp only [List.set_cons_succ, List.set_cons_zero]; rfl) ?_
  refine takeL (i := 17) (d := 66) (v := .bool false) rfl rfl (by kernel_rfl) (by kernel_rfl) (by kernel_rfl) (fun _ _ _ h => hQ _ _ _ _ h) (Or.inl ⟨by rfl, fun _ h => by go_simp⟩) hT2 (by simp only [List.set_cons_succ, List.set_cons_zero]; rfl) ?_
  refine takeL (i := 18) (d := 67) (v := undef) rfl rfl (by kernel_rfl) (by kernel_rfl) (by kernel_rfl) (fun _ _ _ h => hQ _ _ _ _ h) (Or.inr ⟨by rfl, rfl⟩) hT2 (by simp only [List.set_cons_succ, List.set_cons_zero]; rfl) ?_
  refine takeL (i := 19) (d := 68) (v := undef) rfl rfl (by kernel_rfl) (by kernel_rfl) (by kernel_rfl) (fun _ _ _ h => hQ _ _ _ _ h) (Or.inr ⟨by rfl, rfl⟩) hT2 (by simp only [List.set_cons_succ, List.set_cons_zero]; rfl) ?_
  refine takeL (i := 20) (d := 69) (v := undef) rfl rfl (by kernel_rfl) (by kernel_rfl) (by kernel_rfl) (fun _ _ _ h => hQ _ _ _ _ h) (Or.inr ⟨by rfl, rfl⟩) hT2 (by simp only [List.set_cons_succ, List.set_cons_zero]; rfl) ?_
  refine takeL (i := 21) (d := 70) (v := undef) rfl rfl (by kernel_rfl) (by kernel_rfl) (by kernel_rfl) (fun _ _ _ h => hQ _ _ _ _ h) (Or.inr ⟨by rfl, rfl⟩) hT2 (by simp only [List.set_cons_succ, List.set_cons_zero]; rfl) ?_
  refine takeL (i := 22) (d := 71) (v := undef) rfl rfl (by kernel_rfl) (by kernel_rfl) (by kernel_rfl) (fun _ _ _ h => hQ _ _ _ _ h) (Or.inr ⟨by rfl, rfl⟩) hT2 (by simp only [List.set_cons_succ, List.set_cons_zero]; rfl) ?_
  refine takeL (i := 23) (d := 72) (v := undef) rfl rfl (by kernel_rfl) (by kernel_rfl) (by kernel_rfl) (fun _ _ _ h => hQ _ _ _ _ h) (Or.inr ⟨by rfl, rfl⟩) hT2 (by simp only [List.set_cons_succ, List.set_cons_zero]; rfl) ?_
  refine takeL (i := 24) (d := 73) (v := undef) rfl rfl (by kernel_rfl) (by kernel_rfl) (by kernel_rfl) (fun _ _ _ h => hQ _ _ _ _ h) (Or.inr ⟨by rfl, rfl⟩) hT2 (by simp only [List.set_cons_succ, List.set_cons_zero]; rfl) ?_
  refine takeL (i := 25) (d := 74) (v := undef) rfl rfl (by kernel_rfl) (by kernel_rfl) (by kernel_rfl) (fun _ _ _ h => hQ _ _ _ _ h) (Or.inr ⟨by rfl, rfl⟩) hT2 (by simp only [List.set_cons_succ, List.set_cons_zero]; rfl) ?_
  refine takeL (i := 26) (d := 75) (v := undef) rfl rfl (by kernel_rfl) (by kernel_rfl) (by kernel_rfl) (fun _ _ _ h => hQ _ _ _ _ h) (Or.inr ⟨by rfl, rfl⟩) hT2 (by simp only [List.set_cons_succ, List.set_cons_zero]; rfl) ?_
  refine takeL (i := 27) (d := 76) (v := undef) rfl rfl (by kernel_rfl) (by kernel_rfl) (by kernel_rfl) (fun _ _ _ h => hQ _ _ _ _ h) (Or.inr ⟨by rfl, rfl⟩) hT2 (by simp only [List.set_cons_succ, List.set_cons_zero]; rfl) ?_
  refine takeL (i := 28) (d := 77) (v := undef) rfl rfl (by kernel_rfl) (by kernel_rfl) (by kernel_rfl) (fun _ _ _ h => hQ _ _ _ _ h) (Or.inr ⟨by rfl, rfl⟩) hT2 (by simp only [List.set_cons_succ, List.set_cons_zero]; rfl) ?_
  refine takeL (i := 29) (d := 78) (v := undef) rfl rfl (by kernel_rfl) (by kernel_rfl) (by kernel_rfl) (fun _ _ _ h => hQ _ _ _ _ h) (Or.inr ⟨by rfl, rfl⟩) hT2 (by simp only [List.set_cons_succ, List.set_cons_zero]; rfl) ?_
  refine takeL (i := 30) (d := 79) (v := undef) rfl rfl (by kernel_rfl) (by kernel_rfl) (by kernel_rfl) (fun _ _ _ h => hQ _ _ _ _ h) (Or.inr ⟨by rfl, rfl⟩) hT2 (by simp only [List.set_cons_succ, List.set_cons_zero]; rfl) ?_
  refine takeL (i := 31) (d := 80) (v := undef) rfl rfl (by kernel_rfl) (by kernel_rfl) (by kernel_rfl) (fun _ _ _ h => hQ _ _ _ _ h) (Or.inr ⟨by rfl, rfl⟩) hT2 (by simp only [List.set_cons_succ, List.set_cons_zero]; rfl) ?_
  refine takeL (i := 32) (d := 81) (v := undef) rfl rfl (by kernel_rfl) (by kernel_rfl) (by kernel_rfl) (fun _ _ _ h => hQ _ _ _ _ h) (Or.inr ⟨by rfl, rfl⟩) hT2 (by simp only [List.set_cons_succ, List.set_cons_zero]; rfl) ?_
  refine takeL (i := 33) (d := 82) (v := .bool false) rfl rfl (by kernel_rfl) (by kernel_rfl) (by kernel_rfl) (fun _ _ _ h => hQ _ _ _ _ h) (Or.inl ⟨by rfl, fun _ h => by go_simp⟩) hT2 (by simp only [List.set_cons_succ, List.set_cons_zero]; rfl) ?_
  refine wpAnyH_done (by kernel_rfl) ?_ _
  exact hend _ _ _ _ _ _ _ _ _ _ _ _ _ _ _ _ _ _ _ _ _ _ _ _ _ _ _ _ _ _ _ _ _ _ hT2

set_option maxRecDepth 100000 in
set_option maxHeartbeats 4000000 in
theorem skipC (c : Code) (hc : Yba.f7.body.bind (regCode 11) = some c) (Q : Exit → Act → World → Prop) (hQ : ∀ ch a a' w, Q (.panic ch) a w → Q (.panic ch) a' w) (W : World) (b15 b11 bh pp : Nat) (f s self : Int) (hf : 0 ≤ f ∧ f ≤ 255) (hs : 0 ≤ s ∧ s ≤ 255) (hself : 0 ≤ self ∧ self ≤ 255) (hfs : (f == self) = false) (hss : (s == self) = true)
    (c15 : W.cell? ⟨b15, 0, none⟩ = some (.pointer (some ⟨pp, 0, none⟩))) (rP : W.rangeAt pp 14 (nl 16 (idb f))) (r11 : W.rangeAt b11 0 (nl 16 (idb s))) (rs : W.rangeAt bh 0 (nl 16 (idb self))) (u0 u1 u2 u3 u4 u6 u7 u8 u9 u10 u12 u13 u14 u16 u17 u18 u19 u20 u21 u22 u23 u24 u25 u26 u27 u28 u29 u30 u31 u32 u33 u34 u35 u36 u37 u38 u39 u40 u41 u42 u43 u44 u45 u46 u47 u48 u49 u50 u51 u52 u53 u54 u55 u56 u57 u58 u59 u60 u61 u62 u63 u64 u65 u66 u67 u68 u69 u70 u71 u72 u73 u74 u75 u76 u77 u78 u79 u80 u81 u82 u83 u84 u85 u86 u87 u88 u89 u90 u91 u92 u93 u94 u95 u96 u97 u98 u99 u100 u101 : Value)
    (hend : ∀ (v49 v50 v51 v52 v53 v54 v55 v56 v57 v58 v59 v60 v61 v62 v63 v64 v65 v66 v67 v68 v69 v70 v71 v72 v73 v74 v75 v76 v77 v78 v79 v80 v81 : Value) (W' : World), Below W.heap.size W W' → Q .normal ⟨#[u0, u1, u2, u3, u4, .pointer (some ⟨bh, 0, none⟩), u6, u7, u8, u9, u10, .pointer (some ⟨b11, 0, none⟩), u12, u13, u14, .pointer (some ⟨b15, 0, none⟩), u16, u17, u18, u19, u20, u21, u22, u23, u24, u25, u26, u27, u28, u29, u30, u31, u32, u33, u34, u35, u36, u37, u38, u39, u40, u41, u42, u43, u44, u45, u46, u47, u48, v49, v50, v51, v52, v53, v54, v55, v56, v57, v58, v59, v60, v61, v62, v63, v64, v65, v66, v67, v68, v69, v70, v71, v72, v73, v74, v75, v76, v77, v78, v79, v80, v81, .bool true, u83, u84, u85, u86, u87, u88, u89, u90, u91, u92, u93, u94, u95, u96, u97, u98, u99, u100, u101], []⟩ W') :
    c.wp Yba.prog Q ⟨#[u0, u1, u2, u3, u4, .pointer (some ⟨bh, 0, none⟩), u6, u7, u8, u9, u10, .pointer (some ⟨b11, 0, none⟩), u12, u13, u14, .pointer (some ⟨b15, 0, none⟩), u16, u17, u18, u19, u20, u21, u22, u23, u24, u25, u26, u27, u28, u29, u30, u31, u32, u33, u34, u35, u36, u37, u38, u39, u40, u41, u42, u43, u44, u45, u46, u47, u48, u49, u50, u51, u52, u53, u54, u55, u56, u57, u58, u59, u60, u61, u62, u63, u64, u65, u66, u67, u68, u69, u70, u71, u72, u73, u74, u75, u76, u77, u78, u79, u80, u81, u82, u83, u84, u85, u86, u87, u88, u89, u90, u91, u92, u93, u94, u95, u96, u97, u98, u99, u100, u101], []⟩ W := by
  obtain rfl : c = ((Yba.f7.body.bind (regCode 11)).getD .skip) := by rw [hc]; rfl
  clear hc
  conv => arg 2; whnf
  dsimp only
  have eqF := fun W => eq_ids hf hself W
  rw [hfs] at eqF
  have eqS := fun W => eq_ids hs hself W
  rw [hss] at eqS
  refine wp_region_held_drew (S := Below W.heap.size W) (by kernel_rfl) (Below.refl _ _).drew (fun hT1 => ?_)
  refine takeL (i := 0) (d := 49) (v := .pointer (some ⟨b15, 0, none⟩)) rfl rfl (by kernel_rfl) (by kernel_rfl) (by kernel_rfl) (fun _ _ _ h => hQ _ _ _ _ h) (Or.inl ⟨by rfl, fun _ h => by go_simp⟩) hT1 (by simp only [List.set_cons_succ, List.set_cons_zero]; rfl) ?_
  refine takeL (i := 1) (d := 50) (v := .pointer (some ⟨pp, 0, none⟩)) rfl rfl (by kernel_rfl) (by kernel_rfl) (by kernel_rfl) (fun _ _ _ h => hQ _ _ _ _ h) (Or.inl ⟨by rfl, fun _ h => by have e0 := cell_later h c15; go_simp⟩) hT1 (by simp only [List.set_cons_succ, List.set_cons_zero]; rfl) ?_
  refine takeL (i := 2) (d := 51) (v := .pointer (some ⟨pp, 0, none⟩)) rfl rfl (by kernel_rfl) (by kernel_rfl) (by kernel_rfl) (fun _ _ _ h => hQ _ _ _ _ h) (Or.inl ⟨by rfl, fun _ h => by go_simp⟩) hT1 (by simp only [List.set_cons_succ, List.set_cons_zero]; rfl) ?_
  refine takeL (i := 3) (d := 52) (v := .pointer (some ⟨pp, 14, none⟩)) rfl rfl (by kernel_rfl) (by kernel_rfl) (by kernel_rfl) (fun _ _ _ h => hQ _ _ _ _ h) (Or.inl ⟨by rfl, fun _ h => by go_simp⟩) hT1 (by simp only [List.set_cons_succ, List.set_cons_zero]; rfl) ?_
  refine takeL (i := 4) (d := 53) rfl rfl (by kernel_rfl) (by kernel_rfl) (by kernel_rfl) (fun _ _ _ h => hQ _ _ _ _ h) (yieldsIf_load_mid (by rfl) 26 (.tmp 52) rfl pp 14 rfl (nl 16 (idb f)) _ (fun _ h => range_later h rP) Yba.underlying26 rfl (i26 16 _)) hT1 (by simp only [List.set_cons_succ, List.set_cons_zero]; rfl) ?_
  refine wpAnyH_ready (rs := [5]) (by kernel_rfl) (by simp) ?_
  refine AllReadyH.cons (i := 5) rfl (fun K hK => ?_) AllReadyH.nil
  rw [if_pos (by rfl)]
  go_simp
  refine (len_any 16 (by omega) (by omega) (idb f) _).mono ?_
  rintro e W11 ⟨rfl, bW11⟩
  refine hK.out _ _ (hT1.trans (bW11.mono hT1.size)) (fun hT2 => ?_)
  clear hK K
  refine takeL (i := 6) (d := 55) (v := .bool true) rfl rfl (by kernel_rfl) (by kernel_rfl) (by kernel_rfl) (fun _ _ _ h => hQ _ _ _ _ h) (Or.inl ⟨by rfl, fun _ h => by go_simp⟩) hT2 (by simp only [List.set_cons_succ, List.set_cons_zero]; rfl) ?_
  refine takeL (i := 7) (d := 56) (v := .bool true) rfl rfl (by kernel_rfl) (by kernel_rfl) (by kernel_rfl) (fun _ _ _ h => hQ _ _ _ _ h) (Or.inl ⟨by rfl, fun _ h => by go_simp⟩) hT2 (by simp only [List.set_cons_succ, List.set_cons_zero]; rfl) ?_
  refine takeL (i := 8) (d := 57) (v := .pointer (some ⟨b15, 0, none⟩)) rfl rfl (by kernel_rfl) (by kernel_rfl) (by kernel_rfl) (fun _ _ _ h => hQ _ _ _ _ h) (Or.inl ⟨by rfl, fun _ h => by go_simp⟩) hT2 (by simp only [List.set_cons_succ, List.set_cons_zero]; rfl) ?_
  refine takeL (i := 9) (d := 58) (v := .pointer (some ⟨pp, 0, none⟩)) rfl rfl (by kernel_rfl) (by kernel_rfl) (by kernel_rfl) (fun _ _ _ h => hQ _ _ _ _ h) (Or.inl ⟨by rfl, fun _ h => by have e0 := cell_later h c15; go_simp⟩) hT2 (by simp only [List.set_cons_succ, List.set_cons_zero]; rfl) ?_
  refine takeL (i := 10) (d := 59) (v := .pointer (some ⟨pp, 0, none⟩)) rfl rfl (by kernel_rfl) (by kernel_rfl) (by kernel_rfl) (fun _ _ _ h => hQ _ _ _ _ h) (Or.inl ⟨by rfl, fun _ h => by go_simp⟩) hT2 (by simp only [List.set_cons_succ, List.set_cons_zero]; rfl) ?_
  refine takeL (i := 11) (d := 60) (v := .pointer (some ⟨pp, 14, none⟩)) rfl rfl (by kernel_rfl) (by kernel_rfl) (by kernel_rfl) (fun _ _ _ h => hQ _ _ _ _ h) (Or.inl ⟨by rfl, fun _ h => by go_simp⟩) hT2 (by simp only [List.set_cons_succ, List.set_cons_zero]; rfl) ?_
  refine takeL (i := 12) (d := 61) rfl rfl (by kernel_rfl) (by kernel_rfl) (by kernel_rfl) (fun _ _ _ h => hQ _ _ _ _ h) (yieldsIf_load_mid (by rfl) 26 (.tmp 60) rfl pp 14 rfl (nl 16 (idb f)) _ (fun _ h => range_later h rP) Yba.underlying26 rfl (i26 16 _)) hT2 (by simp only [List.set_cons_succ, List.set_cons_zero]; rfl) ?_
  refine takeL (i := 13) (d := 62) (v := .pointer (some ⟨bh, 0, none⟩)) rfl rfl (by kernel_rfl) (by kernel_rfl) (by kernel_rfl) (fun _ _ _ h => hQ _ _ _ _ h) (Or.inl ⟨by rfl, fun _ h => by go_simp⟩) hT2 (by simp only [List.set_cons_succ, List.set_cons_zero]; rfl) ?_
  refine takeL (i := 14) (d := 63) rfl rfl (by kernel_rfl) (by kernel_rfl) (by kernel_rfl) (fun _ _ _ h => hQ _ _ _ _ h) (yieldsIf_load_mid (by rfl) 26 (.tmp 62) rfl bh 0 rfl (nl 16 (idb self)) _ (fun _ h => range_later h rs) Yba.underlying26 rfl (i26 16 _)) hT2 (by simp only [List.set_cons_succ, List.set_cons_zero]; rfl) ?_
  refine takeL (i := 15) (d := 64) (v := .bool true) rfl rfl (by kernel_rfl) (by kernel_rfl) (by kernel_rfl) (fun _ _ _ h => hQ _ _ _ _ h) (Or.inl ⟨by rfl, fun W _ => ne_bin eqF (x := .tmp 61) (y := .tmp 63) rfl rfl rfl W⟩) hT2 (by simp only [List.set_cons_succ, List.set_cons_zero]; rfl) ?_
  refine takeL (i := 16) (d := 65) (v := .bool true) rfl rfl (by kernel_rfl) (by kernel_rfl) (by kernel_rfl) (fun _ _ _ h => hQ _ _ _ _ h) (Or.inl ⟨by rfl, fun _ h => by go_simp⟩) hT2 (by simp only [List.set_cons_succ, List.set_cons_zero]; rfl) ?_
  refine takeL (i := 17) (d := 66) (v := .bool true) rfl rfl (by kernel_rfl) (by kernel_rfl) (by kernel_rfl) (fun _ _ _ h => hQ _ _ _ _ h) (Or.inl ⟨by rfl, fun _ h => by go_simp⟩) hT2 (by simp only [List.set_cons_succ, List.set_cons_zero]; rfl) ?_
  refine takeL (i := 18) (d := 67) rfl rfl (by kernel_rfl) (by kernel_rfl) (by kernel_rfl) (fun _ _ _ h => hQ _ _ _ _ h) (yieldsIf_load_mid (by rfl) 26 (.tmp 11) rfl b11 0 rfl (nl 16 (idb s)) _ (fun _ h => range_later h r11) Yba.underlying26 rfl (i26 16 _)) hT2 (by simp only [List.set_cons_succ, List.set_cons_zero]; rfl) ?_
  refine takeL (i := 19) (d := 68) (v := .pointer (some ⟨bh, 0, none⟩)) rfl rfl (by kernel_rfl) (by kernel_rfl) (by kernel_rfl) (fun _ _ _ h => hQ _ _ _ _ h) (Or.inl ⟨by rfl, fun _ h => by go_simp⟩) hT2 (by simp only [List.set_cons_succ, List.set_cons_zero]; rfl) ?_
  refine takeL (i := 20) (d := 69) rfl rfl (by kernel_rfl) (by kernel_rfl) (by kernel_rfl) (fun _ _ _ h => hQ _ _ _ _ h) (yieldsIf_load_mid (by rfl) 26 (.tmp 68) rfl bh 0 rfl (nl 16 (idb self)) _ (fun _ h => range_later h rs) Yba.underlying26 rfl (i26 16 _)) hT2 (by simp only [List.set_cons_succ, List.set_cons_zero]; rfl) ?_
  refine takeL (i := 21) (d := 70) (v := .bool true) rfl rfl (by kernel_rfl) (by kernel_rfl) (by kernel_rfl) (fun _ _ _ h => hQ _ _ _ _ h) (Or.inl ⟨by rfl, fun W _ => eq_bin eqS (x := .tmp 67) (y := .tmp 69) rfl rfl rfl W⟩) hT2 (by simp only [List.set_cons_succ, List.set_cons_zero]; rfl) ?_
  refine takeL (i := 22) (d := 71) (v := .bool true) rfl rfl (by kernel_rfl) (by kernel_rfl) (by kernel_rfl) (fun _ _ _ h => hQ _ _ _ _ h) (Or.inl ⟨by rfl, fun _ h => by go_simp⟩) hT2 (by simp only [List.set_cons_succ, List.set_cons_zero]; rfl) ?_
  refine takeL (i := 23) (d := 72) (v := undef) rfl rfl (by kernel_rfl) (by kernel_rfl) (by kernel_rfl) (fun _ _ _ h => hQ _ _ _ _ h) (Or.inr ⟨by rfl, rfl⟩) hT2 (by simp only [List.set_cons_succ, List.set_cons_zero]; rfl) ?_
  refine takeL (i := 24) (d := 73) (v := undef) rfl rfl (by kernel_rfl) (by kernel_rfl) (by kernel_rfl) (fun _ _ _ h => hQ _ _ _ _ h) (Or.inr ⟨by rfl, rfl⟩) hT2 (by simp only [List.set_cons_succ, List.set_cons_zero]; rfl) ?_
  refine takeL (i := 25) (d := 74) (v := undef) rfl rfl (by kernel_rfl) (by kernel_rfl) (by kernel_rfl) (fun _ _ _ h => hQ _ _ _ _ h) (Or.inr ⟨by rfl, rfl⟩) hT2 (by simp only [List.set_cons_succ, List.set_cons_zero]; rfl) ?_
  refine takeL (i := 26) (d := 75) (v := undef) rfl rfl (by kernel_rfl) (by kernel_rfl) (by kernel_rfl) (fun _ _ _ h => hQ _ _ _ _ h) (Or.inr ⟨by rfl, rfl⟩) hT2 (by simp only [List.set_cons_succ, List.set_cons_zero]; rfl) ?_
  refine takeL (i := 27) (d := 76) (v := undef) rfl rfl (by kernel_rfl) (by kernel_rfl) (by kernel_rfl) (fun _ _ _ h => hQ _ _ _ _ h) (Or.inr ⟨by rfl, rfl⟩) hT2 (by simp only [List.set_cons_succ, List.set_cons_zero]; rfl) ?_
  refine takeL (i := 28) (d := 77) (v := undef) rfl rfl (by kernel_rfl) (by kernel_rfl) (by kernel_rfl) (fun _ _ _ h => hQ _ _ _ _ h) (Or.inr ⟨by rfl, rfl⟩) hT2 (by simp only [List.set_cons_succ, List.set_cons_zero]; rfl) ?_
  refine takeL (i := 29) (d := 78) (v := undef) rfl rfl (by kernel_rfl) (by kernel_rfl) (by kernel_rfl) (fun _ _ _ h => hQ _ _ _ _ h) (Or.inr ⟨by rfl, rfl⟩) hT2 (by simp only [List.set_cons_succ, List.set_cons_zero]; rfl) ?_
  refine takeL (i := 30) (d := 79) (v := undef) rfl rfl (by kernel_rfl) (by kernel_rfl) (by kernel_rfl) (fun _ _ _ h => hQ _ _ _ _ h) (Or.inr ⟨by rfl, rfl⟩) hT2 (by simp only [List.set_cons_succ, List.set_cons_zero]; rfl) ?_
  refine takeL (i := 31) (d := 80) (v := undef) rfl rfl (by kernel_rfl) (by kernel_rfl) (by kernel_rfl) (fun _ _ _ h => hQ _ _ _ _ h) (Or.inr ⟨by rfl, rfl⟩) hT2 (by simp only [List.set_cons_succ, List.set_cons_zero]; rfl) ?_
  refine takeL (i := 32) (d := 81) (v := .bool true) rfl rfl (by kernel_rfl) (by kernel_rfl) (by kernel_rfl) (fun _ _ _ h => hQ _ _ _ _ h) (Or.inl ⟨by rfl, fun _ h => by go_simp⟩) hT2 (by simp only [List.set_cons_succ, List.set_cons_zero]; rfl) ?_
  refine takeL (i := 33) (d := 82) (v := .bool true) rfl rfl (by kernel_rfl) (by kernel_rfl) (by kernel_rfl) (fun _ _ _ h => hQ _ _ _ _ h) (Or.inl ⟨by rfl, fun _ h => by go_simp⟩) hT2 (by simp only [List.set_cons_succ, List.set_cons_zero]; rfl) ?_
  refine wpAnyH_done (by kernel_rfl) ?_ _
  exact hend _ _ _ _ _ _ _ _ _ _ _ _ _ _ _ _ _ _ _ _ _ _ _ _ _ _ _ _ _ _ _ _ _ _ hT2

set_option maxRecDepth 100000 in
set_option maxHeartbeats 4000000 in
theorem skipD (c : Code) (hc : Yba.f7.body.bind (regCode 11) = some c) (Q : Exit → Act → World → Prop) (hQ : ∀ ch a a' w, Q (.panic ch) a w → Q (.panic ch) a' w) (W : World) (b15 b11 bh pp : Nat) (f s self : Int) (hf : 0 ≤ f ∧ f ≤ 255) (hs : 0 ≤ s ∧ s ≤ 255) (hself : 0 ≤ self ∧ self ≤ 255) (hfs : (f == self) = false) (hss : (s == self) = false)
    (c15 : W.cell? ⟨b15, 0, none⟩ = some (.pointer (some ⟨pp, 0, none⟩))) (rP : W.rangeAt pp 14 (nl 16 (idb f))) (r11 : W.rangeAt b11 0 (nl 16 (idb s))) (rs : W.rangeAt bh 0 (nl 16 (idb self))) (u0 u1 u2 u3 u4 u6 u7 u8 u9 u10 u12 u13 u14 u16 u17 u18 u19 u20 u21 u22 u23 u24 u25 u26 u27 u28 u29 u30 u31 u32 u33 u34 u35 u36 u37 u38 u39 u40 u41 u42 u43 u44 u45 u46 u47 u48 u49 u50 u51 u52 u53 u54 u55 u56 u57 u58 u59 u60 u61 u62 u63 u64 u65 u66 u67 u68 u69 u70 u71 u72 u73 u74 u75 u76 u77 u78 u79 u80 u81 u82 u83 u84 u85 u86 u87 u88 u89 u90 u91 u92 u93 u94 u95 u96 u97 u98 u99 u100 u101 : Value)
    (hend : ∀ (v49 v50 v51 v52 v53 v54 v55 v56 v57 v58 v59 v60 v61 v62 v63 v64 v65 v66 v67 v68 v69 v70 v71 v72 v73 v74 v75 v76 v77 v78 v79 v80 v81 : Value) (W' : World), Below W.heap.size W W' → Q .normal ⟨#[u0, u1, u2, u3, u4, .pointer (some ⟨bh, 0, none⟩), u6, u7, u8, u9, u10, .pointer (some ⟨b11, 0, none⟩), u12, u13, u14, .pointer (some ⟨b15, 0, none⟩), u16, u17, u18, u19, u20, u21, u22, u23, u24, u25, u26, u27, u28, u29, u30, u31, u32, u33, u34, u35, u36, u37, u38, u39, u40, u41, u42, u43, u44, u45, u46, u47, u48, v49, v50, v51, v52, v53, v54, v55, v56, v57, v58, v59, v60, v61, v62, v63, v64, v65, v66, v67, v68, v69, v70, v71, v72, v73, v74, v75, v76, v77, v78, v79, v80, v81, .bool (wi f s self), u83, u84, u85, u86, u87, u88, u89, u90, u91, u92, u93, u94, u95, u96, u97, u98, u99, u100, u101], []⟩ W') :
    c.wp Yba.prog Q ⟨#[u0, u1, u2, u3, u4, .pointer (some ⟨bh, 0, none⟩), u6, u7, u8, u9, u10, .pointer (some ⟨b11, 0, none⟩), u12, u13, u14, .pointer (some ⟨b15, 0, none⟩), u16, u17, u18, u19, u20, u21, u22, u23, u24, u25, u26, u27, u28, u29, u30, u31, u32, u33, u34, u35, u36, u37, u38, u39, u40, u41, u42, u43, u44, u45, u46, u47, u48, u49, u50, u51, u52, u53, u54, u55, u56, u57, u58, u59, u60, u61, u62, u63, u64, u65, u66, u67, u68, u69, u70, u71, u72, u73, u74, u75, u76, u77, u78, u79, u80, u81, u82, u83, u84, u85, u86, u87, u88, u89, u90, u91, u92, u93, u94, u95, u96, u97, u98, u99, u100, u101], []⟩ W := by
  obtain rfl : c = ((Yba.f7.body.bind (regCode 11)).getD .skip) := by rw [hc]; rfl
  clear hc
  conv => arg 2; whnf
  dsimp only
  have eqF := fun W => eq_ids hf hself W
  rw [hfs] at eqF
  have eqS := fun W => eq_ids hs hself W
  rw [hss] at eqS
  refine wp_region_held_drew (S := Below W.heap.size W) (by kernel_rfl) (Below.refl _ _).drew (fun hT1 => ?_)
  refine takeL (i := 0) (d := 49) (v := .pointer (some ⟨b15, 0, none⟩)) rfl rfl (by kernel_rfl) (by kernel_rfl) (by kernel_rfl) (fun _ _ _ h => hQ _ _ _ _ h) (Or.inl ⟨by rfl, fun _ h => by go_simp⟩) hT1 (by simp only [List.set_cons_succ, List.set_cons_zero]; rfl) ?_
  refine takeL (i := 1) (d := 50) (v := .pointer (some ⟨pp, 0, none⟩)) rfl rfl (by kernel_rfl) (by kernel_rfl) (by kernel_rfl) (fun _ _ _ h => hQ _ _ _ _ h) (Or.inl ⟨by rfl, fun _ h => by have e0 := cell_later h c15; go_simp⟩) hT1 (by simp only [List.set_cons_succ, List.set_cons_zero]; rfl) ?_
  refine takeL (i := 2) (d := 51) (v := .pointer (some ⟨pp, 0, none⟩)) rfl rfl (by kernel_rfl) (by kernel_rfl) (by kernel_rfl) (fun _ _ _ h => hQ _ _ _ _ h) (Or.inl ⟨by rfl, fun _ h => by go_simp⟩) hT1 (by simp only [List.set_cons_succ, List.set_cons_zero]; rfl) ?_
  refine takeL (i := 3) (d := 52) (v := .pointer (some ⟨pp, 14, none⟩)) rfl rfl (by kernel_rfl) (by kernel_rfl) (by kernel_rfl) (fun _ _ _ h => hQ _ _ _ _ h) (Or.inl ⟨by rfl, fun _ h => by go_simp⟩) hT1 (by simp only [List.set_cons_succ, List.set_cons_zero]; rfl) ?_
  refine takeL (i := 4) (d := 53) rfl rfl (by kernel_rfl) (by kernel_rfl) (by kernel_rfl) (fun _ _ _ h => hQ _ _ _ _ h) (yieldsIf_load_mid (by rfl) 26 (.tmp 52) rfl pp 14 rfl (nl 16 (idb f)) _ (fun _ h => range_later h rP) Yba.underlying26 rfl (i26 16 _)) hT1 (by simp only [List.set_cons_succ, List.set_cons_zero]; rfl) ?_
  refine wpAnyH_ready (rs := [5]) (by kernel_rfl) (by simp) ?_
  refine AllReadyH.cons (i := 5) rfl (fun K hK => ?_) AllReadyH.nil
  rw [if_pos (by rfl)]
  go_simp
  refine (len_any 16 (by omega) (by omega) (idb f) _).mono ?_
  rintro e W11 ⟨rfl, bW11⟩
  refine hK.out _ _ (hT1.trans (bW11.mono hT1.size)) (fun hT2 => ?_)
  clear hK K
  refine takeL (i := 6) (d := 55) (v := .bool true) rfl rfl (by kernel_rfl) (by kernel_rfl) (by kernel_rfl) (fun _ _ _ h => hQ _ _ _ _ h) (Or.inl ⟨by rfl, fun _ h => by go_simp⟩) hT2 (by simp only [List.set_cons_succ, List.set_cons_zero]; rfl) ?_
  refine takeL (i := 7) (d := 56) (v := .bool true) rfl rfl (by kernel_rfl) (by kernel_rfl) (by kernel_rfl) (fun _ _ _ h => hQ _ _ _ _ h) (Or.inl ⟨by rfl, fun _ h => by go_simp⟩) hT2 (by simp only [List.set_cons_succ, List.set_cons_zero]; rfl) ?_
  refine takeL (i := 8) (d := 57) (v := .pointer (some ⟨b15, 0, none⟩)) rfl rfl (by kernel_rfl) (by kernel_rfl) (by kernel_rfl) (fun _ _ _ h => hQ _ _ _ _ h) (Or.inl ⟨by rfl, fun _ h => by go_simp⟩) hT2 (by simp only [List.set_cons_succ, List.set_cons_zero]; rfl) ?_
  refine takeL (i := 9) (d := 58) (v := .pointer (some ⟨pp, 0, none⟩)) rfl rfl (by kernel_rfl) (by kernel_rfl) (by kernel_rfl) (fun _ _ _ h => hQ _ _ _ _ h) (Or.inl ⟨by rfl, fun _ h => by have e0 := cell_later h c15; go_simp⟩) hT2 (by simp only [List.set_cons_succ, List.set_cons_zero]; rfl) ?_
  refine takeL (i := 10) (d := 59) (v := .pointer (some ⟨pp, 0, none⟩)) rfl rfl (by kernel_rfl) (by kernel_rfl) (by kernel_rfl) (fun _ _ _ h => hQ _ _ _ _ h) (Or.inl ⟨by rfl, fun _ h => by go_simp⟩) hT2 (by simp only [List.set_cons_succ, List.set_cons_zero]; rfl) ?_
  refine takeL (i := 11) (d := 60) (v := .pointer (some ⟨pp, 14, none⟩)) rfl rfl (by kernel_rfl) (by kernel_rfl) (by kernel_rfl) (fun _ _ _ h => hQ _ _ _ _ h) (Or.inl ⟨by rfl, fun _ h => by go_simp⟩) hT2 (by simp only [List.set_cons_succ, List.set_cons_zero]; rfl) ?_
  refine takeL (i := 12) (d := 61) rfl rfl (by kernel_rfl) (by kernel_rfl) (by kernel_rfl) (fun _ _ _ h => hQ _ _ _ _ h) (yieldsIf_load_mid (by rfl) 26 (.tmp 60) rfl pp 14 rfl (nl 16 (idb f)) _ (fun _ h => range_later h rP) Yba.underlying26 rfl (i26 16 _)) hT2 (by simp only [List.set_cons_succ, List.set_cons_zero]; rfl) ?_
  refine takeL (i := 13) (d := 62) (v := .pointer (some ⟨bh, 0, none⟩)) rfl rfl (by kernel_rfl) (by kernel_rfl) (by kernel_rfl) (fun _ _ _ h => hQ _ _ _ _ h) (Or.inl ⟨by rfl, fun _ h => by go_simp⟩) hT2 (by simp only [List.set_cons_succ, List.set_cons_zero]; rfl) ?_
  refine takeL (i := 14) (d := 63) rfl rfl (by kernel_rfl) (by kernel_rfl) (by kernel_rfl) (fun _ _ _ h => hQ _ _ _ _ h) (yieldsIf_load_mid (by rfl) 26 (.tmp 62) rfl bh 0 rfl (nl 16 (idb self)) _ (fun _ h => range_later h rs) Yba.underlying26 rfl (i26 16 _)) hT2 (by simp only [List.set_cons_succ, List.set_cons_zero]; rfl) ?_
  refine takeL (i := 15) (d := 64) (v := .bool true) rfl rfl (by kernel_rfl) (by kernel_rfl) (by kernel_rfl) (fun _ _ _ h => hQ _ _ _ _ h) (Or.inl ⟨by rfl, fun W _ => ne_bin eqF (x := .tmp 61) (y := .tmp 63) rfl rfl rfl W⟩) hT2 (by simp only [List.set_cons_succ, List.set_cons_zero]; rfl) ?_
  refine takeL (i := 16) (d := 65) (v := .bool true) rfl rfl (by kernel_rfl) (by kernel_rfl) (by kernel_rfl) (fun _ _ _ h => hQ _ _ _ _ h) (Or.inl ⟨by rfl, fun _ h => by go_simp⟩) hT2 (by simp only [List.set_cons_succ, List.set_cons_zero]; rfl) ?_
  refine takeL (i := 17) (d := 66) (v := .bool true) rfl rfl (by kernel_rfl) (by kernel_rfl) (by kernel_rfl) (fun _ _ _ h => hQ _ _ _ _ h) (Or.inl ⟨by rfl, fun _ h => by go_simp⟩) hT2 (by simp only [List.set_cons_succ, List.set_cons_zero]; rfl) ?_
  refine takeL (i := 18) (d := 67) rfl rfl (by kernel_rfl) (by kernel_rfl) (by kernel_rfl) (fun _ _ _ h => hQ _ _ _ _ h) (yieldsIf_load_mid (by rfl) 26 (.tmp 11) rfl b11 0 rfl (nl 16 (idb s)) _ (fun _ h => range_later h r11) Yba.underlying26 rfl (i26 16 _)) hT2 (by simp only [List.set_cons_succ, List.set_cons_zero]; rfl) ?_
  refine takeL (i := 19) (d := 68) (v := .pointer (some ⟨bh, 0, none⟩)) rfl rfl (by kernel_rfl) (by kernel_rfl) (by kernel_rfl) (fun _ _ _ h => hQ _ _ _ _ h) (Or.inl ⟨by rfl, fun _ h => by go_simp⟩) hT2 (by simp only [List.set_cons_succ, List.set_cons_zero]; rfl) ?_
  refine takeL (i := 20) (d := 69) rfl rfl (by kernel_rfl) (by kernel_rfl) (by kernel_rfl) (fun _ _ _ h => hQ _ _ _ _ h) (yieldsIf_load_mid (by rfl) 26 (.tmp 68) rfl bh 0 rfl (nl 16 (idb self)) _ (fun _ h => range_later h rs) Yba.underlying26 rfl (i26 16 _)) hT2 (by simp only [List.set_cons_succ, List.set_cons_zero]; rfl) ?_
  refine takeL (i := 21) (d := 70) (v := .bool false) rfl rfl (by kernel_rfl) (by kernel_rfl) (by kernel_rfl) (fun _ _ _ h => hQ _ _ _ _ h) (Or.inl ⟨by rfl, fun W _ => eq_bin eqS (x := .tmp 67) (y := .tmp 69) rfl rfl rfl W⟩) hT2 (by simp only [List.set_cons_succ, List.set_cons_zero]; rfl) ?_
  refine takeL (i := 22) (d := 71) (v := .bool false) rfl rfl (by kernel_rfl) (by kernel_rfl) (by kernel_rfl) (fun _ _ _ h => hQ _ _ _ _ h) (Or.inl ⟨by rfl, fun _ h => by go_simp⟩) hT2 (by simp only [List.set_cons_succ, List.set_cons_zero]; rfl) ?_
  refine takeL (i := 23) (d := 72) (v := .pointer (some ⟨b15, 0, none⟩)) rfl rfl (by kernel_rfl) (by kernel_rfl) (by kernel_rfl) (fun _ _ _ h => hQ _ _ _ _ h) (Or.inl ⟨by rfl, fun _ h => by go_simp⟩) hT2 (by simp only [List.set_cons_succ, List.set_cons_zero]; rfl) ?_
  refine takeL (i := 24) (d := 73) (v := .pointer (some ⟨pp, 0, none⟩)) rfl rfl (by kernel_rfl) (by kernel_rfl) (by kernel_rfl) (fun _ _ _ h => hQ _ _ _ _ h) (Or.inl ⟨by rfl, fun _ h => by have e0 := cell_later h c15; go_simp⟩) hT2 (by simp only [List.set_cons_succ, List.set_cons_zero]; rfl) ?_
  refine takeL (i := 25) (d := 74) (v := .pointer (some ⟨pp, 0, none⟩)) rfl rfl (by kernel_rfl) (by kernel_rfl) (by kernel_rfl) (fun _ _ _ h => hQ _ _ _ _ h) (Or.inl ⟨by rfl, fun _ h => by go_simp⟩) hT2 (by simp only [List.set_cons_succ, List.set_cons_zero]; rfl) ?_
  refine takeL (i := 26) (d := 75) (v := .pointer (some ⟨pp, 14, none⟩)) rfl rfl (by kernel_rfl) (by kernel_rfl) (by kernel_rfl) (fun _ _ _ h => hQ _ _ _ _ h) (Or.inl ⟨by rfl, fun _ h => by go_simp⟩) hT2 (by simp only [List.set_cons_succ, List.set_cons_zero]; rfl) ?_
  refine takeL (i := 27) (d := 76) rfl rfl (by kernel_rfl) (by kernel_rfl) (by kernel_rfl) (fun _ _ _ h => hQ _ _ _ _ h) (yieldsIf_load_mid (by rfl) 26 (.tmp 75) rfl pp 14 rfl (nl 16 (idb f)) _ (fun _ h => range_later h rP) Yba.underlying26 rfl (i26 16 _)) hT2 (by simp only [List.set_cons_succ, List.set_cons_zero]; rfl) ?_
  refine takeL (i := 28) (d := 77) rfl rfl (by kernel_rfl) (by kernel_rfl) (by kernel_rfl) (fun _ _ _ h => hQ _ _ _ _ h) (yieldsIf_load_mid (by rfl) 26 (.tmp 11) rfl b11 0 rfl (nl 16 (idb s)) _ (fun _ h => range_later h r11) Yba.underlying26 rfl (i26 16 _)) hT2 (by simp only [List.set_cons_succ, List.set_cons_zero]; rfl) ?_
  refine takeL (i := 29) (d := 78) (v := .pointer (some ⟨bh, 0, none⟩)) rfl rfl (by kernel_rfl) (by kernel_rfl) (by kernel_rfl) (fun _ _ _ h => hQ _ _ _ _ h) (Or.inl ⟨by rfl, fun _ h => by go_simp⟩) hT2 (by simp only [List.set_cons_succ, List.set_cons_zero]; rfl) ?_
  refine takeL (i := 30) (d := 79) rfl rfl (by kernel_rfl) (by kernel_rfl) (by kernel_rfl) (fun _ _ _ h => hQ _ _ _ _ h) (yieldsIf_load_mid (by rfl) 26 (.tmp 78) rfl bh 0 rfl (nl 16 (idb self)) _ (fun _ h => range_later h rs) Yba.underlying26 rfl (i26 16 _)) hT2 (by simp only [List.set_cons_succ, List.set_cons_zero]; rfl) ?_
  refine wpAnyH_ready (rs := [31]) (by kernel_rfl) (by simp) ?_
  refine AllReadyH.cons (i := 31) rfl (fun K hK => ?_) AllReadyH.nil
  rw [if_pos (by rfl)]
  go_simp
  refine (within_any f s self hf hs hself _).mono ?_
  rintro e W12 ⟨rfl, bW12⟩
  refine hK.out _ _ (hT2.trans (bW12.mono hT2.size)) (fun hT3 => ?_)
  clear hK K
  refine takeL (i := 32) (d := 81) (v := .bool (wi f s self)) rfl rfl (by kernel_rfl) (by kernel_rfl) (by kernel_rfl) (fun _ _ _ h => hQ _ _ _ _ h) (Or.inl ⟨by rfl, fun _ h => by go_simp⟩) hT3 (by simp only [List.set_cons_succ, List.set_cons_zero]; rfl) ?_
  refine takeL (i := 33) (d := 82) (v := .bool (wi f s self)) rfl rfl (by kernel_rfl) (by kernel_rfl) (by kernel_rfl) (fun _ _ _ h => hQ _ _ _ _ h) (Or.inl ⟨by rfl, fun _ h => by go_simp⟩) hT3 (by simp only [List.set_cons_succ, List.set_cons_zero]; rfl) ?_
  refine wpAnyH_done (by kernel_rfl) ?_ _
  exact hend _ _ _ _ _ _ _ _ _ _ _ _ _ _ _ _ _ _ _ _ _ _ _ _ _ _ _ _ _ _ _ _ _ _ hT3
set_option maxRecDepth 100000 in
/-- handBacks' test whether value i is left out, whatever the order. -/
theorem skip_any (c : Code) (hc : Yba.f7.body.bind (regCode 11) = some c) (Q : Exit → Act → World → Prop) (hQ : ∀ ch a a' w, Q (.panic ch) a w → Q (.panic ch) a' w) (W : World) (b15 b11 bh pp : Nat) (hf : Nat → Bool) (fr : Nat → Int) (i : Nat) (s self : Int) (hfi : 0 ≤ fr i ∧ fr i ≤ 255) (hs : 0 ≤ s ∧ s ≤ 255) (hself : 0 ≤ self ∧ self ≤ 255)
    (c15 : W.cell? ⟨b15, 0, none⟩ = some (.pointer (some ⟨pp, 0, none⟩))) (rP : W.rangeAt pp 14 (nl (sfn hf i) (sfa hf fr i))) (r11 : W.rangeAt b11 0 (nl 16 (idb s))) (rs : W.rangeAt bh 0 (nl 16 (idb self))) (u0 u1 u2 u3 u4 u6 u7 u8 u9 u10 u12 u13 u14 u16 u17 u18 u19 u20 u21 u22 u23 u24 u25 u26 u27 u28 u29 u30 u31 u32 u33 u34 u35 u36 u37 u38 u39 u40 u41 u42 u43 u44 u45 u46 u47 u48 u49 u50 u51 u52 u53 u54 u55 u56 u57 u58 u59 u60 u61 u62 u63 u64 u65 u66 u67 u68 u69 u70 u71 u72 u73 u74 u75 u76 u77 u78 u79 u80 u81 u82 u83 u84 u85 u86 u87 u88 u89 u90 u91 u92 u93 u94 u95 u96 u97 u98 u99 u100 u101 : Value)
    (hend : ∀ (v49 v50 v51 v52 v53 v54 v55 v56 v57 v58 v59 v60 v61 v62 v63 v64 v65 v66 v67 v68 v69 v70 v71 v72 v73 v74 v75 v76 v77 v78 v79 v80 v81 : Value) (W' : World), Below W.heap.size W W' → Q .normal ⟨#[u0, u1, u2, u3, u4, .pointer (some ⟨bh, 0, none⟩), u6, u7, u8, u9, u10, .pointer (some ⟨b11, 0, none⟩), u12, u13, u14, .pointer (some ⟨b15, 0, none⟩), u16, u17, u18, u19, u20, u21, u22, u23, u24, u25, u26, u27, u28, u29, u30, u31, u32, u33, u34, u35, u36, u37, u38, u39, u40, u41, u42, u43, u44, u45, u46, u47, u48, v49, v50, v51, v52, v53, v54, v55, v56, v57, v58, v59, v60, v61, v62, v63, v64, v65, v66, v67, v68, v69, v70, v71, v72, v73, v74, v75, v76, v77, v78, v79, v80, v81, .bool (!keepI hf fr self s i), u83, u84, u85, u86, u87, u88, u89, u90, u91, u92, u93, u94, u95, u96, u97, u98, u99, u100, u101], []⟩ W') :
    c.wp Yba.prog Q ⟨#[u0, u1, u2, u3, u4, .pointer (some ⟨bh, 0, none⟩), u6, u7, u8, u9, u10, .pointer (some ⟨b11, 0, none⟩), u12, u13, u14, .pointer (some ⟨b15, 0, none⟩), u16, u17, u18, u19, u20, u21, u22, u23, u24, u25, u26, u27, u28, u29, u30, u31, u32, u33, u34, u35, u36, u37, u38, u39, u40, u41, u42, u43, u44, u45, u46, u47, u48, u49, u50, u51, u52, u53, u54, u55, u56, u57, u58, u59, u60, u61, u62, u63, u64, u65, u66, u67, u68, u69, u70, u71, u72, u73, u74, u75, u76, u77, u78, u79, u80, u81, u82, u83, u84, u85, u86, u87, u88, u89, u90, u91, u92, u93, u94, u95, u96, u97, u98, u99, u100, u101], []⟩ W := by
  cases hfb : hf i with
  | false =>
    have hsn : sfn hf i = 0 := by unfold sfn; rw [hfb]; rfl
    have hsa : sfa hf fr i = fun _ => 0 := by unfold sfa; rw [hfb]; rfl
    rw [hsn, hsa] at rP
    have hk : (!keepI hf fr self s i) = false := by unfold keepI; rw [hfb]; rfl
    refine skipA c hc Q hQ W b15 b11 bh pp c15 rP u0 u1 u2 u3 u4 u6 u7 u8 u9 u10 u12 u13 u14 u16 u17 u18 u19 u20 u21 u22 u23 u24 u25 u26 u27 u28 u29 u30 u31 u32 u33 u34 u35 u36 u37 u38 u39 u40 u41 u42 u43 u44 u45 u46 u47 u48 u49 u50 u51 u52 u53 u54 u55 u56 u57 u58 u59 u60 u61 u62 u63 u64 u65 u66 u67 u68 u69 u70 u71 u72 u73 u74 u75 u76 u77 u78 u79 u80 u81 u82 u83 u84 u85 u86 u87 u88 u89 u90 u91 u92 u93 u94 u95 u96 u97 u98 u99 u100 u101 (fun v49 v50 v51 v52 v53 v54 v55 v56 v57 v58 v59 v60 v61 v62 v63 v64 v65 v66 v67 v68 v69 v70 v71 v72 v73 v74 v75 v76 v77 v78 v79 v80 v81 W' hb => ?_)
    have h := hend v49 v50 v51 v52 v53 v54 v55 v56 v57 v58 v59 v60 v61 v62 v63 v64 v65 v66 v67 v68 v69 v70 v71 v72 v73 v74 v75 v76 v77 v78 v79 v80 v81 W' hb
    rw [hk] at h
    exact h
  | true =>
    have hsn : sfn hf i = 16 := by unfold sfn; rw [hfb]; rfl
    have hsa : sfa hf fr i = idb (fr i) := by unfold sfa; rw [hfb]; rfl
    rw [hsn, hsa] at rP
    cases hse : (fr i == self) with
    | true =>
      have hk : (!keepI hf fr self s i) = false := by unfold keepI bne; rw [hfb, hse]; rfl
      refine skipB c hc Q hQ W b15 b11 bh pp (fr i) self hfi hself hse c15 rP rs u0 u1 u2 u3 u4 u6 u7 u8 u9 u10 u12 u13 u14 u16 u17 u18 u19 u20 u21 u22 u23 u24 u25 u26 u27 u28 u29 u30 u31 u32 u33 u34 u35 u36 u37 u38 u39 u40 u41 u42 u43 u44 u45 u46 u47 u48 u49 u50 u51 u52 u53 u54 u55 u56 u57 u58 u59 u60 u61 u62 u63 u64 u65 u66 u67 u68 u69 u70 u71 u72 u73 u74 u75 u76 u77 u78 u79 u80 u81 u82 u83 u84 u85 u86 u87 u88 u89 u90 u91 u92 u93 u94 u95 u96 u97 u98 u99 u100 u101 (fun v49 v50 v51 v52 v53 v54 v55 v56 v57 v58 v59 v60 v61 v62 v63 v64 v65 v66 v67 v68 v69 v70 v71 v72 v73 v74 v75 v76 v77 v78 v79 v80 v81 W' hb => ?_)
      have h := hend v49 v50 v51 v52 v53 v54 v55 v56 v57 v58 v59 v60 v61 v62 v63 v64 v65 v66 v67 v68 v69 v70 v71 v72 v73 v74 v75 v76 v77 v78 v79 v80 v81 W' hb
      rw [hk] at h
      exact h
    | false =>
      cases hss : (s == self) with
      | true =>
        have hk : (!keepI hf fr self s i) = true := by unfold keepI bne; rw [hfb, hse, hss]; rfl
        refine skipC c hc Q hQ W b15 b11 bh pp (fr i) s self hfi hs hself hse hss c15 rP r11 rs u0 u1 u2 u3 u4 u6 u7 u8 u9 u10 u12 u13 u14 u16 u17 u18 u19 u20 u21 u22 u23 u24 u25 u26 u27 u28 u29 u30 u31 u32 u33 u34 u35 u36 u37 u38 u39 u40 u41 u42 u43 u44 u45 u46 u47 u48 u49 u50 u51 u52 u53 u54 u55 u56 u57 u58 u59 u60 u61 u62 u63 u64 u65 u66 u67 u68 u69 u70 u71 u72 u73 u74 u75 u76 u77 u78 u79 u80 u81 u82 u83 u84 u85 u86 u87 u88 u89 u90 u91 u92 u93 u94 u95 u96 u97 u98 u99 u100 u101 (fun v49 v50 v51 v52 v53 v54 v55 v56 v57 v58 v59 v60 v61 v62 v63 v64 v65 v66 v67 v68 v69 v70 v71 v72 v73 v74 v75 v76 v77 v78 v79 v80 v81 W' hb => ?_)
        have h := hend v49 v50 v51 v52 v53 v54 v55 v56 v57 v58 v59 v60 v61 v62 v63 v64 v65 v66 v67 v68 v69 v70 v71 v72 v73 v74 v75 v76 v77 v78 v79 v80 v81 W' hb
        rw [hk] at h
        exact h
      | false =>
        have hk : (!keepI hf fr self s i) = wi (fr i) s self := by unfold keepI bne; rw [hfb, hse, hss]; simp
        refine skipD c hc Q hQ W b15 b11 bh pp (fr i) s self hfi hs hself hse hss c15 rP r11 rs u0 u1 u2 u3 u4 u6 u7 u8 u9 u10 u12 u13 u14 u16 u17 u18 u19 u20 u21 u22 u23 u24 u25 u26 u27 u28 u29 u30 u31 u32 u33 u34 u35 u36 u37 u38 u39 u40 u41 u42 u43 u44 u45 u46 u47 u48 u49 u50 u51 u52 u53 u54 u55 u56 u57 u58 u59 u60 u61 u62 u63 u64 u65 u66 u67 u68 u69 u70 u71 u72 u73 u74 u75 u76 u77 u78 u79 u80 u81 u82 u83 u84 u85 u86 u87 u88 u89 u90 u91 u92 u93 u94 u95 u96 u97 u98 u99 u100 u101 (fun v49 v50 v51 v52 v53 v54 v55 v56 v57 v58 v59 v60 v61 v62 v63 v64 v65 v66 v67 v68 v69 v70 v71 v72 v73 v74 v75 v76 v77 v78 v79 v80 v81 W' hb => ?_)
        have h := hend v49 v50 v51 v52 v53 v54 v55 v56 v57 v58 v59 v60 v61 v62 v63 v64 v65 v66 v67 v68 v69 v70 v71 v72 v73 v74 v75 v76 v77 v78 v79 v80 v81 W' hb
        rw [hk] at h
        exact h
end Go.Proofs.Ybulkddqw
