/-
  The law: region 77 (it draws its order; its later operations are guarded), the count of a leader's resources (block 14), the comparison with what was handed back (block 16).
-/
import Derived.Test.YbulkddqwFill
import Derived.Test.YbulkddqwEqual
namespace Go.Proofs.Ybulkddqw
open Go.RowKit Go.Maps Go.ChangeMaps
theorem yielded_of {ops : Array Oper} {tmps : Array Value} {j d : Nat} {oj : Oper} {b : Bool} (h : ops[j]? = some oj) (hd : oj.dst = some d) (ht : tmps[d]? = some (.bool b)) : yielded ops tmps j = some b := by
  unfold yielded
  rw [h]
  simp [hd, ht]
theorem if_wanted {p : Bool} {A B : Prop} (h : p = true) (ha : A) : if p = true then A else B := by rw [if_pos h]; exact ha
theorem wrap_r {r : Nat} (h : r < 256) : IntKind.u8.wrap (r : Int) = (r : Int) := by
  have e : IntKind.u8.wrap (r : Int) = (r : Int) % 256 := rfl
  rw [e]; omega
theorem wanted_of {o : Oper} {y : Nat → Option Bool} {j : Nat} {b c r : Bool} (hg : o.guard = some (j, b)) (hy : y j = some c) (hr : (c == b) = r) : Region.wanted o y = r := by
  unfold Region.wanted
  rw [hg]
  simp only [hy]
  subst hr
  cases c <;> cases b <;> rfl

set_option maxRecDepth 100000 in
set_option maxHeartbeats 4000000 in
theorem cmp_miss (c : Code) (hc : Yba.f3.body.bind (regCode 77) = some c) (Q : Exit → Act → World → Prop) (hQ : ∀ ch a a' w, Q (.panic ch) a w → Q (.panic ch) a' w) (W : World) (bl l r : Nat) (z : Int) (hr : r < 256) (cl : W.cell? ⟨bl, r, none⟩ = some (.int .i64 z)) (hz : (z == (l : Int)) = false) (a0 : Act) (z0 : Hid (a0.tmps.size = 289))
    (e24 : a0.tmps[24]? = some (.pointer (some ⟨bl, 0, none⟩))) (e36 : a0.tmps[36]? = some (.int .i64 (l : Int))) (e40 : a0.tmps[40]? = some (.int .i64 (r : Int))) 
    (hend : ∀ (a' : Act) (W' : World), SameBut 268 283 a0 a' → Below W.heap.size W W' → Q .normal (a'.put (some 284) (.bool false)) W') :
    c.wp Yba.prog Q a0 W := by
  obtain rfl : c = ((Yba.f3.body.bind (regCode 77)).getD .skip) := by rw [hc]; rfl
  clear hc
  have HE : Hid _ := hend
  clear hend
  conv => arg 2; whnf
  try dsimp only
  have i1 : (0 : Int) ≤ (r : Int) := by omega
  have i3 := wrap_r hr
  have i2 : (r : Int) < 256 := by omega
  refine wp_region_held_drew (S := Below W.heap.size W) (by kernel_rfl) (Below.refl _ _).drew (fun hT => ?_)
  have sb0 := SameBut.refl 268 283 a0
  refine takeA (i := 0) (d := 268) (v := .int .i64 (r : Int)) rfl rfl (by kernel_rfl) (by kernel_rfl) (by kernel_rfl) hQ (Or.inl ⟨by rfl, fun W9 h => by go_simp⟩) hT (fun a1 ha1 => ?_)
  have sb1 := sb0.put ha1 (by rfl)
  have e268 := put_same ha1 (by rw [z0.out]; decide)
  replace e24 := put_other ha1 (by rfl) e24
  replace e36 := put_other ha1 (by rfl) e36
  replace e40 := put_other ha1 (by rfl) e40
  have z1 : Hid (a1.tmps.size = 289) := put_size ha1 z0.out
  clear ha1 sb0 z0
  refine takeA (i := 1) (d := 269) (v := .pointer (some ⟨bl, r, none⟩)) rfl rfl (by kernel_rfl) (by kernel_rfl) (by kernel_rfl) hQ (Or.inl ⟨by rfl, fun W9 h => by go_simp⟩) hT (fun a2 ha2 => ?_)
  have sb2 := sb1.put ha2 (by rfl)
  have e269 := put_same ha2 (by rw [z1.out]; decide)
  replace e24 := put_other ha2 (by rfl) e24
  replace e36 := put_other ha2 (by rfl) e36
  replace e40 := put_other ha2 (by rfl) e40
  replace e268 := put_other ha2 (by rfl) e268
  have z2 : Hid (a2.tmps.size = 289) := put_size ha2 z1.out
  clear ha2 sb1 z1
  refine takeA (i := 2) (d := 270) (v := .int .i64 z) rfl rfl (by kernel_rfl) (by kernel_rfl) (by kernel_rfl) hQ (Or.inl ⟨by rfl, fun W9 h => by have f0 := cell_later h cl; go_simp⟩) hT (fun a3 ha3 => ?_)
  have sb3 := sb2.put ha3 (by rfl)
  have e270 := put_same ha3 (by rw [z2.out]; decide)
  replace e24 := put_other ha3 (by rfl) e24
  replace e36 := put_other ha3 (by rfl) e36
  replace e40 := put_other ha3 (by rfl) e40
  replace e268 := put_other ha3 (by rfl) e268
  replace e269 := put_other ha3 (by rfl) e269
  have z3 : Hid (a3.tmps.size = 289) := put_size ha3 z2.out
  clear ha3 sb2 z2
  refine takeA (i := 3) (d := 271) (v := .int .i64 (l : Int)) rfl rfl (by kernel_rfl) (by kernel_rfl) (by kernel_rfl) hQ (Or.inl ⟨by rfl, fun W9 h => by go_simp⟩) hT (fun a4 ha4 => ?_)
  have sb4 := sb3.put ha4 (by rfl)
  have e271 := put_same ha4 (by rw [z3.out]; decide)
  replace e24 := put_other ha4 (by rfl) e24
  replace e36 := put_other ha4 (by rfl) e36
  replace e40 := put_other ha4 (by rfl) e40
  replace e268 := put_other ha4 (by rfl) e268
  replace e269 := put_other ha4 (by rfl) e269
  replace e270 := put_other ha4 (by rfl) e270
  have z4 : Hid (a4.tmps.size = 289) := put_size ha4 z3.out
  clear ha4 sb3 z3
  refine takeA (i := 4) (d := 272) (v := .bool false) rfl rfl (by kernel_rfl) (by kernel_rfl) (by kernel_rfl) hQ (Or.inl ⟨by rfl, fun W9 h => by go_simp⟩) hT (fun a5 ha5 => ?_)
  have sb5 := sb4.put ha5 (by rfl)
  have e272 := put_same ha5 (by rw [z4.out]; decide)
  replace e24 := put_other ha5 (by rfl) e24
  replace e36 := put_other ha5 (by rfl) e36
  replace e40 := put_other ha5 (by rfl) e40
  replace e268 := put_other ha5 (by rfl) e268
  replace e269 := put_other ha5 (by rfl) e269
  replace e270 := put_other ha5 (by rfl) e270
  replace e271 := put_other ha5 (by rfl) e271
  have z5 : Hid (a5.tmps.size = 289) := put_size ha5 z4.out
  clear ha5 sb4 z4
  refine takeA (i := 5) (d := 273) (v := .bool false) rfl rfl (by kernel_rfl) (by kernel_rfl) (by kernel_rfl) hQ (Or.inl ⟨by rfl, fun W9 h => by go_simp⟩) hT (fun a6 ha6 => ?_)
  have sb6 := sb5.put ha6 (by rfl)
  have e273 := put_same ha6 (by rw [z5.out]; decide)
  replace e24 := put_other ha6 (by rfl) e24
  replace e36 := put_other ha6 (by rfl) e36
  replace e40 := put_other ha6 (by rfl) e40
  replace e268 := put_other ha6 (by rfl) e268
  replace e269 := put_other ha6 (by rfl) e269
  replace e270 := put_other ha6 (by rfl) e270
  replace e271 := put_other ha6 (by rfl) e271
  replace e272 := put_other ha6 (by rfl) e272
  have z6 : Hid (a6.tmps.size = 289) := put_size ha6 z5.out
  clear ha6 sb5 z5
  refine takeA (i := 6) (d := 274) (v := undef) rfl rfl (by kernel_rfl) (by kernel_rfl) (by kernel_rfl) hQ (Or.inr ⟨wanted_of rfl (yielded_of rfl rfl e273) rfl, rfl⟩) hT (fun a7 ha7 => ?_)
  have sb7 := sb6.put ha7 (by rfl)
  have e274 := put_same ha7 (by rw [z6.out]; decide)
  replace e24 := put_other ha7 (by rfl) e24
  replace e36 := put_other ha7 (by rfl) e36
  replace e40 := put_other ha7 (by rfl) e40
  replace e268 := put_other ha7 (by rfl) e268
  replace e269 := put_other ha7 (by rfl) e269
  replace e270 := put_other ha7 (by rfl) e270
  replace e271 := put_other ha7 (by rfl) e271
  replace e272 := put_other ha7 (by rfl) e272
  replace e273 := put_other ha7 (by rfl) e273
  have z7 : Hid (a7.tmps.size = 289) := put_size ha7 z6.out
  clear ha7 sb6 z6
  refine takeA (i := 7) (d := 275) (v := undef) rfl rfl (by kernel_rfl) (by kernel_rfl) (by kernel_rfl) hQ (Or.inr ⟨wanted_of rfl (yielded_of rfl rfl e273) rfl, rfl⟩) hT (fun a8 ha8 => ?_)
  have sb8 := sb7.put ha8 (by rfl)
  have e275 := put_same ha8 (by rw [z7.out]; decide)
  replace e24 := put_other ha8 (by rfl) e24
  replace e36 := put_other ha8 (by rfl) e36
  replace e40 := put_other ha8 (by rfl) e40
  replace e268 := put_other ha8 (by rfl) e268
  replace e269 := put_other ha8 (by rfl) e269
  replace e270 := put_other ha8 (by rfl) e270
  replace e271 := put_other ha8 (by rfl) e271
  replace e272 := put_other ha8 (by rfl) e272
  replace e273 := put_other ha8 (by rfl) e273
  replace e274 := put_other ha8 (by rfl) e274
  have z8 : Hid (a8.tmps.size = 289) := put_size ha8 z7.out
  clear ha8 sb7 z7
  refine takeA (i := 8) (d := 276) (v := undef) rfl rfl (by kernel_rfl) (by kernel_rfl) (by kernel_rfl) hQ (Or.inr ⟨wanted_of rfl (yielded_of rfl rfl e273) rfl, rfl⟩) hT (fun a9 ha9 => ?_)
  have sb9 := sb8.put ha9 (by rfl)
  have e276 := put_same ha9 (by rw [z8.out]; decide)
  replace e24 := put_other ha9 (by rfl) e24
  replace e36 := put_other ha9 (by rfl) e36
  replace e40 := put_other ha9 (by rfl) e40
  replace e268 := put_other ha9 (by rfl) e268
  replace e269 := put_other ha9 (by rfl) e269
  replace e270 := put_other ha9 (by rfl) e270
  replace e271 := put_other ha9 (by rfl) e271
  replace e272 := put_other ha9 (by rfl) e272
  replace e273 := put_other ha9 (by rfl) e273
  replace e274 := put_other ha9 (by rfl) e274
  replace e275 := put_other ha9 (by rfl) e275
  have z9 : Hid (a9.tmps.size = 289) := put_size ha9 z8.out
  clear ha9 sb8 z8
  refine takeA (i := 9) (d := 277) (v := undef) rfl rfl (by kernel_rfl) (by kernel_rfl) (by kernel_rfl) hQ (Or.inr ⟨wanted_of rfl (yielded_of rfl rfl e273) rfl, rfl⟩) hT (fun a10 ha10 => ?_)
  have sb10 := sb9.put ha10 (by rfl)
  have e277 := put_same ha10 (by rw [z9.out]; decide)
  replace e24 := put_other ha10 (by rfl) e24
  replace e36 := put_other ha10 (by rfl) e36
  replace e40 := put_other ha10 (by rfl) e40
  replace e268 := put_other ha10 (by rfl) e268
  replace e269 := put_other ha10 (by rfl) e269
  replace e270 := put_other ha10 (by rfl) e270
  replace e271 := put_other ha10 (by rfl) e271
  replace e272 := put_other ha10 (by rfl) e272
  replace e273 := put_other ha10 (by rfl) e273
  replace e274 := put_other ha10 (by rfl) e274
  replace e275 := put_other ha10 (by rfl) e275
  replace e276 := put_other ha10 (by rfl) e276
  have z10 : Hid (a10.tmps.size = 289) := put_size ha10 z9.out
  clear ha10 sb9 z9
  refine takeA (i := 10) (d := 278) (v := undef) rfl rfl (by kernel_rfl) (by kernel_rfl) (by kernel_rfl) hQ (Or.inr ⟨wanted_of rfl (yielded_of rfl rfl e273) rfl, rfl⟩) hT (fun a11 ha11 => ?_)
  have sb11 := sb10.put ha11 (by rfl)
  have e278 := put_same ha11 (by rw [z10.out]; decide)
  replace e24 := put_other ha11 (by rfl) e24
  replace e36 := put_other ha11 (by rfl) e36
  replace e40 := put_other ha11 (by rfl) e40
  replace e268 := put_other ha11 (by rfl) e268
  replace e269 := put_other ha11 (by rfl) e269
  replace e270 := put_other ha11 (by rfl) e270
  replace e271 := put_other ha11 (by rfl) e271
  replace e272 := put_other ha11 (by rfl) e272
  replace e273 := put_other ha11 (by rfl) e273
  replace e274 := put_other ha11 (by rfl) e274
  replace e275 := put_other ha11 (by rfl) e275
  replace e276 := put_other ha11 (by rfl) e276
  replace e277 := put_other ha11 (by rfl) e277
  have z11 : Hid (a11.tmps.size = 289) := put_size ha11 z10.out
  clear ha11 sb10 z10
  refine takeA (i := 11) (d := 279) (v := undef) rfl rfl (by kernel_rfl) (by kernel_rfl) (by kernel_rfl) hQ (Or.inr ⟨wanted_of rfl (yielded_of rfl rfl e273) rfl, rfl⟩) hT (fun a12 ha12 => ?_)
  have sb12 := sb11.put ha12 (by rfl)
  have e279 := put_same ha12 (by rw [z11.out]; decide)
  replace e24 := put_other ha12 (by rfl) e24
  replace e36 := put_other ha12 (by rfl) e36
  replace e40 := put_other ha12 (by rfl) e40
  replace e268 := put_other ha12 (by rfl) e268
  replace e269 := put_other ha12 (by rfl) e269
  replace e270 := put_other ha12 (by rfl) e270
  replace e271 := put_other ha12 (by rfl) e271
  replace e272 := put_other ha12 (by rfl) e272
  replace e273 := put_other ha12 (by rfl) e273
  replace e274 := put_other ha12 (by rfl) e274
  replace e275 := put_other ha12 (by rfl) e275
  replace e276 := put_other ha12 (by rfl) e276
  replace e277 := put_other ha12 (by rfl) e277
  replace e278 := put_other ha12 (by rfl) e278
  have z12 : Hid (a12.tmps.size = 289) := put_size ha12 z11.out
  clear ha12 sb11 z11
  refine takeA (i := 12) (d := 280) (v := undef) rfl rfl (by kernel_rfl) (by kernel_rfl) (by kernel_rfl) hQ (Or.inr ⟨wanted_of rfl (yielded_of rfl rfl e273) rfl, rfl⟩) hT (fun a13 ha13 => ?_)
  have sb13 := sb12.put ha13 (by rfl)
  have e280 := put_same ha13 (by rw [z12.out]; decide)
  replace e24 := put_other ha13 (by rfl) e24
  replace e36 := put_other ha13 (by rfl) e36
  replace e40 := put_other ha13 (by rfl) e40
  replace e268 := put_other ha13 (by rfl) e268
  replace e269 := put_other ha13 (by rfl) e269
  replace e270 := put_other ha13 (by rfl) e270
  replace e271 := put_other ha13 (by rfl) e271
  replace e272 := put_other ha13 (by rfl) e272
  replace e273 := put_other ha13 (by rfl) e273
  replace e274 := put_other ha13 (by rfl) e274
  replace e275 := put_other ha13 (by rfl) e275
  replace e276 := put_other ha13 (by rfl) e276
  replace e277 := put_other ha13 (by rfl) e277
  replace e278 := put_other ha13 (by rfl) e278
  replace e279 := put_other ha13 (by rfl) e279
  have z13 : Hid (a13.tmps.size = 289) := put_size ha13 z12.out
  clear ha13 sb12 z12
  refine takeA (i := 13) (d := 281) (v := undef) rfl rfl (by kernel_rfl) (by kernel_rfl) (by kernel_rfl) hQ (Or.inr ⟨wanted_of rfl (yielded_of rfl rfl e273) rfl, rfl⟩) hT (fun a14 ha14 => ?_)
  have sb14 := sb13.put ha14 (by rfl)
  have e281 := put_same ha14 (by rw [z13.out]; decide)
  replace e24 := put_other ha14 (by rfl) e24
  replace e36 := put_other ha14 (by rfl) e36
  replace e40 := put_other ha14 (by rfl) e40
  replace e268 := put_other ha14 (by rfl) e268
  replace e269 := put_other ha14 (by rfl) e269
  replace e270 := put_other ha14 (by rfl) e270
  replace e271 := put_other ha14 (by rfl) e271
  replace e272 := put_other ha14 (by rfl) e272
  replace e273 := put_other ha14 (by rfl) e273
  replace e274 := put_other ha14 (by rfl) e274
  replace e275 := put_other ha14 (by rfl) e275
  replace e276 := put_other ha14 (by rfl) e276
  replace e277 := put_other ha14 (by rfl) e277
  replace e278 := put_other ha14 (by rfl) e278
  replace e279 := put_other ha14 (by rfl) e279
  replace e280 := put_other ha14 (by rfl) e280
  have z14 : Hid (a14.tmps.size = 289) := put_size ha14 z13.out
  clear ha14 sb13 z13
  refine takeA (i := 14) (d := 282) (v := undef) rfl rfl (by kernel_rfl) (by kernel_rfl) (by kernel_rfl) hQ (Or.inr ⟨wanted_of rfl (yielded_of rfl rfl e273) rfl, rfl⟩) hT (fun a15 ha15 => ?_)
  have sb15 := sb14.put ha15 (by rfl)
  have e282 := put_same ha15 (by rw [z14.out]; decide)
  replace e24 := put_other ha15 (by rfl) e24
  replace e36 := put_other ha15 (by rfl) e36
  replace e40 := put_other ha15 (by rfl) e40
  replace e268 := put_other ha15 (by rfl) e268
  replace e269 := put_other ha15 (by rfl) e269
  replace e270 := put_other ha15 (by rfl) e270
  replace e271 := put_other ha15 (by rfl) e271
  replace e272 := put_other ha15 (by rfl) e272
  replace e273 := put_other ha15 (by rfl) e273
  replace e274 := put_other ha15 (by rfl) e274
  replace e275 := put_other ha15 (by rfl) e275
  replace e276 := put_other ha15 (by rfl) e276
  replace e277 := put_other ha15 (by rfl) e277
  replace e278 := put_other ha15 (by rfl) e278
  replace e279 := put_other ha15 (by rfl) e279
  replace e280 := put_other ha15 (by rfl) e280
  replace e281 := put_other ha15 (by rfl) e281
  have z15 : Hid (a15.tmps.size = 289) := put_size ha15 z14.out
  clear ha15 sb14 z14
  refine takeA (i := 15) (d := 283) (v := undef) rfl rfl (by kernel_rfl) (by kernel_rfl) (by kernel_rfl) hQ (Or.inr ⟨wanted_of rfl (yielded_of rfl rfl e273) rfl, rfl⟩) hT (fun a16 ha16 => ?_)
  have sb16 := sb15.put ha16 (by rfl)
  have e283 := put_same ha16 (by rw [z15.out]; decide)
  replace e24 := put_other ha16 (by rfl) e24
  replace e36 := put_other ha16 (by rfl) e36
  replace e40 := put_other ha16 (by rfl) e40
  replace e268 := put_other ha16 (by rfl) e268
  replace e269 := put_other ha16 (by rfl) e269
  replace e270 := put_other ha16 (by rfl) e270
  replace e271 := put_other ha16 (by rfl) e271
  replace e272 := put_other ha16 (by rfl) e272
  replace e273 := put_other ha16 (by rfl) e273
  replace e274 := put_other ha16 (by rfl) e274
  replace e275 := put_other ha16 (by rfl) e275
  replace e276 := put_other ha16 (by rfl) e276
  replace e277 := put_other ha16 (by rfl) e277
  replace e278 := put_other ha16 (by rfl) e278
  replace e279 := put_other ha16 (by rfl) e279
  replace e280 := put_other ha16 (by rfl) e280
  replace e281 := put_other ha16 (by rfl) e281
  replace e282 := put_other ha16 (by rfl) e282
  have z16 : Hid (a16.tmps.size = 289) := put_size ha16 z15.out
  clear ha16 sb15 z15
  refine takeA (i := 16) (d := 284) (v := .bool false) rfl rfl (by kernel_rfl) (by kernel_rfl) (by kernel_rfl) hQ (Or.inl ⟨by rfl, fun W9 h => by go_simp⟩) hT (fun a17 ha17 => ?_)
  refine wpAnyH_done (by kernel_rfl) ?_ _
  rw [ha17]
  exact HE.out _ _ sb16 hT

set_option maxRecDepth 100000 in
set_option maxHeartbeats 4000000 in
theorem cmp_hit (c : Code) (hc : Yba.f3.body.bind (regCode 77) = some c) (Q : Exit → Act → World → Prop) (hQ : ∀ ch a a' w, Q (.panic ch) a w → Q (.panic ch) a' w) (W : World) (bl l r : Nat) (be b39 b1 b2 : Nat) (f : Nat → Option Value) (v1 v2 : Value) (K : List Nat) (P : Nat → Nat) (kd : Nat → Int) (hr : r < 256) (hKl : K.length ≤ 1024) (cl : W.cell? ⟨bl, r, none⟩ = some (.int .i64 (l : Int))) (ce : W.cell? ⟨be, r, none⟩ = some v2) (h39 : MapOf 55 W b39 f) (hfr : f r = some v1) (h1 : W.ownsRow b1 54 3 v1 K.length (rowC P kd K)) (h2 : W.ownsRow b2 54 3 v2 K.length (rowC P kd K)) (a0 : Act) (z0 : Hid (a0.tmps.size = 289))
    (e24 : a0.tmps[24]? = some (.pointer (some ⟨bl, 0, none⟩))) (e36 : a0.tmps[36]? = some (.int .i64 (l : Int))) (e40 : a0.tmps[40]? = some (.int .i64 (r : Int))) (e25 : a0.tmps[25]? = some (.pointer (some ⟨be, 0, none⟩))) (e39 : a0.tmps[39]? = some (.map (some b39)))
    (hend : ∀ (a' : Act) (W' : World), SameBut 268 283 a0 a' → Below W.heap.size W W' → Q .normal (a'.put (some 284) (.bool false)) W') :
    c.wp Yba.prog Q a0 W := by
  obtain ⟨sa1, cap1, rfl⟩ := row_slice h1
  obtain ⟨sa2, cap2, rfl⟩ := row_slice h2
  have lk : ∀ W' : World, Below W.heap.size W W' → (Instr.lookup 34 (.map (some b39)) (.agg (nl 16 (idb ((r : Nat) : Int))).toArray) false).run Yba.prog W' = .ok (.slice sa1 K.length cap1) W' := fun W' hb => by
    have := (h39.kept (grown_below hb) (by simp)).look ky55 Yba.underlying34 (zero33 W') hr
    rw [hfr] at this
    exact this
  clear h39 hfr
  have H12 : Hid _ := And.intro h1 h2
  clear h1 h2
  obtain rfl : c = ((Yba.f3.body.bind (regCode 77)).getD .skip) := by rw [hc]; rfl
  clear hc
  have HE : Hid _ := hend
  clear hend
  conv => arg 2; whnf
  try dsimp only
  have i1 : (0 : Int) ≤ (r : Int) := by omega
  have i3 := wrap_r hr
  have i2 : (r : Int) < 256 := by omega
  refine wp_region_held_drew (S := Below W.heap.size W) (by kernel_rfl) (Below.refl _ _).drew (fun hT => ?_)
  have sb0 := SameBut.refl 268 283 a0
  refine takeA (i := 0) (d := 268) (v := .int .i64 (r : Int)) rfl rfl (by kernel_rfl) (by kernel_rfl) (by kernel_rfl) hQ (Or.inl ⟨by rfl, fun W9 h => by go_simp⟩) hT (fun a1 ha1 => ?_)
  have sb1 := sb0.put ha1 (by rfl)
  have e268 := put_same ha1 (by rw [z0.out]; decide)
  replace e24 := put_other ha1 (by rfl) e24
  replace e25 := put_other ha1 (by rfl) e25
  replace e36 := put_other ha1 (by rfl) e36
  replace e39 := put_other ha1 (by rfl) e39
  replace e40 := put_other ha1 (by rfl) e40
  have z1 : Hid (a1.tmps.size = 289) := put_size ha1 z0.out
  clear ha1 sb0 z0
  refine takeA (i := 1) (d := 269) (v := .pointer (some ⟨bl, r, none⟩)) rfl rfl (by kernel_rfl) (by kernel_rfl) (by kernel_rfl) hQ (Or.inl ⟨by rfl, fun W9 h => by go_simp⟩) hT (fun a2 ha2 => ?_)
  have sb2 := sb1.put ha2 (by rfl)
  have e269 := put_same ha2 (by rw [z1.out]; decide)
  replace e24 := put_other ha2 (by rfl) e24
  replace e25 := put_other ha2 (by rfl) e25
  replace e36 := put_other ha2 (by rfl) e36
  replace e39 := put_other ha2 (by rfl) e39
  replace e40 := put_other ha2 (by rfl) e40
  replace e268 := put_other ha2 (by rfl) e268
  have z2 : Hid (a2.tmps.size = 289) := put_size ha2 z1.out
  clear ha2 sb1 z1
  refine takeA (i := 2) (d := 270) (v := .int .i64 (l : Int)) rfl rfl (by kernel_rfl) (by kernel_rfl) (by kernel_rfl) hQ (Or.inl ⟨by rfl, fun W9 h => by have f0 := cell_later h cl; go_simp⟩) hT (fun a3 ha3 => ?_)
  have sb3 := sb2.put ha3 (by rfl)
  have e270 := put_same ha3 (by rw [z2.out]; decide)
  replace e24 := put_other ha3 (by rfl) e24
  replace e25 := put_other ha3 (by rfl) e25
  replace e36 := put_other ha3 (by rfl) e36
  replace e39 := put_other ha3 (by rfl) e39
  replace e40 := put_other ha3 (by rfl) e40
  replace e268 := put_other ha3 (by rfl) e268
  replace e269 := put_other ha3 (by rfl) e269
  have z3 : Hid (a3.tmps.size = 289) := put_size ha3 z2.out
  clear ha3 sb2 z2
  refine takeA (i := 3) (d := 271) (v := .int .i64 (l : Int)) rfl rfl (by kernel_rfl) (by kernel_rfl) (by kernel_rfl) hQ (Or.inl ⟨by rfl, fun W9 h => by go_simp⟩) hT (fun a4 ha4 => ?_)
  have sb4 := sb3.put ha4 (by rfl)
  have e271 := put_same ha4 (by rw [z3.out]; decide)
  replace e24 := put_other ha4 (by rfl) e24
  replace e25 := put_other ha4 (by rfl) e25
  replace e36 := put_other ha4 (by rfl) e36
  replace e39 := put_other ha4 (by rfl) e39
  replace e40 := put_other ha4 (by rfl) e40
  replace e268 := put_other ha4 (by rfl) e268
  replace e269 := put_other ha4 (by rfl) e269
  replace e270 := put_other ha4 (by rfl) e270
  have z4 : Hid (a4.tmps.size = 289) := put_size ha4 z3.out
  clear ha4 sb3 z3
  refine takeA (i := 4) (d := 272) (v := .bool true) rfl rfl (by kernel_rfl) (by kernel_rfl) (by kernel_rfl) hQ (Or.inl ⟨by rfl, fun W9 h => by go_simp⟩) hT (fun a5 ha5 => ?_)
  have sb5 := sb4.put ha5 (by rfl)
  have e272 := put_same ha5 (by rw [z4.out]; decide)
  replace e24 := put_other ha5 (by rfl) e24
  replace e25 := put_other ha5 (by rfl) e25
  replace e36 := put_other ha5 (by rfl) e36
  replace e39 := put_other ha5 (by rfl) e39
  replace e40 := put_other ha5 (by rfl) e40
  replace e268 := put_other ha5 (by rfl) e268
  replace e269 := put_other ha5 (by rfl) e269
  replace e270 := put_other ha5 (by rfl) e270
  replace e271 := put_other ha5 (by rfl) e271
  have z5 : Hid (a5.tmps.size = 289) := put_size ha5 z4.out
  clear ha5 sb4 z4
  refine takeA (i := 5) (d := 273) (v := .bool true) rfl rfl (by kernel_rfl) (by kernel_rfl) (by kernel_rfl) hQ (Or.inl ⟨by rfl, fun W9 h => by go_simp⟩) hT (fun a6 ha6 => ?_)
  have sb6 := sb5.put ha6 (by rfl)
  have e273 := put_same ha6 (by rw [z5.out]; decide)
  replace e24 := put_other ha6 (by rfl) e24
  replace e25 := put_other ha6 (by rfl) e25
  replace e36 := put_other ha6 (by rfl) e36
  replace e39 := put_other ha6 (by rfl) e39
  replace e40 := put_other ha6 (by rfl) e40
  replace e268 := put_other ha6 (by rfl) e268
  replace e269 := put_other ha6 (by rfl) e269
  replace e270 := put_other ha6 (by rfl) e270
  replace e271 := put_other ha6 (by rfl) e271
  replace e272 := put_other ha6 (by rfl) e272
  have z6 : Hid (a6.tmps.size = 289) := put_size ha6 z5.out
  clear ha6 sb5 z5
  refine takeA (i := 6) (d := 274) (v := .map (some b39)) rfl rfl (by kernel_rfl) (by kernel_rfl) (by kernel_rfl) hQ (Or.inl ⟨wanted_of rfl (yielded_of rfl rfl e273) rfl, fun W9 h => by go_simp⟩) hT (fun a7 ha7 => ?_)
  have sb7 := sb6.put ha7 (by rfl)
  have e274 := put_same ha7 (by rw [z6.out]; decide)
  replace e24 := put_other ha7 (by rfl) e24
  replace e25 := put_other ha7 (by rfl) e25
  replace e36 := put_other ha7 (by rfl) e36
  replace e39 := put_other ha7 (by rfl) e39
  replace e40 := put_other ha7 (by rfl) e40
  replace e268 := put_other ha7 (by rfl) e268
  replace e269 := put_other ha7 (by rfl) e269
  replace e270 := put_other ha7 (by rfl) e270
  replace e271 := put_other ha7 (by rfl) e271
  replace e272 := put_other ha7 (by rfl) e272
  replace e273 := put_other ha7 (by rfl) e273
  have z7 : Hid (a7.tmps.size = 289) := put_size ha7 z6.out
  clear ha7 sb6 z6
  refine takeA (i := 7) (d := 275) (v := .int .i64 (r : Int)) rfl rfl (by kernel_rfl) (by kernel_rfl) (by kernel_rfl) hQ (Or.inl ⟨wanted_of rfl (yielded_of rfl rfl e273) rfl, fun W9 h => by go_simp⟩) hT (fun a8 ha8 => ?_)
  have sb8 := sb7.put ha8 (by rfl)
  have e275 := put_same ha8 (by rw [z7.out]; decide)
  replace e24 := put_other ha8 (by rfl) e24
  replace e25 := put_other ha8 (by rfl) e25
  replace e36 := put_other ha8 (by rfl) e36
  replace e39 := put_other ha8 (by rfl) e39
  replace e40 := put_other ha8 (by rfl) e40
  replace e268 := put_other ha8 (by rfl) e268
  replace e269 := put_other ha8 (by rfl) e269
  replace e270 := put_other ha8 (by rfl) e270
  replace e271 := put_other ha8 (by rfl) e271
  replace e272 := put_other ha8 (by rfl) e272
  replace e273 := put_other ha8 (by rfl) e273
  replace e274 := put_other ha8 (by rfl) e274
  have z8 : Hid (a8.tmps.size = 289) := put_size ha8 z7.out
  clear ha8 sb7 z7
  refine takeA (i := 8) (d := 276) (v := .int .u8 (r : Int)) rfl rfl (by kernel_rfl) (by kernel_rfl) (by kernel_rfl) hQ (Or.inl ⟨wanted_of rfl (yielded_of rfl rfl e273) rfl, fun W9 h => by go_simp⟩) hT (fun a9 ha9 => ?_)
  have sb9 := sb8.put ha9 (by rfl)
  have e276 := put_same ha9 (by rw [z8.out]; decide)
  replace e24 := put_other ha9 (by rfl) e24
  replace e25 := put_other ha9 (by rfl) e25
  replace e36 := put_other ha9 (by rfl) e36
  replace e39 := put_other ha9 (by rfl) e39
  replace e40 := put_other ha9 (by rfl) e40
  replace e268 := put_other ha9 (by rfl) e268
  replace e269 := put_other ha9 (by rfl) e269
  replace e270 := put_other ha9 (by rfl) e270
  replace e271 := put_other ha9 (by rfl) e271
  replace e272 := put_other ha9 (by rfl) e272
  replace e273 := put_other ha9 (by rfl) e273
  replace e274 := put_other ha9 (by rfl) e274
  replace e275 := put_other ha9 (by rfl) e275
  have z9 : Hid (a9.tmps.size = 289) := put_size ha9 z8.out
  clear ha9 sb8 z8
  refine takeA (i := 11) (d := 279) (v := .int .i64 (r : Int)) rfl rfl (by kernel_rfl) (by kernel_rfl) (by kernel_rfl) hQ (Or.inl ⟨wanted_of rfl (yielded_of rfl rfl e273) rfl, fun W9 h => by go_simp⟩) hT (fun a10 ha10 => ?_)
  have sb10 := sb9.put ha10 (by rfl)
  have e279 := put_same ha10 (by rw [z9.out]; decide)
  replace e24 := put_other ha10 (by rfl) e24
  replace e25 := put_other ha10 (by rfl) e25
  replace e36 := put_other ha10 (by rfl) e36
  replace e39 := put_other ha10 (by rfl) e39
  replace e40 := put_other ha10 (by rfl) e40
  replace e268 := put_other ha10 (by rfl) e268
  replace e269 := put_other ha10 (by rfl) e269
  replace e270 := put_other ha10 (by rfl) e270
  replace e271 := put_other ha10 (by rfl) e271
  replace e272 := put_other ha10 (by rfl) e272
  replace e273 := put_other ha10 (by rfl) e273
  replace e274 := put_other ha10 (by rfl) e274
  replace e275 := put_other ha10 (by rfl) e275
  replace e276 := put_other ha10 (by rfl) e276
  have z10 : Hid (a10.tmps.size = 289) := put_size ha10 z9.out
  clear ha10 sb9 z9
  refine takeA (i := 12) (d := 280) (v := .pointer (some ⟨be, r, none⟩)) rfl rfl (by kernel_rfl) (by kernel_rfl) (by kernel_rfl) hQ (Or.inl ⟨wanted_of rfl (yielded_of rfl rfl e273) rfl, fun W9 h => by go_simp⟩) hT (fun a11 ha11 => ?_)
  have sb11 := sb10.put ha11 (by rfl)
  have e280 := put_same ha11 (by rw [z10.out]; decide)
  replace e24 := put_other ha11 (by rfl) e24
  replace e25 := put_other ha11 (by rfl) e25
  replace e36 := put_other ha11 (by rfl) e36
  replace e39 := put_other ha11 (by rfl) e39
  replace e40 := put_other ha11 (by rfl) e40
  replace e268 := put_other ha11 (by rfl) e268
  replace e269 := put_other ha11 (by rfl) e269
  replace e270 := put_other ha11 (by rfl) e270
  replace e271 := put_other ha11 (by rfl) e271
  replace e272 := put_other ha11 (by rfl) e272
  replace e273 := put_other ha11 (by rfl) e273
  replace e274 := put_other ha11 (by rfl) e274
  replace e275 := put_other ha11 (by rfl) e275
  replace e276 := put_other ha11 (by rfl) e276
  replace e279 := put_other ha11 (by rfl) e279
  have z11 : Hid (a11.tmps.size = 289) := put_size ha11 z10.out
  clear ha11 sb10 z10
  refine takeA (i := 13) (d := 281) (v := .slice sa2 K.length cap2) rfl rfl (by kernel_rfl) (by kernel_rfl) (by kernel_rfl) hQ (Or.inl ⟨wanted_of rfl (yielded_of rfl rfl e273) rfl, fun W9 h => by have f0 := cell_later h ce; go_simp⟩) hT (fun a12 ha12 => ?_)
  have sb12 := sb11.put ha12 (by rfl)
  have e281 := put_same ha12 (by rw [z11.out]; decide)
  replace e24 := put_other ha12 (by rfl) e24
  replace e25 := put_other ha12 (by rfl) e25
  replace e36 := put_other ha12 (by rfl) e36
  replace e39 := put_other ha12 (by rfl) e39
  replace e40 := put_other ha12 (by rfl) e40
  replace e268 := put_other ha12 (by rfl) e268
  replace e269 := put_other ha12 (by rfl) e269
  replace e270 := put_other ha12 (by rfl) e270
  replace e271 := put_other ha12 (by rfl) e271
  replace e272 := put_other ha12 (by rfl) e272
  replace e273 := put_other ha12 (by rfl) e273
  replace e274 := put_other ha12 (by rfl) e274
  replace e275 := put_other ha12 (by rfl) e275
  replace e276 := put_other ha12 (by rfl) e276
  replace e279 := put_other ha12 (by rfl) e279
  replace e280 := put_other ha12 (by rfl) e280
  have z12 : Hid (a12.tmps.size = 289) := put_size ha12 z11.out
  clear ha12 sb11 z11
  refine wpAnyH_ready (rs := [9]) (by kernel_rfl) (by simp) ?_
  refine AllReadyH.cons (i := 9) rfl (fun K hK => ?_) AllReadyH.nil
  refine if_wanted (wanted_of rfl (yielded_of rfl rfl e273) rfl) ?_
  go_simp
  refine (aid_any (r : Int) _).mono ?_
  rintro e W1 ⟨rfl, b1⟩
  unfold idv
  refine hK.out _ _ (hT.trans (b1.mono hT.size)) (fun hT1 => ?_)
  clear hK K
  refine act_new (a := a12) 277 (.agg (nl 16 (idb (r : Int))).toArray) (fun a13 ha13 => ?_)
  have sb13 := sb12.put ha13 (by rfl)
  have e277 := put_same ha13 (by rw [z12.out]; decide)
  replace e24 := put_other ha13 (by rfl) e24
  replace e25 := put_other ha13 (by rfl) e25
  replace e36 := put_other ha13 (by rfl) e36
  replace e39 := put_other ha13 (by rfl) e39
  replace e40 := put_other ha13 (by rfl) e40
  replace e268 := put_other ha13 (by rfl) e268
  replace e269 := put_other ha13 (by rfl) e269
  replace e270 := put_other ha13 (by rfl) e270
  replace e271 := put_other ha13 (by rfl) e271
  replace e272 := put_other ha13 (by rfl) e272
  replace e273 := put_other ha13 (by rfl) e273
  replace e274 := put_other ha13 (by rfl) e274
  replace e275 := put_other ha13 (by rfl) e275
  replace e276 := put_other ha13 (by rfl) e276
  replace e279 := put_other ha13 (by rfl) e279
  replace e280 := put_other ha13 (by rfl) e280
  replace e281 := put_other ha13 (by rfl) e281
  have z13 : Hid (a13.tmps.size = 289) := put_size ha13 z12.out
  clear ha13 sb12 z12
  refine takeA (i := 10) (d := 278) (v := .slice sa1 K.length cap1) rfl rfl (by kernel_rfl) (by kernel_rfl) (by kernel_rfl) hQ (Or.inl ⟨wanted_of rfl (yielded_of rfl rfl e273) rfl, fun W9 h => by have f0 := lk W9 h; go_simp⟩) hT1 (fun a14 ha14 => ?_)
  have sb14 := sb13.put ha14 (by rfl)
  have e278 := put_same ha14 (by rw [z13.out]; decide)
  replace e24 := put_other ha14 (by rfl) e24
  replace e25 := put_other ha14 (by rfl) e25
  replace e36 := put_other ha14 (by rfl) e36
  replace e39 := put_other ha14 (by rfl) e39
  replace e40 := put_other ha14 (by rfl) e40
  replace e268 := put_other ha14 (by rfl) e268
  replace e269 := put_other ha14 (by rfl) e269
  replace e270 := put_other ha14 (by rfl) e270
  replace e271 := put_other ha14 (by rfl) e271
  replace e272 := put_other ha14 (by rfl) e272
  replace e273 := put_other ha14 (by rfl) e273
  replace e274 := put_other ha14 (by rfl) e274
  replace e275 := put_other ha14 (by rfl) e275
  replace e276 := put_other ha14 (by rfl) e276
  replace e279 := put_other ha14 (by rfl) e279
  replace e280 := put_other ha14 (by rfl) e280
  replace e281 := put_other ha14 (by rfl) e281
  replace e277 := put_other ha14 (by rfl) e277
  have z14 : Hid (a14.tmps.size = 289) := put_size ha14 z13.out
  clear ha14 sb13 z13
  refine wpAnyH_ready (rs := [14]) (by kernel_rfl) (by simp) ?_
  refine AllReadyH.cons (i := 14) rfl (fun K hK => ?_) AllReadyH.nil
  refine if_wanted (wanted_of rfl (yielded_of rfl rfl e273) rfl) ?_
  clear lk
  go_simp
  have g1 := H12.out.1.kept (grown_below hT1) (by cases Value.ownBlock _ <;> simp)
  have g2 := H12.out.2.kept (grown_below hT1) (by cases Value.ownBlock _ <;> simp)
  refine (equal_any P kd _ hKl _ _ _ _ _ g1 g2).mono ?_
  rintro e W2 ⟨rfl, b2⟩
  refine hK.out _ _ (hT1.trans (b2.mono hT1.size)) (fun hT2 => ?_)
  clear hK K
  refine act_new (a := a14) 282 (.bool true) (fun a15 ha15 => ?_)
  have sb15 := sb14.put ha15 (by rfl)
  have e282 := put_same ha15 (by rw [z14.out]; decide)
  replace e24 := put_other ha15 (by rfl) e24
  replace e25 := put_other ha15 (by rfl) e25
  replace e36 := put_other ha15 (by rfl) e36
  replace e39 := put_other ha15 (by rfl) e39
  replace e40 := put_other ha15 (by rfl) e40
  replace e268 := put_other ha15 (by rfl) e268
  replace e269 := put_other ha15 (by rfl) e269
  replace e270 := put_other ha15 (by rfl) e270
  replace e271 := put_other ha15 (by rfl) e271
  replace e272 := put_other ha15 (by rfl) e272
  replace e273 := put_other ha15 (by rfl) e273
  replace e274 := put_other ha15 (by rfl) e274
  replace e275 := put_other ha15 (by rfl) e275
  replace e276 := put_other ha15 (by rfl) e276
  replace e279 := put_other ha15 (by rfl) e279
  replace e280 := put_other ha15 (by rfl) e280
  replace e281 := put_other ha15 (by rfl) e281
  replace e277 := put_other ha15 (by rfl) e277
  replace e278 := put_other ha15 (by rfl) e278
  have z15 : Hid (a15.tmps.size = 289) := put_size ha15 z14.out
  clear ha15 sb14 z14
  refine takeA (i := 15) (d := 283) (v := .bool false) rfl rfl (by kernel_rfl) (by kernel_rfl) (by kernel_rfl) hQ (Or.inl ⟨wanted_of rfl (yielded_of rfl rfl e273) rfl, fun W9 h => by go_simp⟩) hT2 (fun a16 ha16 => ?_)
  have sb16 := sb15.put ha16 (by rfl)
  have e283 := put_same ha16 (by rw [z15.out]; decide)
  replace e24 := put_other ha16 (by rfl) e24
  replace e25 := put_other ha16 (by rfl) e25
  replace e36 := put_other ha16 (by rfl) e36
  replace e39 := put_other ha16 (by rfl) e39
  replace e40 := put_other ha16 (by rfl) e40
  replace e268 := put_other ha16 (by rfl) e268
  replace e269 := put_other ha16 (by rfl) e269
  replace e270 := put_other ha16 (by rfl) e270
  replace e271 := put_other ha16 (by rfl) e271
  replace e272 := put_other ha16 (by rfl) e272
  replace e273 := put_other ha16 (by rfl) e273
  replace e274 := put_other ha16 (by rfl) e274
  replace e275 := put_other ha16 (by rfl) e275
  replace e276 := put_other ha16 (by rfl) e276
  replace e279 := put_other ha16 (by rfl) e279
  replace e280 := put_other ha16 (by rfl) e280
  replace e281 := put_other ha16 (by rfl) e281
  replace e277 := put_other ha16 (by rfl) e277
  replace e278 := put_other ha16 (by rfl) e278
  replace e282 := put_other ha16 (by rfl) e282
  have z16 : Hid (a16.tmps.size = 289) := put_size ha16 z15.out
  clear ha16 sb15 z15
  refine takeA (i := 16) (d := 284) (v := .bool false) rfl rfl (by kernel_rfl) (by kernel_rfl) (by kernel_rfl) hQ (Or.inl ⟨by rfl, fun W9 h => by go_simp⟩) hT2 (fun a17 ha17 => ?_)
  refine wpAnyH_done (by kernel_rfl) ?_ _
  rw [ha17]
  exact HE.out _ _ sb16 hT2

/-- How many of the first k points have the leader l. -/
def cn (lead : Nat → Int) (l k : Nat) : Nat := ((List.range k).filter fun r => lead r == (l : Int)).length
theorem cn_succ (lead : Nat → Int) (l k : Nat) : cn lead l (k + 1) = cn lead l k + if lead k == (l : Int) then 1 else 0 := by
  unfold cn
  rw [List.range_succ, List.filter_append, List.length_append]
  by_cases h : lead k == (l : Int) <;> simp [h]
theorem cn_le (lead : Nat → Int) (l k : Nat) : cn lead l k ≤ k := by
  have := List.length_filter_le (fun r => lead r == (l : Int)) (List.range k)
  simpa [cn] using this
set_option maxRecDepth 100000 in
set_option maxHeartbeats 4000000 in
theorem count_loop (c : Code) (hc : Yba.f3.body.bind (blkCode 14) = some c) (Q : Exit → Act → World → Prop) (W : World) (bl l : Nat) (lead : Nat → Int) (hlead : ∀ r, r < 256 → W.cell? ⟨bl, r, none⟩ = some (.int .i64 (lead r))) (u0 u1 u2 u3 u4 u5 u6 u7 u8 u9 u10 u11 u12 u13 u14 u15 u16 u17 u18 u19 u20 u21 u22 u23 u25 u26 u27 u28 u29 u30 u31 u32 u33 u34 u35 u39 u40 u41 u42 u43 u44 u45 u46 u47 u48 u49 u50 u51 u52 u53 u54 u55 u56 u57 u58 u59 u60 u61 u62 u63 u64 u65 u66 u67 u68 u69 u70 u71 u72 u73 u74 u75 u76 u77 u78 u79 u80 u81 u82 u83 u84 u85 u86 u87 u88 u89 u90 u91 u92 u93 u94 u95 u96 u97 u98 u99 u100 u101 u102 u103 u104 u105 u106 u107 u108 u109 u110 u111 u112 u113 u114 u115 u116 u117 u118 u119 u120 u121 u122 u123 u124 u125 u126 u127 u128 u129 u130 u131 u132 u133 u134 u135 u136 u137 u138 u139 u140 u141 u142 u143 u144 u145 u146 u147 u148 u149 u150 u151 u152 u153 u154 u155 u156 u157 u158 u159 u160 u161 u162 u163 u164 u165 u166 u167 u168 u169 u170 u171 u172 u173 u174 u175 u176 u177 u178 u179 u180 u181 u182 u183 u184 u185 u186 u187 u188 u189 u190 u191 u192 u193 u194 u195 u196 u197 u198 u199 u200 u201 u202 u203 u204 u205 u206 u207 u208 u209 u210 u211 u212 u213 u214 u215 u216 u217 u218 u219 u220 u221 u222 u223 u224 u225 u226 u227 u228 u229 u230 u231 u232 u233 u234 u235 u236 u237 u238 u239 u240 u241 u242 u243 u244 u245 u246 u247 u248 u249 u250 u251 u252 u253 u254 u255 u256 u257 u258 u259 u260 u261 u262 u263 u264 u265 u266 u267 u268 u269 u270 u271 u272 u273 u274 u275 u276 u277 u278 u279 u280 u281 u282 u283 u284 u285 u286 u287 u288 : Value)
    (hend : ∀ (v38 v240 v241 v242 v243 v244 v245 v246 v247 v248 v249 v250 : Value), Q .normal ⟨#[u0, u1, u2, u3, u4, u5, u6, u7, u8, u9, u10, u11, u12, u13, u14, u15, u16, u17, u18, u19, u20, u21, u22, u23, .pointer (some ⟨bl, 0, none⟩), u25, u26, u27, u28, u29, u30, u31, u32, u33, u34, u35, .int .i64 (l : Int), .int .i64 (cn lead l 256 : Int), v38, u39, u40, u41, u42, u43, u44, u45, u46, u47, u48, u49, u50, u51, u52, u53, u54, u55, u56, u57, u58, u59, u60, u61, u62, u63, u64, u65, u66, u67, u68, u69, u70, u71, u72, u73, u74, u75, u76, u77, u78, u79, u80, u81, u82, u83, u84, u85, u86, u87, u88, u89, u90, u91, u92, u93, u94, u95, u96, u97, u98, u99, u100, u101, u102, u103, u104, u105, u106, u107, u108, u109, u110, u111, u112, u113, u114, u115, u116, u117, u118, u119, u120, u121, u122, u123, u124, u125, u126, u127, u128, u129, u130, u131, u132, u133, u134, u135, u136, u137, u138, u139, u140, u141, u142, u143, u144, u145, u146, u147, u148, u149, u150, u151, u152, u153, u154, u155, u156, u157, u158, u159, u160, u161, u162, u163, u164, u165, u166, u167, u168, u169, u170, u171, u172, u173, u174, u175, u176, u177, u178, u179, u180, u181, u182, u183, u184, u185, u186, u187, u188, u189, u190, u191, u192, u193, u194, u195, u196, u197, u198, u199, u200, u201, u202, u203, u204, u205, u206, u207, u208, u209, u210, u211, u212, u213, u214, u215, u216, u217, u218, u219, u220, u221, u222, u223, u224, u225, u226, u227, u228, u229, u230, u231, u232, u233, u234, u235, u236, u237, u238, u239, v240, v241, v242, v243, v244, v245, v246, v247, v248, v249, v250, u251, u252, u253, u254, u255, u256, u257, u258, u259, u260, u261, u262, u263, u264, u265, u266, u267, u268, u269, u270, u271, u272, u273, u274, u275, u276, u277, u278, u279, u280, u281, u282, u283, u284, u285, u286, u287, u288], []⟩ W) :
    c.wp Yba.prog Q ⟨#[u0, u1, u2, u3, u4, u5, u6, u7, u8, u9, u10, u11, u12, u13, u14, u15, u16, u17, u18, u19, u20, u21, u22, u23, .pointer (some ⟨bl, 0, none⟩), u25, u26, u27, u28, u29, u30, u31, u32, u33, u34, u35, .int .i64 (l : Int), .int .i64 0, .int .i64 0, u39, u40, u41, u42, u43, u44, u45, u46, u47, u48, u49, u50, u51, u52, u53, u54, u55, u56, u57, u58, u59, u60, u61, u62, u63, u64, u65, u66, u67, u68, u69, u70, u71, u72, u73, u74, u75, u76, u77, u78, u79, u80, u81, u82, u83, u84, u85, u86, u87, u88, u89, u90, u91, u92, u93, u94, u95, u96, u97, u98, u99, u100, u101, u102, u103, u104, u105, u106, u107, u108, u109, u110, u111, u112, u113, u114, u115, u116, u117, u118, u119, u120, u121, u122, u123, u124, u125, u126, u127, u128, u129, u130, u131, u132, u133, u134, u135, u136, u137, u138, u139, u140, u141, u142, u143, u144, u145, u146, u147, u148, u149, u150, u151, u152, u153, u154, u155, u156, u157, u158, u159, u160, u161, u162, u163, u164, u165, u166, u167, u168, u169, u170, u171, u172, u173, u174, u175, u176, u177, u178, u179, u180, u181, u182, u183, u184, u185, u186, u187, u188, u189, u190, u191, u192, u193, u194, u195, u196, u197, u198, u199, u200, u201, u202, u203, u204, u205, u206, u207, u208, u209, u210, u211, u212, u213, u214, u215, u216, u217, u218, u219, u220, u221, u222, u223, u224, u225, u226, u227, u228, u229, u230, u231, u232, u233, u234, u235, u236, u237, u238, u239, u240, u241, u242, u243, u244, u245, u246, u247, u248, u249, u250, u251, u252, u253, u254, u255, u256, u257, u258, u259, u260, u261, u262, u263, u264, u265, u266, u267, u268, u269, u270, u271, u272, u273, u274, u275, u276, u277, u278, u279, u280, u281, u282, u283, u284, u285, u286, u287, u288], []⟩ W := by
  obtain rfl : c = ((Yba.f3.body.bind (blkCode 14)).getD .skip) := by rw [hc]; rfl
  clear hc
  conv => arg 2; whnf
  dsimp only
  have HN : Hid _ := hend
  clear hend
  go_wp2_with fail
  go_loopw [37, 38] (fun a i wr => ∃ (k : Nat), a = .int .i64 (cn lead l k) ∧ i = .int .i64 k ∧ k ≤ 256 ∧ wr = W) (fun _ i _ => (256 - intOf i).toNat)
  case atStart => exact ⟨0, rfl, rfl, by omega, rfl⟩
  case round =>
    obtain ⟨k, rfl, rfl, hkn, rfl⟩ := hrel
    by_cases hk : k < 256
    · have e1 := hlead k hk
      have i1 : (0 : Int) ≤ (k : Int) := by omega
      have i2 : (k : Int) < 256 := by omega
      have hc0 := cn_le lead l k
      have hs := cn_succ lead l k
      have HC : Hid _ := hlead
      clear hlead
      cases hb : lead k == (l : Int) with
      | true =>
        rw [hb] at hs
        have HS : Hid _ := hs
        clear hs
        go_wp2
        go_roundw
        case rel => exact ⟨k + 1, by rw [HS.out]; simp, by simp, by omega, trivial⟩
        case measure => simp [intOf]; omega
      | false =>
        rw [hb] at hs
        have HS : Hid _ := hs
        clear hs
        go_wp2
        go_roundw
        case rel => exact ⟨k + 1, by rw [HS.out]; simp, by simp, by omega, trivial⟩
        case measure => simp [intOf]; omega
    · obtain rfl : k = 256 := by omega
      go_wp2
      exact HN.out _ _ _ _ _ _ _ _ _ _ _ _

set_option maxRecDepth 100000 in
set_option maxHeartbeats 4000000 in
theorem compare_loop (c : Code) (hc : Yba.f3.body.bind (blkCode 16) = some c) (Q : Exit → Act → World → Prop) (W : World) (bl be b39 l base1 base2 : Nat) (lead : Nat → Int) (ev : Nat → Value) (f : Nat → Option Value) (KK : Nat → List Nat) (P : Nat → Nat) (kd : Nat → Int) (hlead : ∀ r, r < 256 → W.cell? ⟨bl, r, none⟩ = some (.int .i64 (lead r))) (hexp : ∀ r, r < 256 → W.cell? ⟨be, r, none⟩ = some (ev r)) (hm : MapOf 55 W b39 f)
    (hin : ∀ r, r < 256 → lead r = (l : Int) → ∃ v1, f r = some v1 ∧ W.ownsRow base1 54 3 v1 (KK r).length (rowC P kd (KK r))) (hrow : ∀ r, r < 256 → W.ownsRow base2 54 3 (ev r) (KK r).length (rowC P kd (KK r))) (hlen : ∀ r, (KK r).length ≤ 1024) (u0 u1 u2 u3 u4 u5 u6 u7 u8 u9 u10 u11 u12 u13 u14 u15 u16 u17 u18 u19 u20 u21 u22 u23 u26 u27 u28 u29 u30 u31 u32 u33 u34 u35 u37 u38 u41 u42 u43 u44 u45 u46 u47 u48 u49 u50 u51 u52 u53 u54 u55 u56 u57 u58 u59 u60 u61 u62 u63 u64 u65 u66 u67 u68 u69 u70 u71 u72 u73 u74 u75 u76 u77 u78 u79 u80 u81 u82 u83 u84 u85 u86 u87 u88 u89 u90 u91 u92 u93 u94 u95 u96 u97 u98 u99 u100 u101 u102 u103 u104 u105 u106 u107 u108 u109 u110 u111 u112 u113 u114 u115 u116 u117 u118 u119 u120 u121 u122 u123 u124 u125 u126 u127 u128 u129 u130 u131 u132 u133 u134 u135 u136 u137 u138 u139 u140 u141 u142 u143 u144 u145 u146 u147 u148 u149 u150 u151 u152 u153 u154 u155 u156 u157 u158 u159 u160 u161 u162 u163 u164 u165 u166 u167 u168 u169 u170 u171 u172 u173 u174 u175 u176 u177 u178 u179 u180 u181 u182 u183 u184 u185 u186 u187 u188 u189 u190 u191 u192 u193 u194 u195 u196 u197 u198 u199 u200 u201 u202 u203 u204 u205 u206 u207 u208 u209 u210 u211 u212 u213 u214 u215 u216 u217 u218 u219 u220 u221 u222 u223 u224 u225 u226 u227 u228 u229 u230 u231 u232 u233 u234 u235 u236 u237 u238 u239 u240 u241 u242 u243 u244 u245 u246 u247 u248 u249 u250 u251 u252 u253 u254 u255 u256 u257 u258 u259 u260 u261 u262 u263 u264 u265 u266 u267 u268 u269 u270 u271 u272 u273 u274 u275 u276 u277 u278 u279 u280 u281 u282 u283 u284 u285 u286 u287 u288 : Value)
    (hend : ∀ (v10 v40 v264 v265 v266 v267 v268 v269 v270 v271 v272 v273 v274 v275 v276 v277 v278 v279 v280 v281 v282 v283 v284 : Value) (W' : World), Below W.heap.size W W' → Q .normal ⟨#[u0, u1, u2, u3, u4, u5, u6, u7, u8, u9, v10, u11, u12, u13, u14, u15, u16, u17, u18, u19, u20, u21, u22, u23, .pointer (some ⟨bl, 0, none⟩), .pointer (some ⟨be, 0, none⟩), u26, u27, u28, u29, u30, u31, u32, u33, u34, u35, .int .i64 (l : Int), u37, u38, .map (some b39), v40, u41, u42, u43, u44, u45, u46, u47, u48, u49, u50, u51, u52, u53, u54, u55, u56, u57, u58, u59, u60, u61, u62, u63, u64, u65, u66, u67, u68, u69, u70, u71, u72, u73, u74, u75, u76, u77, u78, u79, u80, u81, u82, u83, u84, u85, u86, u87, u88, u89, u90, u91, u92, u93, u94, u95, u96, u97, u98, u99, u100, u101, u102, u103, u104, u105, u106, u107, u108, u109, u110, u111, u112, u113, u114, u115, u116, u117, u118, u119, u120, u121, u122, u123, u124, u125, u126, u127, u128, u129, u130, u131, u132, u133, u134, u135, u136, u137, u138, u139, u140, u141, u142, u143, u144, u145, u146, u147, u148, u149, u150, u151, u152, u153, u154, u155, u156, u157, u158, u159, u160, u161, u162, u163, u164, u165, u166, u167, u168, u169, u170, u171, u172, u173, u174, u175, u176, u177, u178, u179, u180, u181, u182, u183, u184, u185, u186, u187, u188, u189, u190, u191, u192, u193, u194, u195, u196, u197, u198, u199, u200, u201, u202, u203, u204, u205, u206, u207, u208, u209, u210, u211, u212, u213, u214, u215, u216, u217, u218, u219, u220, u221, u222, u223, u224, u225, u226, u227, u228, u229, u230, u231, u232, u233, u234, u235, u236, u237, u238, u239, u240, u241, u242, u243, u244, u245, u246, u247, u248, u249, u250, u251, u252, u253, u254, u255, u256, u257, u258, u259, u260, u261, u262, u263, v264, v265, v266, v267, v268, v269, v270, v271, v272, v273, v274, v275, v276, v277, v278, v279, v280, v281, v282, v283, v284, u285, u286, u287, u288], []⟩ W') :
    c.wp Yba.prog Q ⟨#[u0, u1, u2, u3, u4, u5, u6, u7, u8, u9, u10, u11, u12, u13, u14, u15, u16, u17, u18, u19, u20, u21, u22, u23, .pointer (some ⟨bl, 0, none⟩), .pointer (some ⟨be, 0, none⟩), u26, u27, u28, u29, u30, u31, u32, u33, u34, u35, .int .i64 (l : Int), u37, u38, .map (some b39), .int .i64 0, u41, u42, u43, u44, u45, u46, u47, u48, u49, u50, u51, u52, u53, u54, u55, u56, u57, u58, u59, u60, u61, u62, u63, u64, u65, u66, u67, u68, u69, u70, u71, u72, u73, u74, u75, u76, u77, u78, u79, u80, u81, u82, u83, u84, u85, u86, u87, u88, u89, u90, u91, u92, u93, u94, u95, u96, u97, u98, u99, u100, u101, u102, u103, u104, u105, u106, u107, u108, u109, u110, u111, u112, u113, u114, u115, u116, u117, u118, u119, u120, u121, u122, u123, u124, u125, u126, u127, u128, u129, u130, u131, u132, u133, u134, u135, u136, u137, u138, u139, u140, u141, u142, u143, u144, u145, u146, u147, u148, u149, u150, u151, u152, u153, u154, u155, u156, u157, u158, u159, u160, u161, u162, u163, u164, u165, u166, u167, u168, u169, u170, u171, u172, u173, u174, u175, u176, u177, u178, u179, u180, u181, u182, u183, u184, u185, u186, u187, u188, u189, u190, u191, u192, u193, u194, u195, u196, u197, u198, u199, u200, u201, u202, u203, u204, u205, u206, u207, u208, u209, u210, u211, u212, u213, u214, u215, u216, u217, u218, u219, u220, u221, u222, u223, u224, u225, u226, u227, u228, u229, u230, u231, u232, u233, u234, u235, u236, u237, u238, u239, u240, u241, u242, u243, u244, u245, u246, u247, u248, u249, u250, u251, u252, u253, u254, u255, u256, u257, u258, u259, u260, u261, u262, u263, u264, u265, u266, u267, u268, u269, u270, u271, u272, u273, u274, u275, u276, u277, u278, u279, u280, u281, u282, u283, u284, u285, u286, u287, u288], []⟩ W := by
  obtain rfl : c = ((Yba.f3.body.bind (blkCode 16)).getD .skip) := by rw [hc]; rfl
  clear hc
  conv => arg 2; whnf
  dsimp only
  have HN : Hid _ := hend
  clear hend
  have HA : Hid _ := And.intro hlead (And.intro hexp (And.intro hm (And.intro hin hrow)))
  clear hlead hexp hm hin hrow
  go_wp2_with fail
  go_loopw [40] (fun i wr => ∃ (k : Nat), i = .int .i64 k ∧ k ≤ 256 ∧ Below W.heap.size W wr) (fun i _ => (256 - intOf i).toNat)
  case atStart => exact ⟨0, rfl, by omega, Below.refl _ _⟩
  case round =>
    obtain ⟨k, rfl, hkn, hbel⟩ := hrel
    have HB : Hid _ := hbel
    clear hbel
    by_cases hk : k < 256
    · have i1 : (0 : Int) ≤ (k : Int) := by omega
      have i2 : (k : Int) < 256 := by omega
      go_upto_region 77 with fail
      refine wp_region_noPanic ?_
      obtain ⟨hlead, hexp, hm, hin, hrow⟩ := HA.out
      have cl := cell_later HB.out (hlead k hk)
      have ce := cell_later HB.out (hexp k hk)
      cases hb : lead k == (l : Int) with
      | true =>
        have hb' : lead k = (l : Int) := by simpa using hb
        rw [hb'] at cl
        obtain ⟨v1, hf1, hr1⟩ := hin k hk hb'
        refine cmp_hit _ rfl _ (fun _ _ _ _ h => h) wr bl l k be b39 base1 base2 f v1 (ev k) (KK k) P kd hk (hlen k) cl ce (hm.kept (grown_below HB.out) (by simp)) hf1 (hr1.kept (grown_below HB.out) (by cases Value.ownBlock _ <;> simp)) ((hrow k hk).kept (grown_below HB.out) (by cases Value.ownBlock _ <;> simp)) _ (by rfl : Hid _) (by rfl) (by rfl) (by rfl) (by rfl) (by rfl) ?_
        clear hlead hexp hm hin hrow cl ce hb hb' hf1 hr1
        intro a' W2 hsb b2
        obtain ⟨vs, hvs, rfl⟩ := hsb.list (by decide) (n := 289) (by rfl) (by decide)
        clear hsb
        have hv0 := hvs
        obtain ⟨w268, vs1, rfl, hv1⟩ := cons_of_len hv0
        obtain ⟨w269, vs2, rfl, hv2⟩ := cons_of_len hv1
        obtain ⟨w270, vs3, rfl, hv3⟩ := cons_of_len hv2
        obtain ⟨w271, vs4, rfl, hv4⟩ := cons_of_len hv3
        obtain ⟨w272, vs5, rfl, hv5⟩ := cons_of_len hv4
        obtain ⟨w273, vs6, rfl, hv6⟩ := cons_of_len hv5
        obtain ⟨w274, vs7, rfl, hv7⟩ := cons_of_len hv6
        obtain ⟨w275, vs8, rfl, hv8⟩ := cons_of_len hv7
        obtain ⟨w276, vs9, rfl, hv9⟩ := cons_of_len hv8
        obtain ⟨w277, vs10, rfl, hv10⟩ := cons_of_len hv9
        obtain ⟨w278, vs11, rfl, hv11⟩ := cons_of_len hv10
        obtain ⟨w279, vs12, rfl, hv12⟩ := cons_of_len hv11
        obtain ⟨w280, vs13, rfl, hv13⟩ := cons_of_len hv12
        obtain ⟨w281, vs14, rfl, hv14⟩ := cons_of_len hv13
        obtain ⟨w282, vs15, rfl, hv15⟩ := cons_of_len hv14
        obtain ⟨w283, vs16, rfl, hv16⟩ := cons_of_len hv15
        obtain rfl := List.length_eq_zero_iff.1 hv16
        clear hvs hv0 hv1 hv2 hv3 hv4 hv5 hv6 hv7 hv8 hv9 hv10 hv11 hv12 hv13 hv14 hv15 hv16
        simp only [List.cons_append, List.nil_append]
        simp only [Act.put, List.setIfInBounds_toArray]
        refine NoPanic.normal ?_
        have hb2 : Below W.heap.size W W2 := HB.out.trans (b2.mono HB.out.size)
        have HD : Hid _ := hb2
        clear hb2 b2 HB
        go_wp2
        go_roundw
        case rel => exact ⟨k + 1, by simp, by omega, HD.out⟩
        case measure => simp [intOf]; omega
      | false =>
        refine cmp_miss _ rfl _ (fun _ _ _ _ h => h) wr bl l k (lead k) hk cl hb _ (by rfl : Hid _) (by rfl) (by rfl) (by rfl) ?_
        clear hlead hexp hm hin hrow cl ce hb
        intro a' W2 hsb b2
        obtain ⟨vs, hvs, rfl⟩ := hsb.list (by decide) (n := 289) (by rfl) (by decide)
        clear hsb
        have hv0 := hvs
        obtain ⟨w268, vs1, rfl, hv1⟩ := cons_of_len hv0
        obtain ⟨w269, vs2, rfl, hv2⟩ := cons_of_len hv1
        obtain ⟨w270, vs3, rfl, hv3⟩ := cons_of_len hv2
        obtain ⟨w271, vs4, rfl, hv4⟩ := cons_of_len hv3
        obtain ⟨w272, vs5, rfl, hv5⟩ := cons_of_len hv4
        obtain ⟨w273, vs6, rfl, hv6⟩ := cons_of_len hv5
        obtain ⟨w274, vs7, rfl, hv7⟩ := cons_of_len hv6
        obtain ⟨w275, vs8, rfl, hv8⟩ := cons_of_len hv7
        obtain ⟨w276, vs9, rfl, hv9⟩ := cons_of_len hv8
        obtain ⟨w277, vs10, rfl, hv10⟩ := cons_of_len hv9
        obtain ⟨w278, vs11, rfl, hv11⟩ := cons_of_len hv10
        obtain ⟨w279, vs12, rfl, hv12⟩ := cons_of_len hv11
        obtain ⟨w280, vs13, rfl, hv13⟩ := cons_of_len hv12
        obtain ⟨w281, vs14, rfl, hv14⟩ := cons_of_len hv13
        obtain ⟨w282, vs15, rfl, hv15⟩ := cons_of_len hv14
        obtain ⟨w283, vs16, rfl, hv16⟩ := cons_of_len hv15
        obtain rfl := List.length_eq_zero_iff.1 hv16
        clear hvs hv0 hv1 hv2 hv3 hv4 hv5 hv6 hv7 hv8 hv9 hv10 hv11 hv12 hv13 hv14 hv15 hv16
        simp only [List.cons_append, List.nil_append]
        simp only [Act.put, List.setIfInBounds_toArray]
        refine NoPanic.normal ?_
        have hb2 : Below W.heap.size W W2 := HB.out.trans (b2.mono HB.out.size)
        have HD : Hid _ := hb2
        clear hb2 b2 HB
        go_wp2
        go_roundw
        case rel => exact ⟨k + 1, by simp, by omega, HD.out⟩
        case measure => simp [intOf]; omega
    · obtain rfl : k = 256 := by omega
      go_wp2
      exact HN.out _ _ _ _ _ _ _ _ _ _ _ _ _ _ _ _ _ _ _ _ _ _ _ _ HB.out
end Go.Proofs.Ybulkddqw
