import Derived.Test.Qxb6604686aV2
import Derived.Test.Qxb6604686aU4
namespace Go.Proofs.Qxb6604686a.fnAllowedMonotoneInHeld
open Go.ChangeShapes Go.WideShapes Go.ChangeAt Go.RowKit
set_option linter.unusedVariables false

set_option maxHeartbeats 1600000 in
set_option maxRecDepth 100000 in
theorem lifted (os : Os) (started : os.Started) (H : Type) (enc : TypeId × Value → H) :
    ReturnsInHanded {} Try.checked os 6 .any (Rows.fnAllowedMonotoneInHeldSpec.pre6 enc Try.prog Try.f6 Rows.fnAllowedMonotoneInHeldRow.domain false) (Rows.fnAllowedMonotoneInHeldSpec.post enc Try.prog Try.f6 false true false false) := by
  refine returnsInHanded_of_change (C := Try.checked) own started (by kernel_rfl) Try.func6
    (ChangeSpec.witness6 (enc := enc) (C := Try.checked) false ⟨#[], #[.slice none 0 0, .slice none 0 0, .slice none 0 0, .slice none 0 0, .int .i64 0, .slice none 0 0, .slice none 0 0, .slice none 0 0, .slice none 0 0, .slice none 0 0], []⟩ 8 (by kernel_rfl) (by kernel_rfl) (by kernel_rfl) (by kernel_rfl)) ?_
  intro W base args ds gs before hval0 hW hcnd _
  have hval : ∀ (j : Nat) t v, Try.f6.params[j]? = some t → args[j]? = some v → Value.okWide Try.prog W .any base t v := hval0
  have hW' := hW
  obtain ⟨p, q, hA0, hV, rfl, hfz, hnd⟩ := hW
  have hA : DataW.TrodAll enc Try.prog W 0 (fun _ => true) true Try.f6.params.toList args.toList ds p := hA0
  rw [Try.params6] at hA hval
  obtain ⟨v0, vs0, d0, ds0, p0, q0, hargs, rfl, rfl, h0, r0⟩ := trodAll_cons hA
  obtain ⟨v1, vs1, d1, ds1, p1, q1, rfl, rfl, rfl, h1, r1⟩ := trodAll_cons r0
  obtain ⟨v2, vs2, d2, ds2, p2, q2, rfl, rfl, rfl, h2, r2⟩ := trodAll_cons r1
  obtain ⟨v3, vs3, d3, ds3, p3, q3, rfl, rfl, rfl, h3, r3⟩ := trodAll_cons r2
  obtain ⟨v4, vs4, d4, ds4, p4, q4, rfl, rfl, rfl, h4, r4⟩ := trodAll_cons r3
  obtain ⟨v5, vs5, d5, ds5, p5, q5, rfl, rfl, rfl, h5, r5⟩ := trodAll_cons r4
  obtain ⟨v6, vs6, d6, ds6, p6, q6, rfl, rfl, rfl, h6, r6⟩ := trodAll_cons r5
  obtain ⟨v7, vs7, d7, ds7, p7, q7, rfl, rfl, rfl, h7, r7⟩ := trodAll_cons r6
  obtain ⟨v8, vs8, d8, ds8, p8, q8, rfl, rfl, rfl, h8, r8⟩ := trodAll_cons r7
  obtain ⟨v9, vs9, d9, ds9, p9, q9, rfl, rfl, rfl, h9, r9⟩ := trodAll_cons r8
  obtain ⟨rfl, rfl, rfl⟩ := trodAll_nil r9
  obtain rfl : args = #[v0, v1, v2, v3, v4, v5, v6, v7, v8, v9] := by cases args; simp_all
  obtain ⟨rfl, rfl⟩ := trodVars_none hV
  have hlt := fun x hx => hW'.lt x hx
  have t0 := h0
  obtain ⟨⟨a0, c0, x0⟩, rfl, i0⟩ := arg_ws (hval 0 41 v0 rfl rfl) h0
  have t1 := h1
  obtain ⟨⟨a1, c1, x1⟩, rfl, i1⟩ := arg_ws (hval 1 41 v1 rfl rfl) h1
  have t2 := h2
  obtain ⟨⟨a2, c2, x2⟩, rfl, i2⟩ := arg_ws (hval 2 41 v2 rfl rfl) h2
  have t3 := h3
  obtain ⟨⟨a3, c3, x3⟩, rfl, i3⟩ := arg_ws (hval 3 41 v3 rfl rfl) h3
  have t4 := h4
  obtain ⟨n4, rfl, rfl, rfl, w4⟩ := open_int Try.underlying3 (hval 4 3 v4 rfl rfl) h4
  have t5 := h5
  obtain ⟨a5, c5, x5, rfl, i5⟩ := arg_rs (hval 5 42 v5 rfl rfl) h5
  have t6 := h6
  obtain ⟨a6, c6, x6, rfl, i6⟩ := arg_as (hval 6 43 v6 rfl rfl) h6
  have t7 := h7
  obtain ⟨a7, c7, x7, rfl, i7⟩ := arg_rs (hval 7 42 v7 rfl rfl) h7
  have t8 := h8
  obtain ⟨a8, c8, x8, rfl, i8⟩ := arg_es (hval 8 44 v8 rfl rfl) h8
  have t9 := h9
  obtain ⟨⟨a9, c9, x9⟩, rfl, i9⟩ := arg_is (hval 9 45 v9 rfl rfl) h9
  clear hA0 hval0 hA hval
  refine (monotone_any a0 a1 a2 a3 a5 a6 a7 a8 a9 c0 c1 c2 c3 c5 c6 c7 c8 c9 x5.length x0.length x1.length x2.length x3.length x6.length x7.length x8.length x9.length n4 x0 x1 x2 x3 x5 x6 x7 x8 x9 W i0 i1 i2 i3 i5 i6 i7 i8 i9 rfl rfl rfl rfl rfl rfl rfl rfl rfl).mono fun e W' ⟨he, hb⟩ => ?_
  subst he
  have ARGS := trodAll_cons_mk (Below.trod laidOut (by kernel_rfl) (of_decide_eq_true (by kernel_rfl)) t0 hb (fun x hx => hlt x (by simp [hx]))) (trodAll_cons_mk (Below.trod laidOut (by kernel_rfl) (of_decide_eq_true (by kernel_rfl)) t1 hb (fun x hx => hlt x (by simp [hx]))) (trodAll_cons_mk (Below.trod laidOut (by kernel_rfl) (of_decide_eq_true (by kernel_rfl)) t2 hb (fun x hx => hlt x (by simp [hx]))) (trodAll_cons_mk (Below.trod laidOut (by kernel_rfl) (of_decide_eq_true (by kernel_rfl)) t3 hb (fun x hx => hlt x (by simp [hx]))) (trodAll_cons_mk (Below.trod laidOut (by kernel_rfl) (of_decide_eq_true (by kernel_rfl)) t4 hb (fun x hx => by simp at hx)) (trodAll_cons_mk (Below.trod laidOut (by kernel_rfl) (of_decide_eq_true (by kernel_rfl)) t5 hb (fun x hx => hlt x (by simp [hx]))) (trodAll_cons_mk (Below.trod laidOut (by kernel_rfl) (of_decide_eq_true (by kernel_rfl)) t6 hb (fun x hx => hlt x (by simp [hx]))) (trodAll_cons_mk (Below.trod laidOut (by kernel_rfl) (of_decide_eq_true (by kernel_rfl)) t7 hb (fun x hx => hlt x (by simp [hx]))) (trodAll_cons_mk (Below.trod laidOut (by kernel_rfl) (of_decide_eq_true (by kernel_rfl)) t8 hb (fun x hx => hlt x (by simp [hx]))) (trodAll_cons_mk (Below.trod laidOut (by kernel_rfl) (of_decide_eq_true (by kernel_rfl)) t9 hb (fun x hx => hlt x (by simp [hx]))) (trodAll_mk0))))))))))
  exact ⟨_, rfl, _, _, _, [], _, [], hW', trodAll_cons_mk (shut_bool Try.underlying4 _) trodAll_mk0, ARGS, rfl, hb.frame _, fun h => by cases h⟩

theorem over : Rows.fnAllowedMonotoneInHeldRow.holds Try.pinned (OpenSpec.ofChange Rows.fnAllowedMonotoneInHeldSpec) :=
  OpenClaim.holds_of_wide 6 Try.f6 rfl rfl rfl rfl rfl rfl rfl ⟨rfl, rfl, rfl, rfl, rfl⟩ rfl rfl rfl rfl rfl (by kernel_rfl) Try.func6 (by kernel_rfl)
    (of_decide_eq_true (by kernel_rfl)) (by unfold Func.isWrapper; first | (rw [if_pos (by decide +kernel)]; kernel_rfl) | (rw [if_neg (by decide +kernel)]; exact ⟨rfl, rfl⟩))
    (fun os started H enc _ => lifted os started H enc)

/-- THE STATEMENT. -/
theorem proved : Rows.FnAllowedMonotoneInHeldSaid :=
  over
end Go.Proofs.Qxb6604686a.fnAllowedMonotoneInHeld
