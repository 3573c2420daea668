import Derived.Test.Qxb6002590aRows
import Derived.Test.Qxb6002590aLawFive
import Derived.Test.Qxb6002590aSee
import Derived.ShutString
import Derived.ChangeOld
namespace Go.Proofs.Qxb6002590a
open Go.ChangeShapes Go.WideShapes Go.ChangeAt Go.RowKit Go.Own
set_option linter.unusedVariables false

theorem own : ownKnob Try.prog.godebug = none := by kernel_rfl
theorem laidOut : laidOutB Try.prog = true := by kernel_rfl
theorem Try.cells3 : Try.prog.cellsOf 3 = 1 := by kernel_rfl
theorem Try.cells4 : Try.prog.cellsOf 4 = 1 := by kernel_rfl
theorem Try.cells5 : Try.prog.cellsOf 5 = 1 := by kernel_rfl
theorem Try.cells22 : Try.prog.cellsOf 22 = 1 := by kernel_rfl

set_option maxRecDepth 100000 in
theorem law5_lifted (os : Os) (started : os.Started) (H : Type) (enc : TypeId × Value → H) :
    ReturnsInHanded {} Try.checked os 5 .any (Rows.fnServeExactSpec.pre6 enc Try.prog Try.f5 Rows.fnServeExactRow.domain false) (Rows.fnServeExactSpec.post enc Try.prog Try.f5 false true false false) := by
  refine returnsInHanded_of_change (C := Try.checked) own started (by kernel_rfl) Try.func5
    (ChangeSpec.witness6 (enc := enc) (C := Try.checked) false ⟨#[], #[.slice Option.none 0 0, .slice Option.none 0 0, .slice Option.none 0 0, .slice Option.none 0 0, .slice Option.none 0 0, .slice Option.none 0 0, .slice Option.none 0 0], []⟩ 5 (by kernel_rfl) (by kernel_rfl) (by kernel_rfl) (by kernel_rfl)) ?_
  intro W base args ds gs before hval0 hW hcnd _
  have hval : ∀ (j : Nat) t v, Try.f5.params[j]? = some t → args[j]? = some v → Value.okWide Try.prog W .any base t v := hval0
  have hW' := hW
  obtain ⟨p, q, hA0, hV, rfl, hfz, hnd⟩ := hW
  have hA : DataW.TrodAll enc Try.prog W 0 (fun _ => true) true Try.f5.params.toList args.toList ds p := hA0
  rw [Try.params5] at hA hval
  obtain ⟨v0, vs0, d0, ds0, p0, q0, hargs, rfl, rfl, h0, r0⟩ := trodAll_cons hA
  obtain ⟨v1, vs1, d1, ds1, p1, q1, rfl, rfl, rfl, h1, r1⟩ := trodAll_cons r0
  obtain ⟨v2, vs2, d2, ds2, p2, q2, rfl, rfl, rfl, h2, r2⟩ := trodAll_cons r1
  obtain ⟨v3, vs3, d3, ds3, p3, q3, rfl, rfl, rfl, h3, r3⟩ := trodAll_cons r2
  obtain ⟨v4, vs4, d4, ds4, p4, q4, rfl, rfl, rfl, h4, r4⟩ := trodAll_cons r3
  obtain ⟨v5, vs5, d5, ds5, p5, q5, rfl, rfl, rfl, h5, r5⟩ := trodAll_cons r4
  obtain ⟨v6, vs6, d6, ds6, p6, q6, rfl, rfl, rfl, h6, r6⟩ := trodAll_cons r5
  obtain ⟨rfl, rfl, rfl⟩ := trodAll_nil r6
  obtain rfl : args = #[v0, v1, v2, v3, v4, v5, v6] := by cases args; simp_all
  obtain ⟨rfl, rfl⟩ := trodVars_none hV
  obtain ⟨a0, n0, c0, rfl⟩ := okWide_slice Try.underlying36 (hval 0 36 v0 rfl rfl)
  obtain ⟨a1, n1, c1, rfl⟩ := okWide_slice Try.underlying36 (hval 1 36 v1 rfl rfl)
  obtain ⟨a2, n2, c2, rfl⟩ := okWide_slice Try.underlying37 (hval 2 37 v2 rfl rfl)
  obtain ⟨a3, n3, c3, rfl⟩ := okWide_slice Try.underlying37 (hval 3 37 v3 rfl rfl)
  obtain ⟨a4, n4, c4, rfl⟩ := okWide_slice Try.underlying37 (hval 4 37 v4 rfl rfl)
  obtain ⟨a5, n5, c5, rfl⟩ := okWide_slice Try.underlying38 (hval 5 38 v5 rfl rfl)
  obtain ⟨a6, n6, c6, rfl⟩ := okWide_slice Try.underlying22 (hval 6 22 v6 rfl rfl)
  have k0 := h0
  have k1 := h1
  have k2 := h2
  have k3 := h3
  have k4 := h4
  have k5 := h5
  have k6 := h6
  have lt0 : ∀ x ∈ p0, x.block < W.heap.size := by obtain ⟨m, hm⟩ := k0; exact DataW.trod_lt m _ _ _ hm
  have lt1 : ∀ x ∈ p1, x.block < W.heap.size := by obtain ⟨m, hm⟩ := k1; exact DataW.trod_lt m _ _ _ hm
  have lt2 : ∀ x ∈ p2, x.block < W.heap.size := by obtain ⟨m, hm⟩ := k2; exact DataW.trod_lt m _ _ _ hm
  have lt3 : ∀ x ∈ p3, x.block < W.heap.size := by obtain ⟨m, hm⟩ := k3; exact DataW.trod_lt m _ _ _ hm
  have lt4 : ∀ x ∈ p4, x.block < W.heap.size := by obtain ⟨m, hm⟩ := k4; exact DataW.trod_lt m _ _ _ hm
  have lt5 : ∀ x ∈ p5, x.block < W.heap.size := by obtain ⟨m, hm⟩ := k5; exact DataW.trod_lt m _ _ _ hm
  have lt6 : ∀ x ∈ p6, x.block < W.heap.size := by obtain ⟨m, hm⟩ := k6; exact DataW.trod_lt m _ _ _ hm
  obtain ⟨f0, hf0⟩ := h0
  obtain ⟨f1, hf1⟩ := h1
  obtain ⟨f2, hf2⟩ := h2
  obtain ⟨f3, hf3⟩ := h3
  obtain ⟨f4, hf4⟩ := h4
  obtain ⟨f5, hf5⟩ := h5
  obtain ⟨f6, hf6⟩ := h6
  obtain ⟨a0', n0', c0', A0, N0, C0, X0, e0, g0, -, hX0⟩ := see_rows Try.underlying36 Try.underlying22 Try.underlying5 Try.cells22 Try.cells5 hf0
  obtain ⟨a1', n1', c1', A1, N1, C1, X1, e1, g1, -, hX1⟩ := see_rows Try.underlying36 Try.underlying22 Try.underlying5 Try.cells22 Try.cells5 hf1
  obtain ⟨a2', n2', c2', B2, e2, g2, -⟩ := see_bools Try.underlying37 Try.underlying4 Try.cells4 hf2
  obtain ⟨a3', n3', c3', B3, e3, g3, -⟩ := see_bools Try.underlying37 Try.underlying4 Try.cells4 hf3
  obtain ⟨a4', n4', c4', B4, e4, g4, -⟩ := see_bools Try.underlying37 Try.underlying4 Try.cells4 hf4
  obtain ⟨a5', n5', c5', X5, e5, g5, -, hX5⟩ := see_ints Try.underlying38 Try.underlying3 Try.cells3 hf5
  obtain ⟨a6', n6', c6', X6, e6, g6, -, hX6⟩ := see_ints Try.underlying22 Try.underlying5 Try.cells5 hf6
  simp [Value.cells] at e0 e1 e2 e3 e4 e5 e6
  obtain ⟨rfl, rfl, rfl⟩ := e0
  obtain ⟨rfl, rfl, rfl⟩ := e1
  obtain ⟨rfl, rfl, rfl⟩ := e2
  obtain ⟨rfl, rfl, rfl⟩ := e3
  obtain ⟨rfl, rfl, rfl⟩ := e4
  obtain ⟨rfl, rfl, rfl⟩ := e5
  obtain ⟨rfl, rfl, rfl⟩ := e6
  clear hA0 hval0
  have hlaw := law5 a0 a1 a2 a3 a4 a5 a6 n0 n1 n2 n3 n4 n5 c0 c1 c2 c3 c4 c5 c6 A0 A1 C0 C1 (fun i => listOf (N0 i) (X0 i)) (fun i => listOf (N1 i) (X1 i)) B2 B3 B4 X5 (listOf n6 X6) W ⟨(g0.congr fun i hi => by simp only [listOf_len]), (g1.congr fun i hi => by simp only [listOf_len]), g2, g3, g4, g5, (bytes_of g6), fun i hi => ⟨bytes_of (hX0 i hi).1, u8_of (hX0 i hi).2.2⟩, fun i hi => ⟨bytes_of (hX1 i hi).1, u8_of (hX1 i hi).2.2⟩, u8_of hX6⟩
  rw [listOf_len] at hlaw
  refine (hlaw).mono fun e W' ⟨he, bel⟩ => ?_
  subst he
  exact ⟨_, rfl, _, _, _, [], _, [], hW', trodAll_mk1 (shut_bool Try.underlying4 _),
    (trodAll_cons_mk (Below.trod laidOut (by kernel_rfl) (of_decide_eq_true (by kernel_rfl)) k0 bel lt0) (trodAll_cons_mk (Below.trod laidOut (by kernel_rfl) (of_decide_eq_true (by kernel_rfl)) k1 bel lt1) (trodAll_cons_mk (Below.trod laidOut (by kernel_rfl) (of_decide_eq_true (by kernel_rfl)) k2 bel lt2) (trodAll_cons_mk (Below.trod laidOut (by kernel_rfl) (of_decide_eq_true (by kernel_rfl)) k3 bel lt3) (trodAll_cons_mk (Below.trod laidOut (by kernel_rfl) (of_decide_eq_true (by kernel_rfl)) k4 bel lt4) (trodAll_cons_mk (Below.trod laidOut (by kernel_rfl) (of_decide_eq_true (by kernel_rfl)) k5 bel lt5) (trodAll_cons_mk (Below.trod laidOut (by kernel_rfl) (of_decide_eq_true (by kernel_rfl)) k6 bel lt6) trodAll_mk0))))))), rfl, bel.frame _, fun h => by cases h⟩

theorem law5_over : Rows.fnServeExactRow.holds Try.pinned (OpenSpec.ofChange Rows.fnServeExactSpec) :=
  OpenClaim.holds_of_wide 5 Try.f5 rfl rfl rfl rfl rfl rfl rfl ⟨rfl, rfl, rfl, rfl, rfl⟩ rfl rfl rfl rfl rfl (by kernel_rfl) Try.func5 (by kernel_rfl)
    (of_decide_eq_true (by kernel_rfl)) (by unfold Func.isWrapper; first | (rw [if_pos (by decide +kernel)]; kernel_rfl) | (rw [if_neg (by decide +kernel)]; exact ⟨rfl, rfl⟩))
    (fun os started H enc _ => law5_lifted os started H enc)

/-- THE STATEMENT -/
theorem serveExact_proved : Rows.FnServeExactSaid := law5_over
end Go.Proofs.Qxb6002590a
