import Derived.Test.Qxb6602460aRows
import Derived.Test.Qxb6602460aLaw8
import Derived.Test.Qxb6602460aSee
import Derived.ShutString
import Derived.ChangeOld
namespace Go.Proofs.Qxb6602460a
open Go.ChangeShapes Go.WideShapes Go.ChangeAt Go.RowKit Go.Own
open Go.ChangeMaps (open_string shut_string)
set_option linter.unusedVariables false

theorem own : ownKnob Try.prog.godebug = none := by kernel_rfl
theorem laidOut : laidOutB Try.prog = true := by kernel_rfl
theorem Try.cells3 : Try.prog.cellsOf 3 = 1 := by kernel_rfl
theorem Try.cells4 : Try.prog.cellsOf 4 = 1 := by kernel_rfl
theorem Try.cells9 : Try.prog.cellsOf 9 = 1 := by kernel_rfl
theorem Try.cells22 : Try.prog.cellsOf 22 = 1 := by kernel_rfl

set_option maxRecDepth 100000 in
theorem law8_lifted (os : Os) (started : os.Started) (H : Type) (enc : TypeId × Value → H) :
    ReturnsInHanded {} Try.checked os 8 .any (Rows.fnLatestRepeatedReadIsStableSpec.pre6 enc Try.prog Try.f8 Rows.fnLatestRepeatedReadIsStableRow.domain false) (Rows.fnLatestRepeatedReadIsStableSpec.post enc Try.prog Try.f8 false true false false) := by
  refine returnsInHanded_of_change (C := Try.checked) own started (by kernel_rfl) Try.func8
    (ChangeSpec.witness6 (enc := enc) (C := Try.checked) false ⟨#[], #[.bool false, .slice Option.none 0 0, .slice Option.none 0 0, .bool false, .slice Option.none 0 0, .slice Option.none 0 0, .string ByteArray.empty], []⟩ 8 (by kernel_rfl) (by kernel_rfl) (by kernel_rfl) (by kernel_rfl)) ?_
  intro W base args ds gs before hval0 hW hcnd _
  have hval : ∀ (j : Nat) t v, Try.f8.params[j]? = some t → args[j]? = some v → Value.okWide Try.prog W .any base t v := hval0
  have hW' := hW
  obtain ⟨p, q, hA0, hV, rfl, hfz, hnd⟩ := hW
  have hA : DataW.TrodAll enc Try.prog W 0 (fun _ => true) true Try.f8.params.toList args.toList ds p := hA0
  rw [Try.params8] at hA hval
  obtain ⟨v0, vs0, d0, ds0, p0, q0, hargs, rfl, rfl, h0, r0⟩ := trodAll_cons hA
  obtain ⟨v1, vs1, d1, ds1, p1, q1, rfl, rfl, rfl, h1, r1⟩ := trodAll_cons r0
  obtain ⟨v2, vs2, d2, ds2, p2, q2, rfl, rfl, rfl, h2, r2⟩ := trodAll_cons r1
  obtain ⟨v3, vs3, d3, ds3, p3, q3, rfl, rfl, rfl, h3, r3⟩ := trodAll_cons r2
  obtain ⟨v4, vs4, d4, ds4, p4, q4, rfl, rfl, rfl, h4, r4⟩ := trodAll_cons r3
  obtain ⟨v5, vs5, d5, ds5, p5, q5, rfl, rfl, rfl, h5, r5⟩ := trodAll_cons r4
  obtain ⟨v6, vs6, d6, ds6, p6, q6, rfl, rfl, rfl, h6, r6⟩ := trodAll_cons r5
  obtain ⟨rfl, rfl, rfl⟩ := trodAll_nil r6
  obtain rfl : args = #[v0, v1, v2, v3, v4, v5, v6] := by cases args; simp_all
  obtain ⟨rfl, rfl⟩ := trodVars_none hV
  obtain ⟨a0, rfl, rfl, rfl⟩ := open_bool Try.underlying4 (hval 0 4 v0 rfl rfl) h0
  obtain ⟨a1, n1, c1, rfl⟩ := okWide_slice Try.underlying36 (hval 1 36 v1 rfl rfl)
  obtain ⟨a2, n2, c2, rfl⟩ := okWide_slice Try.underlying23 (hval 2 23 v2 rfl rfl)
  obtain ⟨a3, rfl, rfl, rfl⟩ := open_bool Try.underlying4 (hval 3 4 v3 rfl rfl) h3
  obtain ⟨a4, n4, c4, rfl⟩ := okWide_slice Try.underlying22 (hval 4 22 v4 rfl rfl)
  obtain ⟨a5, n5, c5, rfl⟩ := okWide_slice Try.underlying28 (hval 5 28 v5 rfl rfl)
  obtain ⟨s6, rfl, rfl, rfl, hs6⟩ := open_string Try.underlying9 (hval 6 9 v6 rfl rfl) h6
  have k1 := h1
  have k2 := h2
  have k4 := h4
  have k5 := h5
  have lt1 : ∀ x ∈ p1, x.block < W.heap.size := by obtain ⟨m, hm⟩ := k1; exact DataW.trod_lt m _ _ _ hm
  have lt2 : ∀ x ∈ p2, x.block < W.heap.size := by obtain ⟨m, hm⟩ := k2; exact DataW.trod_lt m _ _ _ hm
  have lt4 : ∀ x ∈ p4, x.block < W.heap.size := by obtain ⟨m, hm⟩ := k4; exact DataW.trod_lt m _ _ _ hm
  have lt5 : ∀ x ∈ p5, x.block < W.heap.size := by obtain ⟨m, hm⟩ := k5; exact DataW.trod_lt m _ _ _ hm
  obtain ⟨f1, hf1⟩ := h1
  obtain ⟨f2, hf2⟩ := h2
  obtain ⟨f4, hf4⟩ := h4
  obtain ⟨f5, hf5⟩ := h5
  obtain ⟨a1', n1', c1', S, e1, g1, -, hS⟩ := see_strings Try.underlying36 Try.underlying9 Try.cells9 hf1
  obtain ⟨a2', n2', c2', A, N, C, X, e2, g2, -, hX⟩ := see_rows Try.underlying23 Try.underlying22 Try.underlying3 Try.cells22 Try.cells3 hf2
  obtain ⟨a4', n4', c4', I, e4, g4, -, hI⟩ := see_ints Try.underlying22 Try.underlying3 Try.cells3 hf4
  obtain ⟨a5', n5', c5', B, e5, g5, -⟩ := see_bools Try.underlying28 Try.underlying4 Try.cells4 hf5
  simp [Value.cells] at e1 e2 e4 e5
  obtain ⟨rfl, rfl, rfl⟩ := e1
  obtain ⟨rfl, rfl, rfl⟩ := e2
  obtain ⟨rfl, rfl, rfl⟩ := e4
  obtain ⟨rfl, rfl, rfl⟩ := e5
  clear hA0 hval0
  refine (law8 a0 a3 a1 a2 a4 a5 n1 c1 n2 c2 n4 c4 n5 c5 S A N C X I B s6 W g1 hS ⟨g2, fun i hi => (hX i hi).1⟩ (fun i hi => (hX i hi).2.2) g4 hI g5 hs6).mono fun e W' ⟨he, bel⟩ => ?_
  subst he
  exact ⟨_, rfl, _, _, _, [], _, [], hW', trodAll_mk1 (shut_bool Try.underlying4 _),
    (trodAll_cons_mk (shut_bool Try.underlying4 _) (trodAll_cons_mk (Below.trod laidOut (by kernel_rfl) (of_decide_eq_true (by kernel_rfl)) k1 bel lt1) (trodAll_cons_mk (Below.trod laidOut (by kernel_rfl) (of_decide_eq_true (by kernel_rfl)) k2 bel lt2)
      (trodAll_cons_mk (shut_bool Try.underlying4 _) (trodAll_cons_mk (Below.trod laidOut (by kernel_rfl) (of_decide_eq_true (by kernel_rfl)) k4 bel lt4) (trodAll_cons_mk (Below.trod laidOut (by kernel_rfl) (of_decide_eq_true (by kernel_rfl)) k5 bel lt5)
        (trodAll_cons_mk (shut_string Try.underlying9 hs6) trodAll_mk0))))))), rfl, bel.frame _, fun h => by cases h⟩

theorem law8_over : Rows.fnLatestRepeatedReadIsStableRow.holds Try.pinned (OpenSpec.ofChange Rows.fnLatestRepeatedReadIsStableSpec) :=
  OpenClaim.holds_of_wide 8 Try.f8 rfl rfl rfl rfl rfl rfl rfl ⟨rfl, rfl, rfl, rfl, rfl⟩ rfl rfl rfl rfl rfl (by kernel_rfl) Try.func8 (by kernel_rfl)
    (of_decide_eq_true (by kernel_rfl)) (by unfold Func.isWrapper; first | (rw [if_pos (by decide +kernel)]; kernel_rfl) | (rw [if_neg (by decide +kernel)]; exact ⟨rfl, rfl⟩))
    (fun os started H enc _ => law8_lifted os started H enc)

/-- THE STATEMENT -/
theorem latestRepeated_proved : Rows.FnLatestRepeatedReadIsStableSaid := law8_over
#print axioms latestRepeated_proved
end Go.Proofs.Qxb6602460a
