import Derived.Test.Qxb6001688aFmtRows
import Derived.Test.Qxb6001688aFmtCards
import Derived.Test.Qxb6001688aFmtLaw
import Derived.Test.Qxb6001688aFmtSee
import Derived.ShutString
import Derived.ChangeOld
import Derived.Stop.JoinedTold
import Derived.SevenToldRow
namespace Go.Proofs.Qxb6001688aFmt
open Go.ChangeShapes Go.WideShapes Go.ChangeAt Go.RowKit Go.Own
open Go.ChangeMaps (open_string shut_string)
open Go.Extern.Stop Go.Stop Go.Extern
set_option linter.unusedVariables false

theorem Tryf.own : ownKnob Tryf.prog.godebug = Option.none := by kernel_rfl
theorem Tryf.laidOut : laidOutB Tryf.pinned.checked.prog = true := by kernel_rfl
theorem Tryf.stops : Tryf.pinned.checked.prog.stops = ["fmt.errorf", "fmt.Sprintf"] := by kernel_rfl
theorem Tryf.stopKnobs : Tryf.pinned.checked.prog.stopKnobs = [] := by kernel_rfl
theorem Tryf.quiet (os : Os) : Stop.quiet Tryf.pinned.checked.prog os := by
  intro k hk
  rw [Tryf.stopKnobs] at hk
  cases hk
theorem Tryf.cellsP3 : Tryf.prog.cellsOf 3 = 1 := by kernel_rfl
theorem Tryf.cellsP4 : Tryf.prog.cellsOf 4 = 1 := by kernel_rfl
theorem Tryf.cellsP5 : Tryf.prog.cellsOf 5 = 1 := by kernel_rfl

set_option maxRecDepth 100000 in
theorem law7_lifted (os : Os) (started : os.Started) (H : Type) (enc : TypeId × Value → H) :
    ReturnsInTold Option.none {} Tryf.checked os 7 .any Input.okWide ((OpenSpec.ofChange Rows.fnNextConsumesMatchingPrefixSpec).preRow enc Tryf.prog Tryf.f7 Rows.fnNextConsumesMatchingPrefixRow.domain false [])
      (fun F => ((OpenSpec.ofChange Rows.fnNextConsumesMatchingPrefixSpec).at F).post enc Tryf.prog Tryf.f7 false true false false) (aloneAtReturn Tryf.prog) nothingAlways := by
  refine returnsInTold_of_row (C := Tryf.checked) (s := OpenSpec.ofChange Rows.fnNextConsumesMatchingPrefixSpec) (by kernel_rfl) Tryf.own started (by kernel_rfl) Tryf.func7
    (OpenSpec.witness_stopped (enc := enc) (C := Tryf.checked) false ⟨#[], #[.slice Option.none 0 0, .slice Option.none 0 0, .slice Option.none 0 0, .slice Option.none 0 0, .slice Option.none 0 0, .slice Option.none 0 0], []⟩ 8 (by kernel_rfl) (by kernel_rfl) (by kernel_rfl) (by kernel_rfl)) ?_
  intro F W base args ds gs before _ hF hval0 hW _ _ hsz _ _
  have hval : ∀ (j : Nat) t v, Tryf.f7.params[j]? = some t → args[j]? = some v → Value.okWide Tryf.prog W .any base t v := hval0
  have hW' := hW
  obtain ⟨p, q, hA0, hV, rfl, hfz, hnd⟩ := hW
  have hA : DataW.TrodAll enc Tryf.prog W 0 (fun _ => true) true Tryf.f7.params.toList args.toList ds p := hA0
  rw [Tryf.params7] at hA hval
  obtain ⟨v0, vs0, d0, ds0, p0, q0, hargs, rfl, rfl, h0, r0⟩ := trodAll_cons hA
  obtain ⟨v1, vs1, d1, ds1, p1, q1, rfl, rfl, rfl, h1, r1⟩ := trodAll_cons r0
  obtain ⟨v2, vs2, d2, ds2, p2, q2, rfl, rfl, rfl, h2, r2⟩ := trodAll_cons r1
  obtain ⟨v3, vs3, d3, ds3, p3, q3, rfl, rfl, rfl, h3, r3⟩ := trodAll_cons r2
  obtain ⟨v4, vs4, d4, ds4, p4, q4, rfl, rfl, rfl, h4, r4⟩ := trodAll_cons r3
  obtain ⟨v5, vs5, d5, ds5, p5, q5, rfl, rfl, rfl, h5, r5⟩ := trodAll_cons r4
  obtain ⟨rfl, rfl, rfl⟩ := trodAll_nil r5
  obtain rfl : args = #[v0, v1, v2, v3, v4, v5] := by cases args; simp_all
  obtain ⟨rfl, rfl⟩ := trodVars_none hV
  obtain ⟨a0, n0, c0, rfl⟩ := okWide_slice Tryf.underlying49 (hval 0 49 v0 rfl rfl)
  obtain ⟨a1, n1, c1, rfl⟩ := okWide_slice Tryf.underlying49 (hval 1 49 v1 rfl rfl)
  obtain ⟨a2, n2, c2, rfl⟩ := okWide_slice Tryf.underlying50 (hval 2 50 v2 rfl rfl)
  obtain ⟨a3, n3, c3, rfl⟩ := okWide_slice Tryf.underlying26 (hval 3 26 v3 rfl rfl)
  obtain ⟨a4, n4, c4, rfl⟩ := okWide_slice Tryf.underlying49 (hval 4 49 v4 rfl rfl)
  obtain ⟨a5, n5, c5, rfl⟩ := okWide_slice Tryf.underlying50 (hval 5 50 v5 rfl rfl)
  have k0 := h0
  have k1 := h1
  have k2 := h2
  have k3 := h3
  have k4 := h4
  have k5 := h5
  have lt0 : ∀ x ∈ p0, x.block < W.heap.size := by obtain ⟨m, hm⟩ := k0; exact DataW.trod_lt m _ _ _ hm
  have lt1 : ∀ x ∈ p1, x.block < W.heap.size := by obtain ⟨m, hm⟩ := k1; exact DataW.trod_lt m _ _ _ hm
  have lt2 : ∀ x ∈ p2, x.block < W.heap.size := by obtain ⟨m, hm⟩ := k2; exact DataW.trod_lt m _ _ _ hm
  have lt3 : ∀ x ∈ p3, x.block < W.heap.size := by obtain ⟨m, hm⟩ := k3; exact DataW.trod_lt m _ _ _ hm
  have lt4 : ∀ x ∈ p4, x.block < W.heap.size := by obtain ⟨m, hm⟩ := k4; exact DataW.trod_lt m _ _ _ hm
  have lt5 : ∀ x ∈ p5, x.block < W.heap.size := by obtain ⟨m, hm⟩ := k5; exact DataW.trod_lt m _ _ _ hm
  obtain ⟨f0, hf0⟩ := h0
  obtain ⟨f1, hf1⟩ := h1
  obtain ⟨f2, hf2⟩ := h2
  obtain ⟨f3, hf3⟩ := h3
  obtain ⟨f4, hf4⟩ := h4
  obtain ⟨f5, hf5⟩ := h5
  obtain ⟨a0', n0', c0', X, e0, g0, -, -⟩ := see_ints Tryf.underlying49 Tryf.underlying3 Tryf.cellsP3 hf0
  obtain ⟨a1', n1', c1', Y, e1, g1, -, -⟩ := see_ints Tryf.underlying49 Tryf.underlying3 Tryf.cellsP3 hf1
  obtain ⟨a2', n2', c2', B, e2, g2, -⟩ := see_bools Tryf.underlying50 Tryf.underlying4 Tryf.cellsP4 hf2
  obtain ⟨a3', n3', c3', Q, e3, g3, -, -⟩ := see_ints Tryf.underlying26 Tryf.underlying5 Tryf.cellsP5 hf3
  obtain ⟨a4', n4', c4', U, e4, g4, -, -⟩ := see_ints Tryf.underlying49 Tryf.underlying3 Tryf.cellsP3 hf4
  obtain ⟨a5', n5', c5', V, e5, g5, -⟩ := see_bools Tryf.underlying50 Tryf.underlying4 Tryf.cellsP4 hf5
  simp [Value.cells] at e0 e1 e2 e3 e4 e5
  obtain ⟨rfl, rfl, rfl⟩ := e0
  obtain ⟨rfl, rfl, rfl⟩ := e1
  obtain ⟨rfl, rfl, rfl⟩ := e2
  obtain ⟨rfl, rfl, rfl⟩ := e3
  obtain ⟨rfl, rfl, rfl⟩ := e4
  obtain ⟨rfl, rfl, rfl⟩ := e5
  clear hA0 hval0
  refine (law7 F.told a0 a1 a2 a3 a4 a5 n0 c0 n1 c1 n2 c2 n3 c3 n4 c4 n5 c5 X Y B Q U V W hF g0 g1 g2 g3 g4 g5).mono fun e W' ⟨he, bel⟩ => ?_
  subst he
  exact ⟨_, rfl, _, _, _, [], _, [], hW', trodAll_mk1 (shut_bool Tryf.underlying4 _),
    (trodAll_cons_mk (Below.trod Tryf.laidOut (by kernel_rfl) (of_decide_eq_true (by kernel_rfl)) k0 bel lt0) (trodAll_cons_mk (Below.trod Tryf.laidOut (by kernel_rfl) (of_decide_eq_true (by kernel_rfl)) k1 bel lt1) (trodAll_cons_mk (Below.trod Tryf.laidOut (by kernel_rfl) (of_decide_eq_true (by kernel_rfl)) k2 bel lt2)
      (trodAll_cons_mk (Below.trod Tryf.laidOut (by kernel_rfl) (of_decide_eq_true (by kernel_rfl)) k3 bel lt3) (trodAll_cons_mk (Below.trod Tryf.laidOut (by kernel_rfl) (of_decide_eq_true (by kernel_rfl)) k4 bel lt4) (trodAll_cons_mk (Below.trod Tryf.laidOut (by kernel_rfl) (of_decide_eq_true (by kernel_rfl)) k5 bel lt5)
        trodAll_mk0)))))), rfl, bel.frame _, fun h => by cases h⟩

/-- THE STATEMENT -/
theorem nextConsumes_proved : Rows.FnNextConsumesMatchingPrefixToldSaid :=
  Claim7.holds_of_told_any 7 Tryf.f7 "fmt.errorf" ["fmt.Sprintf"] [] _ _ _ (by kernel_rfl) rfl rfl rfl Tryf.laidOut (by kernel_rfl) rfl ⟨rfl, rfl, rfl, rfl, rfl, rfl, rfl⟩ rfl rfl (by kernel_rfl) (by kernel_rfl) Tryf.func7 (by kernel_rfl)
    (of_decide_eq_true (by kernel_rfl)) (of_decide_eq_true (by kernel_rfl)) Tryf.stops.symm rfl Tryf.stopKnobs.symm (by kernel_rfl)
    (by kernel_rfl) (by kernel_rfl) (by kernel_rfl) (by kernel_rfl) (by kernel_rfl) (by kernel_rfl) (by kernel_rfl) (by kernel_rfl) (by kernel_rfl) rfl (by kernel_rfl) rfl rfl
    rfl rfl
    rfl (by kernel_rfl) (by kernel_rfl) (by kernel_rfl) (by decide) (by kernel_rfl)
    (OpenClaim.moreEntering_of (by kernel_rfl) (by kernel_rfl) (by kernel_rfl) (by kernel_rfl) (by kernel_rfl) (by kernel_rfl) (by kernel_rfl) (by kernel_rfl) (by kernel_rfl) (by kernel_rfl))
    ⟨_, WideRow.started_initial, Tryf.quiet _⟩
    (fun os started _ H enc _ => law7_lifted os started H enc)
#print axioms nextConsumes_proved
end Go.Proofs.Qxb6001688aFmt
