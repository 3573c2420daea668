import Derived.Test.Qxb6002590aPoint
import Derived.Maps.AppendAt
import Derived.Lib.AppendZeros
import Derived.OwnWalk
namespace Go.Proofs.Qxb6002590a
open Go.RowKit Go.Own

/-! ### A slice of bytes that the call itself has made -/
def bs (xs : List Int) : List Value := xs.map (fun x => .int .u8 x)

def OwnB (w : World) (base : Nat) (v : Value) (xs : List Int) : Prop := w.ownsRow base 5 1 v xs.length (bs xs)

theorem bs_get (xs : List Int) {i : Nat} (h : i < xs.length) : (bs xs)[i]? = some (By xs i) := by
  simp [bs, By, List.getD_eq_getElem?_getD, h]

theorem add_none (b off i : Nat) : Addr.add ⟨b, off, Option.none⟩ i = ⟨b, off + i, Option.none⟩ := by unfold Addr.add; split <;> simp_all

theorem OwnB.form {w : World} {base : Nat} {v : Value} {xs : List Int} (h : OwnB w base v xs) :
    ∃ a c, v = .slice a xs.length c ∧ BytesAt w a c xs ∧ (∀ b off, a = some ⟨b, off, Option.none⟩ → base ≤ b) ∧ (a = Option.none → xs = []) := by
  have hc := fun g hg => World.ownsRow.cells (g := g) h hg
  rcases h.2 with ⟨rfl, h0⟩ | ⟨g, cap, cur, rfl, hb, hg, hle, hm, hs, ht⟩
  · refine ⟨Option.none, 0, by rw [h0], ⟨by omega, fun _ => rfl, fun hn => absurd hn (by omega)⟩, fun b off e => (by cases e), fun _ => List.length_eq_zero_iff.1 h0⟩
  · refine ⟨_, cap, rfl, ⟨hle, fun e => (by cases e), fun hn => ⟨g, 0, rfl, fun i hi => ?_⟩⟩, fun b off e => by cases e; exact hb, fun e => by cases e⟩
    have := hc g rfl i (By xs i) (bs_get xs hi)
    rw [add_none] at this
    exact this

theorem OwnB.nil (w : World) (base : Nat) : OwnB w base (.slice Option.none 0 0) [] := World.ownsRow_nil w base 5 1

theorem grown_below {w w' : World} {row : Option Nat} {B : Nat} (hg : w.grownBy w' row) (hB : B ≤ w.heap.size) (hr : ∀ k, row = some k → B ≤ k) : Below B w w' :=
  ⟨hg.os, hg.tape, hg.output, hg.size, fun k hk => hg.block k (by omega) (fun e => by have := hr k e.symm; omega)⟩

theorem append_nothing (w : World) (t e ty : TypeId) (i : TypeInfo) (ht : Try.prog.underlying t = some (.slice e)) (hi : Try.prog.info? e = some i) (v : Option Addr) (n cap : Nat) (hle : n ≤ cap) (a : Option Addr) (c : Nat) :
    (Builtin.append_ #[t, t] ty #[.slice v n cap, .slice a 0 c]).run Try.prog w = .ok (.slice v n cap) w := by
  cases v <;> cases a <;> simp [Builtin.append_, run_underlying ht, sizeOf, typeInfo, hi, hle, storeCells, Builtin.firstCells, Builtin.lenOf, loadCells, loadCellsFrom]

theorem append_bytes {w : World} {base : Nat} {v : Value} {xs ys : List Int} {a : Option Addr} {c : Nat} (ty : TypeId) (h : OwnB w base v xs) (hb : base ≤ w.heap.size) (hs : BytesAt w a c ys) (hl : xs.length + ys.length ≤ 16777216) :
    ∃ v' w', (Builtin.append_ #[22, 22] ty #[v, .slice a ys.length c]).run Try.prog w = .ok v' w' ∧ OwnB w' base v' (xs ++ ys) ∧ w.grownBy w' v.ownBlock ∧ (ys = [] → v' = v ∧ w' = w) ∧ (ys ≠ [] → v' ≠ .slice Option.none 0 0) := by
  obtain ⟨i0, hi, hz0, hz1, hz2⟩ := info_parts Try.info5
  by_cases hy : ys = []
  · subst hy
    obtain ⟨av, cv, rfl, hbv, -, -⟩ := h.form
    refine ⟨_, _, append_nothing w 22 5 ty i0 Try.underlying22 hi av xs.length cv hbv.cap a c, by simpa using h, ⟨rfl, rfl, rfl, Nat.le_refl _, fun _ _ _ => rfl⟩, fun _ => ⟨rfl, rfl⟩, fun h => absurd rfl h⟩
  · have hpos : 0 < ys.length := List.length_pos_iff.2 hy
    obtain ⟨b, off, rfl, hc⟩ := hs.cells hpos
    obtain ⟨v', w', hr, h2, h3, -, -⟩ := run_append_own_at (P := Try.prog) w base 22 ty 5 i0 (.int .u8 0) 1 1 Try.underlying22 hi hz0 hz1 hz2 rfl (by decide) v xs.length (bs xs) h ⟨b, off, Option.none⟩ ys.length c (bs ys) (by simp [bs])
      (fun j u hu => by
        have hj : j < ys.length := by
          have := (List.getElem?_eq_some_iff.1 hu).1
          simpa [bs] using this
        rw [bs_get ys hj] at hu
        cases hu
        rw [add_none]
        exact hc j hj)
      (fun u hu => by
        obtain ⟨x, -, rfl⟩ := List.mem_map.1 hu
        rfl) (by simp only [maxLen]; omega) (by omega) hb
    refine ⟨v', w', hr, ?_, h3, fun e => absurd e hy, fun _ e => ?_⟩
    · unfold OwnB
      rw [List.length_append, show bs (xs ++ ys) = bs xs ++ bs ys by simp [bs]]
      exact h2
    · subst e
      rcases h2.2 with ⟨-, h0⟩ | ⟨g, cap, cur, e, -⟩
      · omega
      · cases e
end Go.Proofs.Qxb6002590a
