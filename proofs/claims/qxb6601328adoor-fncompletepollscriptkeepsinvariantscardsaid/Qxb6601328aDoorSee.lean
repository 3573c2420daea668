import Derived.Test.Qxb6601328aDoorStore
import Derived.ProofKit
import Derived.OpenShut
import Derived.Deep.Slices
namespace Go.Proofs.Qxb6601328aDoor
open Go.RowKit Go.Deep Go.WideShapes Go.Own

theorem Tryd.cellsP3 : Tryd.prog.cellsOf 3 = 1 := by kernel_rfl
theorem Tryd.cellsP24 : Tryd.prog.cellsOf 24 = 2 := by kernel_rfl

section
variable {H : Type} {enc : TypeId × Value → H} {w : World} {base : Nat} {spare : Nat → Bool} {held : Bool}

theorem see_pair {fuel : Nat} {cs : List Value} {x : DataW H × List MemPlace} (h : DataW.trod enc Tryd.prog w base spare held fuel 24 cs = some x) : ∃ a b : Int, cs = [.int .i64 a, .int .i64 b] := by
  obtain ⟨xs, m, rfl, rfl, hlen, hn, hel⟩ := DataW.trod_array Tryd.underlying24 h
  rw [Tryd.cellsP24] at hlen
  rw [Tryd.cellsP3] at hel
  match cs, hlen with
  | [c0, c1], _ =>
    have e0 := hel 0 (by decide)
    have e1 := hel 1 (by decide)
    match xs, hn with
    | [y0, y1], _ =>
      obtain ⟨a, ha, -, -⟩ := DataW.trod_int Tryd.underlying3 (show DataW.trod enc Tryd.prog w base spare held m 3 [c0] = some y0 from e0)
      obtain ⟨b, hb, -, -⟩ := DataW.trod_int Tryd.underlying3 (show DataW.trod enc Tryd.prog w base spare held m 3 [c1] = some y1 from e1)
      simp at ha hb
      exact ⟨a, b, by rw [ha, hb]⟩

theorem see_pairs {fuel : Nat} {cs : List Value} {x : DataW H × List MemPlace} (h : DataW.trod enc Tryd.prog w base spare held fuel 22 cs = some x) :
    ∃ a n c, cs = [.slice a n c] ∧ n ≤ c ∧ (a = Option.none → c = 0) ∧ PairsAt w a n := by
  rcases open_slice Tryd.underlying22 h with ⟨rfl, rfl⟩ | ⟨a, len, cap, m, n, D, Pl, rfl, hb, hl, hm, hmm, rfl, hx⟩
  · exact ⟨Option.none, 0, 0, rfl, Nat.le_refl _, fun _ => rfl, fun h => absurd h (Nat.lt_irrefl _)⟩
  · have hlm : len ≤ m := by rw [hmm]; split <;> omega
    rw [Tryd.cellsP24] at hx
    refine ⟨some a, len, cap, rfl, hl, fun e => (by cases e), fun hn => ?_⟩
    obtain ⟨b, off, spot⟩ := a
    have hs : ∀ i, i < len → ∃ x y : Int, w.cell? (Addr.add ⟨b, off, spot⟩ (i * 2)) = some (.int .i64 x) ∧ w.cell? (Addr.add (Addr.add ⟨b, off, spot⟩ (i * 2)) 1) = some (.int .i64 y) := by
      intro i hi
      obtain ⟨cs', h1, h2⟩ := hx i (by omega)
      obtain ⟨x, y, rfl⟩ := see_pair h2
      obtain ⟨_, _, hc⟩ := World.cells?_some h1
      exact ⟨x, y, by simpa [Addr.add] using hc 0 (by decide), by simpa using hc 1 (by decide)⟩
    obtain ⟨x0, y0, q0, -⟩ := hs 0 hn
    have hspot : spot = Option.none := by simpa [Addr.add] using World.cell?_spot q0
    subst hspot
    refine ⟨b, off, rfl, fun i hi => ?_⟩
    obtain ⟨x, y, q0, q1⟩ := hs i hi
    rw [add_plain] at q0 q1
    rw [add_plain] at q1
    exact ⟨x, y, q0, q1⟩
end
end Go.Proofs.Qxb6601328aDoor
