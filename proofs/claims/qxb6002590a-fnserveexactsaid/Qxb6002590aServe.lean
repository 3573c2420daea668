import Derived.Test.Qxb6002590aServeD
namespace Go.Proofs.Qxb6002590a
open Go.RowKit Go.Own

theorem OwnI.mono {w : World} {b b' : Nat} {v : Value} {xs : List Int} (h : OwnI w b v xs) (hb : b' ≤ b) : OwnI w b' v xs := by
  refine ⟨h.1, ?_⟩
  rcases h.2 with h | ⟨g, cap, cur, h1, h2, h3⟩
  · exact .inl h
  · exact .inr ⟨g, cap, cur, h1, Nat.le_trans hb h2, h3⟩

theorem pfx_u8 {W : World} {B off n : Nat} {S : Nat → Sp} {ka : Option Addr} {kn kc : Nat} {κ : Nat → Nat} (hI : In W B off n S ka kn kc κ) : ∀ q, q ≤ kn → U8 (pfxOf S κ q)
  | 0, _ => fun x hx => (by cases hx)
  | q + 1, h => u8_append (pfx_u8 hI q (by omega)) (hI.ok _ (hI.at_ q (by omega))).2.2.1

/-- What 'serve' gives. -/
def ServePost (n kn : Nat) (S : Nat → Sp) (κ : Nat → Nat) (W : World) (e : Ending) (w' : World) : Prop :=
  Below W.heap.size W w' ∧ ∃ q, IsEq S κ kn q ∧
    ((unOf S κ kn (min (q + 1) kn) n ≠ [] ∧ ∃ v, e = .returned (.tuple #[.agg #[.pointer Option.none, .pointer Option.none, .bool false, .int .i64 0], .bool false, v]) ∧ OwnI w' W.heap.size v (unOf S κ kn (min (q + 1) kn) n)) ∨
     (unOf S κ kn (min (q + 1) kn) n = [] ∧ ∃ L U ok, e = .returned (.tuple #[.agg #[.pointer L, .pointer U, .bool false, .int .i64 0], .bool ok, .slice Option.none 0 0]) ∧ Served (pfxOf S κ q).isEmpty (pfxOf S κ q) (nextOf S κ kn q) W.heap.size w' L U ok))

set_option maxHeartbeats 4000000 in
set_option maxRecDepth 100000 in
theorem serve31 (B off n sc kn kc : Nat) (ka : Option Addr) (S : Nat → Sp) (κ : Nat → Nat) (W : World) (hI : In W B off n S ka kn kc κ) (hpl : ∀ q, IsEq S κ kn q → (pfxOf S κ q).length ≤ 1048576) :
    Calls Try.prog 31 #[.slice (some ⟨B, off, Option.none⟩) n sc, .slice ka kn kc] W (ServePost n kn S κ W) := by
  go_enter Try.func31, Try.ntmps31
  show Code.wp Try.prog (.seq (stm Try.f31.body 0) (.seq (stm Try.f31.body 1) (.seq (stm Try.f31.body 2) (.seq (stm Try.f31.body 3) (.seq (stm Try.f31.body 4) (.seq (stm Try.f31.body 5) (.seq (stm Try.f31.body 6) (.seq (stm Try.f31.body 7) (.seq (stm Try.f31.body 8) (rst Try.f31.body 9)))))))))) _ _ _
  refine serve0 B off n sc kn kc ka W _ _ _ _ _ _ _ _ _ _ _ ⟨rfl, rfl, rfl, rfl, rfl, rfl, rfl, rfl, rfl, rfl, rfl, rfl⟩ ?_
  intro a1 hF1
  have hq1 := RngAt.made W
  have hb1 : Below W.heap.size W (W.alloc (.cells #[.pointer Option.none, .pointer Option.none, .bool false, .int .i64 0] 27)) := (Below.refl _ _).alloc (Nat.le_refl _) _
  have hs1 : W.heap.size + 1 ≤ (W.alloc (.cells #[.pointer Option.none, .pointer Option.none, .bool false, .int .i64 0] 27)).heap.size := by simp
  generalize W.alloc (.cells #[.pointer Option.none, .pointer Option.none, .bool false, .int .i64 0] 27) = w1 at hq1 hb1 hs1
  refine serve1 B off n sc kn kc W.heap.size ka S κ W w1 _ _ a1 _ _ _ _ hI hb1 hq1 hF1 ?_
  intro a2 w2 q hq hF2 hb2 hq2
  have hs2 : W.heap.size + 1 ≤ w2.heap.size := World.rowIs.lt hq2
  refine serve2 B off n sc kn kc W.heap.size ka S κ W w2 q _ _ a2 _ _ _ _ hI hq.1 hF2 ?_
  intro a3 m hm hF3
  refine serve3 B off n sc kn kc W.heap.size ka S κ W m (W.heap.size + 1) w2 _ _ a3 _ _ _ hI (by omega) hb2 hq2 (by omega) (by omega) hs2 hF3 ?_
  intro a4 w4 v hF4 ho4 hn4 hb4 hq4 hs4
  refine serve4 B off n sc kn kc W.heap.size ka W (W.heap.size + 1) _ w4 _ _ a4 _ _ _ _ v hb4 hq4 (Nat.le_refl _) (by omega) ho4 hn4 hF4 ?_ ?_
  · intro hne a5 w5 hF5 ho5 hb5 hq5
    obtain ⟨k0, k1, k2, k3⟩ := hq5.cells
    refine fr_open31 (fun a => bodyPost Try.prog Try.f31 (ServePost n kn S κ W) .ret a w5) a5 hF5 ?_
    intros
    refine bodyPost_ret (v := .tuple #[.agg #[.pointer Option.none, .pointer Option.none, .bool false, .int .i64 0], .bool false, v]) (by simp [results, Try.results31, go_sem, k0, k1, k2, k3]) rfl ?_
    subst hm
    exact ⟨hb5, q, hq, .inl ⟨hne, v, rfl, ho5.mono (by omega)⟩⟩
  · intro hun a5 hF5
    refine serve5 B off n sc kn kc W.heap.size ka S κ W q (W.heap.size + 1) w4 _ _ a5 _ _ _ _ hI hq.1 (hpl q hq) hb4 hq4 (by omega) (by omega) hs4 hF5 ?_
    intro a6 w6 pv hF6 ho6 hn6 hb6 hq6 hs6
    obtain ⟨pa, pc, rfl, hp6, -, hpn⟩ := ho6.form
    have hpi : pa.isNone = (pfxOf S κ q).isEmpty := by
      cases pa with
      | none => rw [hpn rfl]; rfl
      | some ad =>
        cases hx : pfxOf S κ q with
        | nil => have := hn6 hx; cases this
        | cons x xs => rfl
    refine serve6 B off n sc kn kc W.heap.size ka S κ W q (W.heap.size + 1) pa pc (pfxOf S κ q) w6 _ a6 _ _ _ hI hq.1 hp6 (pfx_u8 hI q hq.1) (hpl q hq) hb6 hq6 (Nat.le_refl _) (by omega) hs6 hF6 ?_
    intro a7 w7 L U ok hF7 hb7 hq7 hS7
    obtain ⟨k0, k1, k2, k3⟩ := hq7.cells
    refine fr_open31 (fun a => bodyPost Try.prog Try.f31 (ServePost n kn S κ W) .ret a w7) a7 hF7 ?_
    intros
    refine bodyPost_ret (v := .tuple #[.agg #[.pointer L, .pointer U, .bool false, .int .i64 0], .bool ok, .slice Option.none 0 0]) (by simp [results, Try.results31, go_sem, k0, k1, k2, k3]) rfl ?_
    subst hm
    rw [hpi] at hS7
    refine ⟨hb7, q, hq, .inr ⟨hun, L, U, ok, rfl, ?_⟩⟩
    rcases hS7 with h | ⟨low, h1, h2, h3, h4⟩
    · exact .inl h
    · exact .inr ⟨low, h1, h2, h3.mono (by omega), h4.mono (by omega)⟩

end Go.Proofs.Qxb6002590a
