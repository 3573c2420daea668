import Derived.Test.Qxb6002590aKeys
namespace Go.Proofs.Qxb6002590a
open Go.RowKit Go.Own

/-- The spans and the key, as the call has them. -/
structure In (W : World) (B off n : Nat) (S : Nat → Sp) (ka : Option Addr) (kn kc : Nat) (κ : Nat → Nat) : Prop where
  sp : ∀ i, i < n → SpAt W B (off + i * 5) (S i)
  ok : ∀ i, i < n → (S i).ok W
  len : ∀ i, i < n → (S i).lo.length ≤ 1048576 ∧ (S i).hi.length ≤ 1048576
  key : SliceAt W ka kn kc (fun j => .int .i64 (κ j : Nat))
  at_ : ∀ j, j < kn → κ j < n
  n0 : n ≤ 65536
  k0 : kn ≤ 65536

/-- The first column that is no point. -/
def IsEq (S : Nat → Sp) (κ : Nat → Nat) (kn q : Nat) : Prop := q ≤ kn ∧ (∀ j, j < q → (S (κ j)).point = true) ∧ (q < kn → (S (κ q)).point = false)

/-- The key's columns, as integers. -/
def zs (κ : Nat → Nat) (kn : Nat) : List Int := (List.range kn).map (fun (j : Nat) => (κ j : Int))

/-- The narrowed columns that are not served. -/
def unOf (S : Nat → Sp) (κ : Nat → Nat) (kn m n : Nat) : List Int := ((List.range n).map (fun (i : Nat) => (i : Int))).filter (fun i => (S i.toNat).na && !((zs κ kn).take m).contains i)

/-- The points' values, joined. -/
def pfxOf (S : Nat → Sp) (κ : Nat → Nat) : Nat → List Int
  | 0 => []
  | q + 1 => pfxOf S κ q ++ (S (κ q)).lo

theorem unOf_succ (S : Nat → Sp) (κ : Nat → Nat) (kn m n : Nat) : unOf S κ kn m (n + 1) = unOf S κ kn m n ++ (if ((S n).na && !((zs κ kn).take m).contains (n : Int)) = true then [(n : Int)] else []) := by
  simp only [unOf, List.range_succ, List.map_append, List.filter_append, List.map_cons, List.map_nil]
  congr 1
  simp only [List.filter_cons, List.filter_nil, Int.toNat_natCast]

theorem zs_len (κ : Nat → Nat) (kn : Nat) : (zs κ kn).length = kn := by simp [zs]
theorem zs_get (κ : Nat → Nat) {kn j : Nat} (h : j < kn) : (zs κ kn).getD j 0 = (κ j : Int) := by simp [zs, List.getD_eq_getElem?_getD, h]

/-! ### A slice of integers that the call itself has made -/
def is (xs : List Int) : List Value := xs.map (fun x => .int .i64 x)
def OwnI (w : World) (base : Nat) (v : Value) (xs : List Int) : Prop := w.ownsRow base 3 1 v xs.length (is xs)

theorem append_int {w : World} {base : Nat} {v : Value} {xs : List Int} (x : Int) (b : Nat) (ty : TypeId) (h : OwnI w base v xs) (hb : base ≤ w.heap.size) (hs : w.cell? ⟨b, 0, Option.none⟩ = some (.int .i64 x)) (hl : xs.length ≤ 1048576) :
    ∃ v' w', (Builtin.append_ #[38, 38] ty #[v, .slice (some ⟨b, 0, Option.none⟩) 1 1]).run Try.prog w = .ok v' w' ∧ OwnI w' base v' (xs ++ [x]) ∧ w.grownBy w' v.ownBlock := by
  obtain ⟨i0, hi, hz0, hz1, hz2⟩ := info_parts Try.info3
  obtain ⟨v', w', hr, h2, h3, -, -⟩ := run_append_own_at (P := Try.prog) w base 38 ty 3 i0 (.int .i64 0) 1 8 Try.underlying38 hi hz0 hz1 hz2 rfl (by decide) v xs.length (is xs) h ⟨b, 0, Option.none⟩ 1 1 [.int .i64 x] rfl
    (fun j u hu => by
      cases j with
      | zero => cases hu; exact hs
      | succ j => simp at hu)
    (fun u hu => by
      cases hu with
      | head => rfl
      | tail _ h => cases h) (by simp only [maxLen]; omega) (by omega) hb
  refine ⟨v', w', hr, ?_, h3⟩
  unfold OwnI
  rw [List.length_append, show is (xs ++ [x]) = is xs ++ [.int .i64 x] by simp [is]]
  exact h2

theorem OwnI.nil (w : World) (base : Nat) : OwnI w base (.slice Option.none 0 0) [] := World.ownsRow_nil w base 3 1

theorem OwnI.isNil {w : World} {base : Nat} {v : Value} {xs : List Int} (h : OwnI w base v xs) : ∃ a c, v = .slice a xs.length c ∧ (a = Option.none → xs = []) ∧ (∀ b off, a = some ⟨b, off, Option.none⟩ → base ≤ b) ∧ SliceAt w a xs.length c (fun i => .int .i64 (xs.getD i 0)) := by
  have hc := fun g hg => World.ownsRow.cells (g := g) h hg
  rcases h.2 with ⟨rfl, h0⟩ | ⟨g, cap, cur, rfl, hb, hg, hle, hm, hs, ht⟩
  · exact ⟨Option.none, 0, by rw [h0], fun _ => List.length_eq_zero_iff.1 h0, fun b off e => (by cases e), ⟨by omega, fun _ => rfl, fun hn => absurd hn (by omega)⟩⟩
  · refine ⟨_, cap, rfl, fun e => (by cases e), fun b off e => (by cases e; exact hb), ⟨hle, fun e => (by cases e), fun hn => ⟨g, 0, rfl, fun i hi => ?_⟩⟩⟩
    have := hc g rfl i (.int .i64 (xs.getD i 0)) (by simp [is, List.getD_eq_getElem?_getD, hi])
    rw [add_none] at this
    exact this

set_option maxHeartbeats 4000000 in
set_option maxRecDepth 100000 in
theorem serve0 (B off n sc kn kc : Nat) (ka : Option Addr) (W : World) (Q : Exit → Act → World → Prop) (Z : Code) (a : Act) (s4 s5 s6 s7 s8 s9 s12 s15 : Value)
    (hF : Fr31 a (.slice (some ⟨B, off, Option.none⟩) n sc) (.slice ka kn kc) (s4) (s5) (s6) (s7) (s8) (s9) (s12) (s15))
    (hZ : ∀ a', Fr31 a' (.slice (some ⟨B, off, Option.none⟩) n sc) (.slice ka kn kc) (.pointer (some ⟨W.heap.size, 0, Option.none⟩)) (.bool false) (.slice Option.none 0 0) (.int .i64 0) (s8) (s9) (s12) (s15) → Code.wp Try.prog Z Q a' (W.alloc (.cells #[.pointer Option.none, .pointer Option.none, .bool false, .int .i64 0] 27))) :
    Code.wp Try.prog (.seq (stm Try.f31.body 0) (.seq (stm Try.f31.body 1) Z)) Q a W := by
  have HZ := hide hZ
  clear hZ
  refine fr_open31 (fun a => Code.wp Try.prog (.seq (stm Try.f31.body 0) (.seq (stm Try.f31.body 1) Z)) Q a W) a hF ?_
  intro u2 u3 u10 u11 u13 u14 u16 u17 u18 u19 u20 u21 u22 u23 u24 u25 u26 u27 u28 u29 u30 u31 u32 u33 u34 u35 u36 u37 u38 u39 u40 u41 u42 u43 u44 u45 u46 u47 u48 u49 u50 u51 u52 u53 u54 u55 u56 u57 u58 u59 u60 u61 u62 u63 u64 u65 u66 u67 u68 u69 u70 u71 u72 u73 u74 u75 u76 u77 u78 u79 u80 u81 u82 u83 u84 u85 u86 u87 u88 u89 u90 u91 u92 u93 u94 u95 u96 u97 u98 u99
  dsimp only
  conv => arg 2; arg 1; whnf
  conv => arg 2; arg 2; arg 1; whnf
  go_wp2_with fail
  exact unhide HZ _ ⟨rfl, rfl, rfl, rfl, rfl, rfl, rfl, rfl, rfl, rfl, rfl, rfl⟩

set_option maxHeartbeats 4000000 in
set_option maxRecDepth 100000 in
theorem serve1 (B off n sc kn kc qb : Nat) (ka : Option Addr) (S : Nat → Sp) (κ : Nat → Nat) (W : World) (w : World) (Q : Exit → Act → World → Prop) (Z : Code) (a : Act) (s8 s9 s12 s15 : Value)
    (hI : In W B off n S ka kn kc κ) (hb : Below W.heap.size W w) (hq : RngAt w qb Option.none Option.none)
    (hF : Fr31 a (.slice (some ⟨B, off, Option.none⟩) n sc) (.slice ka kn kc) (.pointer (some ⟨qb, 0, Option.none⟩)) (.bool false) (.slice Option.none 0 0) (.int .i64 0) (s8) (s9) (s12) (s15))
    (hZ : ∀ a' w' q, IsEq S κ kn q → Fr31 a' (.slice (some ⟨B, off, Option.none⟩) n sc) (.slice ka kn kc) (.pointer (some ⟨qb, 0, Option.none⟩)) (.bool false) (.slice Option.none 0 0) (.int .i64 (q : Nat)) (s8) (s9) (s12) (s15) → Below W.heap.size W w' → RngAt w' qb Option.none Option.none → Code.wp Try.prog Z Q a' w') :
    Code.wp Try.prog (.seq (stm Try.f31.body 2) Z) Q a w := by
  have HZ := hide hZ
  have hk0 := hI.k0
  have hn0 := hI.n0
  clear hZ
  refine fr_open31 (fun a => Code.wp Try.prog (.seq (stm Try.f31.body 2) Z) Q a w) a hF ?_
  intro u2 u3 u10 u11 u13 u14 u16 u17 u18 u19 u20 u21 u22 u23 u24 u25 u26 u27 u28 u29 u30 u31 u32 u33 u34 u35 u36 u37 u38 u39 u40 u41 u42 u43 u44 u45 u46 u47 u48 u49 u50 u51 u52 u53 u54 u55 u56 u57 u58 u59 u60 u61 u62 u63 u64 u65 u66 u67 u68 u69 u70 u71 u72 u73 u74 u75 u76 u77 u78 u79 u80 u81 u82 u83 u84 u85 u86 u87 u88 u89 u90 u91 u92 u93 u94 u95 u96 u97 u98 u99
  dsimp only
  conv => arg 2; arg 1; whnf
  go_wp2_with fail
  go_loopw [7] (fun t wr => ∃ q : Nat, q ≤ kn ∧ t = .int .i64 q ∧ (∀ j, j < q → (S (κ j)).point = true) ∧ Below W.heap.size W wr ∧ RngAt wr qb Option.none Option.none) (fun t _ => kn - (intOf t).toNat)
  case atStart => exact ⟨0, Nat.zero_le _, rfl, fun j hj => absurd hj (Nat.not_lt_zero _), hb, hq⟩
  case round =>
    obtain ⟨q, hqk, rfl, hall, hbr, hqr⟩ := hrel
    have HALL := hide hall
    clear hall
    by_cases hlt : q < kn
    · obtain ⟨b1, o1, rfl, hkc⟩ := hI.key.cells (by omega)
      have hkq := cell_below hbr (hkc q hlt)
      have hκ := hI.at_ q hlt
      obtain ⟨e0, e1, e2, e3, e4⟩ := (hI.sp _ hκ).below hbr
      have hok := (hI.ok _ hκ).below hbr
      have hpt := point34 (S (κ q)) wr hok
      have li : (q : Int) < (kn : Int) := by omega
      have lk : ((κ q : Nat) : Int) < (n : Int) := by omega
      clear hkc hok
      cases hp : (S (κ q)).point
      · rw [hp] at hpt
        go_wp2_with fail
        refine hpt.mono ?_
        rintro e w1 ⟨rfl, hb1⟩
        go_wp2_with fail
        exact unhide HZ _ _ q ⟨hqk, unhide HALL, fun _ => hp⟩ ⟨rfl, rfl, rfl, rfl, rfl, rfl, rfl, rfl, rfl, rfl, rfl, rfl⟩ (below_step hbr hb1) (hqr.below hb1)
      · rw [hp] at hpt
        go_wp2_with fail
        refine hpt.mono ?_
        rintro e w1 ⟨rfl, hb1⟩
        go_wp2_with fail
        go_roundw
        case rel => exact ⟨q + 1, hlt, by go_num, fun j hj => by
            by_cases e : j = q
            · subst e; exact hp
            · exact unhide HALL j (by omega), below_step hbr hb1, hqr.below hb1⟩
        case measure => simp [intOf]; omega
    · have li : (kn : Int) ≤ (q : Int) := by omega
      go_wp2_with fail
      exact unhide HZ _ _ q ⟨hqk, unhide HALL, fun h => absurd h hlt⟩ ⟨rfl, rfl, rfl, rfl, rfl, rfl, rfl, rfl, rfl, rfl, rfl, rfl⟩ hbr hqr

end Go.Proofs.Qxb6002590a
