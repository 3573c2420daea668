import Derived.Test.Qxb6002590aServeB
namespace Go.Proofs.Qxb6002590a
open Go.RowKit Go.Own

set_option maxHeartbeats 4000000 in
set_option maxRecDepth 100000 in
theorem serve4 (B off n sc kn kc qb : Nat) (ka : Option Addr) (W : World) (m0 : Nat) (un : List Int) (w : World) (Q : Exit → Act → World → Prop) (Z : Code) (a : Act) (s7 s8 s12 s15 v : Value)
    (hb : Below W.heap.size W w) (hq : RngAt w qb Option.none Option.none) (hWq : W.heap.size ≤ qb) (hqm : qb < m0) (ho : OwnI w m0 v un) (hnil : un = [] → v = .slice Option.none 0 0)
    (hF : Fr31 a (.slice (some ⟨B, off, Option.none⟩) n sc) (.slice ka kn kc) (.pointer (some ⟨qb, 0, Option.none⟩)) (.bool false) (.slice Option.none 0 0) (s7) (s8) (v) (s12) (s15))
    (hQ : un ≠ [] → ∀ a' w', Fr31 a' (.slice (some ⟨B, off, Option.none⟩) n sc) (.slice ka kn kc) (.pointer (some ⟨qb, 0, Option.none⟩)) (.bool false) (v) (s7) (s8) (v) (s12) (s15) → OwnI w' m0 v un → Below W.heap.size W w' → RngAt w' qb Option.none Option.none → Q .ret a' w')
    (hZ : un = [] → ∀ a', Fr31 a' (.slice (some ⟨B, off, Option.none⟩) n sc) (.slice ka kn kc) (.pointer (some ⟨qb, 0, Option.none⟩)) (.bool false) (.slice Option.none 0 0) (s7) (s8) (v) (s12) (s15) → Code.wp Try.prog Z Q a' w) :
    Code.wp Try.prog (.seq (stm Try.f31.body 6) Z) Q a w := by
  have HZ := hide hZ
  have HQ := hide hQ
  have hnn := nnil38
  clear hZ hQ
  by_cases hu : un = []
  · subst hu
    obtain rfl := hnil rfl
    clear hnil ho
    refine fr_open31 (fun a => Code.wp Try.prog (.seq (stm Try.f31.body 6) Z) Q a w) a hF ?_
    intro u2 u3 u10 u11 u13 u14 u16 u17 u18 u19 u20 u21 u22 u23 u24 u25 u26 u27 u28 u29 u30 u31 u32 u33 u34 u35 u36 u37 u38 u39 u40 u41 u42 u43 u44 u45 u46 u47 u48 u49 u50 u51 u52 u53 u54 u55 u56 u57 u58 u59 u60 u61 u62 u63 u64 u65 u66 u67 u68 u69 u70 u71 u72 u73 u74 u75 u76 u77 u78 u79 u80 u81 u82 u83 u84 u85 u86 u87 u88 u89 u90 u91 u92 u93 u94 u95 u96 u97 u98 u99
    dsimp only
    conv => arg 2; arg 1; whnf
    go_wp2_with fail
    exact unhide HZ (by simp) _ ⟨rfl, rfl, rfl, rfl, rfl, rfl, rfl, rfl, rfl, rfl, rfl, rfl⟩
  · obtain ⟨ad, c, rfl, h1, h2, -⟩ := ho.isNil
    obtain ⟨ad, rfl⟩ : ∃ x, ad = some x := by cases ad with
      | none => exact absurd (h1 rfl) hu
      | some x => exact ⟨x, rfl⟩
    have HO := hide ho
    obtain ⟨arr, harr, hsz, -⟩ := hq
    clear hnil ho h1 h2
    refine fr_open31 (fun a => Code.wp Try.prog (.seq (stm Try.f31.body 6) Z) Q a w) a hF ?_
    intro u2 u3 u10 u11 u13 u14 u16 u17 u18 u19 u20 u21 u22 u23 u24 u25 u26 u27 u28 u29 u30 u31 u32 u33 u34 u35 u36 u37 u38 u39 u40 u41 u42 u43 u44 u45 u46 u47 u48 u49 u50 u51 u52 u53 u54 u55 u56 u57 u58 u59 u60 u61 u62 u63 u64 u65 u66 u67 u68 u69 u70 u71 u72 u73 u74 u75 u76 u77 u78 u79 u80 u81 u82 u83 u84 u85 u86 u87 u88 u89 u90 u91 u92 u93 u94 u95 u96 u97 u98 u99
    dsimp only
    conv => arg 2; arg 1; whnf
    go_wp2_with (refine wpList_store_row rfl 27 _ _ rfl qb _ rfl rfl 27 arr harr Try.info27 hsz (by simp [Value.oneCell']) ?_)
    have hg : w.grownBy (w.setRow qb #[.pointer Option.none, .pointer Option.none, .bool false, .int .i64 0]) (some qb) := ⟨rfl, rfl, rfl, by simp, fun k _ hk => setRow_other w qb k _ (fun e => hk (by rw [e]))⟩
    refine unhide HQ hu _ _ ⟨rfl, rfl, rfl, rfl, rfl, rfl, rfl, rfl, rfl, rfl, rfl, rfl⟩ ((unhide HO).kept hg (.inr ?_)) (below_setRow hb hWq _) (RngAt.of_setRow harr)
    intro e
    have := ((unhide HO).lt qb e).1
    omega

theorem pfxOf_le (S : Nat → Sp) (κ : Nat → Nat) {j q : Nat} (h : j ≤ q) : (pfxOf S κ j).length ≤ (pfxOf S κ q).length := by
  induction q with
  | zero => have : j = 0 := by omega
            subst this; exact Nat.le_refl _
  | succ q ih =>
    by_cases e : j = q + 1
    · subst e; exact Nat.le_refl _
    · have := ih (by omega)
      simp only [pfxOf, List.length_append]
      omega

set_option maxHeartbeats 4000000 in
set_option maxRecDepth 100000 in
theorem serve5 (B off n sc kn kc qb : Nat) (ka : Option Addr) (S : Nat → Sp) (κ : Nat → Nat) (W : World) (q m0 : Nat) (w : World) (Q : Exit → Act → World → Prop) (Z : Code) (a : Act) (s8 s9 s12 s15 : Value)
    (hI : In W B off n S ka kn kc κ) (hqk : q ≤ kn) (hpl : (pfxOf S κ q).length ≤ 1048576) (hb : Below W.heap.size W w) (hq : RngAt w qb Option.none Option.none) (hqm : qb < m0) (hWm : W.heap.size ≤ m0) (hm0 : m0 ≤ w.heap.size)
    (hF : Fr31 a (.slice (some ⟨B, off, Option.none⟩) n sc) (.slice ka kn kc) (.pointer (some ⟨qb, 0, Option.none⟩)) (.bool false) (.slice Option.none 0 0) (.int .i64 (q : Nat)) (s8) (s9) (s12) (s15))
    (hZ : ∀ a' w' v, Fr31 a' (.slice (some ⟨B, off, Option.none⟩) n sc) (.slice ka kn kc) (.pointer (some ⟨qb, 0, Option.none⟩)) (.bool false) (.slice Option.none 0 0) (.int .i64 (q : Nat)) (s8) (s9) (v) (s15) → OwnB w' m0 v (pfxOf S κ q) → (pfxOf S κ q = [] → v = .slice Option.none 0 0) → Below W.heap.size W w' → RngAt w' qb Option.none Option.none → m0 ≤ w'.heap.size → Code.wp Try.prog Z Q a' w') :
    Code.wp Try.prog (.seq (stm Try.f31.body 7) (.seq (stm Try.f31.body 8) Z)) Q a w := by
  have HZ := hide hZ
  have hk0 := hI.k0
  have hn0 := hI.n0
  have hcap : (q : Int) ≤ (kc : Int) := by have := hI.key.cap; omega
  have hnil := hI.key.nil
  clear hZ
  have hka : (ka = Option.none ∧ q = 0 ∧ kc = 0) ∨ ∃ ad, ka = some ad := by
    cases ka with
    | none => exact .inl ⟨rfl, by have := hnil rfl; have := hI.key.cap; omega, hnil rfl⟩
    | some ad => exact .inr ⟨ad, rfl⟩
  rcases hka with ⟨rfl, rfl, rfl⟩ | ⟨ad, rfl⟩
  · clear hnil
    refine fr_open31 (fun a => Code.wp Try.prog (.seq (stm Try.f31.body 7) (.seq (stm Try.f31.body 8) Z)) Q a w) a hF ?_
    intro u2 u3 u10 u11 u13 u14 u16 u17 u18 u19 u20 u21 u22 u23 u24 u25 u26 u27 u28 u29 u30 u31 u32 u33 u34 u35 u36 u37 u38 u39 u40 u41 u42 u43 u44 u45 u46 u47 u48 u49 u50 u51 u52 u53 u54 u55 u56 u57 u58 u59 u60 u61 u62 u63 u64 u65 u66 u67 u68 u69 u70 u71 u72 u73 u74 u75 u76 u77 u78 u79 u80 u81 u82 u83 u84 u85 u86 u87 u88 u89 u90 u91 u92 u93 u94 u95 u96 u97 u98 u99
    dsimp only
    conv => arg 2; arg 1; whnf
    conv => arg 2; arg 2; arg 1; whnf
    go_wp2_with fail
    go_loopw [12, 69] (fun v t wr => v = .slice Option.none 0 0 ∧ t = .int .i64 0 ∧ wr = w) (fun _ _ _ => 0)
    case atStart => exact ⟨rfl, rfl, rfl⟩
    case round =>
      obtain ⟨rfl, rfl, rfl⟩ := hrel
      go_wp2_with fail
      exact unhide HZ _ _ _ ⟨rfl, rfl, rfl, rfl, rfl, rfl, rfl, rfl, rfl, rfl, rfl, rfl⟩ (OwnB.nil _ _) (fun _ => rfl) hb hq hm0
  · clear hnil
    refine fr_open31 (fun a => Code.wp Try.prog (.seq (stm Try.f31.body 7) (.seq (stm Try.f31.body 8) Z)) Q a w) a hF ?_
    intro u2 u3 u10 u11 u13 u14 u16 u17 u18 u19 u20 u21 u22 u23 u24 u25 u26 u27 u28 u29 u30 u31 u32 u33 u34 u35 u36 u37 u38 u39 u40 u41 u42 u43 u44 u45 u46 u47 u48 u49 u50 u51 u52 u53 u54 u55 u56 u57 u58 u59 u60 u61 u62 u63 u64 u65 u66 u67 u68 u69 u70 u71 u72 u73 u74 u75 u76 u77 u78 u79 u80 u81 u82 u83 u84 u85 u86 u87 u88 u89 u90 u91 u92 u93 u94 u95 u96 u97 u98 u99
    dsimp only
    conv => arg 2; arg 1; whnf
    conv => arg 2; arg 2; arg 1; whnf
    go_wp2_with fail
    go_loopw [12, 69] (fun v t wr => ∃ j : Nat, j ≤ q ∧ t = .int .i64 j ∧ OwnB wr m0 v (pfxOf S κ j) ∧ (pfxOf S κ j = [] → v = .slice Option.none 0 0) ∧ Below W.heap.size W wr ∧ RngAt wr qb Option.none Option.none ∧ m0 ≤ wr.heap.size) (fun _ t _ => q - (intOf t).toNat)
    case atStart => exact ⟨0, Nat.zero_le _, rfl, OwnB.nil _ _, fun _ => rfl, hb, hq, hm0⟩
    case round =>
      obtain ⟨j, hj, rfl, ho, hnil, hbr, hqr, hmr⟩ := hrel
      by_cases hlt : j < q
      · obtain ⟨b1, o1, e, hkc⟩ := hI.key.cells (by omega)
        cases e
        have hkj := cell_below hbr (hkc j (by omega))
        have hκ := hI.at_ j (by omega)
        obtain ⟨e0, e1, e2, e3, e4⟩ := (hI.sp _ hκ).below hbr
        have hok := (hI.ok _ hκ).below hbr
        have hlo := (hI.len _ hκ).1
        have hpj := pfxOf_le S κ (Nat.le_of_lt hlt)
        obtain ⟨v', w', hr, g1, g2, g3, g4⟩ := append_bytes 22 ho hmr hok.1 (by omega)
        have hown := fun k e => (World.ownsRow.lt ho k e).1
        have HO := hide hown
        have HN := hide hnil
        have H3 := hide g3
        have H4 := hide g4
        have li : (j : Int) < (q : Int) := by omega
        have lk : ((κ j : Nat) : Int) < (n : Int) := by omega
        clear hkc hok ho hown hnil g3 g4
        go_wp2_with (at_builtin; refine Lib.wpList_append_run _ rfl _ _ _ _ rfl _ _ rfl rfl _ _ hr ?_)
        go_roundw
        case rel =>
          refine ⟨j + 1, hlt, by go_num, g1, fun e => ?_, ?_, ?_, ?_⟩
          · simp only [pfxOf, List.append_eq_nil_iff] at e
            obtain ⟨e1, -⟩ := unhide H3 e.2
            rw [e1]
            exact unhide HN e.1
          · exact hbr.trans (grown_below g2 hbr.size (fun k e => Nat.le_trans hWm (unhide HO k e)))
          · exact hqr.grown g2 (fun e => by have := unhide HO qb e.symm; omega)
          · exact Nat.le_trans hmr g2.size
        case measure => simp [intOf]; omega
      · have e : j = q := by omega
        subst e
        have HO := hide ho
        have HN := hide hnil
        clear ho hnil
        go_wp2_with fail
        exact unhide HZ _ _ _ ⟨rfl, rfl, rfl, rfl, rfl, rfl, rfl, rfl, rfl, rfl, rfl, rfl⟩ (unhide HO) (unhide HN) hbr hqr hmr

end Go.Proofs.Qxb6002590a
