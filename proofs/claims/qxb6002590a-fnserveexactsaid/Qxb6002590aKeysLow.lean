import Derived.Test.Qxb6002590aBound
namespace Go.Proofs.Qxb6002590a
open Go.RowKit Go.Own

theorem Try.info27 : (Try.prog.info? 27).map (·.size) = some 4 := by kernel_rfl

theorem RngAt.of_setRow {w : World} {b : Nat} {arr : Array Value} {L U : Option Addr} (harr : w.heap[b]? = some (.cells arr 27 (0, 0))) : RngAt (w.setRow b #[.pointer L, .pointer U, .bool false, .int .i64 0]) b L U :=
  ⟨_, setRow_heap _ _ arr _ 27 (0, 0) harr, rfl, fun i hi => by
    have : i = 0 ∨ i = 1 ∨ i = 2 ∨ i = 3 := by omega
    rcases this with rfl | rfl | rfl | rfl <;> rfl⟩

set_option maxHeartbeats 4000000 in
set_option maxRecDepth 100000 in
theorem keysLow (s : Sp) (pa : Option Addr) (pc : Nat) (pfx : List Int) (W w : World) (m sb qb rb : Nat) (Q : Exit → Act → World → Prop) (Z : Code) (a : Act) (s0 s5 : Value)
    (hs : s.ok W) (hp : BytesAt W pa pc pfx) (hpU : U8 pfx) (hb : Below W.heap.size W w) (hsp : SpAt w sb 0 s) (hq : RngAt w qb Option.none Option.none) (hWq : W.heap.size ≤ qb) (hWr : W.heap.size ≤ rb) (hrm : rb < m) (hmw : m ≤ w.heap.size) (dsr : sb ≠ rb) (dqr : qb ≠ rb)
    (l1 : pfx.length ≤ 2097152) (l2 : s.lo.length ≤ 2097152) (l3 : s.hi.length ≤ 2097152) (hr : RngAt w rb Option.none Option.none)
    (hF : Fr24 a s0 (.slice pa pfx.length pc) (.pointer (some ⟨sb, 0, Option.none⟩)) (.pointer (some ⟨qb, 0, Option.none⟩)) s5 (.pointer (some ⟨rb, 0, Option.none⟩)))
    (hQ : lowOf pa.isNone pfx s = Option.none → ∀ a' w', Fr24 a' s0 (.slice pa pfx.length pc) (.pointer (some ⟨sb, 0, Option.none⟩)) (.pointer (some ⟨qb, 0, Option.none⟩)) (.bool false) (.pointer (some ⟨rb, 0, Option.none⟩)) → Below W.heap.size W w' → RngAt w' qb Option.none Option.none → Q .ret a' w')
    (hZ : ∀ low, lowOf pa.isNone pfx s = some low → ∀ a' w' L, Fr24 a' s0 (.slice pa pfx.length pc) (.pointer (some ⟨sb, 0, Option.none⟩)) (.pointer (some ⟨qb, 0, Option.none⟩)) s5 (.pointer (some ⟨rb, 0, Option.none⟩)) → Below W.heap.size W w' → SpAt w' sb 0 s → RngAt w' qb Option.none Option.none → RngAt w' rb L Option.none → BoundAt m w' L false low → m ≤ w'.heap.size → Code.wp Try.prog Z Q a' w') :
    Code.wp Try.prog (.seq (stm Try.f24.body 2) Z) Q a w := by
  obtain ⟨la, lc, lo, ha, hc, hi, le, he, na⟩ := s
  obtain ⟨hs1, hs2, hs3, hs4⟩ := hs
  obtain ⟨e0, e1, e2, e3, e4⟩ := hsp
  simp only [Nat.zero_add] at e0 e1 e2 e3 e4 hs1 hs2 hs3 hs4 l2 l3
  have hnl := nnil22
  have HQ := hide hQ
  have HZ := hide hZ
  have hsp : SpAt w sb 0 ⟨la, lc, lo, ha, hc, hi, le, he, na⟩ := ⟨e0, e1, e2, e3, e4⟩
  have HSP := hide hsp
  clear hQ hZ hsp
  by_cases hex : la.isNone = false ∧ le = true
  · obtain ⟨hla, rfl⟩ := hex
    obtain ⟨ad, rfl⟩ : ∃ ad, la = some ad := by cases la with
      | none => cases hla
      | some ad => exact ⟨ad, rfl⟩
    clear hla
    have hlow : lowOf pa.isNone pfx ⟨some ad, lc, lo, ha, hc, hi, true, he, na⟩ = (aft (pfx ++ lo)).map some := by simp [lowOf]
    have HL := hide hlow
    clear hlow
    have hw1 : Below w.heap.size w (w.alloc (.cells #[.slice pa pfx.length pc, .slice (some ad) lo.length lc] 22)) := (Below.refl _ _).alloc (Nat.le_refl _) _
    have hcc := concat33 w.heap.size pa (some ad) pc lc pfx lo (w.alloc (.cells #[.slice pa pfx.length pc, .slice (some ad) lo.length lc] 22)) (cell_new _ _ _ 0 rfl) (cell_new _ _ _ 1 rfl) ((hp.below hb).below hw1) ((hs1.below hb).below hw1) l1 l2
    refine fr_open24 (fun a => Code.wp Try.prog (.seq (stm Try.f24.body 2) Z) Q a w) a hF ?_
    intro u3 u7 u8 u9 u10 u11 u12 u13 u14 u15 u16 u17 u18 u19 u20 u21 u22 u23 u24 u25 u26 u27 u28 u29 u30 u31 u32 u33 u34 u35 u36 u37 u38 u39 u40 u41 u42 u43 u44 u45 u46 u47 u48 u49 u50 u51 u52 u53 u54 u55 u56 u57 u58 u59 u60 u61 u62 u63 u64 u65 u66 u67 u68 u69 u70 u71 u72 u73 u74 u75 u76 u77 u78 u79 u80 u81 u82 u83 u84 u85 u86 u87 u88 u89
    dsimp only
    conv => arg 2; arg 1; whnf
    go_wp2_with fail
    refine hcc.mono ?_
    rintro e w2 ⟨v, rfl, ho, hb2⟩
    obtain ⟨a2, c2, rfl, hba, hfar, -⟩ := ho.form
    have hbw2 := below_step hw1 hb2
    clear ho hcc
    have haf := after32 a2 c2 (pfx ++ lo) w2 hba (u8_append hpU hs3) (by simp; omega)
    rw [List.length_append] at haf
    go_wp2_with fail
    refine haf.mono ?_
    rintro e w3 ⟨v3, rfl, hb3, hr3⟩
    have hbw3 := below_step hbw2 hb3
    have HR := hide hr3
    have hq3 := hq.below hbw3
    have hrr := hr.below hbw3
    clear hr3
    cases hA : aft (pfx ++ lo) with
    | none =>
      have HA := hide hA
      clear hA
      obtain ⟨arr, harr, hsz, -⟩ := hq3
      simp only [Option.isSome_none]
      go_wp2_with (refine wpList_store_row rfl 27 _ _ rfl qb _ rfl rfl 27 arr harr Try.info27 hsz (by simp [Value.oneCell']) ?_)
      refine unhide HQ (by rw [unhide HL, unhide HA]; rfl) _ _ ⟨rfl, rfl, rfl, rfl, rfl, rfl, rfl, rfl⟩ ?_ ?_
      · exact below_setRow (below_step hb hbw3) hWq _
      · exact RngAt.of_setRow harr
    | some r =>
      have ho3 := unhide HR r hA
      obtain ⟨a4, c4, rfl, hba4, hfar4, -⟩ := ho3.form
      have HA := hide hA
      have hb4 : Below w3.heap.size w3 (w3.alloc (.cells #[.slice a4 r.length c4, .bool false] 53)) := (Below.refl _ _).alloc (Nat.le_refl _) _
      have hr4 := hrr.below hb4
      have hk4 := hr4.cells.1
      have hf4 := hr4.frozen 0
      have H4 := hide hr4
      have HB4 := hide hba4
      clear hA hr4 hba4 ho3
      simp only [Option.isSome_some]
      go_wp2_with fail
      have hbw4 := below_step hbw3 hb4
      refine unhide HZ (some r) (by rw [unhide HL, unhide HA]; rfl) _ _ (some ⟨w3.heap.size, 0, Option.none⟩) ⟨rfl, rfl, rfl, rfl, rfl, rfl, rfl, rfl⟩ ?_ ?_ ?_ ?_ ?_ ?_
      · exact (below_step hb hbw4).setCell hWr _
      · exact ((unhide HSP).below hbw4).other dsr _
      · exact (hq.below hbw4).other dqr _
      · exact (unhide H4).low _
      · have hg : m ≤ w3.heap.size := Nat.le_trans hmw hbw3.size
        refine BoundAt.kept (w := w3.alloc (.cells #[.slice a4 r.length c4, .bool false] 53)) (.inr ⟨r, w3.heap.size, a4, c4, rfl, rfl, hg, cell_new _ _ _ 0 rfl, cell_new _ _ _ 1 rfl, (unhide HB4).below hb4, fun b off e => Nat.le_trans (Nat.le_trans hmw hbw2.size) (hfar4 b off e)⟩) (Kept.setCell (fun _ _ _ => rfl) hrm _)
      · simp; exact Nat.le_trans hmw (Nat.le_trans hbw3.size (Nat.le_succ _))
  · have hne : (!la.isNone && le) = false := by
      cases la <;> cases le <;> simp_all
    by_cases hsome : (!la.isNone || !pa.isNone) = true
    · have hlow : lowOf pa.isNone pfx ⟨la, lc, lo, ha, hc, hi, le, he, na⟩ = some (some (pfx ++ lo)) := by simp only [lowOf]; rw [if_neg (by rw [hne]; decide), if_pos hsome]
      have HL := hide hlow
      clear hlow
      have hw1 : Below w.heap.size w (w.alloc (.cells #[.slice pa pfx.length pc, .slice la lo.length lc] 22)) := (Below.refl _ _).alloc (Nat.le_refl _) _
      have hcc := concat33 w.heap.size pa la pc lc pfx lo (w.alloc (.cells #[.slice pa pfx.length pc, .slice la lo.length lc] 22)) (cell_new _ _ _ 0 rfl) (cell_new _ _ _ 1 rfl) ((hp.below hb).below hw1) ((hs1.below hb).below hw1) l1 l2
      have hways : (∃ ad, la = some ad ∧ le = false) ∨ (la = Option.none ∧ ∃ ad, pa = some ad) := by
        cases la <;> cases le <;> cases pa <;> simp_all
      clear hne hsome hex
      rcases hways with ⟨ad, rfl, rfl⟩ | ⟨rfl, ad, rfl⟩
      · skip
        refine fr_open24 (fun a => Code.wp Try.prog (.seq (stm Try.f24.body 2) Z) Q a w) a hF ?_
        intro u3 u7 u8 u9 u10 u11 u12 u13 u14 u15 u16 u17 u18 u19 u20 u21 u22 u23 u24 u25 u26 u27 u28 u29 u30 u31 u32 u33 u34 u35 u36 u37 u38 u39 u40 u41 u42 u43 u44 u45 u46 u47 u48 u49 u50 u51 u52 u53 u54 u55 u56 u57 u58 u59 u60 u61 u62 u63 u64 u65 u66 u67 u68 u69 u70 u71 u72 u73 u74 u75 u76 u77 u78 u79 u80 u81 u82 u83 u84 u85 u86 u87 u88 u89
        dsimp only
        conv => arg 2; arg 1; whnf
        go_wp2_with fail
        refine hcc.mono ?_
        rintro e w2 ⟨v, rfl, ho, hb2⟩
        obtain ⟨a2, c2, rfl, hba, hfar, -⟩ := ho.form
        have hbw2 := below_step hw1 hb2
        have hb4 : Below w2.heap.size w2 (w2.alloc (.cells #[.slice a2 (pfx.length + lo.length) c2, .bool false] 53)) := (Below.refl _ _).alloc (Nat.le_refl _) _
        have hr4 := (hr.below hbw2).below hb4
        have hk4 := hr4.cells.1
        have hf4 := hr4.frozen 0
        have H4 := hide hr4
        have HB4 := hide hba
        clear hr4 hba ho hcc
        go_wp2_with fail
        have hbw4 := below_step hbw2 hb4
        refine unhide HZ _ (unhide HL) _ _ (some ⟨w2.heap.size, 0, Option.none⟩) ⟨rfl, rfl, rfl, rfl, rfl, rfl, rfl, rfl⟩ ?_ ?_ ?_ ?_ ?_ ?_
        · exact (below_step hb hbw4).setCell hWr _
        · exact ((unhide HSP).below hbw4).other dsr _
        · exact (hq.below hbw4).other dqr _
        · exact (unhide H4).low _
        · have hg : m ≤ w2.heap.size := Nat.le_trans hmw hbw2.size
          refine BoundAt.kept (w := w2.alloc (.cells #[.slice a2 (pfx.length + lo.length) c2, .bool false] 53)) (.inr ⟨_, w2.heap.size, a2, c2, rfl, rfl, hg, cell_new _ _ _ 0 (by simp), cell_new _ _ _ 1 rfl, (unhide HB4).below hb4, fun b off e => Nat.le_trans (Nat.le_trans hmw hw1.size) (hfar b off e)⟩) (Kept.setCell (fun _ _ _ => rfl) hrm _)
        · simp; exact Nat.le_trans hmw (Nat.le_trans hbw2.size (Nat.le_succ _))
      · skip
        refine fr_open24 (fun a => Code.wp Try.prog (.seq (stm Try.f24.body 2) Z) Q a w) a hF ?_
        intro u3 u7 u8 u9 u10 u11 u12 u13 u14 u15 u16 u17 u18 u19 u20 u21 u22 u23 u24 u25 u26 u27 u28 u29 u30 u31 u32 u33 u34 u35 u36 u37 u38 u39 u40 u41 u42 u43 u44 u45 u46 u47 u48 u49 u50 u51 u52 u53 u54 u55 u56 u57 u58 u59 u60 u61 u62 u63 u64 u65 u66 u67 u68 u69 u70 u71 u72 u73 u74 u75 u76 u77 u78 u79 u80 u81 u82 u83 u84 u85 u86 u87 u88 u89
        dsimp only
        conv => arg 2; arg 1; whnf
        go_wp2_with fail
        refine hcc.mono ?_
        rintro e w2 ⟨v, rfl, ho, hb2⟩
        obtain ⟨a2, c2, rfl, hba, hfar, -⟩ := ho.form
        have hbw2 := below_step hw1 hb2
        have hb4 : Below w2.heap.size w2 (w2.alloc (.cells #[.slice a2 (pfx.length + lo.length) c2, .bool false] 53)) := (Below.refl _ _).alloc (Nat.le_refl _) _
        have hr4 := (hr.below hbw2).below hb4
        have hk4 := hr4.cells.1
        have hf4 := hr4.frozen 0
        have H4 := hide hr4
        have HB4 := hide hba
        clear hr4 hba ho hcc
        go_wp2_with fail
        have hbw4 := below_step hbw2 hb4
        refine unhide HZ _ (unhide HL) _ _ (some ⟨w2.heap.size, 0, Option.none⟩) ⟨rfl, rfl, rfl, rfl, rfl, rfl, rfl, rfl⟩ ?_ ?_ ?_ ?_ ?_ ?_
        · exact (below_step hb hbw4).setCell hWr _
        · exact ((unhide HSP).below hbw4).other dsr _
        · exact (hq.below hbw4).other dqr _
        · exact (unhide H4).low _
        · have hg : m ≤ w2.heap.size := Nat.le_trans hmw hbw2.size
          refine BoundAt.kept (w := w2.alloc (.cells #[.slice a2 (pfx.length + lo.length) c2, .bool false] 53)) (.inr ⟨_, w2.heap.size, a2, c2, rfl, rfl, hg, cell_new _ _ _ 0 (by simp), cell_new _ _ _ 1 rfl, (unhide HB4).below hb4, fun b off e => Nat.le_trans (Nat.le_trans hmw hw1.size) (hfar b off e)⟩) (Kept.setCell (fun _ _ _ => rfl) hrm _)
        · simp; exact Nat.le_trans hmw (Nat.le_trans hbw2.size (Nat.le_succ _))
    · obtain ⟨rfl, rfl⟩ : la = Option.none ∧ pa = Option.none := by cases la <;> cases pa <;> simp_all
      have hlow : lowOf (Option.none : Option Addr).isNone pfx ⟨Option.none, lc, lo, ha, hc, hi, le, he, na⟩ = some Option.none := by simp [lowOf]
      have HL := hide hlow
      clear hlow hne hsome hex
      refine fr_open24 (fun a => Code.wp Try.prog (.seq (stm Try.f24.body 2) Z) Q a w) a hF ?_
      intro u3 u7 u8 u9 u10 u11 u12 u13 u14 u15 u16 u17 u18 u19 u20 u21 u22 u23 u24 u25 u26 u27 u28 u29 u30 u31 u32 u33 u34 u35 u36 u37 u38 u39 u40 u41 u42 u43 u44 u45 u46 u47 u48 u49 u50 u51 u52 u53 u54 u55 u56 u57 u58 u59 u60 u61 u62 u63 u64 u65 u66 u67 u68 u69 u70 u71 u72 u73 u74 u75 u76 u77 u78 u79 u80 u81 u82 u83 u84 u85 u86 u87 u88 u89
      dsimp only
      conv => arg 2; arg 1; whnf
      go_wp2_with fail
      exact unhide HZ _ (unhide HL) _ _ Option.none ⟨rfl, rfl, rfl, rfl, rfl, rfl, rfl, rfl⟩ hb (unhide HSP) hq hr (BoundAt.none _ _ _) hmw

end Go.Proofs.Qxb6002590a
