import Derived.Test.Qxb6002590aKeysLow
namespace Go.Proofs.Qxb6002590a
open Go.RowKit Go.Own

set_option maxHeartbeats 4000000 in
set_option maxRecDepth 100000 in
theorem keysUp (s : Sp) (pa : Option Addr) (pc : Nat) (pfx : List Int) (W w : World) (m sb qb rb : Nat) (Q : Exit → Act → World → Prop) (Z : Code) (a : Act) (s0 s5 : Value) (L : Option Addr) (low : Option (List Int))
    (hs : s.ok W) (hp : BytesAt W pa pc pfx) (hpU : U8 pfx) (hb : Below W.heap.size W w) (hsp : SpAt w sb 0 s) (hq : RngAt w qb Option.none Option.none) (hWr : W.heap.size ≤ rb) (hrm : rb < m) (hmw : m ≤ w.heap.size) (dqr : qb ≠ rb)
    (l1 : pfx.length ≤ 2097152) (l2 : s.lo.length ≤ 2097152) (l3 : s.hi.length ≤ 2097152) (hr : RngAt w rb L Option.none) (hL : BoundAt m w L false low)
    (hF : Fr24 a s0 (.slice pa pfx.length pc) (.pointer (some ⟨sb, 0, Option.none⟩)) (.pointer (some ⟨qb, 0, Option.none⟩)) s5 (.pointer (some ⟨rb, 0, Option.none⟩)))
    (hZ : ∀ a' w' U, Fr24 a' s0 (.slice pa pfx.length pc) (.pointer (some ⟨sb, 0, Option.none⟩)) (.pointer (some ⟨qb, 0, Option.none⟩)) s5 (.pointer (some ⟨rb, 0, Option.none⟩)) → Below W.heap.size W w' → RngAt w' qb Option.none Option.none → RngAt w' rb L U → BoundAt m w' L false low → BoundAt m w' U true (upOf pa.isNone pfx s) → m ≤ w'.heap.size → Code.wp Try.prog Z Q a' w') :
    Code.wp Try.prog (.seq (stm Try.f24.body 3) Z) Q a w := by
  obtain ⟨la, lc, lo, ha, hc, hi, le, he, na⟩ := s
  obtain ⟨hs1, hs2, hs3, hs4⟩ := hs
  obtain ⟨e0, e1, e2, e3, e4⟩ := hsp
  simp only [Nat.zero_add] at e0 e1 e2 e3 e4 hs1 hs2 hs3 hs4 l2 l3
  have hnl := nnil22
  have HZ := hide hZ
  clear hZ
  by_cases hex : ha.isNone = false ∧ he = true
  · obtain ⟨hla, rfl⟩ := hex
    obtain ⟨ad, rfl⟩ : ∃ ad, ha = some ad := by cases ha with
      | none => cases hla
      | some ad => exact ⟨ad, rfl⟩
    clear hla
    have hup : upOf pa.isNone pfx ⟨la, lc, lo, some ad, hc, hi, le, true, na⟩ = some (pfx ++ hi) := by simp [upOf]
    have HL := hide hup
    clear hup
    have hw1 : Below w.heap.size w (w.alloc (.cells #[.slice pa pfx.length pc, .slice (some ad) hi.length hc] 22)) := (Below.refl _ _).alloc (Nat.le_refl _) _
    have hcc := concat33 w.heap.size pa (some ad) pc hc pfx hi (w.alloc (.cells #[.slice pa pfx.length pc, .slice (some ad) hi.length hc] 22)) (cell_new _ _ _ 0 rfl) (cell_new _ _ _ 1 rfl) ((hp.below hb).below hw1) ((hs2.below hb).below hw1) l1 l3
    refine fr_open24 (fun a => Code.wp Try.prog (.seq (stm Try.f24.body 3) Z) Q a w) a hF ?_
    intro u3 u7 u8 u9 u10 u11 u12 u13 u14 u15 u16 u17 u18 u19 u20 u21 u22 u23 u24 u25 u26 u27 u28 u29 u30 u31 u32 u33 u34 u35 u36 u37 u38 u39 u40 u41 u42 u43 u44 u45 u46 u47 u48 u49 u50 u51 u52 u53 u54 u55 u56 u57 u58 u59 u60 u61 u62 u63 u64 u65 u66 u67 u68 u69 u70 u71 u72 u73 u74 u75 u76 u77 u78 u79 u80 u81 u82 u83 u84 u85 u86 u87 u88 u89
    dsimp only
    conv => arg 2; arg 1; whnf
    go_wp2_with fail
    refine hcc.mono ?_
    rintro e w2 ⟨v, rfl, ho, hb2⟩
    obtain ⟨a2, c2, rfl, hba, hfar, -⟩ := ho.form
    have hbw2 := below_step hw1 hb2
    have hfar' : ∀ b off, a2 = some ⟨b, off, Option.none⟩ → m ≤ b := fun b off e => Nat.le_trans (Nat.le_trans hmw hw1.size) (hfar b off e)
    have hb4 : Below w2.heap.size w2 (w2.alloc (.cells #[.slice a2 (pfx.length + hi.length) c2, .bool true] 53)) := (Below.refl _ _).alloc (Nat.le_refl _) _
    have hr4 := (hr.below hbw2).below hb4
    have hk4 := hr4.cells.2.1
    have hf4 := hr4.frozen 1
    have H4 := hide hr4
    have HB4 := hide hba
    clear hr4 hba ho hcc
    go_wp2_with fail
    have hbw4 := below_step hbw2 hb4
    refine unhide HZ _ _ (some ⟨w2.heap.size, 0, Option.none⟩) ⟨rfl, rfl, rfl, rfl, rfl, rfl, rfl, rfl⟩ ?_ ?_ ?_ ?_ ?_ ?_
    · exact (below_step hb hbw4).setCell hWr _
    · exact (hq.below hbw4).other dqr _
    · exact (unhide H4).up _
    · exact hL.kept (Kept.setCell (Kept.of_below hbw4) hrm _)
    · have hg : m ≤ w2.heap.size := Nat.le_trans hmw hbw2.size
      rw [unhide HL]
      refine BoundAt.kept (w := w2.alloc (.cells #[.slice a2 (pfx.length + hi.length) c2, .bool true] 53)) (.inr ⟨_, w2.heap.size, a2, c2, rfl, rfl, hg, cell_new _ _ _ 0 (by simp), cell_new _ _ _ 1 rfl, (unhide HB4).below hb4, hfar'⟩) (Kept.setCell (fun _ _ _ => rfl) hrm _)
    · simp; exact Nat.le_trans hmw (Nat.le_trans hbw2.size (Nat.le_succ _))
  · have hne : (!ha.isNone && he) = false := by
      cases ha <;> cases he <;> simp_all
    by_cases hsome : (!ha.isNone || !pa.isNone) = true
    · have hup : upOf pa.isNone pfx ⟨la, lc, lo, ha, hc, hi, le, he, na⟩ = aft (pfx ++ hi) := by simp only [upOf]; rw [if_neg (by rw [hne]; decide), if_pos hsome]
      have HL := hide hup
      clear hup
      have hw1 : Below w.heap.size w (w.alloc (.cells #[.slice pa pfx.length pc, .slice ha hi.length hc] 22)) := (Below.refl _ _).alloc (Nat.le_refl _) _
      have hcc := concat33 w.heap.size pa ha pc hc pfx hi (w.alloc (.cells #[.slice pa pfx.length pc, .slice ha hi.length hc] 22)) (cell_new _ _ _ 0 rfl) (cell_new _ _ _ 1 rfl) ((hp.below hb).below hw1) ((hs2.below hb).below hw1) l1 l3
      have hways : (∃ ad, ha = some ad ∧ he = false) ∨ (ha = Option.none ∧ ∃ ad, pa = some ad) := by
        cases ha <;> cases he <;> cases pa <;> simp_all
      clear hne hsome hex
      rcases hways with ⟨ad, rfl, rfl⟩ | ⟨rfl, ad, rfl⟩
      · skip
        refine fr_open24 (fun a => Code.wp Try.prog (.seq (stm Try.f24.body 3) Z) Q a w) a hF ?_
        intro u3 u7 u8 u9 u10 u11 u12 u13 u14 u15 u16 u17 u18 u19 u20 u21 u22 u23 u24 u25 u26 u27 u28 u29 u30 u31 u32 u33 u34 u35 u36 u37 u38 u39 u40 u41 u42 u43 u44 u45 u46 u47 u48 u49 u50 u51 u52 u53 u54 u55 u56 u57 u58 u59 u60 u61 u62 u63 u64 u65 u66 u67 u68 u69 u70 u71 u72 u73 u74 u75 u76 u77 u78 u79 u80 u81 u82 u83 u84 u85 u86 u87 u88 u89
        dsimp only
        conv => arg 2; arg 1; whnf
        go_wp2_with fail
        refine hcc.mono ?_
        rintro e w2 ⟨v, rfl, ho, hb2⟩
        obtain ⟨a2, c2, rfl, hba, hfar, -⟩ := ho.form
        have hbw2 := below_step hw1 hb2
        have hfar' : ∀ b off, a2 = some ⟨b, off, Option.none⟩ → m ≤ b := fun b off e => Nat.le_trans (Nat.le_trans hmw hw1.size) (hfar b off e)
        have haf := after32 a2 c2 (pfx ++ hi) w2 hba (u8_append hpU hs4) (by simp; omega)
        rw [List.length_append] at haf
        clear ho hcc
        go_wp2_with fail
        refine haf.mono ?_
        rintro e w3 ⟨v3, rfl, hb3, hr3⟩
        have hbw3 := below_step hbw2 hb3
        have HR := hide hr3
        clear hr3 haf
        cases hA : aft (pfx ++ hi) with
        | none =>
          rw [hA] at HL
          simp only [Option.isSome_none]
          clear hA
          go_wp2_with fail
          exact unhide HZ _ _ Option.none ⟨rfl, rfl, rfl, rfl, rfl, rfl, rfl, rfl⟩ (below_step hb hbw3) (hq.below hbw3) (hr.below hbw3) (hL.kept (Kept.of_below hbw3)) (by rw [unhide HL]; exact BoundAt.none _ _ _) (Nat.le_trans hmw hbw3.size)
        | some r =>
          have ho3 := unhide HR r hA
          obtain ⟨a4, c4, rfl, hba4, hfar4, -⟩ := ho3.form
          rw [hA] at HL
          have hb4 : Below w3.heap.size w3 (w3.alloc (.cells #[.slice a4 r.length c4, .bool true] 53)) := (Below.refl _ _).alloc (Nat.le_refl _) _
          have hr4 := (hr.below hbw3).below hb4
          have hk4 := hr4.cells.2.1
          have hf4 := hr4.frozen 1
          have H4 := hide hr4
          have HB4 := hide hba4
          clear hA hr4 hba4 ho3
          simp only [Option.isSome_some]
          go_wp2_with fail
          have hbw4 := below_step hbw3 hb4
          refine unhide HZ _ _ (some ⟨w3.heap.size, 0, Option.none⟩) ⟨rfl, rfl, rfl, rfl, rfl, rfl, rfl, rfl⟩ ?_ ?_ ?_ ?_ ?_ ?_
          · exact (below_step hb hbw4).setCell hWr _
          · exact (hq.below hbw4).other dqr _
          · exact (unhide H4).up _
          · exact hL.kept (Kept.setCell (Kept.of_below hbw4) hrm _)
          · have hg : m ≤ w3.heap.size := Nat.le_trans hmw hbw3.size
            rw [unhide HL]
            refine BoundAt.kept (w := w3.alloc (.cells #[.slice a4 r.length c4, .bool true] 53)) (.inr ⟨r, w3.heap.size, a4, c4, rfl, rfl, hg, cell_new _ _ _ 0 rfl, cell_new _ _ _ 1 rfl, (unhide HB4).below hb4, fun b off e => Nat.le_trans (Nat.le_trans hmw hbw2.size) (hfar4 b off e)⟩) (Kept.setCell (fun _ _ _ => rfl) hrm _)
          · simp; exact Nat.le_trans hmw (Nat.le_trans hbw3.size (Nat.le_succ _))
      · skip
        refine fr_open24 (fun a => Code.wp Try.prog (.seq (stm Try.f24.body 3) Z) Q a w) a hF ?_
        intro u3 u7 u8 u9 u10 u11 u12 u13 u14 u15 u16 u17 u18 u19 u20 u21 u22 u23 u24 u25 u26 u27 u28 u29 u30 u31 u32 u33 u34 u35 u36 u37 u38 u39 u40 u41 u42 u43 u44 u45 u46 u47 u48 u49 u50 u51 u52 u53 u54 u55 u56 u57 u58 u59 u60 u61 u62 u63 u64 u65 u66 u67 u68 u69 u70 u71 u72 u73 u74 u75 u76 u77 u78 u79 u80 u81 u82 u83 u84 u85 u86 u87 u88 u89
        dsimp only
        conv => arg 2; arg 1; whnf
        go_wp2_with fail
        refine hcc.mono ?_
        rintro e w2 ⟨v, rfl, ho, hb2⟩
        obtain ⟨a2, c2, rfl, hba, hfar, -⟩ := ho.form
        have hbw2 := below_step hw1 hb2
        have hfar' : ∀ b off, a2 = some ⟨b, off, Option.none⟩ → m ≤ b := fun b off e => Nat.le_trans (Nat.le_trans hmw hw1.size) (hfar b off e)
        have haf := after32 a2 c2 (pfx ++ hi) w2 hba (u8_append hpU hs4) (by simp; omega)
        rw [List.length_append] at haf
        clear ho hcc
        go_wp2_with fail
        refine haf.mono ?_
        rintro e w3 ⟨v3, rfl, hb3, hr3⟩
        have hbw3 := below_step hbw2 hb3
        have HR := hide hr3
        clear hr3 haf
        cases hA : aft (pfx ++ hi) with
        | none =>
          rw [hA] at HL
          simp only [Option.isSome_none]
          clear hA
          go_wp2_with fail
          exact unhide HZ _ _ Option.none ⟨rfl, rfl, rfl, rfl, rfl, rfl, rfl, rfl⟩ (below_step hb hbw3) (hq.below hbw3) (hr.below hbw3) (hL.kept (Kept.of_below hbw3)) (by rw [unhide HL]; exact BoundAt.none _ _ _) (Nat.le_trans hmw hbw3.size)
        | some r =>
          have ho3 := unhide HR r hA
          obtain ⟨a4, c4, rfl, hba4, hfar4, -⟩ := ho3.form
          rw [hA] at HL
          have hb4 : Below w3.heap.size w3 (w3.alloc (.cells #[.slice a4 r.length c4, .bool true] 53)) := (Below.refl _ _).alloc (Nat.le_refl _) _
          have hr4 := (hr.below hbw3).below hb4
          have hk4 := hr4.cells.2.1
          have hf4 := hr4.frozen 1
          have H4 := hide hr4
          have HB4 := hide hba4
          clear hA hr4 hba4 ho3
          simp only [Option.isSome_some]
          go_wp2_with fail
          have hbw4 := below_step hbw3 hb4
          refine unhide HZ _ _ (some ⟨w3.heap.size, 0, Option.none⟩) ⟨rfl, rfl, rfl, rfl, rfl, rfl, rfl, rfl⟩ ?_ ?_ ?_ ?_ ?_ ?_
          · exact (below_step hb hbw4).setCell hWr _
          · exact (hq.below hbw4).other dqr _
          · exact (unhide H4).up _
          · exact hL.kept (Kept.setCell (Kept.of_below hbw4) hrm _)
          · have hg : m ≤ w3.heap.size := Nat.le_trans hmw hbw3.size
            rw [unhide HL]
            refine BoundAt.kept (w := w3.alloc (.cells #[.slice a4 r.length c4, .bool true] 53)) (.inr ⟨r, w3.heap.size, a4, c4, rfl, rfl, hg, cell_new _ _ _ 0 rfl, cell_new _ _ _ 1 rfl, (unhide HB4).below hb4, fun b off e => Nat.le_trans (Nat.le_trans hmw hbw2.size) (hfar4 b off e)⟩) (Kept.setCell (fun _ _ _ => rfl) hrm _)
          · simp; exact Nat.le_trans hmw (Nat.le_trans hbw3.size (Nat.le_succ _))
    · obtain ⟨rfl, rfl⟩ : ha = Option.none ∧ pa = Option.none := by cases ha <;> cases pa <;> simp_all
      have hup : upOf (Option.none : Option Addr).isNone pfx ⟨la, lc, lo, Option.none, hc, hi, le, he, na⟩ = Option.none := by simp [upOf]
      have HL := hide hup
      clear hup hne hsome hex
      refine fr_open24 (fun a => Code.wp Try.prog (.seq (stm Try.f24.body 3) Z) Q a w) a hF ?_
      intro u3 u7 u8 u9 u10 u11 u12 u13 u14 u15 u16 u17 u18 u19 u20 u21 u22 u23 u24 u25 u26 u27 u28 u29 u30 u31 u32 u33 u34 u35 u36 u37 u38 u39 u40 u41 u42 u43 u44 u45 u46 u47 u48 u49 u50 u51 u52 u53 u54 u55 u56 u57 u58 u59 u60 u61 u62 u63 u64 u65 u66 u67 u68 u69 u70 u71 u72 u73 u74 u75 u76 u77 u78 u79 u80 u81 u82 u83 u84 u85 u86 u87 u88 u89
      dsimp only
      conv => arg 2; arg 1; whnf
      go_wp2_with fail
      exact unhide HZ _ _ Option.none ⟨rfl, rfl, rfl, rfl, rfl, rfl, rfl, rfl⟩ hb hq hr hL (by rw [unhide HL]; exact BoundAt.none _ _ _) hmw

set_option maxHeartbeats 4000000 in
set_option maxRecDepth 100000 in
theorem keysEnd (pa : Option Addr) (pc : Nat) (pfx : List Int) (W w : World) (m sb qb rb : Nat) (Q : Exit → Act → World → Prop) (a : Act) (s0 s5 : Value) (L U : Option Addr) (low up : Option (List Int))
    (hb : Below W.heap.size W w) (hq : RngAt w qb Option.none Option.none) (hr : RngAt w rb L U) (hWq : W.heap.size ≤ qb) (hqm : qb < m) (hL : BoundAt m w L false low) (hU : BoundAt m w U true up)
    (hF : Fr24 a s0 (.slice pa pfx.length pc) (.pointer (some ⟨sb, 0, Option.none⟩)) (.pointer (some ⟨qb, 0, Option.none⟩)) s5 (.pointer (some ⟨rb, 0, Option.none⟩)))
    (hQ : ∀ a' w', Fr24 a' s0 (.slice pa pfx.length pc) (.pointer (some ⟨sb, 0, Option.none⟩)) (.pointer (some ⟨qb, 0, Option.none⟩)) (.bool true) (.pointer (some ⟨rb, 0, Option.none⟩)) → Below W.heap.size W w' → RngAt w' qb L U → BoundAt m w' L false low → BoundAt m w' U true up → Q .ret a' w') :
    Code.wp Try.prog (rst Try.f24.body 4) Q a w := by
  have HQ := hide hQ
  obtain ⟨k0, k1, k2, k3⟩ := hr.cells
  obtain ⟨arr, harr, hsz, -⟩ := hq
  clear hQ
  refine fr_open24 (fun a => Code.wp Try.prog (rst Try.f24.body 4) Q a w) a hF ?_
  intro u3 u7 u8 u9 u10 u11 u12 u13 u14 u15 u16 u17 u18 u19 u20 u21 u22 u23 u24 u25 u26 u27 u28 u29 u30 u31 u32 u33 u34 u35 u36 u37 u38 u39 u40 u41 u42 u43 u44 u45 u46 u47 u48 u49 u50 u51 u52 u53 u54 u55 u56 u57 u58 u59 u60 u61 u62 u63 u64 u65 u66 u67 u68 u69 u70 u71 u72 u73 u74 u75 u76 u77 u78 u79 u80 u81 u82 u83 u84 u85 u86 u87 u88 u89
  dsimp only
  conv => arg 2; whnf
  go_wp2_with (refine wpList_store_row rfl 27 _ _ rfl qb _ rfl rfl 27 arr harr Try.info27 hsz (by simp [Value.oneCell']) ?_)
  refine unhide HQ _ _ ⟨rfl, rfl, rfl, rfl, rfl, rfl, rfl, rfl⟩ (below_setRow hb hWq _) (RngAt.of_setRow harr) (hL.kept ?_) (hU.kept ?_)
  · exact Kept.setRow (fun _ _ _ => rfl) hqm _
  · exact Kept.setRow (fun _ _ _ => rfl) hqm _

end Go.Proofs.Qxb6002590a
