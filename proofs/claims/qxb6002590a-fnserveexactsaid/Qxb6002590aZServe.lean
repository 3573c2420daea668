import Derived.Test.Qxb6002590aServe
import Derived.Deep.RegionHeld3
import Derived.Laws.Cover3
namespace Go.Proofs.Qxb6002590a
open Go.RowKit Go.Own

theorem Try.info49 : (Try.prog.info? 49).map (fun i => (i.zero, i.size, i.bytes)) = some (some (.agg #[.slice Option.none 0 0, .slice Option.none 0 0, .bool false, .bool false, .bool false]), 5, 56) := by kernel_rfl

theorem run_make49 (n : Nat) (h : n ≤ 1048576) (w : World) : (Instr.makeSlice 55 (.int .i64 (n : Int)) (.int .i64 (n : Int))).run Try.prog w = .ok (.slice (some ⟨w.heap.size, 0, Option.none⟩) n n) (w.alloc (.cells (madeCells #[.slice Option.none 0 0, .slice Option.none 0 0, .bool false, .bool false, .bool false] (n * 5)) 49)) := by
  obtain ⟨i, hi, hzz⟩ := Option.map_eq_some_iff.1 Try.info49
  simp only [Prod.mk.injEq] at hzz
  obtain ⟨hz, hs, hb⟩ := hzz
  have hr := run_make (P := Try.prog) w 55 49 i _ Try.underlying55 hi hz .i64 .i64 n n (by omega) (Int.le_refl _) (by rw [hb]; omega) (by omega)
  simp only [Int.toNat_natCast, hs] at hr
  exact hr

theorem rowIs_made' (w : World) (z : Array Value) (n : Nat) (t : TypeId) : (w.alloc (.cells (madeCells z n) t)).rowIs w.heap.size t n (fun i => z[i % z.size]!) :=
  ⟨_, Deep.blk_alloc_new _ _, size_madeCells _ _, fun i hi => by simp [madeCells, hi]⟩

/-- The spans' row: the first i are laid. -/
def SpRow (w : World) (b n i : Nat) (S : Nat → Sp) : Prop := ∃ g : Nat → Value, w.rowIs b 49 (n * 5) g ∧ ∀ j, j < i → g (j * 5) = .slice (S j).la (S j).lo.length (S j).lc ∧ g (j * 5 + 1) = .slice (S j).ha (S j).hi.length (S j).hc ∧ g (j * 5 + 2) = .bool (S j).le ∧ g (j * 5 + 3) = .bool (S j).he ∧ g (j * 5 + 4) = .bool (S j).na

theorem SpRow.at {w : World} {b n : Nat} {S : Nat → Sp} (h : SpRow w b n n S) {j : Nat} (hj : j < n) : SpAt w b (0 + j * 5) (S j) := by
  obtain ⟨g, hr, hg⟩ := h
  obtain ⟨g0, g1, g2, g3, g4⟩ := hg j hj
  unfold SpAt
  rw [Nat.zero_add]
  exact ⟨by rw [hr.cell (by omega), g0], by rw [hr.cell (by omega), g1], by rw [hr.cell (by omega), g2], by rw [hr.cell (by omega), g3], by rw [hr.cell (by omega), g4]⟩

theorem SpRow.put {w : World} {b n i : Nat} {S : Nat → Sp} (h : SpRow w b n i S) :
    SpRow (((((w.setCell ⟨b, i * 5, Option.none⟩ (.slice (S i).la (S i).lo.length (S i).lc)).setCell ⟨b, i * 5 + 1, Option.none⟩ (.slice (S i).ha (S i).hi.length (S i).hc)).setCell ⟨b, i * 5 + 2, Option.none⟩ (.bool (S i).le)).setCell ⟨b, i * 5 + 3, Option.none⟩ (.bool (S i).he)).setCell ⟨b, i * 5 + 4, Option.none⟩ (.bool (S i).na)) b n (i + 1) S := by
  obtain ⟨g, hr, hg⟩ := h
  refine ⟨_, (((((hr.set _ _).set _ _).set _ _).set _ _).set _ _), fun j hj => ?_⟩
  by_cases e : j = i
  · subst e
    simp
  · obtain ⟨g0, g1, g2, g3, g4⟩ := hg j (by omega)
    have ne : ∀ r r', r < 5 → r' < 5 → ¬ (j * 5 + r = i * 5 + r') := fun r r' h1 h2 h3 => e (by omega)
    have n0 : ∀ r', r' < 5 → ¬ (j * 5 = i * 5 + r') := fun r' h2 => by simpa using ne 0 r' (by omega) h2
    have n00 : ¬ (j * 5 = i * 5) := fun h3 => e (by omega)
    have n1 : ∀ r, r < 5 → ¬ (j * 5 + r = i * 5) := fun r h1 => by simpa using ne r 0 h1 (by omega)
    refine ⟨?_, ?_, ?_, ?_, ?_⟩
    · rw [if_neg (n0 4 (by omega)), if_neg (n0 3 (by omega)), if_neg (n0 2 (by omega)), if_neg (n0 1 (by omega)), if_neg n00, g0]
    · rw [if_neg (ne 1 4 (by omega) (by omega)), if_neg (ne 1 3 (by omega) (by omega)), if_neg (ne 1 2 (by omega) (by omega)), if_neg (ne 1 1 (by omega) (by omega)), if_neg (n1 1 (by omega)), g1]
    · rw [if_neg (ne 2 4 (by omega) (by omega)), if_neg (ne 2 3 (by omega) (by omega)), if_neg (ne 2 2 (by omega) (by omega)), if_neg (ne 2 1 (by omega) (by omega)), if_neg (n1 2 (by omega)), g2]
    · rw [if_neg (ne 3 4 (by omega) (by omega)), if_neg (ne 3 3 (by omega) (by omega)), if_neg (ne 3 2 (by omega) (by omega)), if_neg (ne 3 1 (by omega) (by omega)), if_neg (n1 3 (by omega)), g3]
    · rw [if_neg (ne 4 4 (by omega) (by omega)), if_neg (ne 4 3 (by omega) (by omega)), if_neg (ne 4 2 (by omega) (by omega)), if_neg (ne 4 1 (by omega) (by omega)), if_neg (n1 4 (by omega)), g4]

theorem SpRow.made (w : World) (n : Nat) (S : Nat → Sp) : SpRow (w.alloc (.cells (madeCells #[.slice Option.none 0 0, .slice Option.none 0 0, .bool false, .bool false, .bool false] (n * 5)) 49)) w.heap.size n 0 S :=
  ⟨_, rowIs_made' _ _ _ _, fun _ hj => absurd hj (Nat.not_lt_zero _)⟩

/-- The columns' slices, as the call has them. -/
structure Cols (W : World) (n : Nat) (S : Nat → Sp) (a0 a1 a2 a3 a4 : Option Addr) (c0 c1 c2 c3 c4 : Nat) : Prop where
  h0 : SliceAt W a0 n c0 (fun i => .slice (S i).la (S i).lo.length (S i).lc)
  h1 : SliceAt W a1 n c1 (fun i => .slice (S i).ha (S i).hi.length (S i).hc)
  h2 : SliceAt W a2 n c2 (fun i => .bool (S i).le)
  h3 : SliceAt W a3 n c3 (fun i => .bool (S i).he)
  h4 : SliceAt W a4 n c4 (fun i => .bool (S i).na)
  ok : ∀ i, i < n → (S i).ok W
  len : ∀ i, i < n → (S i).lo.length ≤ 1048576 ∧ (S i).hi.length ≤ 1048576

theorem far5 {w : World} {b o : Nat} {v : Value} (h : w.cell? ⟨b, o, Option.none⟩ = some v) (B : Nat) (hne : b ≠ B) (o0 o1 o2 o3 o4 : Nat) (x0 x1 x2 x3 x4 : Value) :
    (((((w.setCell ⟨B, o0, Option.none⟩ x0).setCell ⟨B, o1, Option.none⟩ x1).setCell ⟨B, o2, Option.none⟩ x2).setCell ⟨B, o3, Option.none⟩ x3).setCell ⟨B, o4, Option.none⟩ x4).drew.cell? ⟨b, o, Option.none⟩ = some v := by
  have e : ∀ (w : World) (o' : Nat) (x : Value), (w.setCell ⟨B, o', Option.none⟩ x).cell? ⟨b, o, Option.none⟩ = w.cell? ⟨b, o, Option.none⟩ := fun w o' x => World.cell?_of_block (w := w) (heap_setCell_other w ⟨B, o', Option.none⟩ b x hne)
  rw [World.drew_is_drewN, World.cell?_drewN, e, e, e, e, e, h]

theorem ServePost.up {n kn : Nat} {S : Nat → Sp} {κ : Nat → Nat} {W w1 w2 : World} {L U : Option Addr} (hb : Below W.heap.size W w1) (hlt : W.heap.size < w1.heap.size) {ok : Bool} {v : Value}
    (h : ServePost n kn S κ w1 (.returned (.tuple #[.agg #[.pointer L, .pointer U, .bool false, .int .i64 0], .bool ok, v])) w2) :
    ServePost n kn S κ W (.returned (.tuple #[.agg #[.pointer L, .pointer U, .bool false, .int .i64 0], .bool ok, v])) (w2.setRow W.heap.size #[.pointer L, .pointer U, .bool false, .int .i64 0]) := by
  obtain ⟨h1, q, hq, h2⟩ := h
  have hk : Kept w1.heap.size w2 (w2.setRow W.heap.size #[.pointer L, .pointer U, .bool false, .int .i64 0]) := Kept.setRow (fun _ _ _ => rfl) hlt _
  have hg : w2.grownBy (w2.setRow W.heap.size #[.pointer L, .pointer U, .bool false, .int .i64 0]) (some W.heap.size) := ⟨rfl, rfl, rfl, by simp, fun k _ hk => setRow_other w2 W.heap.size k _ (fun e => hk (by rw [e]))⟩
  refine ⟨below_setRow (below_step hb h1) (Nat.le_refl _) _, q, hq, ?_⟩
  rcases h2 with ⟨h3, v', h4, h5⟩ | ⟨h3, L', U', ok', h4, h5⟩
  · refine .inl ⟨h3, v', h4, OwnI.mono (b := w1.heap.size) (World.ownsRow.kept h5 hg (.inr ?_)) hb.size⟩
    intro e
    have := (World.ownsRow.lt h5 _ e).1
    omega
  · refine .inr ⟨h3, L', U', ok', h4, ?_⟩
    rcases h5 with h | ⟨low, g1, g2, g3, g4⟩
    · exact .inl h
    · exact .inr ⟨low, g1, g2, (g3.kept hk).mono hb.size, (g4.kept hk).mono hb.size⟩

theorem ServePost.form {n kn : Nat} {S : Nat → Sp} {κ : Nat → Nat} {W w' : World} {e : Ending} (h : ServePost n kn S κ W e w') : ∃ L U ok v, e = .returned (.tuple #[.agg #[.pointer L, .pointer U, .bool false, .int .i64 0], .bool ok, v]) := by
  obtain ⟨-, q, -, ⟨-, v, h, -⟩ | ⟨-, L, U, ok, h, -⟩⟩ := h
  · exact ⟨_, _, _, _, h⟩
  · exact ⟨_, _, _, _, h⟩

set_option maxHeartbeats 4000000 in
theorem zserve21 (n kn kc : Nat) (S : Nat → Sp) (κ : Nat → Nat) (a0 a1 a2 a3 a4 ka : Option Addr) (c0 c1 c2 c3 c4 : Nat) (W : World) (hC : Cols W n S a0 a1 a2 a3 a4 c0 c1 c2 c3 c4) (hK : SliceAt W ka kn kc (fun j => .int .i64 (κ j : Nat))) (hκ : ∀ j, j < kn → κ j < n) (hn : n ≤ 65536) (hk : kn ≤ 65536) (hpl : ∀ q, IsEq S κ kn q → (pfxOf S κ q).length ≤ 1048576) :
    Calls Try.prog 21 #[.slice a0 n c0, .slice a1 n c1, .slice a2 n c2, .slice a3 n c3, .slice a4 n c4, .slice ka kn kc] W (ServePost n kn S κ W) := by
  have hmk := run_make49 n (by omega)
  go_enter Try.func21, Try.ntmps21
  go_wp2_with fail
  go_loopw [22] (fun t wr => ∃ i : Nat, i ≤ n ∧ t = .int .i64 i ∧ Below W.heap.size W wr ∧ RngAt wr W.heap.size Option.none Option.none ∧ SpRow wr (W.heap.size + 1) n i S) (fun t _ => n - (intOf t).toNat)
  case atStart =>
    refine ⟨0, Nat.zero_le _, rfl, ?_, ?_, ?_⟩
    · exact ((Below.refl _ _).alloc (Nat.le_refl _) _).alloc (by simp) _
    · exact (RngAt.made W).below ((Below.refl _ _).alloc (Nat.le_refl _) _)
    · have := SpRow.made (W.alloc (.cells #[.pointer Option.none, .pointer Option.none, .bool false, .int .i64 0] 27)) n S
      simpa using this
  case round =>
    obtain ⟨i, hi, rfl, hbr, hqr, hsr⟩ := hrel
    by_cases hlt : i < n
    · obtain ⟨b0, o0, rfl, f0⟩ := hC.h0.cells (by omega)
      obtain ⟨b1, o1, rfl, f1⟩ := hC.h1.cells (by omega)
      obtain ⟨b2, o2, rfl, f2⟩ := hC.h2.cells (by omega)
      obtain ⟨b3, o3, rfl, f3⟩ := hC.h3.cells (by omega)
      obtain ⟨b4, o4, rfl, f4⟩ := hC.h4.cells (by omega)
      have n0 : b0 ≠ W.heap.size + 1 := by have := cell_lt (f0 i hlt); omega
      replace f0 := cell_below hbr (f0 i hlt)
      have n1 : b1 ≠ W.heap.size + 1 := by have := cell_lt (f1 i hlt); omega
      replace f1 := cell_below hbr (f1 i hlt)
      have n2 : b2 ≠ W.heap.size + 1 := by have := cell_lt (f2 i hlt); omega
      replace f2 := cell_below hbr (f2 i hlt)
      have n3 : b3 ≠ W.heap.size + 1 := by have := cell_lt (f3 i hlt); omega
      replace f3 := cell_below hbr (f3 i hlt)
      have n4 : b4 ≠ W.heap.size + 1 := by have := cell_lt (f4 i hlt); omega
      replace f4 := cell_below hbr (f4 i hlt)
      obtain ⟨g, hr, hg⟩ := hsr
      have d0 := hr.cell (i := i * 5) (by omega)
      have d1 := hr.cell (i := i * 5 + 1) (by omega)
      have d2 := hr.cell (i := i * 5 + 2) (by omega)
      have d3 := hr.cell (i := i * 5 + 3) (by omega)
      have d4 := hr.cell (i := i * 5 + 4) (by omega)
      have z0 := hr.frozen (i * 5)
      have z1 := hr.frozen (i * 5 + 1)
      have z2 := hr.frozen (i * 5 + 2)
      have z3 := hr.frozen (i * 5 + 3)
      have z4 := hr.frozen (i * 5 + 4)
      have li : (i : Int) < (n : Int) := by omega
      have HS := hide (show SpRow wr (W.heap.size + 1) n i S from ⟨g, hr, hg⟩)
      clear hr hg
      go_wp2_with fail
      go_region_held3 (fun w' => w'.cell? ⟨b0, o0 + i, Option.none⟩ = some (.slice (S i).la (S i).lo.length (S i).lc) ∧ w'.cell? ⟨b1, o1 + i, Option.none⟩ = some (.slice (S i).ha (S i).hi.length (S i).hc) ∧ w'.cell? ⟨b2, o2 + i, Option.none⟩ = some (.bool (S i).le) ∧ w'.cell? ⟨b3, o3 + i, Option.none⟩ = some (.bool (S i).he) ∧ w'.cell? ⟨b4, o4 + i, Option.none⟩ = some (.bool (S i).na))
        (first | with_reducible exact ⟨f0, f1, f2, f3, f4⟩ | with_reducible exact ⟨far5 f0 _ n0 _ _ _ _ _ _ _ _ _ _, far5 f1 _ n1 _ _ _ _ _ _ _ _ _ _, far5 f2 _ n2 _ _ _ _ _ _ _ _ _ _, far5 f3 _ n3 _ _ _ _ _ _ _ _ _ _, far5 f4 _ n4 _ _ _ _ _ _ _ _ _ _⟩ | go_keep)
        (fail)
      all_goals go_wp2_with fail
      all_goals go_roundw
      all_goals first | (simp [intOf]; omega) | skip
      all_goals
        refine ⟨i + 1, hlt, by go_num, ?_, ?_, ?_⟩
        · exact below_drewN' (((((hbr.setCell (p := ⟨W.heap.size + 1, _, Option.none⟩) (Nat.le_succ _) _).setCell (p := ⟨W.heap.size + 1, _, Option.none⟩) (Nat.le_succ _) _).setCell (p := ⟨W.heap.size + 1, _, Option.none⟩) (Nat.le_succ _) _).setCell (p := ⟨W.heap.size + 1, _, Option.none⟩) (Nat.le_succ _) _).setCell (p := ⟨W.heap.size + 1, _, Option.none⟩) (Nat.le_succ _) _) 1
        · exact ((((hqr.other (by simp) _).other (by simp) _).other (by simp) _).other (by simp) _).other (by simp) _
        · exact (unhide HS).put
    · have e : i = n := by omega
      subst e
      have hI : In wr (W.heap.size + 1) 0 i S ka kn kc κ := ⟨fun j hj => hsr.at hj, fun j hj => (hC.ok j hj).below hbr, hC.len, hK.below hbr, hκ, hn, hk⟩
      have hsv := serve31 (W.heap.size + 1) 0 i i kn kc ka S κ wr hI hpl
      have hltq := World.rowIs.lt hqr
      clear hmk hI
      go_wp2_with fail
      refine hsv.mono ?_
      intro e w2 hpost
      obtain ⟨L, U, ok, v, rfl⟩ := hpost.form
      have hq2 := hqr.below hpost.1
      obtain ⟨arr, harr, hsz, -⟩ := hq2
      have HP := hide (ServePost.up hbr hltq hpost)
      clear hsv hpost
      go_wp2_with (refine wpList_store_row rfl 27 _ _ rfl W.heap.size _ rfl rfl 27 arr harr Try.info27 hsz (by simp [Value.oneCell']) ?_)
      have hq3 : RngAt (w2.setRow W.heap.size #[.pointer L, .pointer U, .bool false, .int .i64 0]) W.heap.size L U := RngAt.of_setRow harr
      obtain ⟨k0, k1, k2, k3⟩ := hq3.cells
      refine bodyPost_ret (v := .tuple #[.agg #[.pointer L, .pointer U, .bool false, .int .i64 0], .bool ok, v]) (by simp [results, Try.results21, go_sem, k0, k1, k2, k3]) rfl (unhide HP)
end Go.Proofs.Qxb6002590a
