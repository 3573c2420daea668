import Derived.Test.Qxb6602460aCycC
namespace Go.Proofs.Qxb6602460a
open Go.RowKit Go.Maps Go.Own

/-- A row of slices that the call itself builds, no two in one block. -/
def RevAt (w : World) (RB n : Nat) (V : Nat → Value) (R : Nat → List Nat) : Prop :=
  w.rowIs RB 22 n V ∧ (∀ i, i < n → OwnI w (RB + 1) (V i) (R i)) ∧ ∀ i j b, i < n → j < n → (V i).ownBlock = some b → (V j).ownBlock = some b → i = j

def updV (f : Nat → Value) (k : Nat) (v : Value) : Nat → Value := fun x => if x = k then v else f x
def updL (f : Nat → List Nat) (k : Nat) (v : List Nat) : Nat → List Nat := fun x => if x = k then v else f x
theorem updL_same (f : Nat → List Nat) (k : Nat) (v : List Nat) : updL f k v k = v := if_pos rfl
theorem updL_other (f : Nat → List Nat) {k x : Nat} (v : List Nat) (h : x ≠ k) : updL f k v x = f x := if_neg h

/-- One more in row x. -/
theorem RevAt.append {w : World} {RB n x : Nat} {V : Nat → Value} {R : Nat → List Nat} (h : RevAt w RB n V R) (hx : x < n) (y : Nat) (hl : (R x).length ≤ 1099511627776) :
    ∃ a c a' c' w', V x = .slice a (R x).length c ∧ (Builtin.append_ #[22, 22] 22 #[.slice a (R x).length c, .slice (some ⟨w.heap.size, 0, Option.none⟩) 1 1]).run Try.prog (w.alloc (.cells #[.int .i64 (y : Nat)] 3)) = .ok (.slice a' ((R x).length + 1) c') w' ∧ w'.rowIs RB 22 n V ∧ Below RB w w' ∧
      RevAt (w'.setCell ⟨RB, x, Option.none⟩ (.slice a' ((R x).length + 1) c')) RB n (updV V x (.slice a' ((R x).length + 1) c')) (updL R x (R x ++ [y])) := by
  obtain ⟨h1, h2, h3⟩ := h
  have hsz : RB + 1 ≤ w.heap.size := h1.lt
  have hb1 : Below w.heap.size w (w.alloc (.cells #[.int .i64 (y : Nat)] 3)) := (Below.refl _ _).alloc (Nat.le_refl _) _
  have ho := World.ownsRow.alloc (h2 x hx) (.cells #[.int .i64 (y : Nat)] 3)
  obtain ⟨a, c, hva, -, -, -⟩ := (h2 x hx).form
  obtain ⟨i0, hi, hz0, hz1, hz2⟩ := info_parts Try.info3
  obtain ⟨v', w', hr, g1, g2, -, g3⟩ := run_append_own_at (P := Try.prog) (w.alloc (.cells #[.int .i64 (y : Nat)] 3)) (RB + 1) 22 22 3 i0 (.int .i64 0) 1 8 Try.underlying22 hi hz0 hz1 hz2 rfl (by decide) (V x) (R x).length (iv (R x)) ho ⟨w.heap.size, 0, Option.none⟩ 1 1 [.int .i64 (y : Nat)] rfl
    (fun j u hu => by
      cases j with
      | zero => cases hu; exact cell_new _ _ _ 0 rfl
      | succ j => simp at hu)
    (fun u hu => by
      cases hu with
      | head => rfl
      | tail _ h => cases h) (by simp only [maxLen]; omega) (by omega) (Nat.le_trans hsz hb1.size)
  have g1' : OwnI w' (RB + 1) v' (R x ++ [y]) := by
    unfold OwnI
    rw [List.length_append, show iv (R x ++ [y]) = iv (R x) ++ [.int .i64 (y : Nat)] by simp [iv]]
    exact g1
  obtain ⟨a', c', rfl, -, -, -⟩ := g1'.form
  rw [show (R x ++ [y]).length = (R x).length + 1 by simp] at hr g1' g3
  have hown := fun k e => (World.ownsRow.lt (h2 x hx) k e).1
  have hb2 : Below (RB + 1) w w' := (hb1.mono hsz).trans (grown_below g2 (Nat.le_trans hsz hb1.size) hown)
  have hrow : w'.rowIs RB 22 n V := h1.of_block (hb2.block _ (Nat.lt_succ_self _))
  refine ⟨a, c, a', c', w', hva, by rw [hva] at hr; exact hr, hrow, hb2.mono (Nat.le_succ _), (hrow.set x _).congr fun i hi => rfl, fun i hi => ?_, fun i j b hi hj hb hb' => ?_⟩
  · unfold updV
    by_cases e : i = x
    · subst e
      rw [if_pos rfl, updL_same]
      exact ownsRow_setCell_below g1' (by simp) _
    · rw [if_neg e, updL_other _ _ e]
      refine ownsRow_setCell_below (World.ownsRow.kept (World.ownsRow.alloc (h2 i hi) _) g2 ?_) (by simp) _
      cases hvi : (V i).ownBlock with
      | none => exact .inl rfl
      | some k => exact .inr fun e' => e (h3 i x k hi hx hvi e'.symm)
  · have key : ∀ i b, i < n → i ≠ x → (V i).ownBlock = some b → (Value.slice a' ((R x).length + 1) c').ownBlock = some b → False := fun i b hi hne h4 h5 => by
      rcases g3 with g3 | g3
      · rw [h5] at g3; exact hne (h3 i x b hi hx h4 g3.symm)
      · rw [h5] at g3
        have := (World.ownsRow.lt (h2 i hi) b h4).2
        have e : b = (w.alloc (.cells #[.int .i64 (y : Nat)] 3)).heap.size := by injection g3
        have := hb1.size
        omega
    unfold updV at hb hb'
    by_cases ei : i = x
    · by_cases ej : j = x
      · rw [ei, ej]
      · rw [if_pos ei] at hb; rw [if_neg ej] at hb'
        exact (key j b hj ej hb' hb).elim
    · by_cases ej : j = x
      · rw [if_neg ei] at hb; rw [if_pos ej] at hb'
        exact (key i b hi ei hb hb').elim
      · rw [if_neg ei] at hb; rw [if_neg ej] at hb'
        exact h3 i j b hi hj hb hb'

def addrOf : Value → Option Addr
  | .slice a _ _ => a
  | _ => Option.none
def capOf : Value → Nat
  | .slice _ _ c => c
  | _ => 0

theorem RevAt.gr {w : World} {RB n : Nat} {V : Nat → Value} {R : Nat → List Nat} (h : RevAt w RB n V R) : Gr w (some ⟨RB, 0, Option.none⟩) n n (fun i => addrOf (V i)) (fun i => capOf (V i)) R := by
  obtain ⟨h1, h2, h3⟩ := h
  refine ⟨SliceAt.of_row (h1.congr fun i hi => ?_), fun i hi => ?_⟩
  · obtain ⟨a, c, hv, -⟩ := (h2 i hi).form
    show V i = .slice (addrOf (V i)) (R i).length (capOf (V i))
    rw [hv]; rfl
  · obtain ⟨a, c, hv, -, -, hs⟩ := (h2 i hi).form
    show SliceAt w (addrOf (V i)) (R i).length (capOf (V i)) _
    rw [hv]
    exact hs

/-- What reverseEdges leaves. -/
def RevPost (n : Nat) (out : Nat → List Nat) (w : World) (e : Ending) (w' : World) : Prop :=
  ∃ (A : Nat → Option Addr) (C : Nat → Nat) (R : Nat → List Nat), e = .returned (.slice (some ⟨w.heap.size, 0, Option.none⟩) n n) ∧ Below w.heap.size w w' ∧ Gr w' (some ⟨w.heap.size, 0, Option.none⟩) n n A C R ∧ (∀ x, x < n → ∀ u, u ∈ R x ↔ u < n ∧ x ∈ out u) ∧ ∀ x, x < n → (R x).length ≤ 1099511627776

/-- Where the turning stands. -/
def RevI (n : Nat) (out : Nat → List Nat) (w : World) (v j : Nat) (wr : World) : Prop :=
  ∃ V R, Below w.heap.size w wr ∧ RevAt wr w.heap.size n V R ∧ (∀ x, x < n → ∀ u, u ∈ R x ↔ (u < v ∧ x ∈ out u) ∨ (u = v ∧ x ∈ (out u).take j)) ∧ ∀ x, x < n → (R x).length ≤ v * 1048576 + j

theorem bump {r v j M : Nat} (h : r ≤ v * M + j) (hj : j ≤ M) : r ≤ (v + 1) * M + 0 := by
  rw [Nat.add_mul]; omega

theorem RevI.next {n : Nat} {out : Nat → List Nat} {w : World} {v : Nat} {wr : World} (hl : (out v).length ≤ 1048576) (h : RevI n out w v (out v).length wr) : RevI n out w (v + 1) 0 wr := by
  obtain ⟨V, R, h1, h2, h3, h4⟩ := h
  refine ⟨V, R, h1, h2, fun x hx u => ?_, fun x hx => bump (h4 x hx) hl⟩
  rw [h3 x hx u]
  constructor
  · rintro (⟨g1, g2⟩ | ⟨rfl, g2⟩)
    · exact .inl ⟨by omega, g2⟩
    · rw [List.take_length] at g2; exact .inl ⟨by omega, g2⟩
  · rintro (⟨g1, g2⟩ | ⟨rfl, g2⟩)
    · by_cases e : u = v
      · subst e; exact .inr ⟨rfl, by rw [List.take_length]; exact g2⟩
      · exact .inl ⟨by omega, g2⟩
    · simp at g2

set_option maxHeartbeats 4000000 in
set_option maxRecDepth 100000 in
theorem rev17 (oa : Option Addr) (n oc : Nat) (A : Nat → Option Addr) (C : Nat → Nat) (out : Nat → List Nat) (w : World)
    (hgr : Gr w oa n oc A C out) (hn : n ≤ 65536) (hin : ∀ i, i < n → ∀ y, y ∈ out i → y < n) (hlen : ∀ i, i < n → (out i).length ≤ 1048576) :
    Calls Try.prog 17 #[.slice oa n oc] w (RevPost n out w) := by
  have hmk := run_make_row' (P := Try.prog) 23 22 (.slice Option.none 0 0) 24 Try.underlying23 Try.info22 rfl .i64 .i64 n (by omega) (by omega)
  have HG := hide hgr
  have HI := hide hin
  have HL := hide hlen
  clear hgr hin hlen
  go_enter Try.func17, Try.ntmps17
  go_wp2_with fail
  go_loopw [5] (fun i wr => ∃ v : Nat, v ≤ n ∧ i = .int .i64 v ∧ RevI n out w v 0 wr) (fun i _ => n - (intOf i).toNat)
  case atStart =>
    refine ⟨0, Nat.zero_le _, rfl, fun _ => .slice Option.none 0 0, fun _ => [], (Below.refl _ _).alloc (Nat.le_refl _) _, ⟨World.rowIs_made w _ n 22, fun i hi => OwnI.nil _ _, fun i j b hi hj h => by cases h⟩, fun x hx u => ?_, fun x hx => Nat.zero_le _⟩
    simp
  case round =>
    obtain ⟨v, hv, rfl, hI⟩ := hrel
    by_cases hlt : v < n
    · have lv : (v : Int) < (n : Int) := by omega
      have hb := hI.choose_spec.choose_spec.1
      have hg := (RowsAt.below (unhide HG) hb)
      obtain ⟨b, off, rfl, hc⟩ := Gr.row hg hlt
      have hlv := unhide HL v hlt
      have hiv := unhide HI v hlt
      have HII := hide hI
      have HLV := hide hlv
      have HIV := hide hiv
      clear hI hb hg hiv hlv
      go_wp2_with fail
      go_loopw [7] (fun j wr => ∃ k : Nat, k ≤ (out v).length ∧ j = .int .i64 k ∧ RevI n out w v k wr) (fun j _ => (out v).length - (intOf j).toNat)
      case atStart => exact ⟨0, Nat.zero_le _, rfl, unhide HII⟩
      case round =>
        obtain ⟨k, hk, rfl, V, R, hb, hR, hmem, hRl⟩ := hrel
        by_cases hkl : k < (out v).length
        · have lk : (k : Int) < ((out v).length : Int) := by omega
          have hg := (RowsAt.below (unhide HG) hb)
          obtain ⟨b2, off2, hA, hc2⟩ := Gr.at hg hlt hkl
          have hxm : (out v).getD k 0 ∈ out v := mem_getD hkl
          have hx : (out v).getD k 0 < n := unhide HIV _ hxm
          have htk := take_getD hkl
          have hlv := unhide HLV
          rw [hA]
          clear hA hg hxm
          generalize (out v).getD k 0 = x at *
          have lx : (x : Int) < (n : Int) := by omega
          have hrx := hRl x hx
          obtain ⟨a, c, a', c', w', hvx, hrun, hrow', hb', hR'⟩ := hR.append hx v (by omega)
          have e1 := hR.1.cell hx
          rw [hvx] at e1
          have e2 := hrow'.cell hx
          have e3 := hrow'.frozen x
          have HF := hide (show RevI n out w v (k + 1) (w'.setCell ⟨w.heap.size, x, Option.none⟩ (.slice a' ((R x).length + 1) c')) from by
            refine ⟨_, _, (hb.trans hb').setCell (Nat.le_refl _) _, hR', fun z hz u => ?_, fun z hz => ?_⟩
            · by_cases e : z = x
              · subst e
                rw [updL_same, List.mem_append, hmem z hz u, List.mem_singleton]
                constructor
                · rintro ((g | ⟨rfl, g⟩) | rfl)
                  · exact .inl g
                  · exact .inr ⟨rfl, by rw [htk]; exact List.mem_append_left _ g⟩
                  · exact .inr ⟨rfl, by rw [htk]; simp⟩
                · rintro (g | ⟨rfl, g⟩)
                  · exact .inl (.inl g)
                  · rw [htk] at g
                    rcases List.mem_append.1 g with g | g
                    · exact .inl (.inr ⟨rfl, g⟩)
                    · exact .inr rfl
              · rw [updL_other _ _ e, hmem z hz u]
                constructor
                · rintro (g | ⟨rfl, g⟩)
                  · exact .inl g
                  · exact .inr ⟨rfl, by rw [htk]; exact List.mem_append_left _ g⟩
                · rintro (g | ⟨rfl, g⟩)
                  · exact .inl g
                  · rw [htk] at g
                    rcases List.mem_append.1 g with g | g
                    · exact .inr ⟨rfl, g⟩
                    · exact absurd (by simpa using g) e
            · have := hRl z hz
              by_cases e : z = x
              · subst e; rw [updL_same]; simp; omega
              · rw [updL_other _ _ e]; omega)
          clear hR hR' hrow' hmem hRl hb hb' htk hvx
          generalize (R x).length = rl at *
          go_wp2_with (at_builtin; refine Lib.wpList_append_run _ rfl _ _ _ _ rfl _ _ rfl rfl _ _ hrun ?_)
          go_roundw
          case rel => exact ⟨k + 1, hkl, by go_num, unhide HF⟩
          case measure => simp [intOf]; omega
        · obtain rfl : k = (out v).length := by omega
          have HF := hide (RevI.next (unhide HLV) (show RevI n out w v (out v).length _ from ⟨V, R, hb, hR, hmem, hRl⟩))
          clear hb hR hmem hRl
          go_wp2_with fail
          go_roundw
          case rel => exact ⟨v + 1, hlt, by go_num, unhide HF⟩
          case measure => simp [intOf]; omega
    · obtain rfl : v = n := by omega
      obtain ⟨V, R, hb, hR, hmem, hRl⟩ := hI
      have HF := hide (show RevPost v out w (.returned (.slice (some ⟨w.heap.size, 0, Option.none⟩) v v)) wr from ⟨_, _, R, rfl, hb, hR.gr, fun x hx u => by rw [hmem x hx u]; simp, fun x hx => by have := hRl x hx; omega⟩)
      clear hb hR hmem hRl
      go_wp2_with fail
      go_ret
      exact unhide HF
end Go.Proofs.Qxb6602460a
