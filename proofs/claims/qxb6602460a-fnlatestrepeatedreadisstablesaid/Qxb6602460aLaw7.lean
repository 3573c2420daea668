import Derived.Test.Qxb6602460aBytes
import Derived.Test.Qxb6602460aLatest
import Derived.Test.Qxb6602460aSnap
import Derived.Test.Qxb6602460aSame
namespace Go.Proofs.Qxb6602460a
open Go.RowKit Go.Maps Go.Own

/-- True comes back; nothing that was there has turned. -/
def TrueBelow (w : World) (e : Ending) (w' : World) : Prop := e = .returned (.bool true) ∧ Below w.heap.size w w'

theorem lastIx_lt (K : Nat → Lit) (kl : Lit) : ∀ n q, lastIx K n kl = some q → q < n
  | 0, q, h => by cases h
  | n + 1, q, h => by
    unfold lastIx at h
    split at h
    · cases h; exact Nat.lt_succ_self _
    · exact Nat.lt_succ_of_lt (lastIx_lt K kl n q h)

/-- The table as buildTable lays it. -/
def tableOf (tn : Bool) (S : Nat → ByteArray) (V : Nat → Value) (n : Nat) : Lit → Option Value := if tn then fun _ => Option.none else tabOf (fun i => skey (S i)) V n

theorem tableOf_cases (tn : Bool) (S : Nat → ByteArray) (V : Nat → Value) (n : Nat) (kl : Lit) : tableOf tn S V n kl = Option.none ∨ ∃ q, q < n ∧ tableOf tn S V n kl = some (V q) := by
  unfold tableOf
  cases tn
  · simp only [Bool.false_eq_true, if_false]
    rw [tabOf_eq]
    cases h : lastIx (fun i => skey (S i)) n kl with
    | none => exact .inl rfl
    | some q => exact .inr ⟨q, lastIx_lt _ _ _ _ h, rfl⟩
  · exact .inl rfl

theorem tableOf_noted {S : Nat → ByteArray} {V : Nat → Value} {n : Nat} {it : ByteArray} {i : Nat} (h : noted S it n i = true) : tableOf false S V n (skey (S i)) = some (V i) := by
  unfold tableOf
  simp only [Bool.false_eq_true, if_false]
  rw [tabOf_eq]
  simp [noted] at h
  rw [h.2]
  rfl

theorem noted_ne {S : Nat → ByteArray} {n : Nat} {it : ByteArray} {i : Nat} (h : noted S it n i = true) : skey (S i) ≠ skey it := by
  simp [noted] at h
  intro e
  unfold skey at e
  simp only [Lit.string.injEq] at e
  exact h.1 (by rw [ByteArray.toList_eq, ByteArray.toList_eq, e])

theorem upd_ne {F : Lit → Option Value} {k x : Lit} {v : Value} (h : x ≠ k) : upd F k v x = F x := by
  unfold upd
  cases hq : x.sameKey k
  · rfl
  · exact absurd (WideAt.sameKey_eq hq) h

theorem upd_same {F : Lit → Option Value} {k : Lit} {v : Value} (h : WideAt.IsKeyLit k) : upd F k v k = some v := by
  unfold upd
  rw [WideAt.sameKey_self h]
  rfl

/-- Is a transaction dead by the aborted set? -/
def deadBy (G : Lit → Option Value) (x : Int) : Bool := match (G (ikey x)).getD (.bool false) with | .bool b => b | _ => false

theorem deadBy_eq (an : Bool) (K : Nat → Lit) (B : Nat → Bool) (n : Nat) (x : Int) :
    ((if an = true then fun _ => Option.none else tabOf K (fun i => .bool (B i)) n : Lit → Option Value) (ikey x)).getD (.bool false) = .bool (deadBy (if an = true then fun _ => Option.none else tabOf K (fun i => .bool (B i)) n) x) := by
  cases an
  · simp only [Bool.false_eq_true, if_false, deadBy]
    rw [tabOf_eq]
    cases lastIx K n (ikey x) <;> rfl
  · rfl

theorem kept_all {w : World} {M : Nat → Bool} {S : Nat → ByteArray} {la : Option Addr} {nk cl : Nat} {A2 A3 : Nat → Option Addr} {N N3 C2 C3 : Nat → Nat} {X : Nat → Nat → Int} {F : Lit → Option Value} (hl : RowsAt w la nk cl A2 N C2 X)
    (hr : ∀ i, i < nk → M i = true → N3 i = N i ∧ (A3 i = Option.none ↔ A2 i = Option.none) ∧ SliceAt w (A3 i) (N i) (C3 i) (fun j => .int .i64 (X i j)))
    (hF : ∀ i, i < nk → M i = true → F (skey (S i)) = some (.slice (A2 i) (N i) (C2 i))) (hbd : ∀ i, i < nk → N i ≤ 131072) : ∀ i, i < nk → M i = true → Kept w F (S i) (A3 i) (N3 i) (C3 i) := by
  intro i hi hm
  obtain ⟨e1, e2, e3⟩ := hr i hi hm
  have := hbd i hi
  refine ⟨by omega, A2 i, C2 i, X i, ?_, e2, ?_, ?_⟩
  · rw [hF i hi hm, e1]
  · rw [e1]; exact hl.2 i hi
  · rw [e1]; exact e3

theorem rows3_kept {w w' : World} {row : Option Nat} {M : Nat → Bool} {nk : Nat} {A2 A3 : Nat → Option Addr} {N N3 C3 : Nat → Nat} {X : Nat → Nat → Int}
    (hr : ∀ i, i < nk → M i = true → N3 i = N i ∧ (A3 i = Option.none ↔ A2 i = Option.none) ∧ SliceAt w (A3 i) (N i) (C3 i) (fun j => .int .i64 (X i j))) (hg : w.grownBy w' row) (hm : OnlyMap w row) :
    ∀ i, i < nk → M i = true → N3 i = N i ∧ (A3 i = Option.none ↔ A2 i = Option.none) ∧ SliceAt w' (A3 i) (N i) (C3 i) (fun j => .int .i64 (X i j)) := fun i hi h => by
  obtain ⟨e1, e2, e3⟩ := hr i hi h
  exact ⟨e1, e2, e3.kept hg hm⟩

theorem below_drewN' {B : Nat} {w w' : World} (h : Below B w w') (j : Nat) : Below B w (w'.drewN j) := ⟨h.os, h.tape, h.output, h.size, h.block⟩

theorem tab_some {P : Program} {k : TypeId} {w : World} {bv : Option Nat} {n : Nat} {F : Lit → Option Value} {sz : Nat} {kl : Lit} {v : Value} (h : Tab P k w (.map bv) n F sz) (hF : F kl = some v) : ∃ b, bv = some b := by
  rcases h with ⟨hv, h2, _⟩ | ⟨b', D, hv, ho, _⟩
  · rw [h2 kl] at hF; cases hF
  · cases hv; exact ⟨_, rfl⟩

theorem below_grown {w w' : World} (h : w.grownBy w' Option.none) : Below w.heap.size w w' := ⟨h.os, h.tape, h.output, h.size, fun k hk => h.block k hk (by simp)⟩

set_option maxHeartbeats 1000000 in
set_option maxRecDepth 100000 in
theorem law7 (tn an : Bool) (ka la ia va : Option Addr) (nk ck nl cl ni ci nv cv : Nat) (S : Nat → ByteArray) (A : Nat → Option Addr) (N C : Nat → Nat) (X : Nat → Nat → Int) (I : Nat → Int) (B : Nat → Bool) (it : ByteArray) (w : World)
    (hk : SliceAt w ka nk ck (fun i => .string (S i))) (hS : ∀ i, i < nk → (S i).size ≤ maxLen) (hl : RowsAt w la nl cl A N C X) (hX : ∀ i, i < nl → ∀ j, j < N i → (Lit.int .i64 (X i j)).wf = true)
    (hi : SliceAt w ia ni ci (fun i => .int .i64 (I i))) (hI : ∀ i, i < ni → (Lit.int .i64 (I i)).wf = true) (hv : SliceAt w va nv cv (fun i => .bool (B i))) (hit : it.size ≤ maxLen) :
    Calls Try.prog 7 #[.bool tn, .slice ka nk ck, .slice la nl cl, .bool an, .slice ia ni ci, .slice va nv cv, .string it] w (TrueBelow w) := by
  have z1 := zzBytes27 tn an ka la ia va nk ck nl cl ni ci nv cv S A N C it w hk hl.1
  by_cases hsz : nk ≤ 65536 ∧ nl ≤ 65536 ∧ ni ≤ 65536 ∧ nv ≤ 65536 ∧ it.size ≤ 1048576
  · obtain ⟨s1, s2, s3, s4, s5⟩ := hsz
    have z2 := writersBytesOK28 ka la ia va nk ck nl cl ni ci nv cv S A N C it w hk hl.1 s1 s2
    have Z1 := hide z1
    have Z2 := hide z2
    clear z1 z2
    by_cases hl1 : nk = nl
    · by_cases hl2 : ni = nv
      · subst hl1 hl2
        go_enter Try.func7, Try.ntmps7
        go_wp2_with fail
        refine (unhide Z1).mono ?_
        rintro e w1 ⟨b, rfl, rfl⟩
        cases b
        · go_wp2
          go_ret
          exact ⟨rfl, Below.refl _ _⟩
        go_wp2_with fail
        refine (unhide Z2).mono ?_
        rintro e w1 ⟨b, rfl, rfl, hbd⟩
        cases b
        · go_wp2
          go_ret
          exact ⟨rfl, Below.refl _ _⟩
        replace hbd := hbd rfl
        clear Z1 Z2
        go_wp2_with fail
        refine (cloneStrings_any _ _ _ S _ (by omega) hk).mono ?_
        rintro e w1 ⟨ka1, ck1, rfl, b1, -, hk1, -⟩
        have hl1 := hl.below b1
        go_wp2_with fail
        refine (cloneRows_any _ _ _ A N C X _ (by omega) (fun i hi => Nat.le_trans (hbd i hi) (by omega)) hl1).mono ?_
        rintro e w2 ⟨la2, cl2, A2, C2, rfl, b2, hl2, -, -⟩
        have hi2 := (hi.below b1).below b2
        go_wp2_with fail
        refine (cloneInts_any _ _ _ I _ (by omega) hi2).mono ?_
        rintro e w3 ⟨ia3, ci3, rfl, b3, -, hi3, -⟩
        have hv3 := ((hv.below b1).below b2).below b3
        go_wp2_with fail
        refine (cloneBools_any _ _ _ B _ (by omega) hv3).mono ?_
        rintro e w4 ⟨va4, cv4, rfl, b4, -, hv4, -⟩
        have hk4 := ((hk1.below b2).below b3).below b4
        have hl4 := (hl2.below b3).below b4
        go_wp2_with fail
        refine (buildTable_any tn _ _ _ _ _ _ S A2 N C2 _ hk4 hl4.1 s1 rfl hS).mono ?_
        rintro e w5 ⟨vt, sz, rfl, b5, ht5, hnt, hlt⟩
        have hi5 := (hi3.below b4).below b5
        have hv5 := hv4.below b5
        go_wp2_with fail
        refine (buildAborted_any an _ _ _ _ _ _ I B _ hi5 hv5 s3 rfl hI).mono ?_
        rintro e w6 ⟨vb, sb, rfl, b6, hg6, hnb, hlb⟩
        have ht6 := tab_below ht5 b6
        have hk6 := (hk4.below b5).below b6
        have hl6 := (hl4.below b5).below b6
        obtain ⟨bt, rfl⟩ := tab_map ht5
        obtain ⟨bb, rfl⟩ := tab_map hg6
        have B6 := below_step (below_step (below_step (below_step (below_step b1 b2) b3) b4) b5) b6
        clear hk hl hi hv hk1 hl1 hl2 hi2 hi3 hv3 hv4 hi5 hv5 hk4 hl4
        have hdd := deadBy_eq an (fun i => ikey (I i)) B ni
        generalize hG : (if an = true then fun _ => Option.none else tabOf (fun i => ikey (I i)) (fun i => .bool (B i)) ni : Lit → Option Value) = G at hg6 hdd
        clear hG
        have ht6' : Tab Try.prog 9 w6 (.map bt) nk (tableOf tn S (fun i => .slice (A2 i) (N i) (C2 i)) nk) sz := ht6
        have hlen6 := fun ty => ht6'.len Try.underlying41 ty
        have hlk6 := ht6'.look_ok law9 Try.underlying41 (zero22 w6) (skey_ok hit)
        rcases tableOf_cases tn S (fun i => .slice (A2 i) (N i) (C2 i)) nk (skey it) with hF | ⟨q, hq, hF⟩
        · rw [hF] at hlk6
          simp only [Option.getD_none, Option.isSome_none] at hlk6
          have HF := hide hF
          clear hF
          go_wp2_with fail
          refine (cloneInts_any _ _ _ (fun _ => 0) _ (by omega) (SliceAt.of_nil _ _)).mono ?_
          rintro e w7 ⟨xa, xc, rfl, b7, -, hx7, -⟩
          go_wp2_with fail
          refine (snapshotOthers_any _ _ _ _ _ _ S A2 N C2 X it _ (hk6.below b7) (hl6.below b7) s1 rfl (fun i hi => Nat.le_trans (hbd i hi) (by omega)) hS).mono ?_
          rintro e w8 ⟨m1, m2, A3, N3, C3, rfl, b8, hm8, hs8, hr8⟩
          have ht8 := tab_below (tab_below ht6' b7) b8
          go_wp2_with fail
          refine (zzLatest_none (.map bt) (.map bb) bt bb rfl rfl it nk sz _ _ hit ht8 (unhide HF)).mono ?_
          rintro e w9 ⟨rfl, g9⟩
          have b9 := below_grown g9
          have ht9 := tab_below ht8 b9
          have hlen9 := fun ty => ht9.len Try.underlying41 ty
          have hoth := othersUnchanged_true bt ka1 _ _ nk ck1 nk nk nk sz S _ A3 N3 C3 _ w9 ht9 (((hk6.below b7).below b8).below b9) (hm8.below b9) (hs8.below b9) s1 hS (fun hbt => by
            have htn : tn = false := by
              cases tn
              · rfl
              · exact absurd (by simpa using hnt.2 rfl) hbt
            subst htn
            exact kept_all (((hl6.below b7).below b8).below b9) (rows3_kept hr8 g9 (OnlyMap.none _)) (fun i hi hm => tableOf_noted hm) hbd)
          have hlk9 := fun j => (ht9.drewN j).look_ok law9 Try.underlying41 (zero22 _) (skey_ok hit)
          rw [unhide HF] at hlk9
          simp only [Option.getD_none, Option.isSome_none] at hlk9
          have B9 := below_step (below_step (below_step B6 b7) b8) b9
          clear hk6 hl6 hm8 hs8 hr8 hx7 ht5 ht6 ht6' hlk6 hlen6 hlt hnt hnb hlb hS hI hX hbd ht8 ht9 g9
          go_wp2
          refine wp_loop_rounds 1 ?_
          rw [rounds_succ]
          go_wp2_with fail
          refine hoth.mono ?_
          rintro e w10 ⟨rfl, j, rfl⟩
          go_wp2
          go_ret
          exact ⟨rfl, below_drewN' B9 j⟩
        · obtain ⟨b, rfl⟩ := tab_some ht6' hF
          have htn : tn = false := by
            cases tn
            · rfl
            · cases hnt.2 rfl
          subst htn
          rw [hF] at hlk6
          simp only [Option.getD_some, Option.isSome_some] at hlk6
          have HF := hide hF
          clear hF
          have hNq := hbd q hq
          go_wp2_with fail
          refine (cloneInts_any _ _ _ (X q) _ (by omega) (hl6.2 q hq)).mono ?_
          rintro e w7 ⟨xa, xc, rfl, b7, -, hx7, -⟩
          go_wp2_with fail
          refine (snapshotOthers_any _ _ _ _ _ _ S A2 N C2 X it _ (hk6.below b7) (hl6.below b7) s1 rfl (fun i hi => Nat.le_trans (hbd i hi) (by omega)) hS).mono ?_
          rintro e w8 ⟨m1, m2, A3, N3, C3, rfl, b8, hm8, hs8, hr8⟩
          have ht8 := tab_below (tab_below ht6' b7) b8
          have hg8 := tab_below (tab_below hg6 b7) b8
          have hl8 := (hl6.below b7).below b8
          go_wp2_with fail
          refine (zzLatest_some b (.map bb) bb rfl it nk sz _ (A2 q) (N q) (C2 q) (X q) _ hit ni sb G (fun i => deadBy G (X q i)) ht8 (unhide HF) (hl8.2 q hq) hg8 (fun i _ => hdd _) (hX q hq) (by omega) (by omega)).mono ?_
          rintro e w9 ⟨rfl, ht9, g9⟩
          have om := map_only ht8
          have hg9 := hg8.kept g9 (fun b' e => by
            have h1 := hlb b' e
            have h2 := tab_lt ht5
            simp only [ne_eq, Option.some.injEq]
            omega)
          have hl9 := hl8.kept g9 om
          have hx9 := (hx7.below b8).kept g9 om
          have hlen9 := fun ty => ht9.len Try.underlying41 ty
          have hoth := othersUnchanged_true (some b) ka1 _ _ nk ck1 nk nk (nk + 1) sz S _ A3 N3 C3 _ w9 ht9 (((hk6.below b7).below b8).kept g9 om) (hm8.kept g9 om) (hs8.kept g9 om) s1 hS (fun _ =>
            kept_all hl9 (rows3_kept hr8 g9 om) (fun i hi hm => by rw [upd_ne (noted_ne hm)]; exact tableOf_noted hm) hbd)
          have hlk9 := fun j => (ht9.drewN j).look_ok law9 Try.underlying41 (zero22 _) (skey_ok hit)
          rw [upd_same (show WideAt.IsKeyLit (skey it) from trivial)] at hlk9
          simp only [Option.getD_some, Option.isSome_some] at hlk9
          have hlkd : ∀ i, i < N q → (Instr.lookup 43 (.map bb) (.int .i64 (X q i)) false).run Try.prog w9 = .ok (.bool (deadBy G (X q i))) w9 := fun i hi => by
            rw [← hdd]
            exact hg9.look law3 Try.underlying43 (zero4 _) (ikey_ok (hX q hq i hi))
          have B8 := below_step (below_step B6 b7) b8
          have B9 : Below w.heap.size w w9 := B8.grown g9 B8.size (fun j hj => by
            cases hj
            have h1 := hlt b rfl
            have h2 := b1.size; have h3 := b2.size; have h4 := b3.size; have h5 := b4.size
            omega)
          have hr9 := hl9.2 q hq
          have htl := trim_le (fun i => !deadBy G (X q i)) (N q)
          generalize hmd : trim (fun i => !deadBy G (X q i)) (N q) = m at *
          have HM := hide hmd
          have HD := hide hlkd
          clear hk6 hl6 hm8 hs8 hr8 hx7 ht5 ht6 ht6' hlk6 hlen6 hlt hnt hnb hlb hS hI hX hbd ht8 ht9 g9 hg8 hg9 hl8 hl9 om hdd hmd hlkd hg6 B8
          go_wp2
          go_loopw [24, 25, 26] (fun a b i wr => ∃ k : Nat, k ≤ N q ∧ i = .int .i64 k ∧ b = .int .i64 ((trim (fun i => !deadBy G (X q i)) k : Nat) : Int) ∧ a = .int .i64 (lastOf (X q) (trim (fun i => !deadBy G (X q i)) k)) ∧ w9 = wr) (fun _ _ i _ => N q - (intOf i).toNat)
          case atStart => exact ⟨0, Nat.zero_le _, rfl, rfl, rfl, rfl⟩
          case round =>
            obtain ⟨k, hk, rfl, rfl, rfl, rfl⟩ := hrel
            by_cases hlt : k < N q
            · obtain ⟨xb, xo, hxb, hcs⟩ := hx9.cells (by omega)
              cases hxb
              have hck := hcs k hlt
              have hlkk := unhide HD k hlt
              clear hcs
              cases hdk : deadBy G (X q k)
              · rw [hdk] at hlkk
                have e1 : trim (fun i => !deadBy G (X q i)) (k + 1) = k + 1 := by simp [trim, hdk]
                have E1 := hide e1
                clear e1 hdk
                go_wp2
                go_roundw
                case rel => exact ⟨k + 1, by omega, by go_num, by rw [unhide E1]; go_num, by rw [unhide E1]; rfl, trivial⟩
                case measure => simp [intOf]; omega
              · rw [hdk] at hlkk
                have e1 : trim (fun i => !deadBy G (X q i)) (k + 1) = trim (fun i => !deadBy G (X q i)) k := by simp [trim, hdk]
                have E1 := hide e1
                clear e1 hdk
                go_wp2
                go_roundw
                case rel => exact ⟨k + 1, by omega, by go_num, by rw [unhide E1], by rw [unhide E1], trivial⟩
                case measure => simp [intOf]; omega
            · have hkq : k = N q := by omega
              subst hkq
              rw [unhide HM]
              go_wp2_with fail
              refine hoth.mono ?_
              rintro e w10 ⟨rfl, j, rfl⟩
              clear hoth
              go_wp2
              go_loopw [30] (fun i wr => ∃ k : Nat, k ≤ m ∧ i = .int .i64 k ∧ ∃ j, wr = w9.drewN j) (fun i _ => m - (intOf i).toNat)
              case atStart => exact ⟨0, Nat.zero_le _, rfl, j, rfl⟩
              case round =>
                obtain ⟨k, hk, rfl, j2, rfl⟩ := hrel
                by_cases hlt : k < m
                · obtain ⟨xb, xo, hxb, hcs⟩ := hx9.cells (by omega)
                  cases hxb
                  obtain ⟨yb, yo, hyb, hcs2⟩ := hr9.cells (by omega)
                  rw [hyb]
                  have hck := hcs k (by omega)
                  have hck2 := hcs2 k (by omega)
                  have hlti : (k : Int) < (m : Int) := by omega
                  have hlti2 : (k : Int) < (N q : Int) := by omega
                  clear hcs hcs2 hr9 hyb
                  go_wp2
                  go_quiet (fail)
                  go_wp2
                  go_roundw
                  case rel => exact ⟨k + 1, by omega, by go_num, _, rfl⟩
                  case measure => simp [intOf]; omega
                · go_wp2
                  go_ret
                  exact ⟨rfl, below_drewN' B9 j2⟩

      · have hne : ((ni : Int) == (nv : Int)) = false := by simp; omega
        subst hl1
        clear hl2
        go_enter Try.func7, Try.ntmps7
        go_wp2_with fail
        refine (unhide Z1).mono ?_
        rintro e w1 ⟨b, rfl, rfl⟩
        cases b
        · go_wp2
          go_ret
          exact ⟨rfl, Below.refl _ _⟩
        go_wp2_with fail
        refine (unhide Z2).mono ?_
        rintro e w1 ⟨b, rfl, rfl, hbd⟩
        clear hbd
        cases b
        · go_wp2
          go_ret
          exact ⟨rfl, Below.refl _ _⟩
        go_wp2
        go_ret
        exact ⟨rfl, Below.refl _ _⟩
    · have hne : ((nk : Int) == (nl : Int)) = false := by simp; omega
      clear hl1
      go_enter Try.func7, Try.ntmps7
      go_wp2_with fail
      refine (unhide Z1).mono ?_
      rintro e w1 ⟨b, rfl, rfl⟩
      cases b
      · go_wp2
        go_ret
        exact ⟨rfl, Below.refl _ _⟩
      go_wp2_with fail
      refine (unhide Z2).mono ?_
      rintro e w1 ⟨b, rfl, rfl, hbd⟩
      clear hbd
      cases b
      · go_wp2
        go_ret
        exact ⟨rfl, Below.refl _ _⟩
      go_wp2
      go_ret
      exact ⟨rfl, Below.refl _ _⟩
  · have Z1 := hide z1
    clear z1
    go_enter Try.func7, Try.ntmps7
    go_wp2_with fail
    refine (unhide Z1).mono ?_
    rintro e w1 ⟨b, rfl, rfl⟩
    cases b
    · go_wp2
      go_ret
      exact ⟨rfl, Below.refl _ _⟩
    go_wp2
    all_goals first | (go_ret; exact ⟨rfl, Below.refl _ _⟩) | (exfalso; omega)
end Go.Proofs.Qxb6602460a
