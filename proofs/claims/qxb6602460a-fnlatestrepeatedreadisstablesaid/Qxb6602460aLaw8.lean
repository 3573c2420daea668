import Derived.Test.Qxb6602460aBytes
import Derived.Test.Qxb6602460aLatest
import Derived.Test.Qxb6602460aSnap
import Derived.Test.Qxb6602460aSame
import Derived.Test.Qxb6602460aLaw7
namespace Go.Proofs.Qxb6602460a
open Go.RowKit Go.Maps Go.Own

theorem trim_trim (live : Nat → Bool) : ∀ n, trim live (trim live n) = trim live n
  | 0 => rfl
  | k + 1 => by
    by_cases h : live k = true
    · have e : trim live (k + 1) = k + 1 := by simp [trim, h]
      rw [e, e]
    · have e : trim live (k + 1) = trim live k := by simp [trim, h]
      rw [e, trim_trim live k]

theorem trim_live (live : Nat → Bool) (m : Nat) : ∀ n, trim live n = m + 1 → live m = true
  | 0, h => by cases h
  | k + 1, h => by
    by_cases hk : live k = true
    · have e : trim live (k + 1) = k + 1 := by simp [trim, hk]
      rw [e] at h
      cases h
      exact hk
    · have e : trim live (k + 1) = trim live k := by simp [trim, hk]
      rw [e] at h
      exact trim_live live m k h

set_option maxHeartbeats 1000000 in
set_option maxRecDepth 100000 in
theorem law8 (tn an : Bool) (ka la ia va : Option Addr) (nk ck nl cl ni ci nv cv : Nat) (S : Nat → ByteArray) (A : Nat → Option Addr) (N C : Nat → Nat) (X : Nat → Nat → Int) (I : Nat → Int) (B : Nat → Bool) (it : ByteArray) (w : World)
    (hk : SliceAt w ka nk ck (fun i => .string (S i))) (hS : ∀ i, i < nk → (S i).size ≤ maxLen) (hl : RowsAt w la nl cl A N C X) (hX : ∀ i, i < nl → ∀ j, j < N i → (Lit.int .i64 (X i j)).wf = true)
    (hi : SliceAt w ia ni ci (fun i => .int .i64 (I i))) (hI : ∀ i, i < ni → (Lit.int .i64 (I i)).wf = true) (hv : SliceAt w va nv cv (fun i => .bool (B i))) (hit : it.size ≤ maxLen) :
    Calls Try.prog 8 #[.bool tn, .slice ka nk ck, .slice la nl cl, .bool an, .slice ia ni ci, .slice va nv cv, .string it] w (TrueBelow w) := by
  have z1 := zzBytes36 tn an ka la ia va nk ck nl cl ni ci nv cv S A N C it w hk hl.1
  by_cases hsz : nk ≤ 65536 ∧ nl ≤ 65536 ∧ ni ≤ 65536 ∧ nv ≤ 65536 ∧ it.size ≤ 1048576
  · obtain ⟨s1, s2, s3, s4, s5⟩ := hsz
    have z2 := writersBytesOK28 ka la ia va nk ck nl cl ni ci nv cv S A N C it w hk hl.1 s1 s2
    have Z1 := hide z1
    have Z2 := hide z2
    clear z1 z2
    by_cases hl1 : nk = nl
    · by_cases hl2 : ni = nv
      · subst hl1 hl2
        go_enter Try.func8, Try.ntmps8
        go_wp2_with fail
        refine (unhide Z1).mono ?_
        rintro e w1 ⟨b, rfl, rfl⟩
        cases b
        · go_wp2
          go_ret
          exact ⟨rfl, Below.refl _ _⟩
        go_wp2_with fail
        refine (unhide Z2).mono ?_
        rintro e w1 ⟨b, rfl, rfl, hbd⟩
        cases b
        · go_wp2
          go_ret
          exact ⟨rfl, Below.refl _ _⟩
        replace hbd := hbd rfl
        clear Z1 Z2
        go_wp2_with fail
        refine (cloneStrings_any _ _ _ S _ (by omega) hk).mono ?_
        rintro e w1 ⟨ka1, ck1, rfl, b1, -, hk1, -⟩
        have hl1 := hl.below b1
        go_wp2_with fail
        refine (cloneRows_any _ _ _ A N C X _ (by omega) (fun i hi => Nat.le_trans (hbd i hi) (by omega)) hl1).mono ?_
        rintro e w2 ⟨la2, cl2, A2, C2, rfl, b2, hl2, -, -⟩
        have hi2 := (hi.below b1).below b2
        go_wp2_with fail
        refine (cloneInts_any _ _ _ I _ (by omega) hi2).mono ?_
        rintro e w3 ⟨ia3, ci3, rfl, b3, -, hi3, -⟩
        have hv3 := ((hv.below b1).below b2).below b3
        go_wp2_with fail
        refine (cloneBools_any _ _ _ B _ (by omega) hv3).mono ?_
        rintro e w4 ⟨va4, cv4, rfl, b4, -, hv4, -⟩
        have hk4 := ((hk1.below b2).below b3).below b4
        have hl4 := (hl2.below b3).below b4
        go_wp2_with fail
        refine (buildTable_any tn _ _ _ _ _ _ S A2 N C2 _ hk4 hl4.1 s1 rfl hS).mono ?_
        rintro e w5 ⟨vt, sz, rfl, b5, ht5, hnt, hlt⟩
        have hi5 := (hi3.below b4).below b5
        have hv5 := hv4.below b5
        go_wp2_with fail
        refine (buildAborted_any an _ _ _ _ _ _ I B _ hi5 hv5 s3 rfl hI).mono ?_
        rintro e w6 ⟨vb, sb, rfl, b6, hg6, hnb, hlb⟩
        have ht6 := tab_below ht5 b6
        have hk6 := (hk4.below b5).below b6
        have hl6 := (hl4.below b5).below b6
        obtain ⟨bt, rfl⟩ := tab_map ht5
        obtain ⟨bb, rfl⟩ := tab_map hg6
        have B6 := below_step (below_step (below_step (below_step (below_step b1 b2) b3) b4) b5) b6
        clear hk hl hi hv hk1 hl1 hl2 hi2 hi3 hv3 hv4 hi5 hv5 hk4 hl4
        have hdd := deadBy_eq an (fun i => ikey (I i)) B ni
        generalize hG : (if an = true then fun _ => Option.none else tabOf (fun i => ikey (I i)) (fun i => .bool (B i)) ni : Lit → Option Value) = G at hg6 hdd
        clear hG
        have ht6' : Tab Try.prog 9 w6 (.map bt) nk (tableOf tn S (fun i => .slice (A2 i) (N i) (C2 i)) nk) sz := ht6
        have hlen6 := fun ty => ht6'.len Try.underlying41 ty
        have hlk6 := ht6'.look_ok law9 Try.underlying41 (zero22 w6) (skey_ok hit)
        rcases tableOf_cases tn S (fun i => .slice (A2 i) (N i) (C2 i)) nk (skey it) with hF | ⟨q, hq, hF⟩
        · rw [hF] at hlk6
          simp only [Option.getD_none, Option.isSome_none] at hlk6
          have HF := hide hF
          clear hF
          go_wp2_with fail
          refine (snapshotOthers_any _ _ _ _ _ _ S A2 N C2 X it _ hk6 hl6 s1 rfl (fun i hi => Nat.le_trans (hbd i hi) (by omega)) hS).mono ?_
          rintro e w8 ⟨m1, m2, A3, N3, C3, rfl, b8, hm8, hs8, hr8⟩
          have ht8 := tab_below ht6' b8
          go_wp2_with fail
          refine (zzLatest_none (.map bt) (.map bb) bt bb rfl rfl it nk sz _ _ hit ht8 (unhide HF)).mono ?_
          rintro e w9 ⟨rfl, g9⟩
          have b9 := below_grown g9
          have ht9 := tab_below ht8 b9
          have hlk9 := ht9.look_ok law9 Try.underlying41 (zero22 _) (skey_ok hit)
          rw [unhide HF] at hlk9
          simp only [Option.getD_none, Option.isSome_none] at hlk9
          go_wp2_with fail
          refine (cloneInts_any _ _ _ (fun _ => 0) _ (by omega) (SliceAt.of_nil _ _)).mono ?_
          rintro e w10 ⟨xa, xc, rfl, b10, -, hx10, -⟩
          have ht10 := tab_below ht9 b10
          go_wp2_with fail
          refine (zzLatest_none (.map bt) (.map bb) bt bb rfl rfl it nk sz _ _ hit ht10 (unhide HF)).mono ?_
          rintro e w11 ⟨rfl, g11⟩
          have b11 := below_grown g11
          have ht11 := tab_below ht10 b11
          have hlen11 := fun ty => ht11.len Try.underlying41 ty
          have hlk11 := ht11.look_ok law9 Try.underlying41 (zero22 _) (skey_ok hit)
          rw [unhide HF] at hlk11
          simp only [Option.getD_none, Option.isSome_none] at hlk11
          have b911 := below_step (below_step b9 b10) b11
          have g911 : w8.grownBy w11 Option.none := ⟨b911.os, b911.tape, b911.output, b911.size, fun i hi _ => b911.block i hi⟩
          have hoth := othersUnchanged_true bt ka1 _ _ nk ck1 nk nk nk sz S _ A3 N3 C3 _ w11 ht11 ((hk6.below b8).below b911) (hm8.below b911) (hs8.below b911) s1 hS (fun hbt => by
            have htn : tn = false := by
              cases tn
              · rfl
              · exact absurd (by simpa using hnt.2 rfl) hbt
            subst htn
            exact kept_all ((hl6.below b8).below b911) (rows3_kept hr8 g911 (OnlyMap.none _)) (fun i hi hm => tableOf_noted hm) hbd)
          have hsm := fun j => sameInts_true xa Option.none 0 xc 0 (fun _ => 0) (w11.drewN j) ((hx10.below b11).alike ⟨rfl, rfl, rfl⟩) (SliceAt.of_nil _ _) (by omega)
          have B11 := below_step (below_step B6 b8) b911
          clear hk6 hl6 hm8 hs8 hr8 hx10 ht5 ht6 ht6' hlk6 hlen6 hlt hnt hnb hlb hS hI hX hbd ht8 ht9 g9 g11 g911 ht10 ht11 b911
          go_wp2_with fail
          refine hoth.mono ?_
          rintro e w12 ⟨rfl, j, rfl⟩
          go_wp2_with fail
          refine (hsm j).mono ?_
          rintro e w13 ⟨rfl, j2, rfl⟩
          go_wp2
          go_ret
          exact ⟨rfl, below_drewN' B11 (j + j2)⟩
        · obtain ⟨b, rfl⟩ := tab_some ht6' hF
          have htn : tn = false := by
            cases tn
            · rfl
            · cases hnt.2 rfl
          subst htn
          rw [hF] at hlk6
          simp only [Option.getD_some, Option.isSome_some] at hlk6
          have HF := hide hF
          clear hF
          have hNq := hbd q hq
          go_wp2_with fail
          refine (snapshotOthers_any _ _ _ _ _ _ S A2 N C2 X it _ hk6 hl6 s1 rfl (fun i hi => Nat.le_trans (hbd i hi) (by omega)) hS).mono ?_
          rintro e w8 ⟨m1, m2, A3, N3, C3, rfl, b8, hm8, hs8, hr8⟩
          have ht8 := tab_below ht6' b8
          have hg8 := tab_below hg6 b8
          have hl8 := hl6.below b8
          go_wp2_with fail
          refine (zzLatest_some b (.map bb) bb rfl it nk sz _ (A2 q) (N q) (C2 q) (X q) _ hit ni sb G (fun i => deadBy G (X q i)) ht8 (unhide HF) (hl8.2 q hq) hg8 (fun i _ => hdd _) (hX q hq) (by omega) (by omega)).mono ?_
          rintro e w9 ⟨rfl, ht9, g9⟩
          have om := map_only ht8
          have hbb : ∀ b', Value.map bb = .map (some b') → some b' ≠ some b := fun b' e => by
            have h1 := hlb b' e
            have h2 := tab_lt ht5
            simp only [ne_eq, Option.some.injEq]
            omega
          have hg9 := hg8.kept g9 hbb
          have hl9 := hl8.kept g9 om
          have htl := trim_le (fun i => !deadBy G (X q i)) (N q)
          have htt := trim_trim (fun i => !deadBy G (X q i)) (N q)
          have hlv := fun m' => trim_live (fun i => !deadBy G (X q i)) m' (N q)
          generalize hmd : trim (fun i => !deadBy G (X q i)) (N q) = m at *
          have HTT := hide htt
          have HLV := hide hlv
          clear htt hlv hmd
          have hlk9 := ht9.look_ok law9 Try.underlying41 (zero22 _) (skey_ok hit)
          rw [upd_same (show WideAt.IsKeyLit (skey it) from trivial)] at hlk9
          simp only [Option.getD_some, Option.isSome_some] at hlk9
          have hr9 : SliceAt w9 (A2 q) m (C2 q) (fun j => .int .i64 (X q j)) := (hl9.2 q hq).cut htl
          go_wp2_with fail
          refine (cloneInts_any _ _ _ (X q) _ (by omega) hr9).mono ?_
          rintro e w10 ⟨xa, xc, rfl, b10, -, hx10, -⟩
          have ht10 := tab_below ht9 b10
          have hg10 := tab_below hg9 b10
          have hl10 := hl9.below b10
          have om10 := map_only ht10
          go_wp2_with fail
          refine (zzLatest_some b (.map bb) bb rfl it (nk + 1) sz _ (A2 q) m (C2 q) (X q) _ hit ni sb G (fun i => deadBy G (X q i)) ht10 (upd_same (show WideAt.IsKeyLit (skey it) from trivial)) (hr9.below b10) hg10 (fun i _ => hdd _) (fun i hi => hX q hq i (by omega)) (by omega) (by omega)).mono ?_
          rw [unhide HTT]
          rintro e w11 ⟨rfl, ht11, g11⟩
          have hg11 := hg10.kept g11 hbb
          have hl11 := hl10.kept g11 om10
          have hx11 := hx10.kept g11 om10
          have hlen11 := fun ty => ht11.len Try.underlying41 ty
          have g10 : w9.grownBy w10 Option.none := ⟨b10.os, b10.tape, b10.output, b10.size, fun i hi _ => b10.block i hi⟩
          have hoth := othersUnchanged_true (some b) ka1 _ _ nk ck1 nk nk (nk + 1 + 1) sz S _ A3 N3 C3 _ w11 ht11 ((((hk6.below b8).kept g9 om).below b10).kept g11 om10) (((hm8.kept g9 om).below b10).kept g11 om10) (((hs8.kept g9 om).below b10).kept g11 om10) s1 hS (fun _ =>
            kept_all hl11 (rows3_kept (rows3_kept (rows3_kept hr8 g9 om) g10 (OnlyMap.none _)) g11 om10) (fun i hi hm => by rw [upd_ne (noted_ne hm), upd_ne (noted_ne hm)]; exact tableOf_noted hm) hbd)
          have hlk11 := ht11.look_ok law9 Try.underlying41 (zero22 _) (skey_ok hit)
          rw [upd_same (show WideAt.IsKeyLit (skey it) from trivial)] at hlk11
          simp only [Option.getD_some, Option.isSome_some] at hlk11
          have hr11 : SliceAt w11 (A2 q) m (C2 q) (fun j => .int .i64 (X q j)) := (hl11.2 q hq).cut htl
          have hsm := fun j => sameInts_true xa (A2 q) m xc (C2 q) (X q) (w11.drewN j) (hx11.alike ⟨rfl, rfl, rfl⟩) (hr11.alike ⟨rfl, rfl, rfl⟩) (by omega)
          have hlkd : ∀ i j, i < N q → (Instr.lookup 43 (.map bb) (.int .i64 (X q i)) false).run Try.prog (w11.drewN j) = .ok (.bool (deadBy G (X q i))) (w11.drewN j) := fun i j hi => by
            rw [← hdd]
            exact (hg11.drewN j).look law3 Try.underlying43 (zero4 _) (ikey_ok (hX q hq i hi))
          have B8 := below_step B6 b8
          have hlob : w.heap.size ≤ b := by
            have h1 := hlt b rfl
            have h2 := b1.size; have h3 := b2.size; have h4 := b3.size; have h5 := b4.size
            omega
          have B9 : Below w.heap.size w w9 := B8.grown g9 B8.size (fun j hj => by cases hj; exact hlob)
          have B10 := below_step B9 b10
          have B11 : Below w.heap.size w w11 := B10.grown g11 B10.size (fun j hj => by cases hj; exact hlob)
          have HD := hide hlkd
          clear hk6 hl6 hm8 hs8 hr8 ht5 ht6 ht6' hlk6 hlen6 hlt hnt hnb hlb hS hI hX hbd ht8 ht9 g9 hg8 hg9 hl8 hl9 om hdd hlkd hg6 B8 g10 g11 ht10 ht11 hg10 hg11 hl10 hl11 om10 hx10 hx11 hbb hlk9 hr9 B9 B10
          go_wp2_with fail
          refine hoth.mono ?_
          rintro e w12 ⟨rfl, j, rfl⟩
          clear hoth
          go_wp2_with fail
          refine (hsm j).mono ?_
          rintro e w13 ⟨rfl, j2, rfl⟩
          clear hsm
          cases m with
          | zero =>
            go_wp2
            go_ret
            exact ⟨rfl, below_drewN' B11 (j + j2)⟩
          | succ m' =>
            obtain ⟨yb, yo, hyb, hcs⟩ := hr11.cells (by omega)
            rw [hyb]
            have hck := hcs m' (by omega)
            have hlkk := unhide HD m' (j + j2) (by omega)
            have hlive := unhide HLV m' rfl
            simp at hlive
            rw [hlive] at hlkk
            have hlast : (lastOf (X q) (m' + 1) == X q m') = true := by simp [lastOf]
            clear hcs hr11 hyb
            go_wp2
            go_ret
            exact ⟨rfl, below_drewN' B11 (j + j2)⟩
      · have hne : ((ni : Int) == (nv : Int)) = false := by simp; omega
        subst hl1
        clear hl2
        go_enter Try.func8, Try.ntmps8
        go_wp2_with fail
        refine (unhide Z1).mono ?_
        rintro e w1 ⟨b, rfl, rfl⟩
        cases b
        · go_wp2
          go_ret
          exact ⟨rfl, Below.refl _ _⟩
        go_wp2_with fail
        refine (unhide Z2).mono ?_
        rintro e w1 ⟨b, rfl, rfl, hbd⟩
        clear hbd
        cases b
        · go_wp2
          go_ret
          exact ⟨rfl, Below.refl _ _⟩
        go_wp2
        go_ret
        exact ⟨rfl, Below.refl _ _⟩
    · have hne : ((nk : Int) == (nl : Int)) = false := by simp; omega
      clear hl1
      go_enter Try.func8, Try.ntmps8
      go_wp2_with fail
      refine (unhide Z1).mono ?_
      rintro e w1 ⟨b, rfl, rfl⟩
      cases b
      · go_wp2
        go_ret
        exact ⟨rfl, Below.refl _ _⟩
      go_wp2_with fail
      refine (unhide Z2).mono ?_
      rintro e w1 ⟨b, rfl, rfl, hbd⟩
      clear hbd
      cases b
      · go_wp2
        go_ret
        exact ⟨rfl, Below.refl _ _⟩
      go_wp2
      go_ret
      exact ⟨rfl, Below.refl _ _⟩
  · have Z1 := hide z1
    clear z1
    go_enter Try.func8, Try.ntmps8
    go_wp2_with fail
    refine (unhide Z1).mono ?_
    rintro e w1 ⟨b, rfl, rfl⟩
    cases b
    · go_wp2
      go_ret
      exact ⟨rfl, Below.refl _ _⟩
    go_wp2
    all_goals first | (go_ret; exact ⟨rfl, Below.refl _ _⟩) | (exfalso; omega)
end Go.Proofs.Qxb6602460a
