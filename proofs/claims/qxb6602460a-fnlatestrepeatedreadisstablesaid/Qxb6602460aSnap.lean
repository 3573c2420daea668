import Derived.Test.Qxb6602460aTabs
import Derived.Deep.QuietTactic
import Derived.BigQuiet
namespace Go.Proofs.Qxb6602460a
open Go.RowKit Go.Maps Go.Own

/-- The last place below n at which the key stands. -/
def lastIx (K : Nat → Lit) : Nat → Lit → Option Nat
  | 0, _ => Option.none
  | n + 1, kl => if kl.sameKey (K n) then some n else lastIx K n kl

theorem tabOf_eq (K : Nat → Lit) (V : Nat → Value) (kl : Lit) : ∀ n, tabOf K V n kl = (lastIx K n kl).map V
  | 0 => rfl
  | n + 1 => by
    unfold tabOf lastIx upd
    split
    · rfl
    · exact tabOf_eq K V kl n

def noted (S : Nat → ByteArray) (it : ByteArray) (n i : Nat) : Bool := !decide ((S i).toList = it.toList) && (lastIx (fun i => skey (S i)) n (skey (S i)) == some i)

/-- The clones so far. -/
structure SnapRel (n : Nat) (M : Nat → Bool) (A : Nat → Option Addr) (N : Nat → Nat) (X : Nat → Nat → Int) (B : Nat) (k : Nat) (A' : Nat → Option Addr) (C' : Nat → Nat) (wr : World) : Prop where
  size : B + 1 < wr.heap.size
  mark : wr.rowIs (B) 4 n (fun i => if i < k then .bool (M i) else .bool false)
  snap : wr.rowIs (B + 1) 22 n (fun i => if i < k ∧ M i = true then .slice (A' i) (N i) (C' i) else .slice Option.none 0 0)
  rows : ∀ i, i < k → M i = true → (A' i = Option.none ↔ A i = Option.none) ∧ SliceAt wr (A' i) (N i) (C' i) (fun j => .int .i64 (X i j)) ∧ ∀ b off, A' i = some ⟨b, off, Option.none⟩ → B + 1 < b

theorem SnapRel.skip {n : Nat} {M : Nat → Bool} {A : Nat → Option Addr} {N : Nat → Nat} {X : Nat → Nat → Int} {B k : Nat} {A' : Nat → Option Addr} {C' : Nat → Nat} {wr : World} (h : SnapRel n M A N X B k A' C' wr) (hM : M k = false) : SnapRel n M A N X B (k + 1) A' C' wr := by
  refine ⟨h.size, h.mark.congr fun i hi => ?_, h.snap.congr fun i hi => ?_, fun i hi hm => ?_⟩
  · by_cases e : i = k
    · subst e; rw [if_neg (by omega), if_pos (by omega), hM]
    · by_cases e2 : i < k
      · rw [if_pos e2, if_pos (by omega)]
      · rw [if_neg e2, if_neg (by omega)]
  · by_cases e : i = k
    · subst e; rw [if_neg (by omega), if_neg (by rw [hM]; simp)]
    · by_cases e2 : i < k
      · by_cases e3 : M i = true
        · rw [if_pos ⟨e2, e3⟩, if_pos ⟨by omega, e3⟩]
        · rw [if_neg (fun h => e3 h.2), if_neg (fun h => e3 h.2)]
      · rw [if_neg (by omega), if_neg (by omega)]
  · by_cases e : i = k
    · subst e; rw [hM] at hm; cases hm
    · exact h.rows i (by omega) hm

theorem SnapRel.take {n : Nat} {M : Nat → Bool} {A : Nat → Option Addr} {N : Nat → Nat} {X : Nat → Nat → Int} {B k : Nat} {A' : Nat → Option Addr} {C' : Nat → Nat} {wr w1 : World} (h : SnapRel n M A N X B k A' C' wr) (hM : M k = true)
    {a1 : Option Addr} {c1 : Nat} (hb : Below (wr.setCell ⟨B, k, Option.none⟩ (.bool true)).heap.size (wr.setCell ⟨B, k, Option.none⟩ (.bool true)) w1) (hn1 : a1 = Option.none ↔ A k = Option.none) (hs1 : SliceAt w1 a1 (N k) c1 (fun j => .int .i64 (X k j)))
    (hlo : ∀ b off, a1 = some ⟨b, off, Option.none⟩ → (wr.setCell ⟨B, k, Option.none⟩ (.bool true)).heap.size ≤ b) :
    SnapRel n M A N X B (k + 1) (fun i => if i = k then a1 else A' i) (fun i => if i = k then c1 else C' i) (w1.setCell ⟨B + 1, k, Option.none⟩ (.slice a1 (N k) c1)) := by
  have hsz := h.size
  have hsz1 : (wr.setCell ⟨B, k, Option.none⟩ (.bool true)).heap.size = wr.heap.size := by simp [World.setCell]
  rw [hsz1] at hb hlo
  have hm1 := (h.mark.set k (.bool true)).of_block (hb.block (B) (by omega))
  have hp1 := (h.snap.setOther (a := ⟨B, k, Option.none⟩) (by show B + 1 ≠ B; omega) (.bool true)).of_block (hb.block (B + 1) (by omega))
  refine ⟨?_, (hm1.setOther (by show B ≠ B + 1; omega) _).congr fun i hi => ?_, (hp1.set k _).congr fun i hi => ?_, fun i hi hm => ?_⟩
  · have := hb.size
    rw [hsz1] at this
    show B + 1 < (w1.setCell _ _).heap.size
    simp [World.setCell]
    omega
  · by_cases e : i = k
    · subst e; rw [if_pos rfl, if_pos (by omega), hM]
    · rw [if_neg e]
      by_cases e2 : i < k
      · rw [if_pos e2, if_pos (by omega)]
      · rw [if_neg e2, if_neg (by omega)]
  · by_cases e : i = k
    · subst e; simp [hM]
    · simp only [if_neg e]
      by_cases e2 : i < k
      · by_cases e3 : M i = true
        · rw [if_pos ⟨e2, e3⟩, if_pos ⟨by omega, e3⟩]
        · rw [if_neg (fun h => e3 h.2), if_neg (fun h => e3 h.2)]
      · rw [if_neg (by omega), if_neg (by omega)]
  · by_cases e : i = k
    · subst e
      simp only [if_true]
      exact ⟨hn1, hs1.setOther (fun b off e => by have := hlo b off e; show b ≠ B + 1; omega) _, fun b off e => by have := hlo b off e; omega⟩
    · simp only [if_neg e]
      obtain ⟨g1, g2, g3⟩ := h.rows i (by omega) hm
      refine ⟨g1, ?_, g3⟩
      have g4 : SliceAt (wr.setCell ⟨B, k, Option.none⟩ (.bool true)) (A' i) (N i) (C' i) (fun j => .int .i64 (X i j)) := g2.setOther (fun b off e => by have := g3 b off e; show b ≠ B; omega) _
      refine SliceAt.setOther (g4.below ?_) (fun b off e => by have := g3 b off e; show b ≠ B + 1; omega) _
      rw [hsz1]
      exact hb

theorem lastIx_some (K : Nat → Lit) (hK : ∀ i, WideAt.IsKeyLit (K i)) : ∀ n q, q < n → (lastIx K n (K q)).isSome = true
  | 0, q, h => absurd h (Nat.not_lt_zero _)
  | n + 1, q, h => by
    unfold lastIx
    split
    · rfl
    · rename_i hs
      refine lastIx_some K hK n q ?_
      have : q ≠ n := fun e => by subst e; exact hs (WideAt.sameKey_self (hK q))
      omega

theorem snap_block {n : Nat} {M : Nat → Bool} {A : Nat → Option Addr} {N : Nat → Nat} {X : Nat → Nat → Int} {B k : Nat} {A' : Nat → Option Addr} {C' : Nat → Nat} {wr w1 : World} (h : SnapRel n M A N X B k A' C' wr)
    (hb : Below (wr.setCell ⟨B, k, Option.none⟩ (.bool true)).heap.size (wr.setCell ⟨B, k, Option.none⟩ (.bool true)) w1) : w1.rowIs (B + 1) 22 n (fun i => if i < k ∧ M i = true then .slice (A' i) (N i) (C' i) else .slice Option.none 0 0) := by
  have hsz := h.size
  have hsz1 : (wr.setCell ⟨B, k, Option.none⟩ (.bool true)).heap.size = wr.heap.size := by simp [World.setCell]
  rw [hsz1] at hb
  exact (h.snap.setOther (a := ⟨B, k, Option.none⟩) (by show B + 1 ≠ B; omega) (.bool true)).of_block (hb.block (B + 1) (by omega))

/-- What snapshotOthers leaves: two new slices. -/
def SnapPost (n : Nat) (M : Nat → Bool) (A : Nat → Option Addr) (N : Nat → Nat) (X : Nat → Nat → Int) (w : World) (e : Ending) (w' : World) : Prop :=
  ∃ (b1 b2 : Nat) (A' : Nat → Option Addr) (N' C' : Nat → Nat), e = .returned (.tuple #[.slice (some ⟨b1, 0, Option.none⟩) n n, .slice (some ⟨b2, 0, Option.none⟩) n n]) ∧ Below w.heap.size w w' ∧
    SliceAt w' (some ⟨b1, 0, Option.none⟩) n n (fun i => .bool (M i)) ∧ SliceAt w' (some ⟨b2, 0, Option.none⟩) n n (fun i => .slice (A' i) (N' i) (C' i)) ∧
    ∀ i, i < n → M i = true → N' i = N i ∧ (A' i = Option.none ↔ A i = Option.none) ∧ SliceAt w' (A' i) (N i) (C' i) (fun j => .int .i64 (X i j))

set_option maxHeartbeats 1000000 in
theorem snapshotOthers_any (ka la : Option Addr) (nk ck nl cl : Nat) (S : Nat → ByteArray) (A : Nat → Option Addr) (N C : Nat → Nat) (X : Nat → Nat → Int) (it : ByteArray) (w : World)
    (hk : SliceAt w ka nk ck (fun i => .string (S i))) (hl : RowsAt w la nl cl A N C X) (hnk : nk ≤ 65536) (hkl : nk = nl) (hN : ∀ i, i < nl → N i ≤ 1048576) (hS : ∀ i, i < nk → (S i).size ≤ maxLen) :
    Calls Try.prog 33 #[.slice ka nk ck, .slice la nl cl, .string it] w (SnapPost nk (noted S it nk) A N X w) := by
  subst hkl
  have hmm := @run_makeMap Try.prog
  have hmk1 := run_make_row' (P := Try.prog) 28 4 (.bool false) 1 Try.underlying28 Try.info4 rfl .i64 .i64 nk (by omega) (by omega)
  have hmk2 := run_make_row' (P := Try.prog) 23 22 (.slice Option.none 0 0) 24 Try.underlying23 Try.info22 rfl .i64 .i64 nk (by omega) (by omega)
  go_enter Try.func33, Try.ntmps33
  go_wp2
  go_loopw [9] (fun i wr => ∃ k : Nat, k ≤ nk ∧ i = .int .i64 k ∧ Below w.heap.size w wr ∧ w.heap.size < wr.heap.size ∧ ∃ sz, Tab Try.prog 9 wr (.map (some w.heap.size)) k (tabOf (fun i => skey (S i)) (fun i => .int .i64 i) k) sz) (fun i _ => nk - (intOf i).toNat)
  case atStart => exact ⟨0, Nat.zero_le _, rfl, (Below.refl _ _).alloc (Nat.le_refl _) _, by simp, 0, Tab.made w Try.prog 9⟩
  case round =>
    obtain ⟨k, hk2, rfl, hb, hsz, sz, htab⟩ := hrel
    by_cases hlt : k < nk
    · obtain ⟨b, off, hb1, hcs⟩ := hk.cells (by omega)
      cases hb1
      have hck := cell_below hb (hcs k hlt)
      obtain ⟨w1, hrun, htab1, hg1, hs1⟩ := htab.store (val := .int .i64 k) law9 Try.underlying54 (by unfold maxLen; omega) (skey_ok (hS k hlt))
      clear hcs hS
      go_wp2
      go_roundw
      case rel => exact ⟨k + 1, by omega, by go_num, hb.grown hg1 (Nat.le_of_lt hsz) (fun j hj => by cases hj; exact Nat.le_refl _), Nat.lt_of_lt_of_le hsz (Nat.le_of_eq hs1.symm), _, htab1⟩
      case measure => simp [intOf]; omega
    · have hkn : k = nk := by omega
      subst hkn
      obtain ⟨wz, hwz⟩ : ∃ wz, wz = wr := ⟨_, rfl⟩
      subst hwz
      go_wp2
      go_loopw [12] (fun i wr => ∃ q : Nat, q ≤ k ∧ i = .int .i64 q ∧ Below wz.heap.size wz wr ∧ ∃ A' C', SnapRel k (noted S it k) A N X wz.heap.size q A' C' wr) (fun i _ => k - (intOf i).toNat)
      case atStart =>
        refine ⟨0, Nat.zero_le _, rfl, ((Below.refl _ _).alloc (Nat.le_refl _) _).alloc (by simp) _, fun _ => Option.none, fun _ => 0, by simp, ?_, ?_, fun i hi => absurd hi (Nat.not_lt_zero _)⟩
        · simpa using (World.rowIs_made wz (.bool false) k 4).alloc (.cells (madeCells #[.slice Option.none 0 0] k) 22)
        · simpa using World.rowIs_made (wz.alloc (.cells (madeCells #[.bool false] k) 4)) (.slice Option.none 0 0) k 22
      case round =>
        obtain ⟨q, hq, rfl, hbq, A', C', hrel⟩ := hrel
        by_cases hlt : q < k
        · obtain ⟨b, off, hb1, hcs⟩ := hk.cells (by omega)
          cases hb1
          have hck := cell_below hbq (cell_below hb (hcs q hlt))
          have hlk : (Instr.lookup 54 (.map (some w.heap.size)) (.string (S q)) false).run Try.prog wr = .ok (.int .i64 (((lastIx (fun i => skey (S i)) k (skey (S q))).getD 0 : Nat) : Int)) wr := by
            have h1 := ((htab.kept (show wz.grownBy wr Option.none from ⟨hbq.os, hbq.tape, hbq.output, hbq.size, fun i hi _ => hbq.block i hi⟩) (fun _ _ => by simp)).look law9 Try.underlying54 (zero3 _) (skey_ok (hS q hlt)))
            rw [h1, tabOf_eq]
            cases lastIx (fun i => skey (S i)) k (skey (S q)) <;> rfl
          by_cases hne : (S q).toList = it.toList
          · have HE : Hid (noted S it k q = false) := by simp [Hid, noted, hne]
            have hne' : decide ((S q).toList = it.toList) = true := by simp [hne]
            clear hcs hS
            go_wp2
            go_roundw
            case rel => exact ⟨q + 1, by omega, by go_num, hbq, A', C', hrel.skip (unhide HE)⟩
            case measure => simp [intOf]; omega
          · cases hlx : lastIx (fun i => skey (S i)) k (skey (S q)) with
            | none =>
              have := lastIx_some (fun i => skey (S i)) (fun i => trivial) k q hlt
              rw [hlx] at this
              cases this
            | some j =>
              rw [hlx] at hlk
              simp only [Option.getD_some] at hlk
              by_cases hj : j = q
              · have HE : Hid (noted S it k q = true) := by simp [Hid, noted, hne, hlx, hj]
                have hj' : ((j : Int) == (q : Int)) = true := by simp [hj]
                obtain ⟨b2, off2, hb2, hcs2⟩ := hl.1.cells (by omega)
                cases hb2
                have hbs := hbq.setCell (p := ⟨wz.heap.size, q, Option.none⟩) (Nat.le_refl _) (.bool true)
                have hck2 := cell_below hbs (cell_below hb (hcs2 q hlt))
                have hrowq := ((hl.2 q hlt).below hb).below hbs
                have hNq := hN q hlt
                have hm := hrel.mark.cell hlt
                have hmf := hrel.mark.frozen q
                rw [if_neg (Nat.lt_irrefl _)] at hm
                have hneb : ((S q).toList == it.toList) = false := by simp [hne]
                clear hcs hcs2 hS hlx hN hj
                go_wp2_with (go_at_call 12; refine (cloneInts_any _ _ _ (X q) _ hNq hrowq).mono ?_; rintro e w1 ⟨a1, c1, rfl, hb1, hn1, hs1, hlo⟩; have hp1 := snap_block hrel hb1; have hd := hp1.cell hlt; have hf := hp1.frozen q)
                go_roundw
                case rel => exact ⟨q + 1, by omega, by go_num, (hbs.trans (hb1.mono hbs.size)).setCell (Nat.le_succ _) _, _, _, hrel.take (unhide HE) hb1 hn1 hs1 hlo⟩
                case measure => simp [intOf]; omega
              · have HE : Hid (noted S it k q = false) := by simp [Hid, noted, hlx, hj]
                have hj' : ((j : Int) == (q : Int)) = false := by simp; omega
                clear hcs hS hlx
                go_wp2
                go_roundw
                case rel => exact ⟨q + 1, by omega, by go_num, hbq, A', C', hrel.skip (unhide HE)⟩
                case measure => simp [intOf]; omega
        · go_wp2
          go_ret2
          have hqk : q = k := by omega
          subst hqk
          refine ⟨_, _, fun i => if noted S it q i = true then A' i else Option.none, fun i => if noted S it q i = true then N i else 0, fun i => if noted S it q i = true then C' i else 0, rfl, hb.trans (hbq.mono (Nat.le_of_lt hsz)), SliceAt.of_row (hrel.mark.congr fun i hi => if_pos hi), ?_, ?_⟩
          · refine SliceAt.of_row (hrel.snap.congr fun i hi => ?_)
            by_cases hm : noted S it q i = true
            · rw [if_pos ⟨hi, hm⟩]; simp only [hm, if_true]
            · rw [if_neg (fun h => hm h.2)]; simp [hm]
          · intro i hi hm
            obtain ⟨g1, g2, g3⟩ := hrel.rows i hi hm
            simp only [hm, if_true]
            exact ⟨trivial, g1, g2⟩

end Go.Proofs.Qxb6602460a
