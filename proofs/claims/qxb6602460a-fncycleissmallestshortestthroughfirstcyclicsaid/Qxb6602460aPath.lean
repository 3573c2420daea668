import Derived.Test.Qxb6602460aIdx
namespace Go.Proofs.Qxb6602460a
open Go.RowKit Go.Maps Go.Own

/-- What path leaves: the chain turned round, and its start once more. -/
def PathPost (K s : Nat) (chain : Nat → Nat) (nd : Nat → Int) (w : World) (e : Ending) (w' : World) : Prop :=
  ∃ b c, e = .returned (.slice (some ⟨b, 0, Option.none⟩) (K + 2) c) ∧ Below w.heap.size w w' ∧ SliceAt w' (some ⟨b, 0, Option.none⟩) (K + 2) c (fun i => .int .i64 (if i ≤ K then nd (chain (K - i)) else nd s))

theorem path_list (K s : Nat) (chain : Nat → Nat) (nd : Nat → Int) (i : Nat) (hi : i < K + 2) : (((List.range (K + 1)).map (fun i => nd (chain i))).reverse ++ [nd s]).getD i 0 = if i ≤ K then nd (chain (K - i)) else nd s := by
  rw [List.getD_eq_getElem?_getD]
  by_cases h : i ≤ K
  · rw [List.getElem?_append_left (by simp; omega), List.getElem?_reverse (by simp; omega), if_pos h]
    simp [show K - i < K + 1 by omega]
  · rw [List.getElem?_append_right (by simp; omega), if_neg h]
    simp [show i - (K + 1) = 0 by omega]

def lenOf : Value → Nat
  | .slice _ k _ => k
  | _ => 0

set_option maxHeartbeats 4000000 in
set_option maxRecDepth 100000 in
theorem path43 (na oa : Option Addr) (n nc oc pb K s : Nat) (chain : Nat → Nat) (nd par : Nat → Int) (w : World)
    (hnd : SliceAt w na n nc (fun i => .int .i64 (nd i))) (hp : w.rowIs pb 3 n (fun i => .int .i64 (par i)))
    (hK : K ≤ 65536) (hlt : ∀ i, i ≤ K → chain i < n) (hend : chain K = s) (hne : ∀ i, i < K → chain i ≠ s ∧ par (chain i) = (chain (i + 1) : Nat)) :
    Calls Try.prog 43 #[.agg #[.slice na n nc, .slice oa n oc], .slice (some ⟨pb, 0, Option.none⟩) n n, .int .i64 (chain 0 : Nat), .int .i64 (s : Nat)] w (PathPost K s chain nd w) := by
  obtain ⟨nb, no, rfl, hcs⟩ := hnd.cells (Nat.lt_of_le_of_lt (Nat.zero_le _) (hlt 0 (Nat.zero_le _)))
  have hsn : s < n := by rw [← hend]; exact hlt K (Nat.le_refl _)
  have hpl := hp.lt
  have lsn : (s : Int) < (n : Int) := by omega
  have HC := hide hcs
  have HP := hide hp
  have HL := hide hlt
  have HN := hide hne
  have HE := hide hend
  clear hcs hp hlt hne hnd hend
  go_enter Try.func43, Try.ntmps43
  go_wp2_with fail
  go_loopw [9, 10] (fun cy v wr => ∃ k : Nat, k ≤ K ∧ v = .int .i64 (chain k : Nat) ∧ OwnZ wr (w.heap.size + 1) cy ((List.range k).map (fun i => nd (chain i))) ∧ Below w.heap.size w wr ∧ wr.rowIs w.heap.size 51 2 (fun i => if i = 0 then .slice (some ⟨nb, no, Option.none⟩) n nc else .slice oa n oc)) (fun cy _ _ => K - lenOf cy)
  case atStart =>
    refine ⟨0, Nat.zero_le _, rfl, OwnZ.nil _ _, (Below.refl _ _).alloc (Nat.le_refl _) _, ?_⟩
    exact World.rowIs_alloc w #[.slice (some ⟨nb, no, Option.none⟩) n nc, .slice oa n oc] 51 _ (fun i hi => by
      have : i = 0 ∨ i = 1 := by simp at hi; omega
      rcases this with rfl | rfl <;> rfl)
  case round =>
    obtain ⟨k, hk, rfl, ho, hb, hr⟩ := hrel
    have hsz : w.heap.size + 1 ≤ wr.heap.size := hr.lt
    have hxn := unhide HL k hk
    have lx : ((chain k : Nat) : Int) < (n : Int) := by omega
    have e0 := hr.cell (i := 0) (by omega)
    rw [if_pos rfl] at e0
    have c1 := cell_below hb (unhide HC _ hxn)
    by_cases hkK : k < K
    · obtain ⟨hns, hpar⟩ := unhide HN k hkK
      obtain ⟨a, c, rfl, -, -, -⟩ := ho.form
      have hlen : ((List.range k).map (fun i => nd (chain i))).length = k := by simp
      obtain ⟨b', c', w2, hrun, ho2, hb2⟩ := append_z' (nd (chain k)) 22 ho hsz (by rw [hlen]; omega)
      rw [hlen] at hrun ho2 ho
      have c2 := cell_below (hb.trans (hb2.mono (Nat.le_succ _))) ((unhide HP).cell (i := chain k) hxn)
      rw [hpar] at c2
      have t1 : ¬ ((chain k : Nat) : Int) = (s : Int) := by omega
      have HR := hide (show w2.rowIs w.heap.size 51 2 _ from hr.of_block (hb2.block _ (Nat.lt_succ_self _)))
      have HB := hide (hb.trans (hb2.mono (Nat.le_succ _)))
      have HO := hide ho2
      clear hr hb hb2 ho2 ho hpar hns
      generalize hy : chain k = y at *
      rw [hlen]
      go_wp2_with (at_builtin; refine Lib.wpList_append_run _ rfl _ _ _ _ rfl _ _ rfl rfl _ _ hrun ?_)
      go_roundw
      case rel => exact ⟨k + 1, hkK, rfl, by rw [List.range_succ, List.map_append, List.map_singleton, hy]; exact unhide HO, unhide HB, unhide HR⟩
      case measure => simp [lenOf]; omega
    · obtain rfl : k = K := by omega
      have hE := unhide HE
      obtain ⟨a, c, rfl, -, -, -⟩ := ho.form
      have hlen : ((List.range k).map (fun i => nd (chain i))).length = k := by simp
      obtain ⟨b', c', w2, hrun, ho2, hb2⟩ := append_z' (nd (chain k)) 22 ho hsz (by rw [hlen]; omega)
      have hzs : (List.range k).map (fun i => nd (chain i)) ++ [nd (chain k)] = (List.range (k + 1)).map (fun i => nd (chain i)) := by rw [List.range_succ, List.map_append, List.map_singleton]
      rw [hzs] at ho2
      rw [hlen] at hrun ho2 ho ⊢
      rw [hE] at hrun c1 lx hxn ⊢
      have HO := hide ho2
      have HR := hide (show w2.rowIs w.heap.size 51 2 _ from hr.of_block (hb2.block _ (Nat.lt_succ_self _)))
      have HB := hide (hb.trans (hb2.mono (Nat.le_succ _)))
      have hsz2 : w.heap.size + 1 ≤ w2.heap.size := Nat.le_trans hsz hb2.size
      clear hr hb hb2 ho2 ho
      go_wp2_with (at_builtin; refine Lib.wpList_append_run _ rfl _ _ _ _ rfl _ _ rfl rfl _ _ hrun ?_)
      have hl2 : ((List.range (k + 1)).map (fun i => nd (chain i))).length = k + 1 := by simp
      have hrev := rev44 (w := w2) (base := w.heap.size + 1) (g := b') (cap := c') (zs := (List.range (k + 1)).map (fun i => nd (chain i))) (by rw [hl2]; exact unhide HO) (by rw [hl2]; omega)
      rw [hl2] at hrev
      refine hrev.mono ?_
      rintro e w3 ⟨rfl, ho3, hb3⟩
      have hlr : (((List.range (k + 1)).map (fun i => nd (chain i))).reverse).length = k + 1 := by simp
      obtain ⟨b4, c4, w4, hrun4, ho4, hb4⟩ := append_z' (nd s) 22 ho3 (Nat.le_trans hsz2 hb3.size) (by rw [hlr]; omega)
      rw [hlr] at hrun4 ho4
      have hr3 := (unhide HR).of_block (hb3.block _ (Nat.lt_succ_self _))
      have e3 := hr3.cell (i := 0) (by omega)
      rw [if_pos rfl] at e3
      have hB3 := (unhide HB).trans (hb3.mono (Nat.le_succ _))
      have c3 := cell_below hB3 (unhide HC _ hsn)
      have HF := hide (show PathPost k s chain nd w (.returned (.slice (some ⟨b4, 0, Option.none⟩) (k + 2) c4)) w4 from by
        refine ⟨b4, c4, rfl, hB3.trans (hb4.mono (Nat.le_succ _)), ?_⟩
        obtain ⟨a5, c5, e5, -, -, h5⟩ := ho4.form
        rw [show (((List.range (k + 1)).map (fun i => nd (chain i))).reverse ++ [nd s]).length = k + 2 by simp] at e5 h5
        cases e5
        exact h5.congr fun i hi => by rw [path_list k s chain nd i hi])
      clear hrun hr3 hB3 ho4 hb4 ho3 hb3 hrev HO HR HB c1 e0
      go_wp2_with (at_builtin; refine Lib.wpList_append_run _ rfl _ _ _ _ rfl _ _ rfl rfl _ _ hrun4 ?_)
      go_ret
      exact unhide HF
end Go.Proofs.Qxb6602460a
