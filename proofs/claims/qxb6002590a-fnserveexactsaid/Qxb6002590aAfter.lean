import Derived.Test.Qxb6002590aConcat
import Derived.Test.Qxb6002590aPlain
import Derived.Laws.OwnMore
namespace Go.Proofs.Qxb6002590a
open Go.RowKit Go.Own

/-- What 'after' gives. -/
def Afts (p : List Int) (w : World) (e : Ending) (w' : World) : Prop :=
  ∃ v, e = .returned (.tuple #[v, .bool (aft p).isSome]) ∧ Below w.heap.size w w' ∧ ∀ r, aft p = some r → OwnB w' w.heap.size v r

theorem take_at (p : List Int) {q : Nat} (h : q < p.length) : (p.take (q + 1)).set q (p.getD q 0 + 1) = p.take q ++ [p.getD q 0 + 1] := by
  induction p generalizing q with
  | nil => exact absurd h (Nat.not_lt_zero _)
  | cons x xs ih =>
    cases q with
    | zero => simp
    | succ q =>
      have := ih (q := q) (by simpa using h)
      simpa using this

set_option maxHeartbeats 1000000 in
theorem after32 (a : Option Addr) (c : Nat) (p : List Int) (w : World) (h : BytesAt w a c p) (hU : U8 p) (hl : p.length ≤ 4194304) :
    Calls Try.prog 32 #[.slice a p.length c] w (Afts p w) := by
  go_enter Try.func32, Try.ntmps32
  go_wp2_with fail
  go_loop [4] (fun t => ∃ i : Nat, i ≤ p.length ∧ t = .int .i64 i ∧ ∀ j, i ≤ j → j < p.length → p.getD j 0 = 255) (fun t => (intOf t).toNat)
  case atStart => exact ⟨p.length, Nat.le_refl _, rfl, fun j h1 h2 => absurd h2 (by omega)⟩
  case round =>
    obtain ⟨i, hi, rfl, hff⟩ := hrel
    cases i with
    | zero =>
      have he := hide (aft_all p (fun j hj => hff j (Nat.zero_le _) hj))
      clear hff
      go_wp2_with fail
      go_ret2
      exact ⟨_, by rw [unhide he]; rfl, Below.refl _ _, fun r hr => by rw [unhide he] at hr; cases hr⟩
    | succ q =>
      obtain ⟨b, off, rfl, hc⟩ := h.cells (by omega)
      have hcq := hc q (by omega)
      have hb : (0 : Int) < ((q + 1 : Nat) : Int) := by omega
      have hlt : ((q + 1 : Nat) : Int) - 1 = (q : Int) := by omega
      have hq : (q : Int) < (p.length : Int) := by omega
      have hx := hU (p.getD q 0) (by rw [List.getD_eq_getElem?_getD, List.getElem?_eq_getElem (by omega)]; exact List.getElem_mem _)
      have hF := hide hff
      clear hff hc
      simp only [By] at hcq
      by_cases hx255 : p.getD q 0 = 255
      · rw [hx255] at hcq
        go_wp2_with fail
        go_round
        case rel => exact ⟨q, by omega, by go_num, fun j h1 h2 => by
            by_cases e : j = q
            · subst e; exact hx255
            · exact unhide hF j (by omega) h2⟩
        case measure => simp [intOf]
      · have hT : (p.take (q + 1)).length = q + 1 := by simp; omega
        have hbt : BytesAt w (some ⟨b, off, Option.none⟩) c (p.take (q + 1)) := by
          show SliceAt w _ (p.take (q + 1)).length c _
          rw [hT]
          exact (h.cut (m := q + 1) (by omega)).congr fun i hi => by simp [By, List.getD_eq_getElem?_getD, hi]
        have hcl := clone36 ⟨b, off, Option.none⟩ c (p.take (q + 1)) w hbt (by omega)
        rw [hT] at hcl
        have he := hide (aft_at p q (by omega) hx255 (fun j h1 h2 => unhide hF j (by omega) h2))
        have hcap : ((q + 1 : Nat) : Int) ≤ (c : Int) := by have := h.cap; omega
        have hset := hide (take_at p (q := q) (by omega))
        have hgx : (bs (p.take (q + 1)))[q]? = some (.int .u8 (p.getD q 0)) := by
          rw [bs_get _ (by omega)]
          simp [By, List.getD_eq_getElem?_getD]
        generalize p.getD q 0 = x at hcq hx hx255 he hset hgx
        have hne : (x == 255) = false := by simp; exact hx255
        have hx1 : x + 1 ≤ 255 := by omega
        have hx0 : 0 ≤ x + 1 := by omega
        clear hbt hF
        go_wp2_with fail
        refine hcl.mono ?_
        rintro e w1 ⟨v, rfl, ho, hb1⟩
        unfold OwnB at ho
        rw [hT] at ho
        rcases ho.2 with ⟨-, h0⟩ | ⟨g, cap, cur, rfl, hbase, -⟩
        · omega
        have hcg := ho.cells rfl q _ hgx
        rw [add_none] at hcg
        simp only [Nat.zero_add] at hcg
        have hfz := ho.frozenAt q
        obtain ⟨hst, hgr⟩ := ho.stored q (.int .u8 (x + 1))
        have HO := hide hst
        have HG := hide hgr
        clear ho hst hgr hcl
        go_wp2_with fail
        go_ret2
        refine ⟨_, by rw [unhide he]; rfl, hb1.trans (grown_below (unhide HG) hb1.size (fun k e => by cases e; exact hbase)), fun r hr => ?_⟩
        rw [unhide he] at hr
        cases hr
        have e2 : bs (p.take q ++ [x + 1]) = (bs (p.take (q + 1))).set q (.int .u8 (x + 1)) := by
          rw [← unhide hset]
          simp [bs, List.map_set]
        unfold OwnB
        rw [e2, show (p.take q ++ [x + 1]).length = q + 1 by simp; omega]
        exact unhide HO
end Go.Proofs.Qxb6002590a
