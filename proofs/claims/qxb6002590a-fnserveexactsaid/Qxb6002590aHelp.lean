import Derived.Test.Qxb6002590aRange
namespace Go.Proofs.Qxb6002590a
open Go.RowKit Go.Own

set_option maxHeartbeats 1000000 in
theorem point17 (s : Sp) (w : World) (h : s.ok w) (l1 : s.lo.length ≤ 4194304) (l2 : s.hi.length ≤ 4194304) :
    Calls Try.prog 17 #[.slice s.la s.lo.length s.lc, .slice s.ha s.hi.length s.hc, .bool s.le, .bool s.he] w (Drawn (.bool s.point) w) := by
  obtain ⟨la, lc, lo, ha, hc, hi, le, he, na⟩ := s
  obtain ⟨h1, h2, h3, h4⟩ := h
  simp only [Sp.point] at h1 h2 h3 h4 l1 l2 ⊢
  have hnl := nnil22
  cases la with
  | none =>
    go_enter Try.func17, Try.ntmps17
    go_wp2_with fail
    go_ret
    exact ⟨rfl, 0, rfl⟩
  | some la =>
  cases ha with
  | none =>
    go_enter Try.func17, Try.ntmps17
    go_wp2_with fail
    go_ret
    exact ⟨rfl, 0, rfl⟩
  | some ha =>
  cases le with
  | true =>
    go_enter Try.func17, Try.ntmps17
    go_wp2_with fail
    go_ret
    exact ⟨rfl, 0, rfl⟩
  | false =>
  cases he with
  | true =>
    go_enter Try.func17, Try.ntmps17
    go_wp2_with fail
    go_ret
    exact ⟨rfl, 0, rfl⟩
  | false =>
    have hq := cmp26 (some la) (some ha) lc hc lo hi w l1 l2 h1 h2
    have e : ((!(some la : Option Addr).isNone && !(some ha : Option Addr).isNone && !false && !false && decide (lo = hi)) : Bool) = (cmp lo hi == 0) := by
      by_cases he : lo = hi
      · subst he; simp [cmp_self]
      · have : cmp lo hi ≠ 0 := fun h => he (cmp_eq h)
        simp [he, this]
    rw [e]
    generalize cmp lo hi = C at hq
    clear e h1 h2 h3 h4
    cases hd : (C == 0)
    all_goals
      go_enter Try.func17, Try.ntmps17
      go_wp2_with fail
      refine hq.mono ?_
      rintro e w1 ⟨rfl, j, rfl⟩
      go_wp2_with fail
      go_ret
      exact ⟨rfl, j, rfl⟩

/-- A value comes back; the world is as it was. -/
def Same (v : Value) (w : World) (e : Ending) (w' : World) : Prop := e = .returned v ∧ w = w'

/-- Is x among the key's first m columns? -/
def among (κ : Nat → Nat) (kn m : Nat) (x : Int) : Bool := ((zs κ kn).take m).contains x

theorem take_zs (κ : Nat → Nat) {kn j : Nat} (h : j < kn) : (zs κ kn).take (j + 1) = (zs κ kn).take j ++ [(κ j : Int)] := by
  rw [List.take_add_one, List.getElem?_eq_getElem (by rw [zs_len]; exact h)]
  simp [zs]

set_option maxHeartbeats 1000000 in
theorem among22 (ka : Option Addr) (kn kc m : Nat) (κ : Nat → Nat) (x : Nat) (w : World) (h : SliceAt w ka kn kc (fun j => .int .i64 (κ j : Nat))) (hm : m ≤ kn) (hk : kn ≤ 65536) :
    Calls Try.prog 22 #[.slice ka kn kc, .int .i64 (m : Nat), .int .i64 (x : Nat)] w (Same (.bool (among κ kn m (x : Int))) w) := by
  go_enter Try.func22, Try.ntmps22
  go_wp2_with fail
  go_loop [7] (fun t => ∃ j : Nat, j ≤ m ∧ t = .int .i64 j ∧ among κ kn j (x : Int) = false) (fun t => m - (intOf t).toNat)
  case atStart => exact ⟨0, Nat.zero_le _, rfl, by simp [among]⟩
  case round =>
    obtain ⟨j, hj, rfl, hc⟩ := hrel
    have HC := hide hc
    clear hc
    by_cases hlt : j < m
    · obtain ⟨b, off, rfl, hcs⟩ := h.cells (by omega)
      have hck := hcs j (by omega)
      have li : (j : Int) < (m : Int) := by omega
      have lk : (j : Int) < (kn : Int) := by omega
      clear hcs
      by_cases he : κ j = x
      · have hb : (((κ j : Nat) : Int) == (x : Int)) = true := by simp [he]
        have hr : among κ kn m (x : Int) = true := by
          unfold among
          rw [List.contains_iff_mem]
          have hmem : (x : Int) ∈ (zs κ kn).take (j + 1) := by rw [take_zs κ (by omega), he]; simp
          exact List.take_subset_take_left _ (by omega) hmem
        have HR := hide hr
        clear he hr
        go_wp2_with fail
        go_ret
        exact ⟨by rw [unhide HR]; rfl, rfl⟩
      · have hb : (((κ j : Nat) : Int) == (x : Int)) = false := by simp; omega
        have HE := hide he
        clear he
        go_wp2_with fail
        go_round
        case rel => exact ⟨j + 1, hlt, by go_num, by
            have e := unhide HC
            have e2 := unhide HE
            unfold among at e ⊢
            rw [take_zs κ (by omega)]
            simp only [List.contains_eq_mem, List.mem_append, List.mem_singleton, decide_eq_false_iff_not] at e ⊢
            rintro (h1 | h1)
            · exact e h1
            · exact e2 (by omega)⟩
        case measure => simp [intOf]; omega
    · have e : j = m := by omega
      subst e
      go_wp2_with fail
      go_ret
      exact ⟨by rw [unhide HC]; rfl, rfl⟩

set_option maxHeartbeats 1000000 in
theorem allff25 (a : Option Addr) (c : Nat) (p : List Int) (w : World) (h : BytesAt w a c p) (hl : p.length ≤ 4194304) :
    Calls Try.prog 25 #[.slice a p.length c] w (Same (.bool (aft p).isNone) w) := by
  go_enter Try.func25, Try.ntmps25
  go_wp2_with fail
  go_loop [3] (fun t => ∃ j : Nat, j ≤ p.length ∧ t = .int .i64 j ∧ ∀ q, q < j → p.getD q 0 = 255) (fun t => p.length - (intOf t).toNat)
  case atStart => exact ⟨0, Nat.zero_le _, rfl, fun q hq => absurd hq (Nat.not_lt_zero _)⟩
  case round =>
    obtain ⟨j, hj, rfl, hall⟩ := hrel
    have HA := hide hall
    clear hall
    by_cases hlt : j < p.length
    · obtain ⟨b, off, rfl, hcs⟩ := h.cells (by omega)
      have hck := hcs j (by omega)
      simp only [By] at hck
      have li : (j : Int) < (p.length : Int) := by omega
      clear hcs
      by_cases he : p.getD j 0 = 255
      · rw [he] at hck
        have HE := hide he
        clear he
        go_wp2_with fail
        go_round
        case rel => exact ⟨j + 1, hlt, by go_num, fun q hq => by
            by_cases e : q = j
            · subst e; exact unhide HE
            · exact unhide HA q (by omega)⟩
        case measure => simp [intOf]; omega
      · have hr : (aft p).isNone = false := by
          cases hA : aft p with
          | some r => rfl
          | none => exact absurd (aft_none hA _ (by rw [List.getD_eq_getElem?_getD, List.getElem?_eq_getElem hlt]; exact List.getElem_mem _)) he
        have hb : (p.getD j 0 != 255) = true := by simpa using he
        have HR := hide hr
        generalize p.getD j 0 = x at hck hb
        clear he hr
        go_wp2_with fail
        go_ret
        exact ⟨by rw [unhide HR]; rfl, rfl⟩
    · have e : j = p.length := by omega
      subst e
      have HR := hide (show (aft p).isNone = true by rw [aft_all p (fun q hq => unhide HA q hq)]; rfl)
      go_wp2_with fail
      go_ret
      exact ⟨by rw [unhide HR]; rfl, rfl⟩

theorem cat_get (xs ys : List Int) (i : Nat) : (xs ++ ys).getD i 0 = if i < xs.length then xs.getD i 0 else ys.getD (i - xs.length) 0 := by
  simp only [List.getD_eq_getElem?_getD]
  by_cases h : i < xs.length
  · rw [if_pos h, List.getElem?_append_left h]
  · rw [if_neg h, List.getElem?_append_right (by omega)]

theorem set_step (i k : Nat) (zs : List Int) (x : Int) (h : zs.getD k 0 = x) : (if i = k then Value.int .u8 x else if i < k then .int .u8 (zs.getD i 0) else .int .u8 0) = if i < k + 1 then .int .u8 (zs.getD i 0) else .int .u8 0 := by
  by_cases e : i = k
  · subst e; rw [if_pos rfl, if_pos (by omega), h]
  · rw [if_neg e]
    by_cases h2 : i < k
    · rw [if_pos h2, if_pos (by omega)]
    · rw [if_neg h2, if_neg (by omega)]

/-- A new slice that reads as the list comes back. -/
def NewS (xs : List Int) (w : World) (e : Ending) (w' : World) : Prop := ∃ a c, e = .returned (.slice a xs.length c) ∧ BytesAt w' a c xs ∧ Below w.heap.size w w'

set_option maxHeartbeats 2000000 in
theorem cat15 (a b : Option Addr) (c d : Nat) (xs ys : List Int) (w : World) (h : BytesAt w a c xs) (h' : BytesAt w b d ys) (l1 : xs.length ≤ 2097152) (l2 : ys.length ≤ 2097152) :
    Calls Try.prog 15 #[.slice a xs.length c, .slice b ys.length d] w (NewS (xs ++ ys) w) := by
  have hmk := run_make_row' (P := Try.prog) 22 5 (.int .u8 0) 1 Try.underlying22 Try.info5 rfl .i64 .i64 (xs.length + ys.length) (by omega) (by omega)
  simp only [Int.natCast_add] at hmk
  go_enter Try.func15, Try.ntmps15
  go_wp2_with fail
  go_loopw [6] (fun i wr => ∃ k : Nat, k ≤ xs.length ∧ i = .int .i64 k ∧ Below w.heap.size w wr ∧ wr.rowIs w.heap.size 5 (xs.length + ys.length) (fun i => if i < k then .int .u8 ((xs ++ ys).getD i 0) else .int .u8 0)) (fun i _ => xs.length - (intOf i).toNat)
  case atStart =>
    refine ⟨0, Nat.zero_le _, rfl, (Below.refl _ _).alloc (Nat.le_refl _) _, ?_⟩
    simpa using World.rowIs_made w (.int .u8 0) (xs.length + ys.length) 5
  case round =>
    obtain ⟨k, hk, rfl, hb, hrow⟩ := hrel
    by_cases hlt : k < xs.length
    · obtain ⟨b1, off, hb1, hcs⟩ := h.cells (by omega)
      cases hb1
      have hck := cell_below hb (hcs k hlt)
      simp only [By] at hck
      have hx : (xs ++ ys).getD k 0 = xs.getD k 0 := by rw [cat_get, if_pos hlt]
      have hd := hrow.cell (i := k) (by omega)
      have hf := hrow.frozen k
      have HR := hide hrow
      have HX := hide hx
      generalize xs.getD k 0 = x at hck HX
      have li : (k : Int) < (xs.length : Int) := by omega
      have li2 : (k : Int) < (xs.length : Int) + (ys.length : Int) := by omega
      clear hcs hmk hrow hx
      go_wp2_with fail
      go_roundw
      case rel => exact ⟨k + 1, by omega, by go_num, hb.setCell (Nat.le_refl _) _, ((unhide HR).set k _).congr fun i hi => set_step i k (xs ++ ys) x (unhide HX)⟩
      case measure => simp [intOf]; omega
    · have e : k = xs.length := by omega
      subst e
      clear hmk
      go_wp2_with fail
      go_loopw [7] (fun i wr => ∃ k : Nat, k ≤ ys.length ∧ i = .int .i64 k ∧ Below w.heap.size w wr ∧ wr.rowIs w.heap.size 5 (xs.length + ys.length) (fun i => if i < xs.length + k then .int .u8 ((xs ++ ys).getD i 0) else .int .u8 0)) (fun i _ => ys.length - (intOf i).toNat)
      case atStart => exact ⟨0, Nat.zero_le _, rfl, hb, by simpa using hrow⟩
      case round =>
        obtain ⟨k, hk, rfl, hb, hrow⟩ := hrel
        by_cases hlt : k < ys.length
        · obtain ⟨b1, off, hb1, hcs⟩ := h'.cells (by omega)
          cases hb1
          have hck := cell_below hb (hcs k hlt)
          simp only [By] at hck
          have hx : (xs ++ ys).getD (xs.length + k) 0 = ys.getD k 0 := by rw [cat_get, if_neg (by omega)]; simp
          have hd := hrow.cell (i := xs.length + k) (by omega)
          have hf := hrow.frozen (xs.length + k)
          have HR := hide hrow
          have HX := hide hx
          generalize ys.getD k 0 = x at hck HX
          have li : (k : Int) < (ys.length : Int) := by omega
          have li2 : (xs.length : Int) + (k : Int) < (xs.length : Int) + (ys.length : Int) := by omega
          clear hcs hrow hx
          go_wp2_with fail
          go_roundw
          case rel => exact ⟨k + 1, by omega, by go_num, hb.setCell (Nat.le_refl _) _, ((unhide HR).set (xs.length + k) _).congr fun i hi => set_step i (xs.length + k) (xs ++ ys) x (unhide HX)⟩
          case measure => simp [intOf]; omega
        · have e : k = ys.length := by omega
          subst e
          have HR := hide hrow
          clear hrow
          go_wp2_with fail
          go_ret
          refine ⟨_, _, by rw [List.length_append]; rfl, ?_, hb⟩
          show SliceAt _ _ (xs ++ ys).length _ _
          rw [List.length_append]
          exact SliceAt.of_row ((unhide HR).congr fun i hi => if_pos hi)
end Go.Proofs.Qxb6002590a
