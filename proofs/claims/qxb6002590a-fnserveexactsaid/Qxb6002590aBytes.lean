import Derived.Test.Qxb6002590aProg
import Derived.Test.Qxb6002590aBase
import Derived.Deep.QuietTactic
import Derived.BigQuiet
namespace Go.Proofs.Qxb6002590a
open Go.RowKit Go.Own

/-- The values of a list of bytes. -/
def By (xs : List Int) : Nat → Value := fun i => .int .u8 (xs.getD i 0)

/-- A slice of bytes that reads as the list. -/
abbrev BytesAt (w : World) (a : Option Addr) (c : Nat) (xs : List Int) : Prop := SliceAt w a xs.length c (By xs)

def U8 (xs : List Int) : Prop := ∀ x ∈ xs, 0 ≤ x ∧ x ≤ 255

/-- The order of bytes. -/
def cmp : List Int → List Int → Int
  | [], [] => 0
  | [], _ :: _ => -1
  | _ :: _, [] => 1
  | x :: xs, y :: ys => if x < y then -1 else if y < x then 1 else cmp xs ys

theorem drop_at (xs : List Int) {k : Nat} (h : k < xs.length) : xs.drop k = xs.getD k 0 :: xs.drop (k + 1) := by
  rw [List.drop_eq_getElem_cons h]
  simp [List.getD_eq_getElem?_getD, h]

theorem cmp_at (xs ys : List Int) {k : Nat} (h : k < xs.length) (h' : k < ys.length) :
    cmp (xs.drop k) (ys.drop k) = if xs.getD k 0 < ys.getD k 0 then -1 else if ys.getD k 0 < xs.getD k 0 then 1 else cmp (xs.drop (k + 1)) (ys.drop (k + 1)) := by
  rw [drop_at xs h, drop_at ys h']
  rfl

theorem drawn_more {w w' : World} (q : Nat) (h : ∃ j, w' = w.drewN j) : ∃ j, w'.drewN q = w.drewN j := by
  obtain ⟨j, rfl⟩ := h
  exact ⟨j + q, by simp⟩

/-- A value comes back; only draws have been made. -/
def Drawn (v : Value) (w : World) (e : Ending) (w' : World) : Prop := e = .returned v ∧ ∃ j, w' = w.drewN j

set_option maxHeartbeats 800000 in
theorem cmp26 (a b : Option Addr) (c d : Nat) (xs ys : List Int) (w : World) (hx : xs.length ≤ 4194304) (hy : ys.length ≤ 4194304) (h : BytesAt w a c xs) (h' : BytesAt w b d ys) :
    Calls Try.prog 26 #[.slice a xs.length c, .slice b ys.length d] w (Drawn (.int .i64 (cmp xs ys)) w) := by
  by_cases hl : ys.length < xs.length
  · have hl' : (ys.length : Int) < (xs.length : Int) := by omega
    go_enter Try.func26, Try.ntmps26
    go_wp2
    go_loopw [6] (fun i wr => ∃ k : Nat, k ≤ ys.length ∧ i = .int .i64 k ∧ cmp xs ys = cmp (xs.drop k) (ys.drop k) ∧ ∃ j, wr = w.drewN j) (fun i _ => ys.length - (intOf i).toNat)
    case atStart => exact ⟨0, Nat.zero_le _, rfl, rfl, 0, rfl⟩
    case round =>
      obtain ⟨k, hk, rfl, he, j, rfl⟩ := hrel
      by_cases hlt : k < ys.length
      · obtain ⟨b1, off, hb1, hcs⟩ := h.cells (by omega)
        cases hb1
        obtain ⟨b2, off2, hb2, hcs2⟩ := h'.cells (by omega)
        cases hb2
        have hck := hcs k (by omega)
        have hck2 := hcs2 k (by omega)
        have hlt1 : (k : Int) < (xs.length : Int) := by omega
        have hlt2 : (k : Int) < (ys.length : Int) := by omega
        rw [cmp_at xs ys (by omega) (by omega)] at he
        have HE := hide he
        clear hcs hcs2 he
        simp only [By] at hck hck2
        generalize xs.getD k 0 = x at hck HE
        generalize ys.getD k 0 = y at hck2 HE
        rcases Int.lt_trichotomy x y with hxy | hxy | hxy
        · have hr : cmp xs ys = -1 := by rw [unhide HE, if_pos hxy]
          have HR := hide hr
          clear HE hr
          go_wp2
          go_quiet (fail)
          go_wp2
          go_ret
          exact ⟨by rw [unhide HR]; rfl, by first | exact ⟨_, rfl⟩ | exact drawn_more _ ⟨_, rfl⟩ | exact drawn_more _ (drawn_more _ ⟨_, rfl⟩)⟩
        · subst hxy
          go_wp2
          go_quiet (fail)
          go_wp2
          go_quiet (fail)
          go_wp2
          go_roundw
          case rel => exact ⟨k + 1, by omega, by go_num, by rw [unhide HE]; simp, _, rfl⟩
          case measure => simp [intOf]; omega
        · have hxy' : decide (x < y) = false := decide_eq_false (by omega)
          have hr : cmp xs ys = 1 := by rw [unhide HE, if_neg (by omega), if_pos hxy]
          have HR := hide hr
          clear HE hr
          go_wp2
          go_quiet (fail)
          go_wp2
          go_quiet (fail)
          go_wp2
          go_ret
          exact ⟨by rw [unhide HR]; rfl, by first | exact ⟨_, rfl⟩ | exact drawn_more _ ⟨_, rfl⟩ | exact drawn_more _ (drawn_more _ ⟨_, rfl⟩)⟩
      · have ek : k = ys.length := by omega
        have HE := hide he
        clear he
        have hr : cmp xs ys = 1 := by
          rw [unhide HE, ek, List.drop_length, drop_at xs hl]
          rfl
        have HR := hide hr
        clear HE hr
        have hl2 : decide ((xs.length : Int) < (ys.length : Int)) = false := decide_eq_false (by omega)
        go_wp2
        go_ret
        exact ⟨by rw [unhide HR]; rfl, j, rfl⟩
  · have hl' : decide ((ys.length : Int) < (xs.length : Int)) = false := decide_eq_false (by omega)
    go_enter Try.func26, Try.ntmps26
    go_wp2
    go_loopw [6] (fun i wr => ∃ k : Nat, k ≤ xs.length ∧ i = .int .i64 k ∧ cmp xs ys = cmp (xs.drop k) (ys.drop k) ∧ ∃ j, wr = w.drewN j) (fun i _ => xs.length - (intOf i).toNat)
    case atStart => exact ⟨0, Nat.zero_le _, rfl, rfl, 0, rfl⟩
    case round =>
      obtain ⟨k, hk, rfl, he, j, rfl⟩ := hrel
      by_cases hlt : k < xs.length
      · obtain ⟨b1, off, hb1, hcs⟩ := h.cells (by omega)
        cases hb1
        obtain ⟨b2, off2, hb2, hcs2⟩ := h'.cells (by omega)
        cases hb2
        have hck := hcs k (by omega)
        have hck2 := hcs2 k (by omega)
        have hlt1 : (k : Int) < (xs.length : Int) := by omega
        have hlt2 : (k : Int) < (ys.length : Int) := by omega
        rw [cmp_at xs ys (by omega) (by omega)] at he
        have HE := hide he
        clear hcs hcs2 he
        simp only [By] at hck hck2
        generalize xs.getD k 0 = x at hck HE
        generalize ys.getD k 0 = y at hck2 HE
        rcases Int.lt_trichotomy x y with hxy | hxy | hxy
        · have hr : cmp xs ys = -1 := by rw [unhide HE, if_pos hxy]
          have HR := hide hr
          clear HE hr
          go_wp2
          go_quiet (fail)
          go_wp2
          go_ret
          exact ⟨by rw [unhide HR]; rfl, by first | exact ⟨_, rfl⟩ | exact drawn_more _ ⟨_, rfl⟩ | exact drawn_more _ (drawn_more _ ⟨_, rfl⟩)⟩
        · subst hxy
          go_wp2
          go_quiet (fail)
          go_wp2
          go_quiet (fail)
          go_wp2
          go_roundw
          case rel => exact ⟨k + 1, by omega, by go_num, by rw [unhide HE]; simp, _, rfl⟩
          case measure => simp [intOf]; omega
        · have hxy' : decide (x < y) = false := decide_eq_false (by omega)
          have hr : cmp xs ys = 1 := by rw [unhide HE, if_neg (by omega), if_pos hxy]
          have HR := hide hr
          clear HE hr
          go_wp2
          go_quiet (fail)
          go_wp2
          go_quiet (fail)
          go_wp2
          go_ret
          exact ⟨by rw [unhide HR]; rfl, by first | exact ⟨_, rfl⟩ | exact drawn_more _ ⟨_, rfl⟩ | exact drawn_more _ (drawn_more _ ⟨_, rfl⟩)⟩
      · have ek : k = xs.length := by omega
        have HE := hide he
        clear he
        by_cases hs : xs.length < ys.length
        · have hr : cmp xs ys = -1 := by
            rw [unhide HE, ek, List.drop_length, drop_at ys hs]
            rfl
          have HR := hide hr
          clear HE hr
          have hl2 : (xs.length : Int) < (ys.length : Int) := by omega
          go_wp2
          go_ret
          exact ⟨by rw [unhide HR]; rfl, j, rfl⟩
        · have hr : cmp xs ys = 0 := by
            have : ys.drop k = [] := List.drop_eq_nil_of_le (by omega)
            rw [unhide HE, this, ek, List.drop_length]
            rfl
          have HR := hide hr
          clear HE hr
          have hl2 : decide ((xs.length : Int) < (ys.length : Int)) = false := decide_eq_false (by omega)
          go_wp2
          go_ret
          exact ⟨by rw [unhide HR]; rfl, j, rfl⟩

/-! ### Prefixes -/
def pre (p k : List Int) : Bool := p.isPrefixOf k

theorem pre_nil (k : List Int) : pre [] k = true := by simp [pre]

theorem pre_at (p k : List Int) {i : Nat} (h : i < p.length) (h' : i < k.length) :
    pre (p.drop i) (k.drop i) = ((p.getD i 0 == k.getD i 0) && pre (p.drop (i + 1)) (k.drop (i + 1))) := by
  rw [drop_at p h, drop_at k h']
  rfl

theorem pre_short (p k : List Int) (h : k.length < p.length) : pre p k = false := by
  cases hp : pre p k
  · rfl
  · have := (List.isPrefixOf_iff_prefix.1 hp).length_le
    omega

set_option maxHeartbeats 800000 in
theorem pre27 (a b : Option Addr) (c d : Nat) (k p : List Int) (w : World) (hx : k.length ≤ 4194304) (hy : p.length ≤ 4194304) (h : BytesAt w a c k) (h' : BytesAt w b d p) :
    Calls Try.prog 27 #[.slice a k.length c, .slice b p.length d] w (Drawn (.bool (pre p k)) w) := by
  by_cases hl : k.length < p.length
  · have hl' : (k.length : Int) < (p.length : Int) := by omega
    rw [pre_short p k hl]
    go_enter Try.func27, Try.ntmps27
    go_wp2
    go_ret
    exact ⟨rfl, 0, rfl⟩
  · have hl' : decide ((k.length : Int) < (p.length : Int)) = false := decide_eq_false (by omega)
    go_enter Try.func27, Try.ntmps27
    go_wp2
    go_loopw [5] (fun i wr => ∃ q : Nat, q ≤ p.length ∧ i = .int .i64 q ∧ pre p k = pre (p.drop q) (k.drop q) ∧ ∃ j, wr = w.drewN j) (fun i _ => p.length - (intOf i).toNat)
    case atStart => exact ⟨0, Nat.zero_le _, rfl, rfl, 0, rfl⟩
    case round =>
      obtain ⟨q, hk, rfl, he, j, rfl⟩ := hrel
      by_cases hlt : q < p.length
      · obtain ⟨b1, off, hb1, hcs⟩ := h.cells (by omega)
        cases hb1
        obtain ⟨b2, off2, hb2, hcs2⟩ := h'.cells (by omega)
        cases hb2
        have hck := hcs q (by omega)
        have hck2 := hcs2 q (by omega)
        have hlt1 : (q : Int) < (k.length : Int) := by omega
        have hlt2 : (q : Int) < (p.length : Int) := by omega
        rw [pre_at p k (by omega) (by omega)] at he
        have HE := hide he
        clear hcs hcs2 he
        simp only [By] at hck hck2
        generalize p.getD q 0 = x at hck2 HE
        generalize k.getD q 0 = y at hck HE
        by_cases hxy : x = y
        · subst hxy
          have hbe : (x != x) = false := by simp
          go_wp2
          go_quiet (fail)
          go_wp2
          go_roundw
          case rel => exact ⟨q + 1, by omega, by go_num, by rw [unhide HE]; simp, _, rfl⟩
          case measure => simp [intOf]; omega
        · have hr : pre p k = false := by rw [unhide HE]; simp [hxy]
          have HR := hide hr
          have hbe : (y != x) = true := by simp; exact fun e => hxy e.symm
          clear HE hr hxy
          go_wp2
          go_quiet (fail)
          go_wp2
          go_ret
          exact ⟨by rw [unhide HR]; rfl, by first | exact ⟨_, rfl⟩ | exact drawn_more _ ⟨_, rfl⟩ | exact drawn_more _ (drawn_more _ ⟨_, rfl⟩)⟩
      · have ek : q = p.length := by omega
        have hr : pre p k = true := by rw [he, ek, List.drop_length, pre_nil]
        have HR := hide hr
        clear he hr
        go_wp2
        go_ret
        exact ⟨by rw [unhide HR]; rfl, j, rfl⟩

/-- p is a prefix of k, and shorter. -/
def ppre (p k : List Int) : Bool := decide (p.length < k.length) && pre p k

theorem ppre30 (a b : Option Addr) (c d : Nat) (p k : List Int) (w : World) (hx : p.length ≤ 4194304) (hy : k.length ≤ 4194304) (h : BytesAt w a c p) (h' : BytesAt w b d k) :
    Calls Try.prog 30 #[.slice a p.length c, .slice b k.length d] w (Drawn (.bool (ppre p k)) w) := by
  have hs := pre27 b a d c k p w hy hx h' h
  by_cases hl : p.length < k.length
  · have e : ppre p k = pre p k := by simp [ppre, hl]
    rw [e]
    have hl' : (p.length : Int) < (k.length : Int) := by omega
    cases hp : pre p k
    all_goals
      rw [hp] at hs
      clear e
      go_enter Try.func30, Try.ntmps30
      go_wp2_with (go_at_call 27; refine hs.mono ?_; rintro e w1 ⟨rfl, j, rfl⟩)
      go_ret
      exact ⟨rfl, j, rfl⟩
  · have e : ppre p k = false := by simp [ppre, hl]
    rw [e]
    clear hs e
    have hl' : decide ((p.length : Int) < (k.length : Int)) = false := decide_eq_false (by omega)
    go_enter Try.func30, Try.ntmps30
    go_wp2
    go_ret
    exact ⟨rfl, 0, rfl⟩

theorem nil22 (w : World) (a : Option Addr) (n c : Nat) : (binOp .eql 22 (.slice a n c) (.slice Option.none 0 0)).run Try.prog w = .ok (.bool a.isNone) w := Lib.run_eql_slice_nil w 22 5 a n c 0 0 Try.underlying22
theorem nnil22 (w : World) (a : Option Addr) (n c : Nat) : (binOp .neq 22 (.slice a n c) (.slice Option.none 0 0)).run Try.prog w = .ok (.bool (!a.isNone)) w := Go.run_neq_slice_nil w 22 5 a n c Try.underlying22

/-- Neither is a proper prefix of the other (where the bound is there). -/
def free (v b : List Int) (isNil : Bool) : Bool := isNil || (!ppre b v && !ppre v b)

set_option maxHeartbeats 800000 in
theorem free13 (a b : Option Addr) (c d : Nat) (v x : List Int) (w : World) (hx : v.length ≤ 4194304) (hy : x.length ≤ 4194304) (h : BytesAt w a c v) (h' : BytesAt w b d x) :
    Calls Try.prog 13 #[.slice a v.length c, .slice b x.length d] w (Drawn (.bool (free v x b.isNone)) w) := by
  have hnl := nil22
  cases b with
  | none =>
    go_enter Try.func13, Try.ntmps13
    go_wp2
    go_ret
    exact ⟨rfl, 0, rfl⟩
  | some ad =>
    have e : free v x (some ad : Option Addr).isNone = (!ppre x v && !ppre v x) := rfl
    rw [e]
    clear e
    have h1 := ppre30 (some ad) a d c x v w hy hx h' h
    cases hp : ppre x v
    · rw [hp] at h1
      have h2 : ∀ j, Calls Try.prog 30 #[.slice a v.length c, .slice (some ad) x.length d] (w.drewN j) (Drawn (.bool (ppre v x)) (w.drewN j)) := fun j => ppre30 a (some ad) c d v x (w.drewN j) hx hy (h.drewN j) (h'.drewN j)
      clear h h'
      cases hq : ppre v x
      all_goals
        rw [hq] at h2
        go_enter Try.func13, Try.ntmps13
        go_wp2_with fail
        refine h1.mono ?_
        rintro e w1 ⟨rfl, j, rfl⟩
        go_wp2_with fail
        refine (h2 _).mono ?_
        rintro e w2 ⟨rfl, j2, rfl⟩
        go_wp2
        go_ret
        exact ⟨rfl, by first | exact ⟨_, rfl⟩ | exact drawn_more _ ⟨_, rfl⟩ | exact drawn_more _ (drawn_more _ ⟨_, rfl⟩)⟩
    · rw [hp] at h1
      clear h h'
      go_enter Try.func13, Try.ntmps13
      go_wp2_with fail
      refine h1.mono ?_
      rintro e w1 ⟨rfl, j, rfl⟩
      go_wp2
      go_ret
      exact ⟨rfl, j, rfl⟩

/-- The value lies within the bounds. -/
def above (v lo : List Int) (loNil loEx : Bool) : Bool := loNil || !(decide (cmp v lo < 0) || (cmp v lo == 0 && loEx))
def under (v hi : List Int) (hiNil hiEx : Bool) : Bool := hiNil || !(decide (0 < cmp v hi) || (cmp v hi == 0 && hiEx))
end Go.Proofs.Qxb6002590a
