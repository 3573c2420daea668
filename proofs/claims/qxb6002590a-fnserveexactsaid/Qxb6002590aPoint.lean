import Derived.Test.Qxb6002590aZz
import Derived.Test.Qxb6002590aShelf
namespace Go.Proofs.Qxb6002590a
open Go.RowKit Go.Own

/-- A value comes back; the old memory is as it was. -/
def Gives (v : Value) (w : World) (e : Ending) (w' : World) : Prop := e = .returned v ∧ Below w.heap.size w w'

theorem bytesIn {w : World} {a : Option Addr} {c : Nat} {xs : List Int} (h : BytesAt w a c xs) : Lib.BytesIn w a xs.length xs := by
  by_cases hn : 0 < xs.length
  · obtain ⟨b, off, rfl, hc⟩ := h.cells hn
    exact Lib.BytesIn.of_cells (a := ⟨b, off, Option.none⟩) fun i hi => by rw [show Addr.add ⟨b, off, Option.none⟩ i = ⟨b, off + i, Option.none⟩ from by unfold Addr.add; split <;> simp_all]; exact hc i hi
  · have : xs.length = 0 := by omega
    rw [this]
    exact Lib.BytesIn.nil _ _ _

theorem bytesOf_inj : ∀ {xs ys : List Int}, U8 xs → U8 ys → (Lib.bytesOf xs == Lib.bytesOf ys) = decide (xs = ys)
  | [], [], _, _ => by simp [Lib.bytesOf]
  | [], y :: ys, _, _ => by simp [Lib.bytesOf]
  | x :: xs, [], _, _ => by simp [Lib.bytesOf]
  | x :: xs, y :: ys, hx, hy => by
    have ih := bytesOf_inj (xs := xs) (ys := ys) (fun z hz => hx z (List.mem_cons_of_mem _ hz)) (fun z hz => hy z (List.mem_cons_of_mem _ hz))
    have h1 := hx x (List.mem_cons_self ..)
    have h2 := hy y (List.mem_cons_self ..)
    have e1 : (UInt8.ofNat x.toNat == UInt8.ofNat y.toNat) = decide (x = y) := by
      by_cases he : x = y
      · subst he; simp
      · simp only [he, decide_false, beq_eq_false_iff_ne]
        intro h
        have := congrArg UInt8.toNat h
        simp at this
        omega
    have e2 : (Lib.bytesOf (x :: xs) == Lib.bytesOf (y :: ys)) = ((UInt8.ofNat x.toNat == UInt8.ofNat y.toNat) && (Lib.bytesOf xs == Lib.bytesOf ys)) := rfl
    rw [e2, e1, ih]
    by_cases he : x = y <;> simp [he]

/-- A span as the program holds it. -/
structure Sp where
  la : Option Addr
  lc : Nat
  lo : List Int
  ha : Option Addr
  hc : Nat
  hi : List Int
  le : Bool
  he : Bool
  na : Bool

def Sp.cells (s : Sp) : List Value := [.slice s.la s.lo.length s.lc, .slice s.ha s.hi.length s.hc, .bool s.le, .bool s.he, .bool s.na]

def Sp.ok (w : World) (s : Sp) : Prop := BytesAt w s.la s.lc s.lo ∧ BytesAt w s.ha s.hc s.hi ∧ U8 s.lo ∧ U8 s.hi

def Sp.point (s : Sp) : Bool := !s.la.isNone && !s.ha.isNone && !s.le && !s.he && decide (s.lo = s.hi)

set_option maxHeartbeats 1000000 in
theorem point34 (s : Sp) (w : World) (h : s.ok w) :
    Calls Try.prog 34 #[.agg #[.slice s.la s.lo.length s.lc, .slice s.ha s.hi.length s.hc, .bool s.le, .bool s.he, .bool s.na]] w (Gives (.bool s.point) w) := by
  obtain ⟨la, lc, lo, ha, hc, hi, le, he, na⟩ := s
  obtain ⟨h1, h2, h3, h4⟩ := h
  simp only [Sp.point] at h1 h2 h3 h4 ⊢
  have hnl := nnil22
  have hb : Below w.heap.size w (w.alloc (.cells #[.slice la lo.length lc, .slice ha hi.length hc, .bool le, .bool he, .bool na] 49)) := (Below.refl _ _).alloc (Nat.le_refl _) _
  cases la with
  | none =>
    go_enter Try.func34, Try.ntmps34
    go_wp2_with fail
    go_ret
    exact ⟨rfl, hb⟩
  | some la =>
  cases ha with
  | none =>
    go_enter Try.func34, Try.ntmps34
    go_wp2_with fail
    go_ret
    exact ⟨rfl, hb⟩
  | some ha =>
  cases le with
  | true =>
    go_enter Try.func34, Try.ntmps34
    go_wp2_with fail
    go_ret
    exact ⟨rfl, hb⟩
  | false =>
  cases he with
  | true =>
    go_enter Try.func34, Try.ntmps34
    go_wp2_with fail
    go_ret
    exact ⟨rfl, hb⟩
  | false =>
    have hq := Try.bytes_Equal_all (some la) (some ha) lo.length lc hi.length hc lo hi _ rfl rfl (bytesIn (h1.below hb)) (bytesIn (h2.below hb))
    rw [bytesOf_inj h3 h4] at hq
    have e : ((!(some la : Option Addr).isNone && !(some ha : Option Addr).isNone && !false && !false && decide (lo = hi)) : Bool) = decide (lo = hi) := by simp
    rw [e]
    clear e h1 h2 h3 h4
    cases hd : decide (lo = hi)
    all_goals
      rw [hd] at hq
      clear hd
      go_enter Try.func34, Try.ntmps34
      go_wp2_with fail
      refine hq.mono ?_
      rintro e w1 ⟨rfl, rfl⟩
      go_wp2_with fail
      go_ret
      exact ⟨rfl, hb⟩
end Go.Proofs.Qxb6002590a
