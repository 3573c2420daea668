import Derived.Test.Qxb6002590aZServe
namespace Go.Proofs.Qxb6002590a
open Go.RowKit Go.Own

def overLow (low : Option (List Int)) (k : List Int) : Bool := match low with
  | Option.none => true
  | some xs => decide (0 ≤ cmp k xs)
def underUp (up : Option (List Int)) (k : List Int) : Bool := match up with
  | Option.none => true
  | some xs => decide (cmp k xs < 0)

def upLen : Option (List Int) → Nat
  | Option.none => 0
  | some xs => xs.length

theorem ptr_nil (w : World) (p : Option Addr) : (binOp .eql 25 (.pointer p) (.pointer Option.none)).run Try.prog w = .ok (.bool p.isNone) w := by
  cases p <;> simp [go_sem]

set_option maxHeartbeats 1000000 in
theorem above28 (L U : Option Addr) (m : Nat) (low : Option (List Int)) (ka : Option Addr) (kc : Nat) (k : List Int) (w : World) (h : BoundAt m w L false low) (hk : BytesAt w ka kc k) (l1 : k.length ≤ 4194304) (l2 : upLen low ≤ 4194304) :
    Calls Try.prog 28 #[.agg #[.pointer L, .pointer U, .bool false, .int .i64 0], .slice ka k.length kc] w (Gives (.bool (overLow low k)) w) := by
  have hb : Below w.heap.size w (w.alloc (.cells #[.pointer L, .pointer U, .bool false, .int .i64 0] 27)) := (Below.refl _ _).alloc (Nat.le_refl _) _
  rcases h with ⟨rfl, rfl⟩ | ⟨xs, g, a, c, rfl, rfl, -, h0, h1, h2, -⟩
  · go_enter Try.func28, Try.ntmps28
    go_wp2_with fail
    go_ret
    exact ⟨rfl, hb⟩
  · have hc := cmp26 ka a kc c k xs _ l1 l2 (hk.below hb) (h2.below hb)
    have h0' := cell_below hb h0
    have h1' := cell_below hb h1
    simp only [overLow]
    generalize cmp k xs = C at hc
    clear h2 hk h0 h1
    go_enter Try.func28, Try.ntmps28
    go_wp2_with fail
    refine hc.mono ?_
    rintro e w1 ⟨rfl, j, rfl⟩
    go_wp2_with fail
    go_ret
    exact ⟨rfl, below_drewN' hb j⟩

set_option maxHeartbeats 1000000 in
theorem under29 (L U : Option Addr) (m : Nat) (up : Option (List Int)) (ka : Option Addr) (kc : Nat) (k : List Int) (w : World) (h : BoundAt m w U true up) (hk : BytesAt w ka kc k) (l1 : k.length ≤ 4194304) (l2 : upLen up ≤ 4194304) :
    Calls Try.prog 29 #[.agg #[.pointer L, .pointer U, .bool false, .int .i64 0], .slice ka k.length kc] w (Gives (.bool (underUp up k)) w) := by
  have hb : Below w.heap.size w (w.alloc (.cells #[.pointer L, .pointer U, .bool false, .int .i64 0] 27)) := (Below.refl _ _).alloc (Nat.le_refl _) _
  rcases h with ⟨rfl, rfl⟩ | ⟨xs, g, a, c, rfl, rfl, -, h0, h1, h2, -⟩
  · go_enter Try.func29, Try.ntmps29
    go_wp2_with fail
    go_ret
    exact ⟨rfl, hb⟩
  · have hc := cmp26 ka a kc c k xs _ l1 l2 (hk.below hb) (h2.below hb)
    have h0' := cell_below hb h0
    have h1' := cell_below hb h1
    simp only [underUp]
    generalize cmp k xs = C at hc
    clear h2 hk h0 h1
    go_enter Try.func29, Try.ntmps29
    go_wp2_with fail
    refine hc.mono ?_
    rintro e w1 ⟨rfl, j, rfl⟩
    go_wp2_with fail
    go_ret
    exact ⟨rfl, below_drewN' hb j⟩

theorem BoundAt.below {m : Nat} {w w' : World} {p : Option Addr} {ex : Bool} {b : Option (List Int)} (h : BoundAt m w p ex b) (hb : Below w.heap.size w w') : BoundAt m w' p ex b := h.kept (Kept.of_below hb)

set_option maxHeartbeats 1000000 in
theorem inRange14 (L U : Option Addr) (m : Nat) (low up : Option (List Int)) (ka : Option Addr) (kc : Nat) (k : List Int) (w : World) (hL : BoundAt m w L false low) (hU : BoundAt m w U true up) (hk : BytesAt w ka kc k) (l1 : k.length ≤ 4194304) (l2 : upLen low ≤ 4194304) (l3 : upLen up ≤ 4194304) :
    Calls Try.prog 14 #[.agg #[.pointer L, .pointer U, .bool false, .int .i64 0], .slice ka k.length kc] w (Gives (.bool (overLow low k && underUp up k)) w) := by
  have hb : Below w.heap.size w (w.alloc (.cells #[.pointer L, .pointer U, .bool false, .int .i64 0] 27)) := (Below.refl _ _).alloc (Nat.le_refl _) _
  have h1 := above28 L U m low ka kc k _ (hL.below hb) (hk.below hb) l1 l2
  cases ho : overLow low k
  · rw [ho] at h1
    clear hL hU hk
    go_enter Try.func14, Try.ntmps14
    go_wp2_with fail
    refine h1.mono ?_
    rintro e w1 ⟨rfl, hb1⟩
    go_wp2_with fail
    go_ret
    exact ⟨rfl, below_step hb hb1⟩
  · rw [ho] at h1
    have hbox := RngAt.made w
    go_enter Try.func14, Try.ntmps14
    go_wp2_with fail
    refine h1.mono ?_
    rintro e w1 ⟨rfl, hb1⟩
    have h2 := under29 L U m up ka kc k w1 ((hU.below hb).below hb1) ((hk.below hb).below hb1) l1 l3
    have q0 := cell_below hb1 (cell_new w #[.pointer L, .pointer U, .bool false, .int .i64 0] 27 0 rfl)
    have q1 := cell_below hb1 (cell_new w #[.pointer L, .pointer U, .bool false, .int .i64 0] 27 1 rfl)
    have q2 := cell_below hb1 (cell_new w #[.pointer L, .pointer U, .bool false, .int .i64 0] 27 2 rfl)
    have q3 := cell_below hb1 (cell_new w #[.pointer L, .pointer U, .bool false, .int .i64 0] 27 3 rfl)
    go_wp2_with fail
    refine h2.mono ?_
    rintro e w2 ⟨rfl, hb2⟩
    go_wp2_with fail
    go_ret
    exact ⟨rfl, below_step (below_step hb hb1) hb2⟩
end Go.Proofs.Qxb6002590a
