import Derived.Test.Qxb6602460aVisitG
import Derived.Laws.EntriesVeiled
namespace Go.Proofs.Qxb6602460a
open Go.RowKit Go.Maps Go.Own

structure Fr37 (a : Act) (s1 s3 s4 s5 s6 s7 s8 s9 s10 s11 s24 s25 : Value) : Prop where
  size : a.tmps.size = 38
  defers : a.defers = []
  e1 : a.tmps.getD 1 undef = s1
  e3 : a.tmps.getD 3 undef = s3
  e4 : a.tmps.getD 4 undef = s4
  e5 : a.tmps.getD 5 undef = s5
  e6 : a.tmps.getD 6 undef = s6
  e7 : a.tmps.getD 7 undef = s7
  e8 : a.tmps.getD 8 undef = s8
  e9 : a.tmps.getD 9 undef = s9
  e10 : a.tmps.getD 10 undef = s10
  e11 : a.tmps.getD 11 undef = s11
  e24 : a.tmps.getD 24 undef = s24
  e25 : a.tmps.getD 25 undef = s25

set_option maxRecDepth 100000 in
theorem range_all37 (f : Nat → Value) : (List.range 38).map f = [f 0, f 1, f 2, f 3, f 4, f 5, f 6, f 7, f 8, f 9, f 10, f 11, f 12, f 13, f 14, f 15, f 16, f 17, f 18, f 19, f 20, f 21, f 22, f 23, f 24, f 25, f 26, f 27, f 28, f 29, f 30, f 31, f 32, f 33, f 34, f 35, f 36, f 37] := rfl

set_option maxRecDepth 100000 in
set_option maxHeartbeats 4000000 in
theorem fr_open37 {s1 s3 s4 s5 s6 s7 s8 s9 s10 s11 s24 s25 : Value} (P : Act → Prop) (a : Act) (h : Fr37 a s1 s3 s4 s5 s6 s7 s8 s9 s10 s11 s24 s25) (H : ∀ u0 u2 u12 u13 u14 u15 u16 u17 u18 u19 u20 u21 u22 u23 u26 u27 u28 u29 u30 u31 u32 u33 u34 u35 u36 u37 : Value, P ⟨#[u0, s1, u2, s3, s4, s5, s6, s7, s8, s9, s10, s11, u12, u13, u14, u15, u16, u17, u18, u19, u20, u21, u22, u23, s24, s25, u26, u27, u28, u29, u30, u31, u32, u33, u34, u35, u36, u37], []⟩) : P a := by
  obtain ⟨⟨l⟩, d⟩ := a
  have hs : l.length = 38 := h.size
  have hd : d = [] := h.defers
  subst hd
  have e1 : l.getD 1 undef = s1 := by simpa using h.e1
  have e3 : l.getD 3 undef = s3 := by simpa using h.e3
  have e4 : l.getD 4 undef = s4 := by simpa using h.e4
  have e5 : l.getD 5 undef = s5 := by simpa using h.e5
  have e6 : l.getD 6 undef = s6 := by simpa using h.e6
  have e7 : l.getD 7 undef = s7 := by simpa using h.e7
  have e8 : l.getD 8 undef = s8 := by simpa using h.e8
  have e9 : l.getD 9 undef = s9 := by simpa using h.e9
  have e10 : l.getD 10 undef = s10 := by simpa using h.e10
  have e11 : l.getD 11 undef = s11 := by simpa using h.e11
  have e24 : l.getD 24 undef = s24 := by simpa using h.e24
  have e25 : l.getD 25 undef = s25 := by simpa using h.e25
  subst e1 e3 e4 e5 e6 e7 e8 e9 e10 e11 e24 e25
  have e := (list_all l _ hs).trans (range_all37 _)
  have := H (l.getD 0 undef) (l.getD 2 undef) (l.getD 12 undef) (l.getD 13 undef) (l.getD 14 undef) (l.getD 15 undef) (l.getD 16 undef) (l.getD 17 undef) (l.getD 18 undef) (l.getD 19 undef) (l.getD 20 undef) (l.getD 21 undef) (l.getD 22 undef) (l.getD 23 undef) (l.getD 26 undef) (l.getD 27 undef) (l.getD 28 undef) (l.getD 29 undef) (l.getD 30 undef) (l.getD 31 undef) (l.getD 32 undef) (l.getD 33 undef) (l.getD 34 undef) (l.getD 35 undef) (l.getD 36 undef) (l.getD 37 undef)
  exact (congrArg (fun x => P ⟨⟨x⟩, []⟩) e).mpr this


/-- The memory with the search's variables laid. -/
def ocW (n : Nat) (na oa : Option Addr) (nc oc : Nat) (w : World) : World := ((((((((((((w.alloc (.cells #[.slice na n nc, .slice oa n oc] 51)).alloc (.cells (madeCells #[.int .i64 0] n) 3)).alloc (.cells #[.slice (some ⟨w.heap.size + 1, 0, Option.none⟩) n n] 22)).alloc (.cells (madeCells #[.int .i64 0] n) 3)).alloc (.cells #[.slice (some ⟨w.heap.size + 3, 0, Option.none⟩) n n] 22)).alloc (.cells (madeCells #[.bool false] n) 4)).alloc (.cells #[.slice (some ⟨w.heap.size + 5, 0, Option.none⟩) n n] 28)).alloc (.cells (madeCells #[.bool false] n) 4)).alloc (.cells #[.slice (some ⟨w.heap.size + 7, 0, Option.none⟩) n n] 28)).alloc (.cells #[.slice Option.none 0 0] 22)).alloc (.cells #[.int .i64 0] 3)).alloc ((.cells #[.func (.func 41) #[] #[.pointer (some ⟨w.heap.size + 10, 0, Option.none⟩), .pointer (some ⟨w.heap.size + 2, 0, Option.none⟩), .pointer (some ⟨w.heap.size + 4, 0, Option.none⟩), .pointer (some ⟨w.heap.size + 9, 0, Option.none⟩), .pointer (some ⟨w.heap.size + 6, 0, Option.none⟩), .pointer (some ⟨w.heap.size, 0, Option.none⟩), .pointer (some ⟨w.heap.size + 11, 0, Option.none⟩), .pointer (some ⟨w.heap.size + 8, 0, Option.none⟩)]] 59)))

theorem rowIs_at (w : World) (c : Array Value) (t : TypeId) (f : Nat → Value) {H : Nat} (hH : w.heap.size = H) (hc : ∀ i, i < c.size → c[i]? = some (f i)) : (w.alloc (.cells c t)).rowIs H t c.size f ∧ (w.alloc (.cells c t)).heap.size = H + 1 := by
  subst hH
  exact ⟨World.rowIs_alloc w c t f hc, by simp⟩
theorem made_at (w : World) (z : Value) (n : Nat) (t : TypeId) {H : Nat} (hH : w.heap.size = H) : (w.alloc (.cells (madeCells #[z] n) t)).rowIs H t n (fun _ => z) ∧ (w.alloc (.cells (madeCells #[z] n) t)).heap.size = H + 1 := by
  subst hH
  exact ⟨World.rowIs_made w z n t, by simp⟩

theorem one_at {v : Value} : ∀ i, i < (#[v] : Array Value).size → (#[v] : Array Value)[i]? = some ((fun _ => v) i) := fun i hi => by
  have : i = 0 := by simp at hi; omega
  subst this; rfl

def tZero : TS := ⟨fun _ => 0, fun _ => 0, fun _ => false, fun _ => false, [], 0⟩

theorem ocW_vs (n : Nat) (na oa : Option Addr) (nc oc : Nat) (w : World) : VS (ocW n na oa nc oc w) w.heap.size n (vF w.heap.size) na oa nc oc tZero ∧ Below w.heap.size w (ocW n na oa nc oc w) := by
  unfold ocW
  obtain ⟨r0, z0⟩ := rowIs_at w #[.slice na n nc, .slice oa n oc] 51 (fun i => if i = 0 then .slice na n nc else .slice oa n oc) rfl (fun i hi => by
    have : i = 0 ∨ i = 1 := by simp at hi; omega
    rcases this with rfl | rfl <;> rfl)
  obtain ⟨r1, z1⟩ := made_at _ (.int .i64 0) n 3 z0
  obtain ⟨r2, z2⟩ := rowIs_at _ #[.slice (some ⟨w.heap.size + 1, 0, Option.none⟩) n n] 22 (fun _ => _) z1 one_at
  obtain ⟨r3, z3⟩ := made_at _ (.int .i64 0) n 3 z2
  obtain ⟨r4, z4⟩ := rowIs_at _ #[.slice (some ⟨w.heap.size + 3, 0, Option.none⟩) n n] 22 (fun _ => _) z3 one_at
  obtain ⟨r5, z5⟩ := made_at _ (.bool false) n 4 z4
  obtain ⟨r6, z6⟩ := rowIs_at _ #[.slice (some ⟨w.heap.size + 5, 0, Option.none⟩) n n] 28 (fun _ => _) z5 one_at
  obtain ⟨r7, z7⟩ := made_at _ (.bool false) n 4 z6
  obtain ⟨r8, z8⟩ := rowIs_at _ #[.slice (some ⟨w.heap.size + 7, 0, Option.none⟩) n n] 28 (fun _ => _) z7 one_at
  obtain ⟨r9, z9⟩ := rowIs_at _ #[.slice Option.none 0 0] 22 (fun _ => _) z8 one_at
  obtain ⟨r10, z10⟩ := rowIs_at _ #[.int .i64 0] 3 (fun _ => _) z9 one_at
  obtain ⟨r11, z11⟩ := rowIs_at _ #[.func (.func 41) #[] #[.pointer (some ⟨w.heap.size + 10, 0, Option.none⟩), .pointer (some ⟨w.heap.size + 2, 0, Option.none⟩), .pointer (some ⟨w.heap.size + 4, 0, Option.none⟩), .pointer (some ⟨w.heap.size + 9, 0, Option.none⟩), .pointer (some ⟨w.heap.size + 6, 0, Option.none⟩), .pointer (some ⟨w.heap.size, 0, Option.none⟩), .pointer (some ⟨w.heap.size + 11, 0, Option.none⟩), .pointer (some ⟨w.heap.size + 8, 0, Option.none⟩)]] 59 (fun _ => _) z10 one_at
  refine ⟨⟨(((((((((((r0.alloc _).alloc _).alloc _).alloc _).alloc _).alloc _).alloc _).alloc _).alloc _).alloc _).alloc _), ((((((((((r1.alloc _).alloc _).alloc _).alloc _).alloc _).alloc _).alloc _).alloc _).alloc _).alloc _), (((((((((r2.alloc _).alloc _).alloc _).alloc _).alloc _).alloc _).alloc _).alloc _).alloc _), ((((((((r3.alloc _).alloc _).alloc _).alloc _).alloc _).alloc _).alloc _).alloc _), (((((((r4.alloc _).alloc _).alloc _).alloc _).alloc _).alloc _).alloc _), ((((((r5.alloc _).alloc _).alloc _).alloc _).alloc _).alloc _), (((((r6.alloc _).alloc _).alloc _).alloc _).alloc _), ((((r7.alloc _).alloc _).alloc _).alloc _), (((r8.alloc _).alloc _).alloc _), (r10.alloc _), r11, ⟨_, ((r9.alloc _).alloc _), OwnI.nil _ _⟩, by rw [z11]; exact Nat.le_refl _⟩, (((((((((((((Below.refl _ _).alloc (by exact Nat.le_refl _) _).alloc (by rw [z0]; omega) _).alloc (by rw [z1]; omega) _).alloc (by rw [z2]; omega) _).alloc (by rw [z3]; omega) _).alloc (by rw [z4]; omega) _).alloc (by rw [z5]; omega) _).alloc (by rw [z6]; omega) _).alloc (by rw [z7]; omega) _).alloc (by rw [z8]; omega) _).alloc (by rw [z9]; omega) _).alloc (by rw [z10]; omega) _)⟩

variable {H n v : Nat} {F : Value} {na oa : Option Addr} {nc oc : Nat} {s : TS} {w : World} {Q : Exit → Act → World → Prop} {a : Act} {s11 s24 s25 : Value} {k x : Nat}

set_option maxHeartbeats 8000000 in
set_option maxRecDepth 100000 in
theorem oc0 (Z : Code) (hn : n ≤ 65536) (ha : a = ⟨#[.agg #[.slice na n nc, .slice oa n oc], undef, undef, undef, undef, undef, undef, undef, undef, undef, undef, undef, undef, undef, undef, undef, undef, undef, undef, undef, undef, undef, undef, undef, undef, undef, undef, undef, undef, undef, undef, undef, undef, undef, undef, undef, undef, undef], []⟩)
    (hZ : ∀ a', Fr37 a' (.pointer (some ⟨w.heap.size, 0, Option.none⟩)) (.int .i64 (n : Nat)) (.pointer (some ⟨w.heap.size + 2, 0, Option.none⟩)) (.pointer (some ⟨w.heap.size + 4, 0, Option.none⟩)) (.pointer (some ⟨w.heap.size + 6, 0, Option.none⟩)) (.pointer (some ⟨w.heap.size + 8, 0, Option.none⟩)) (.pointer (some ⟨w.heap.size + 9, 0, Option.none⟩)) (.pointer (some ⟨w.heap.size + 10, 0, Option.none⟩)) (.pointer (some ⟨w.heap.size + 11, 0, Option.none⟩)) (undef) (undef) (undef) → Code.wp Try.prog Z Q a' (ocW n na oa nc oc w)) :
    Code.wp Try.prog (.seq (stm Try.f37.body 0) (.seq (stm Try.f37.body 1) (.seq (stm Try.f37.body 2) (.seq (stm Try.f37.body 3) (.seq (stm Try.f37.body 4) (.seq (stm Try.f37.body 5) (.seq (stm Try.f37.body 6) (.seq (stm Try.f37.body 7) (.seq (stm Try.f37.body 8) (.seq (stm Try.f37.body 9) Z)))))))))) Q a w := by
  subst ha
  have hmk := run_make_row' (P := Try.prog) 22 3 (.int .i64 0) 8 Try.underlying22 Try.info3 rfl .i64 .i64 n (by omega) (by omega)
  have hmk2 := run_make_row' (P := Try.prog) 28 4 (.bool false) 1 Try.underlying28 Try.info4 rfl .i64 .i64 n (by omega) (by omega)
  have hmf : ∀ (fn : Fn) (first cap : Array Value) (w : World), (Instr.makeFunc fn first cap).run Try.prog w = .ok (.func fn first cap) w := fun _ _ _ _ => rfl
  have HZ := hide hZ
  clear hZ
  conv => arg 2; arg 1; whnf
  conv => arg 2; arg 2; arg 1; whnf
  conv => arg 2; arg 2; arg 2; arg 1; whnf
  conv => arg 2; arg 2; arg 2; arg 2; arg 1; whnf
  conv => arg 2; arg 2; arg 2; arg 2; arg 2; arg 1; whnf
  conv => arg 2; arg 2; arg 2; arg 2; arg 2; arg 2; arg 1; whnf
  conv => arg 2; arg 2; arg 2; arg 2; arg 2; arg 2; arg 2; arg 1; whnf
  conv => arg 2; arg 2; arg 2; arg 2; arg 2; arg 2; arg 2; arg 2; arg 1; whnf
  conv => arg 2; arg 2; arg 2; arg 2; arg 2; arg 2; arg 2; arg 2; arg 2; arg 1; whnf
  conv => arg 2; arg 2; arg 2; arg 2; arg 2; arg 2; arg 2; arg 2; arg 2; arg 2; arg 1; whnf
  go_wp2_with fail
  exact unhide HZ _ ⟨rfl, rfl, rfl, rfl, rfl, rfl, rfl, rfl, rfl, rfl, rfl, rfl, rfl, rfl⟩

set_option maxHeartbeats 8000000 in
set_option maxRecDepth 100000 in
theorem oc10 (hF : Fr37 a (.pointer (some ⟨H, 0, Option.none⟩)) (.int .i64 (n : Nat)) (.pointer (some ⟨H + 2, 0, Option.none⟩)) (.pointer (some ⟨H + 4, 0, Option.none⟩)) (.pointer (some ⟨H + 6, 0, Option.none⟩)) (.pointer (some ⟨H + 8, 0, Option.none⟩)) (.pointer (some ⟨H + 9, 0, Option.none⟩)) (.pointer (some ⟨H + 10, 0, Option.none⟩)) (.pointer (some ⟨H + 11, 0, Option.none⟩)) (s11) (s24) (s25))
    (hZ : ∀ a', Fr37 a' (.pointer (some ⟨H, 0, Option.none⟩)) (.int .i64 (n : Nat)) (.pointer (some ⟨H + 2, 0, Option.none⟩)) (.pointer (some ⟨H + 4, 0, Option.none⟩)) (.pointer (some ⟨H + 6, 0, Option.none⟩)) (.pointer (some ⟨H + 8, 0, Option.none⟩)) (.pointer (some ⟨H + 9, 0, Option.none⟩)) (.pointer (some ⟨H + 10, 0, Option.none⟩)) (.pointer (some ⟨H + 11, 0, Option.none⟩)) (s11) (.int .i64 (n : Nat)) (.int .i64 0) → Q .normal a' w) :
    Code.wp Try.prog (headC (stm Try.f37.body 10)) Q a w := by
  have HZ := hide hZ
  clear hZ
  refine fr_open37 (fun a => Code.wp Try.prog (headC (stm Try.f37.body 10)) Q a w) a hF ?_
  intro u0 u2 u12 u13 u14 u15 u16 u17 u18 u19 u20 u21 u22 u23 u26 u27 u28 u29 u30 u31 u32 u33 u34 u35 u36 u37
  dsimp only
  conv => arg 2; whnf
  go_wp2_with fail
  exact unhide HZ _ ⟨rfl, rfl, rfl, rfl, rfl, rfl, rfl, rfl, rfl, rfl, rfl, rfl, rfl, rfl⟩

set_option maxHeartbeats 8000000 in
set_option maxRecDepth 100000 in
theorem oc11 (X : Code)
    (hF : Fr37 a (.pointer (some ⟨H, 0, Option.none⟩)) (.int .i64 (n : Nat)) (.pointer (some ⟨H + 2, 0, Option.none⟩)) (.pointer (some ⟨H + 4, 0, Option.none⟩)) (.pointer (some ⟨H + 6, 0, Option.none⟩)) (.pointer (some ⟨H + 8, 0, Option.none⟩)) (.pointer (some ⟨H + 9, 0, Option.none⟩)) (.pointer (some ⟨H + 10, 0, Option.none⟩)) (.pointer (some ⟨H + 11, 0, Option.none⟩)) (s11) (.int .i64 (n : Nat)) (.int .i64 (k : Nat)))
    (h1 : k < n → ∀ a', Fr37 a' (.pointer (some ⟨H, 0, Option.none⟩)) (.int .i64 (n : Nat)) (.pointer (some ⟨H + 2, 0, Option.none⟩)) (.pointer (some ⟨H + 4, 0, Option.none⟩)) (.pointer (some ⟨H + 6, 0, Option.none⟩)) (.pointer (some ⟨H + 8, 0, Option.none⟩)) (.pointer (some ⟨H + 9, 0, Option.none⟩)) (.pointer (some ⟨H + 10, 0, Option.none⟩)) (.pointer (some ⟨H + 11, 0, Option.none⟩)) (s11) (.int .i64 (n : Nat)) (.int .i64 (k : Nat)) → Code.wp Try.prog X Q a' w)
    (h2 : ¬ k < n → ∀ a', Fr37 a' (.pointer (some ⟨H, 0, Option.none⟩)) (.int .i64 (n : Nat)) (.pointer (some ⟨H + 2, 0, Option.none⟩)) (.pointer (some ⟨H + 4, 0, Option.none⟩)) (.pointer (some ⟨H + 6, 0, Option.none⟩)) (.pointer (some ⟨H + 8, 0, Option.none⟩)) (.pointer (some ⟨H + 9, 0, Option.none⟩)) (.pointer (some ⟨H + 10, 0, Option.none⟩)) (.pointer (some ⟨H + 11, 0, Option.none⟩)) (s11) (.int .i64 (n : Nat)) (.int .i64 (k : Nat)) → Q (.exit 0) a' w) :
    Code.wp Try.prog (.seq (headC (innerC (innerC (tailC (stm Try.f37.body 10))))) (.seq (headC (tailC (innerC (innerC (tailC (stm Try.f37.body 10)))))) X)) Q a w := by
  by_cases hk : k < n
  · have HZ := hide (h1 hk)
    have lk : (k : Int) < (n : Int) := by omega
    clear h1 h2 hk
    refine fr_open37 (fun a => Code.wp Try.prog (.seq (headC (innerC (innerC (tailC (stm Try.f37.body 10))))) (.seq (headC (tailC (innerC (innerC (tailC (stm Try.f37.body 10)))))) X)) Q a w) a hF ?_
    intro u0 u2 u12 u13 u14 u15 u16 u17 u18 u19 u20 u21 u22 u23 u26 u27 u28 u29 u30 u31 u32 u33 u34 u35 u36 u37
    dsimp only
    conv => arg 2; arg 1; whnf
    conv => arg 2; arg 2; arg 1; whnf
    go_wp2_with fail
    exact unhide HZ _ ⟨rfl, rfl, rfl, rfl, rfl, rfl, rfl, rfl, rfl, rfl, rfl, rfl, rfl, rfl⟩
  · have HZ := hide (h2 hk)
    have lk : ¬ (k : Int) < (n : Int) := by omega
    clear h1 h2 hk
    refine fr_open37 (fun a => Code.wp Try.prog (.seq (headC (innerC (innerC (tailC (stm Try.f37.body 10))))) (.seq (headC (tailC (innerC (innerC (tailC (stm Try.f37.body 10)))))) X)) Q a w) a hF ?_
    intro u0 u2 u12 u13 u14 u15 u16 u17 u18 u19 u20 u21 u22 u23 u26 u27 u28 u29 u30 u31 u32 u33 u34 u35 u36 u37
    dsimp only
    conv => arg 2; arg 1; whnf
    conv => arg 2; arg 2; arg 1; whnf
    go_wp2_with fail
    exact unhide HZ _ ⟨rfl, rfl, rfl, rfl, rfl, rfl, rfl, rfl, rfl, rfl, rfl, rfl, rfl, rfl⟩

set_option maxHeartbeats 8000000 in
set_option maxRecDepth 100000 in
theorem oc12 (X Y : Code) (h : VS w H n F na oa nc oc s) (hk : k < n)
    (hF : Fr37 a (.pointer (some ⟨H, 0, Option.none⟩)) (.int .i64 (n : Nat)) (.pointer (some ⟨H + 2, 0, Option.none⟩)) (.pointer (some ⟨H + 4, 0, Option.none⟩)) (.pointer (some ⟨H + 6, 0, Option.none⟩)) (.pointer (some ⟨H + 8, 0, Option.none⟩)) (.pointer (some ⟨H + 9, 0, Option.none⟩)) (.pointer (some ⟨H + 10, 0, Option.none⟩)) (.pointer (some ⟨H + 11, 0, Option.none⟩)) (s11) (.int .i64 (n : Nat)) (.int .i64 (k : Nat)))
    (h1 : s.ord k = 0 → ∀ a', Fr37 a' (.pointer (some ⟨H, 0, Option.none⟩)) (.int .i64 (n : Nat)) (.pointer (some ⟨H + 2, 0, Option.none⟩)) (.pointer (some ⟨H + 4, 0, Option.none⟩)) (.pointer (some ⟨H + 6, 0, Option.none⟩)) (.pointer (some ⟨H + 8, 0, Option.none⟩)) (.pointer (some ⟨H + 9, 0, Option.none⟩)) (.pointer (some ⟨H + 10, 0, Option.none⟩)) (.pointer (some ⟨H + 11, 0, Option.none⟩)) (.int .i64 (k : Nat)) (.int .i64 (n : Nat)) (.int .i64 (k : Nat)) → Code.wp Try.prog X Q a' w)
    (h2 : ¬ s.ord k = 0 → ∀ a', Fr37 a' (.pointer (some ⟨H, 0, Option.none⟩)) (.int .i64 (n : Nat)) (.pointer (some ⟨H + 2, 0, Option.none⟩)) (.pointer (some ⟨H + 4, 0, Option.none⟩)) (.pointer (some ⟨H + 6, 0, Option.none⟩)) (.pointer (some ⟨H + 8, 0, Option.none⟩)) (.pointer (some ⟨H + 9, 0, Option.none⟩)) (.pointer (some ⟨H + 10, 0, Option.none⟩)) (.pointer (some ⟨H + 11, 0, Option.none⟩)) (.int .i64 (k : Nat)) (.int .i64 (n : Nat)) (.int .i64 (k : Nat)) → Code.wp Try.prog Y Q a' w) :
    Code.wp Try.prog (.seq (headC (innerC (headC (tailC (tailC (innerC (innerC (tailC (stm Try.f37.body 10))))))))) (.seq (headC (tailC (innerC (headC (tailC (tailC (innerC (innerC (tailC (stm Try.f37.body 10)))))))))) (.cond (.tmp 32) X Y))) Q a w := by
  have c1 := h.bo.cell (i := 0) (by omega)
  have d1 := h.ro.cell (i := k) hk
  have lx : (k : Int) < (n : Int) := by omega
  clear h
  by_cases hc : s.ord k = 0
  · have HZ := hide (h1 hc)
    rw [hc] at d1
    clear h1 h2
    refine fr_open37 (fun a => Code.wp Try.prog (.seq (headC (innerC (headC (tailC (tailC (innerC (innerC (tailC (stm Try.f37.body 10))))))))) (.seq (headC (tailC (innerC (headC (tailC (tailC (innerC (innerC (tailC (stm Try.f37.body 10)))))))))) (.cond (.tmp 32) X Y))) Q a w) a hF ?_
    intro u0 u2 u12 u13 u14 u15 u16 u17 u18 u19 u20 u21 u22 u23 u26 u27 u28 u29 u30 u31 u32 u33 u34 u35 u36 u37
    dsimp only
    conv => arg 2; arg 1; whnf
    conv => arg 2; arg 2; arg 1; whnf
    go_wp2_with fail
    exact unhide HZ _ ⟨rfl, rfl, rfl, rfl, rfl, rfl, rfl, rfl, rfl, rfl, rfl, rfl, rfl, rfl⟩
  · have HZ := hide (h2 hc)
    have t1 : ¬ ((s.ord k : Nat) : Int) = 0 := by omega
    clear h1 h2
    refine fr_open37 (fun a => Code.wp Try.prog (.seq (headC (innerC (headC (tailC (tailC (innerC (innerC (tailC (stm Try.f37.body 10))))))))) (.seq (headC (tailC (innerC (headC (tailC (tailC (innerC (innerC (tailC (stm Try.f37.body 10)))))))))) (.cond (.tmp 32) X Y))) Q a w) a hF ?_
    intro u0 u2 u12 u13 u14 u15 u16 u17 u18 u19 u20 u21 u22 u23 u26 u27 u28 u29 u30 u31 u32 u33 u34 u35 u36 u37
    dsimp only
    conv => arg 2; arg 1; whnf
    conv => arg 2; arg 2; arg 1; whnf
    go_wp2_with fail
    exact unhide HZ _ ⟨rfl, rfl, rfl, rfl, rfl, rfl, rfl, rfl, rfl, rfl, rfl, rfl, rfl, rfl⟩

set_option maxHeartbeats 8000000 in
set_option maxRecDepth 100000 in
theorem oc14 (R : Ending → World → Prop) (hc : w.cell? ⟨H + 11, 0, Option.none⟩ = some (.func (.func 41) #[] #[.pointer (some ⟨H + 10, 0, Option.none⟩), .pointer (some ⟨H + 2, 0, Option.none⟩), .pointer (some ⟨H + 4, 0, Option.none⟩), .pointer (some ⟨H + 9, 0, Option.none⟩), .pointer (some ⟨H + 6, 0, Option.none⟩), .pointer (some ⟨H, 0, Option.none⟩), .pointer (some ⟨H + 11, 0, Option.none⟩), .pointer (some ⟨H + 8, 0, Option.none⟩)]))
    (hcall : Calls Try.prog 41 #[.int .i64 (k : Nat), .pointer (some ⟨H + 10, 0, Option.none⟩), .pointer (some ⟨H + 2, 0, Option.none⟩), .pointer (some ⟨H + 4, 0, Option.none⟩), .pointer (some ⟨H + 9, 0, Option.none⟩), .pointer (some ⟨H + 6, 0, Option.none⟩), .pointer (some ⟨H, 0, Option.none⟩), .pointer (some ⟨H + 11, 0, Option.none⟩), .pointer (some ⟨H + 8, 0, Option.none⟩)] w R)
    (hF : Fr37 a (.pointer (some ⟨H, 0, Option.none⟩)) (.int .i64 (n : Nat)) (.pointer (some ⟨H + 2, 0, Option.none⟩)) (.pointer (some ⟨H + 4, 0, Option.none⟩)) (.pointer (some ⟨H + 6, 0, Option.none⟩)) (.pointer (some ⟨H + 8, 0, Option.none⟩)) (.pointer (some ⟨H + 9, 0, Option.none⟩)) (.pointer (some ⟨H + 10, 0, Option.none⟩)) (.pointer (some ⟨H + 11, 0, Option.none⟩)) (.int .i64 (k : Nat)) (.int .i64 (n : Nat)) (.int .i64 (k : Nat)))
    (hR : ∀ e w', R e w' → e = .returned (.tuple #[]))
    (hZ : ∀ a' w', Fr37 a' (.pointer (some ⟨H, 0, Option.none⟩)) (.int .i64 (n : Nat)) (.pointer (some ⟨H + 2, 0, Option.none⟩)) (.pointer (some ⟨H + 4, 0, Option.none⟩)) (.pointer (some ⟨H + 6, 0, Option.none⟩)) (.pointer (some ⟨H + 8, 0, Option.none⟩)) (.pointer (some ⟨H + 9, 0, Option.none⟩)) (.pointer (some ⟨H + 10, 0, Option.none⟩)) (.pointer (some ⟨H + 11, 0, Option.none⟩)) (.int .i64 (k : Nat)) (.int .i64 (n : Nat)) (.int .i64 (k : Nat)) → R (.returned (.tuple #[])) w' → Q .normal a' w') :
    Code.wp Try.prog (condT (tailC (tailC (innerC (headC (tailC (tailC (innerC (innerC (tailC (stm Try.f37.body 10))))))))))) Q a w := by
  have HZ := hide hZ
  have HR := hide hR
  clear hZ hR
  refine fr_open37 (fun a => Code.wp Try.prog (condT (tailC (tailC (innerC (headC (tailC (tailC (innerC (innerC (tailC (stm Try.f37.body 10))))))))))) Q a w) a hF ?_
  intro u0 u2 u12 u13 u14 u15 u16 u17 u18 u19 u20 u21 u22 u23 u26 u27 u28 u29 u30 u31 u32 u33 u34 u35 u36 u37
  dsimp only
  conv => arg 2; whnf
  go_wp2_with fail
  refine hcall.mono ?_
  intro e w2 hr
  have he := unhide HR e w2 hr
  subst he
  have HQ := hide hr
  clear hr
  go_wp2_with fail
  exact unhide HZ _ _ ⟨rfl, rfl, rfl, rfl, rfl, rfl, rfl, rfl, rfl, rfl, rfl, rfl, rfl, rfl⟩ (unhide HQ)

theorem oc15 (hk : k < n) (hn : n ≤ 65536)
    (hF : Fr37 a (.pointer (some ⟨H, 0, Option.none⟩)) (.int .i64 (n : Nat)) (.pointer (some ⟨H + 2, 0, Option.none⟩)) (.pointer (some ⟨H + 4, 0, Option.none⟩)) (.pointer (some ⟨H + 6, 0, Option.none⟩)) (.pointer (some ⟨H + 8, 0, Option.none⟩)) (.pointer (some ⟨H + 9, 0, Option.none⟩)) (.pointer (some ⟨H + 10, 0, Option.none⟩)) (.pointer (some ⟨H + 11, 0, Option.none⟩)) (s11) (.int .i64 (n : Nat)) (.int .i64 (k : Nat)))
    (hZ : ∀ a', Fr37 a' (.pointer (some ⟨H, 0, Option.none⟩)) (.int .i64 (n : Nat)) (.pointer (some ⟨H + 2, 0, Option.none⟩)) (.pointer (some ⟨H + 4, 0, Option.none⟩)) (.pointer (some ⟨H + 6, 0, Option.none⟩)) (.pointer (some ⟨H + 8, 0, Option.none⟩)) (.pointer (some ⟨H + 9, 0, Option.none⟩)) (.pointer (some ⟨H + 10, 0, Option.none⟩)) (.pointer (some ⟨H + 11, 0, Option.none⟩)) (s11) (.int .i64 (n : Nat)) (.int .i64 ((k + 1 : Nat) : Int)) → Q .normal a' w) :
    Code.wp Try.prog (tailC (tailC (tailC (innerC (innerC (tailC (stm Try.f37.body 10))))))) Q a w := by
  have HZ := hide hZ
  clear hZ
  refine fr_open37 (fun a => Code.wp Try.prog (tailC (tailC (tailC (innerC (innerC (tailC (stm Try.f37.body 10))))))) Q a w) a hF ?_
  intro u0 u2 u12 u13 u14 u15 u16 u17 u18 u19 u20 u21 u22 u23 u26 u27 u28 u29 u30 u31 u32 u33 u34 u35 u36 u37
  dsimp only
  conv => arg 2; whnf
  go_wp2_with fail
  exact unhide HZ _ ⟨rfl, rfl, rfl, rfl, rfl, rfl, rfl, rfl, rfl, rfl, rfl, rfl, rfl, rfl⟩

/-- What onCycle leaves. -/
def OcPost (n : Nat) (out : Nat → List Nat) (w : World) (e : Ending) (w' : World) : Prop :=
  ∃ cyc : Nat → Bool, e = .returned (.slice (some ⟨w.heap.size + 7, 0, Option.none⟩) n n) ∧ Below w.heap.size w w' ∧ w'.rowIs (w.heap.size + 7) 4 n (fun i => .bool (cyc i)) ∧ ∀ x, x < n → (cyc x = true ↔ OnCyc (Ed out) x)

theorem code37 : (stm Try.f37.body 10) = .seq (headC (stm Try.f37.body 10)) (.block 0 (.loop (innerC (innerC (tailC (stm Try.f37.body 10)))))) := rfl
theorem code37L : (innerC (innerC (tailC (stm Try.f37.body 10)))) = .seq (headC (innerC (innerC (tailC (stm Try.f37.body 10))))) (.seq (headC (tailC (innerC (innerC (tailC (stm Try.f37.body 10)))))) (.seq (.block 1 (.seq (headC (innerC (headC (tailC (tailC (innerC (innerC (tailC (stm Try.f37.body 10))))))))) (.seq (headC (tailC (innerC (headC (tailC (tailC (innerC (innerC (tailC (stm Try.f37.body 10)))))))))) (.cond (.tmp 32) (condT (tailC (tailC (innerC (headC (tailC (tailC (innerC (innerC (tailC (stm Try.f37.body 10))))))))))) .skip)))) (tailC (tailC (tailC (innerC (innerC (tailC (stm Try.f37.body 10))))))))) := rfl

def OcI (W : World) (H n : Nat) (na oa : Option Addr) (nc oc : Nat) (out : Nat → List Nat) (a : Act) (w : World) : Prop :=
  ∃ k s11, k ≤ n ∧ Fr37 a (.pointer (some ⟨H, 0, Option.none⟩)) (.int .i64 (n : Nat)) (.pointer (some ⟨H + 2, 0, Option.none⟩)) (.pointer (some ⟨H + 4, 0, Option.none⟩)) (.pointer (some ⟨H + 6, 0, Option.none⟩)) (.pointer (some ⟨H + 8, 0, Option.none⟩)) (.pointer (some ⟨H + 9, 0, Option.none⟩)) (.pointer (some ⟨H + 10, 0, Option.none⟩)) (.pointer (some ⟨H + 11, 0, Option.none⟩)) (s11) (.int .i64 (n : Nat)) (.int .i64 (k : Nat)) ∧ ∃ s, VS w H n (vF H) na oa nc oc s ∧ TInv (Ed out) n [] s ∧ Fit s n ∧ Below H W w ∧ ∀ x, x < k → s.ord x ≠ 0

theorem wc_all (n : Nat) : wc tZero n = n := by
  have : (List.range n).filter (fun x => tZero.ord x == 0) = List.range n := by
    rw [List.filter_eq_self]; intro x _; rfl
  unfold wc; rw [this]; simp

theorem onCycle37 {out : Nat → List Nat} {A : Nat → Option Addr} {C : Nat → Nat}
    (hgr : Gr w oa n oc A C out) (hn : n ≤ 65536) (hin : ∀ i, i < n → ∀ y, y ∈ out i → y < n) (hlen : ∀ i, i < n → (out i).length ≤ 1048576) :
    Calls Try.prog 37 #[.agg #[.slice na n nc, .slice oa n oc]] w (OcPost n out w) := by
  have ih := visit (na := na) (nc := nc) hgr rfl hn hin hlen
  go_enter Try.func37, Try.ntmps37
  show Code.wp Try.prog (.seq (stm Try.f37.body 0) (.seq (stm Try.f37.body 1) (.seq (stm Try.f37.body 2) (.seq (stm Try.f37.body 3) (.seq (stm Try.f37.body 4) (.seq (stm Try.f37.body 5) (.seq (stm Try.f37.body 6) (.seq (stm Try.f37.body 7) (.seq (stm Try.f37.body 8) (.seq (stm Try.f37.body 9) (.seq (stm Try.f37.body 10) (rst Try.f37.body 11)))))))))))) _ _ _
  refine oc0 _ hn rfl fun a1 h1 => ?_
  obtain ⟨hV, hB⟩ := ocW_vs n na oa nc oc w
  generalize ocW n na oa nc oc w = w1 at hV hB
  generalize hH : w.heap.size = H at *
  refine wp_seq ?_
  rw [code37]
  refine wp_seq (oc10 h1 fun a2 h2 => ?_)
  refine wp_block (wp_loop (OcI w H n na oa nc oc out) (fun a _ => n - (intOf (a.tmps.getD 25 undef)).toNat) ⟨0, _, Nat.zero_le _, h2, _, hV, TInv.first n, ⟨by rw [wc_all]; show 0 + n ≤ n; omega, Nat.le_refl _⟩, hB, fun x hx => absurd hx (Nat.not_lt_zero _)⟩ ?_)
  rintro a3 w3 ⟨k, s11, hk, h3, s, hV3, hT3, hF3, hB3, hall⟩
  have hmu : n - (intOf (a3.tmps.getD 25 undef)).toNat = n - k := by rw [h3.e25]; simp [intOf]
  rw [code37L]
  refine oc11 _ h3 (fun hlt a4 h4 => ?_) (fun hnl a4 h4 => ?_)
  · refine wp_seq (wp_block ?_)
    have fin : ∀ (Q' : Exit → Act → World → Prop) (a5 : Act) (w5 : World) (s' : TS) (s11 : Value), (∀ a' w', OcI w H n na oa nc oc out a' w' ∧ n - (intOf (a'.tmps.getD 25 undef)).toNat < n - (intOf (a3.tmps.getD 25 undef)).toNat → Q' .normal a' w') → Fr37 a5 (.pointer (some ⟨H, 0, Option.none⟩)) (.int .i64 (n : Nat)) (.pointer (some ⟨H + 2, 0, Option.none⟩)) (.pointer (some ⟨H + 4, 0, Option.none⟩)) (.pointer (some ⟨H + 6, 0, Option.none⟩)) (.pointer (some ⟨H + 8, 0, Option.none⟩)) (.pointer (some ⟨H + 9, 0, Option.none⟩)) (.pointer (some ⟨H + 10, 0, Option.none⟩)) (.pointer (some ⟨H + 11, 0, Option.none⟩)) (s11) (.int .i64 (n : Nat)) (.int .i64 (k : Nat)) →
        VS w5 H n (vF H) na oa nc oc s' → TInv (Ed out) n [] s' → Fit s' n → Below H w w5 → (∀ x, x < k + 1 → s'.ord x ≠ 0) → Code.wp Try.prog (tailC (tailC (tailC (innerC (innerC (tailC (stm Try.f37.body 10))))))) Q' a5 w5 := fun Q' a5 w5 s' s11 hq g1 g2 g3 g4 g5 g6 => oc15 hlt hn g1 fun a6 g7 => hq _ _ ⟨⟨k + 1, _, hlt, g7, s', g2, g3, g4, g5, g6⟩, by
          rw [hmu, g7.e25]; simp [intOf]; omega⟩
    refine oc12 _ _ hV3 hlt h4 (fun hw a5 h5 => ?_) (fun hw a5 h5 => ?_)
    · have hcall := ih (wc s n) k [] s w3 (Nat.le_refl _) hV3 hB3 hT3 hw hlt (fun g hg => absurd hg (by simp)) hF3
      refine oc14 _ (hV3.bf.cell (i := 0) (by omega)) hcall h5 (fun e w' hr => by obtain ⟨_, he, _⟩ := hr; exact he) fun a6 w6 h6 hr => ?_
      obtain ⟨d, -, hP, hV6, hB6, hFit6⟩ := hr
      refine fin _ a6 w6 d _ (fun _ _ h => h) h6 hV6 hP.inv hFit6 hB6 fun x hx => ?_
      by_cases e : x = k
      · subst e; rw [hP.vo]; omega
      · rw [(hP.ext.old x (hall x (by omega))).1]; exact hall x (by omega)
    · refine wp_skip ?_
      refine fin _ a5 w3 s _ (fun _ _ h => h) h5 hV3 hT3 hF3 hB3 fun x hx => ?_
      by_cases e : x = k
      · subst e; exact hw
      · exact hall x (by omega)
  · obtain rfl : k = n := by omega
    show Exit.inBlock 0 (Exit.then (Code.wp Try.prog (rst Try.f37.body 11) (bodyPost Try.prog Try.f37 (OcPost k out w))) (bodyPost Try.prog Try.f37 (OcPost k out w))) (.exit 0) a4 w3
    refine inBlock_hit ?_
    show Code.wp Try.prog (rst Try.f37.body 11) (bodyPost Try.prog Try.f37 (OcPost k out w)) a4 w3
    have hdone := fun x (hx : x < k) => hT3.done hall hx
    have c1 := hV3.bc.cell (i := 0) (by omega)
    have hrow := hV3.rc
    have HP := hide (show OcPost k out w (.returned (.slice (some ⟨w.heap.size + 7, 0, Option.none⟩) k k)) w3 from ⟨s.cyc, rfl, by rw [hH]; exact hB3, by rw [hH]; exact hrow, hdone⟩)
    rw [hH] at HP
    clear hdone hrow hV3 hT3 hF3 hB3 hall hV hB ih hgr hin hlen h3 h2 h1 hmu
    refine fr_open37 (fun a => Code.wp Try.prog (rst Try.f37.body 11) (bodyPost Try.prog Try.f37 (OcPost k out w)) a w3) a4 h4 ?_
    intro u0 u2 u12 u13 u14 u15 u16 u17 u18 u19 u20 u21 u22 u23 u26 u27 u28 u29 u30 u31 u32 u33 u34 u35 u36 u37
    dsimp only
    conv => arg 2; whnf
    go_wp2_with fail
    go_ret
    exact unhide HP
end Go.Proofs.Qxb6602460a
