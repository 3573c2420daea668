import Derived.Test.Qxb6002590aKeysUp
namespace Go.Proofs.Qxb6002590a
open Go.RowKit Go.Own

set_option maxHeartbeats 4000000 in
set_option maxRecDepth 100000 in
theorem keys0 (s : Sp) (pa : Option Addr) (pc : Nat) (pfx : List Int) (W : World) (Q : Exit → Act → World → Prop) (Z : Code) (a : Act) (s2 s4 s5 s6 : Value)
    (hF : Fr24 a (.agg #[.slice s.la s.lo.length s.lc, .slice s.ha s.hi.length s.hc, .bool s.le, .bool s.he, .bool s.na]) (.slice pa pfx.length pc) s2 s4 s5 s6)
    (hZ : ∀ a', Fr24 a' (.agg #[.slice s.la s.lo.length s.lc, .slice s.ha s.hi.length s.hc, .bool s.le, .bool s.he, .bool s.na]) (.slice pa pfx.length pc) (.pointer (some ⟨W.heap.size, 0, Option.none⟩)) (.pointer (some ⟨W.heap.size + 1, 0, Option.none⟩)) (.bool false) (.pointer (some ⟨W.heap.size + 1 + 1, 0, Option.none⟩)) → Code.wp Try.prog Z Q a' (((W.alloc (.cells #[.slice s.la s.lo.length s.lc, .slice s.ha s.hi.length s.hc, .bool s.le, .bool s.he, .bool s.na] 49)).alloc (.cells #[.pointer Option.none, .pointer Option.none, .bool false, .int .i64 0] 27)).alloc (.cells #[.pointer Option.none, .pointer Option.none, .bool false, .int .i64 0] 27))) :
    Code.wp Try.prog (.seq (stm Try.f24.body 0) (.seq (stm Try.f24.body 1) Z)) Q a W := by
  have HZ := hide hZ
  clear hZ
  refine fr_open24 (fun a => Code.wp Try.prog (.seq (stm Try.f24.body 0) (.seq (stm Try.f24.body 1) Z)) Q a W) a hF ?_
  intro u3 u7 u8 u9 u10 u11 u12 u13 u14 u15 u16 u17 u18 u19 u20 u21 u22 u23 u24 u25 u26 u27 u28 u29 u30 u31 u32 u33 u34 u35 u36 u37 u38 u39 u40 u41 u42 u43 u44 u45 u46 u47 u48 u49 u50 u51 u52 u53 u54 u55 u56 u57 u58 u59 u60 u61 u62 u63 u64 u65 u66 u67 u68 u69 u70 u71 u72 u73 u74 u75 u76 u77 u78 u79 u80 u81 u82 u83 u84 u85 u86 u87 u88 u89
  dsimp only
  conv => arg 2; arg 1; whnf
  conv => arg 2; arg 2; arg 1; whnf
  go_wp2_with fail
  exact unhide HZ _ ⟨rfl, rfl, rfl, rfl, rfl, rfl, rfl, rfl⟩

theorem BoundAt.mono {m m' : Nat} {w : World} {p : Option Addr} {ex : Bool} {b : Option (List Int)} (h : BoundAt m w p ex b) (hm : m' ≤ m) : BoundAt m' w p ex b := by
  rcases h with h | ⟨xs, g, a, c, h1, h2, h3, h4, h5, h6, h7⟩
  · exact .inl h
  · exact .inr ⟨xs, g, a, c, h1, h2, Nat.le_trans hm h3, h4, h5, h6, fun b off e => Nat.le_trans hm (h7 b off e)⟩

/-- What 'keys' gives. -/
def KeysPost (pnil : Bool) (pfx : List Int) (s : Sp) (W : World) (e : Ending) (w' : World) : Prop :=
  Below W.heap.size W w' ∧ ((lowOf pnil pfx s = Option.none ∧ e = .returned (.tuple #[.agg #[.pointer Option.none, .pointer Option.none, .bool false, .int .i64 0], .bool false])) ∨
    ∃ low L U, lowOf pnil pfx s = some low ∧ e = .returned (.tuple #[.agg #[.pointer L, .pointer U, .bool false, .int .i64 0], .bool true]) ∧ BoundAt W.heap.size w' L false low ∧ BoundAt W.heap.size w' U true (upOf pnil pfx s))

set_option maxHeartbeats 4000000 in
set_option maxRecDepth 100000 in
theorem keys24 (s : Sp) (pa : Option Addr) (pc : Nat) (pfx : List Int) (W : World) (hs : s.ok W) (hp : BytesAt W pa pc pfx) (hpU : U8 pfx) (l1 : pfx.length ≤ 2097152) (l2 : s.lo.length ≤ 2097152) (l3 : s.hi.length ≤ 2097152) :
    Calls Try.prog 24 #[.agg #[.slice s.la s.lo.length s.lc, .slice s.ha s.hi.length s.hc, .bool s.le, .bool s.he, .bool s.na], .slice pa pfx.length pc] W (KeysPost pa.isNone pfx s W) := by
  have h1 : Below W.heap.size W (W.alloc (.cells #[.slice s.la s.lo.length s.lc, .slice s.ha s.hi.length s.hc, .bool s.le, .bool s.he, .bool s.na] 49)) := (Below.refl _ _).alloc (Nat.le_refl _) _
  have h2 : Below (W.alloc (.cells #[.slice s.la s.lo.length s.lc, .slice s.ha s.hi.length s.hc, .bool s.le, .bool s.he, .bool s.na] 49)).heap.size (W.alloc (.cells #[.slice s.la s.lo.length s.lc, .slice s.ha s.hi.length s.hc, .bool s.le, .bool s.he, .bool s.na] 49)) ((W.alloc (.cells #[.slice s.la s.lo.length s.lc, .slice s.ha s.hi.length s.hc, .bool s.le, .bool s.he, .bool s.na] 49)).alloc (.cells #[.pointer Option.none, .pointer Option.none, .bool false, .int .i64 0] 27)) := (Below.refl _ _).alloc (Nat.le_refl _) _
  have h3 : Below ((W.alloc (.cells #[.slice s.la s.lo.length s.lc, .slice s.ha s.hi.length s.hc, .bool s.le, .bool s.he, .bool s.na] 49)).alloc (.cells #[.pointer Option.none, .pointer Option.none, .bool false, .int .i64 0] 27)).heap.size ((W.alloc (.cells #[.slice s.la s.lo.length s.lc, .slice s.ha s.hi.length s.hc, .bool s.le, .bool s.he, .bool s.na] 49)).alloc (.cells #[.pointer Option.none, .pointer Option.none, .bool false, .int .i64 0] 27)) (((W.alloc (.cells #[.slice s.la s.lo.length s.lc, .slice s.ha s.hi.length s.hc, .bool s.le, .bool s.he, .bool s.na] 49)).alloc (.cells #[.pointer Option.none, .pointer Option.none, .bool false, .int .i64 0] 27)).alloc (.cells #[.pointer Option.none, .pointer Option.none, .bool false, .int .i64 0] 27)) := (Below.refl _ _).alloc (Nat.le_refl _) _
  have hb : Below W.heap.size W (((W.alloc (.cells #[.slice s.la s.lo.length s.lc, .slice s.ha s.hi.length s.hc, .bool s.le, .bool s.he, .bool s.na] 49)).alloc (.cells #[.pointer Option.none, .pointer Option.none, .bool false, .int .i64 0] 27)).alloc (.cells #[.pointer Option.none, .pointer Option.none, .bool false, .int .i64 0] 27)) := below_step (below_step h1 h2) h3
  have hsp : SpAt (((W.alloc (.cells #[.slice s.la s.lo.length s.lc, .slice s.ha s.hi.length s.hc, .bool s.le, .bool s.he, .bool s.na] 49)).alloc (.cells #[.pointer Option.none, .pointer Option.none, .bool false, .int .i64 0] 27)).alloc (.cells #[.pointer Option.none, .pointer Option.none, .bool false, .int .i64 0] 27)) W.heap.size 0 s := SpAt.below (w := W.alloc (.cells #[.slice s.la s.lo.length s.lc, .slice s.ha s.hi.length s.hc, .bool s.le, .bool s.he, .bool s.na] 49)) ⟨cell_new _ _ _ 0 rfl, cell_new _ _ _ 1 rfl, cell_new _ _ _ 2 rfl, cell_new _ _ _ 3 rfl, cell_new _ _ _ 4 rfl⟩ (below_step h2 h3)
  have hq : RngAt (((W.alloc (.cells #[.slice s.la s.lo.length s.lc, .slice s.ha s.hi.length s.hc, .bool s.le, .bool s.he, .bool s.na] 49)).alloc (.cells #[.pointer Option.none, .pointer Option.none, .bool false, .int .i64 0] 27)).alloc (.cells #[.pointer Option.none, .pointer Option.none, .bool false, .int .i64 0] 27)) (W.heap.size + 1) Option.none Option.none := by
    have := (RngAt.made (W.alloc (.cells #[.slice s.la s.lo.length s.lc, .slice s.ha s.hi.length s.hc, .bool s.le, .bool s.he, .bool s.na] 49))).below h3
    simpa using this
  have hr : RngAt (((W.alloc (.cells #[.slice s.la s.lo.length s.lc, .slice s.ha s.hi.length s.hc, .bool s.le, .bool s.he, .bool s.na] 49)).alloc (.cells #[.pointer Option.none, .pointer Option.none, .bool false, .int .i64 0] 27)).alloc (.cells #[.pointer Option.none, .pointer Option.none, .bool false, .int .i64 0] 27)) (W.heap.size + 1 + 1) Option.none Option.none := by
    have := RngAt.made ((W.alloc (.cells #[.slice s.la s.lo.length s.lc, .slice s.ha s.hi.length s.hc, .bool s.le, .bool s.he, .bool s.na] 49)).alloc (.cells #[.pointer Option.none, .pointer Option.none, .bool false, .int .i64 0] 27))
    simpa using this
  have hm : W.heap.size + 3 ≤ (((W.alloc (.cells #[.slice s.la s.lo.length s.lc, .slice s.ha s.hi.length s.hc, .bool s.le, .bool s.he, .bool s.na] 49)).alloc (.cells #[.pointer Option.none, .pointer Option.none, .bool false, .int .i64 0] 27)).alloc (.cells #[.pointer Option.none, .pointer Option.none, .bool false, .int .i64 0] 27)).heap.size := by simp
  clear h1 h2 h3
  go_enter Try.func24, Try.ntmps24
  show Code.wp Try.prog (.seq (stm Try.f24.body 0) (.seq (stm Try.f24.body 1) (.seq (stm Try.f24.body 2) (.seq (stm Try.f24.body 3) (rst Try.f24.body 4))))) _ _ _
  refine keys0 s pa pc pfx W _ _ _ _ _ _ _ ⟨rfl, rfl, rfl, rfl, rfl, rfl, rfl, rfl⟩ ?_
  intro a1 hF1
  generalize (((W.alloc (.cells #[.slice s.la s.lo.length s.lc, .slice s.ha s.hi.length s.hc, .bool s.le, .bool s.he, .bool s.na] 49)).alloc (.cells #[.pointer Option.none, .pointer Option.none, .bool false, .int .i64 0] 27)).alloc (.cells #[.pointer Option.none, .pointer Option.none, .bool false, .int .i64 0] 27)) = w0 at hb hsp hq hr hm
  refine keysLow s pa pc pfx W w0 (W.heap.size + 3) _ _ _ _ _ a1 _ _ hs hp hpU hb hsp hq (by omega) (by omega) (by omega) hm (by omega) (by omega) l1 l2 l3 hr hF1 ?_ ?_
  · intro hlow a2 w2 hF2 hb2 hq2
    obtain ⟨k0, k1, k2, k3⟩ := hq2.cells
    refine fr_open24 (fun a => bodyPost Try.prog Try.f24 (KeysPost pa.isNone pfx s W) .ret a w2) a2 hF2 ?_
    intros
    refine bodyPost_ret (v := .tuple #[.agg #[.pointer Option.none, .pointer Option.none, .bool false, .int .i64 0], .bool false]) (by simp [results, Try.results24, go_sem, k0, k1, k2, k3]) rfl ?_
    exact ⟨hb2, .inl ⟨hlow, rfl⟩⟩
  · intro low hlow a2 w2 L hF2 hb2 hsp2 hq2 hr2 hL2 hm2
    refine keysUp s pa pc pfx W w2 (W.heap.size + 3) _ _ _ _ _ a2 _ _ L low hs hp hpU hb2 hsp2 hq2 (by omega) (by omega) hm2 (by omega) l1 l2 l3 hr2 hL2 hF2 ?_
    intro a3 w3 U hF3 hb3 hq3 hr3 hL3 hU3 hm3
    refine keysEnd pa pc pfx W w3 (W.heap.size + 3) _ _ _ _ a3 _ _ L U low _ hb3 hq3 hr3 (by omega) (by omega) hL3 hU3 hF3 ?_
    intro a4 w4 hF4 hb4 hq4 hL4 hU4
    obtain ⟨k0, k1, k2, k3⟩ := hq4.cells
    refine fr_open24 (fun a => bodyPost Try.prog Try.f24 (KeysPost pa.isNone pfx s W) .ret a w4) a4 hF4 ?_
    intros
    refine bodyPost_ret (v := .tuple #[.agg #[.pointer L, .pointer U, .bool false, .int .i64 0], .bool true]) (by simp [results, Try.results24, go_sem, k0, k1, k2, k3]) rfl ?_
    exact ⟨hb4, .inr ⟨low, L, U, hlow, rfl, hL4.mono (by omega), hU4.mono (by omega)⟩⟩

end Go.Proofs.Qxb6002590a
