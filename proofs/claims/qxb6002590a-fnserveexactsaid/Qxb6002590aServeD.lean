import Derived.Test.Qxb6002590aServeC
namespace Go.Proofs.Qxb6002590a
open Go.RowKit Go.Own

/-- The span that goes into the keys. -/
def zeroSp : Sp := ⟨Option.none, 0, [], Option.none, 0, [], false, false, false⟩
def nextOf (S : Nat → Sp) (κ : Nat → Nat) (kn q : Nat) : Sp := if q < kn then S (κ q) else zeroSp

/-- What comes back where all is served: the keys' answer. -/
def Served (pnil : Bool) (pfx : List Int) (s : Sp) (m : Nat) (w' : World) (L U : Option Addr) (ok : Bool) : Prop :=
  (lowOf pnil pfx s = Option.none ∧ L = Option.none ∧ U = Option.none ∧ ok = false) ∨ ∃ low, lowOf pnil pfx s = some low ∧ ok = true ∧ BoundAt m w' L false low ∧ BoundAt m w' U true (upOf pnil pfx s)

theorem zeroSp_ok (w : World) : zeroSp.ok w := ⟨SliceAt.of_nil _ _, SliceAt.of_nil _ _, fun x hx => (by cases hx), fun x hx => (by cases hx)⟩

set_option maxHeartbeats 4000000 in
set_option maxRecDepth 100000 in
theorem serve6 (B off n sc kn kc qb : Nat) (ka : Option Addr) (S : Nat → Sp) (κ : Nat → Nat) (W : World) (q m : Nat) (pa : Option Addr) (pc : Nat) (pfx : List Int) (w : World) (Q : Exit → Act → World → Prop) (a : Act) (s8 s9 s15 : Value)
    (hI : In W B off n S ka kn kc κ) (hqk : q ≤ kn) (hp : BytesAt w pa pc pfx) (hpU : U8 pfx) (hpl : pfx.length ≤ 1048576) (hb : Below W.heap.size W w) (hq : RngAt w qb Option.none Option.none) (hWq : W.heap.size ≤ qb) (hqm : qb < m) (hmw : m ≤ w.heap.size)
    (hF : Fr31 a (.slice (some ⟨B, off, Option.none⟩) n sc) (.slice ka kn kc) (.pointer (some ⟨qb, 0, Option.none⟩)) (.bool false) (.slice Option.none 0 0) (.int .i64 (q : Nat)) (s8) (s9) (.slice pa pfx.length pc) (s15))
    (hQ : ∀ a' w' L U ok, Fr31 a' (.slice (some ⟨B, off, Option.none⟩) n sc) (.slice ka kn kc) (.pointer (some ⟨qb, 0, Option.none⟩)) (.bool ok) (.slice Option.none 0 0) (.int .i64 (q : Nat)) (s8) (s9) (.slice pa pfx.length pc) (.pointer (some ⟨w.heap.size, 0, Option.none⟩)) → Below W.heap.size W w' → RngAt w' qb L U → Served pa.isNone pfx (nextOf S κ kn q) m w' L U ok → Q .ret a' w') :
    Code.wp Try.prog (rst Try.f31.body 9) Q a w := by
  have HQ := hide hQ
  have hk0 := hI.k0
  have hn0 := hI.n0
  clear hQ
  by_cases hlt : q < kn
  · obtain ⟨b1, o1, rfl, hkc⟩ := hI.key.cells (by omega)
    have hkj := cell_below hb (hkc q (by omega))
    have hκ := hI.at_ q (by omega)
    obtain ⟨e0, e1, e2, e3, e4⟩ := (hI.sp _ hκ).below hb
    have hlen := hI.len _ hκ
    have hb1 : Below w.heap.size w (w.alloc (.cells #[.slice (S (κ q)).la (S (κ q)).lo.length (S (κ q)).lc, .slice (S (κ q)).ha (S (κ q)).hi.length (S (κ q)).hc, .bool (S (κ q)).le, .bool (S (κ q)).he, .bool (S (κ q)).na] 49)) := (Below.refl _ _).alloc (Nat.le_refl _) _
    have hkeys := keys24 (S (κ q)) pa pc pfx (w.alloc (.cells #[.slice (S (κ q)).la (S (κ q)).lo.length (S (κ q)).lc, .slice (S (κ q)).ha (S (κ q)).hi.length (S (κ q)).hc, .bool (S (κ q)).le, .bool (S (κ q)).he, .bool (S (κ q)).na] 49)) (((hI.ok _ hκ).below hb).below hb1) (hp.below hb1) hpU (by omega) (by omega) (by omega)
    have hmw1 : m ≤ (w.alloc (.cells #[.slice (S (κ q)).la (S (κ q)).lo.length (S (κ q)).lc, .slice (S (κ q)).ha (S (κ q)).hi.length (S (κ q)).hc, .bool (S (κ q)).le, .bool (S (κ q)).he, .bool (S (κ q)).na] 49)).heap.size := Nat.le_trans hmw hb1.size
    rw [show nextOf S κ kn q = S (κ q) from if_pos hlt] at HQ
    have h0 := cell_lt e0
    have li : (q : Int) < (kn : Int) := by omega
    have lk : ((κ q : Nat) : Int) < (n : Int) := by omega
    have e0' := (show SpAt w B (off + κ q * 5) (S (κ q)) from ⟨e0, e1, e2, e3, e4⟩).below ((Below.refl _ _).alloc (Nat.le_refl _) (.cells #[.slice Option.none 0 0, .slice Option.none 0 0, .bool false, .bool false, .bool false] 49))
    obtain ⟨d0, d1, d2, d3, d4⟩ := e0'
    have hkj' := cell_below ((Below.refl _ _).alloc (Nat.le_refl _) (.cells #[.slice Option.none 0 0, .slice Option.none 0 0, .bool false, .bool false, .bool false] 49)) hkj
    clear hkc
    refine fr_open31 (fun a => Code.wp Try.prog (rst Try.f31.body 9) Q a w) a hF ?_
    intro u2 u3 u10 u11 u13 u14 u16 u17 u18 u19 u20 u21 u22 u23 u24 u25 u26 u27 u28 u29 u30 u31 u32 u33 u34 u35 u36 u37 u38 u39 u40 u41 u42 u43 u44 u45 u46 u47 u48 u49 u50 u51 u52 u53 u54 u55 u56 u57 u58 u59 u60 u61 u62 u63 u64 u65 u66 u67 u68 u69 u70 u71 u72 u73 u74 u75 u76 u77 u78 u79 u80 u81 u82 u83 u84 u85 u86 u87 u88 u89 u90 u91 u92 u93 u94 u95 u96 u97 u98 u99
    dsimp only
    conv => arg 2; whnf
    go_wp2_with fail
    refine hkeys.mono ?_
    rintro e w2 ⟨hb2, hres⟩
    have hq2 := hq.below (below_step hb1 hb2)
    obtain ⟨L, U, ok, rfl, hS⟩ : ∃ L U ok, e = .returned (.tuple #[.agg #[.pointer L, .pointer U, .bool false, .int .i64 0], .bool ok]) ∧ Served pa.isNone pfx (S (κ q)) m w2 L U ok := by
      rcases hres with ⟨h1, h2⟩ | ⟨low, L, U, h1, h2, h3, h4⟩
      · exact ⟨_, _, _, h2, .inl ⟨h1, rfl, rfl, rfl⟩⟩
      · exact ⟨_, _, _, h2, .inr ⟨low, h1, rfl, h3.mono hmw1, h4.mono hmw1⟩⟩
    have HS := hide hS
    have hb3 : Below w2.heap.size w2 (w2.alloc (.cells #[.pointer L, .pointer U, .bool false, .int .i64 0] 27)) := (Below.refl _ _).alloc (Nat.le_refl _) _
    obtain ⟨arr, harr, hsz, -⟩ := hq2.below hb3
    clear hres hS hq2
    go_wp2_with (refine wpList_store_row rfl 27 _ _ rfl qb _ rfl rfl 27 arr harr Try.info27 hsz (by simp [Value.oneCell']) ?_)
    refine unhide HQ _ _ L U ok ⟨rfl, rfl, rfl, rfl, rfl, rfl, rfl, rfl, rfl, rfl, rfl, rfl⟩ (below_setRow (below_step hb (below_step (below_step hb1 hb2) hb3)) hWq _) (RngAt.of_setRow harr) ?_
    have hk : Kept m w2 ((w2.alloc (.cells #[.pointer L, .pointer U, .bool false, .int .i64 0] 27)).setRow qb #[.pointer L, .pointer U, .bool false, .int .i64 0]) := Kept.setRow (Kept.of_below hb3) hqm _
    rcases unhide HS with h | ⟨low, h1, h2, h3, h4⟩
    · exact .inl h
    · exact .inr ⟨low, h1, h2, h3.kept hk, h4.kept hk⟩
  · have e : q = kn := by omega
    subst e
    have hb1 : Below w.heap.size w (w.alloc (.cells #[.slice zeroSp.la zeroSp.lo.length zeroSp.lc, .slice zeroSp.ha zeroSp.hi.length zeroSp.hc, .bool zeroSp.le, .bool zeroSp.he, .bool zeroSp.na] 49)) := (Below.refl _ _).alloc (Nat.le_refl _) _
    have hkeys := keys24 zeroSp pa pc pfx (w.alloc (.cells #[.slice zeroSp.la zeroSp.lo.length zeroSp.lc, .slice zeroSp.ha zeroSp.hi.length zeroSp.hc, .bool zeroSp.le, .bool zeroSp.he, .bool zeroSp.na] 49)) (zeroSp_ok _) (hp.below hb1) hpU (by omega) (by simp [zeroSp]) (by simp [zeroSp])
    have hmw1 : m ≤ (w.alloc (.cells #[.slice zeroSp.la zeroSp.lo.length zeroSp.lc, .slice zeroSp.ha zeroSp.hi.length zeroSp.hc, .bool zeroSp.le, .bool zeroSp.he, .bool zeroSp.na] 49)).heap.size := Nat.le_trans hmw hb1.size
    rw [show nextOf S κ q q = zeroSp from if_neg hlt] at HQ
    simp only [zeroSp, List.length_nil] at hb1 hkeys hmw1 HQ
    refine fr_open31 (fun a => Code.wp Try.prog (rst Try.f31.body 9) Q a w) a hF ?_
    intro u2 u3 u10 u11 u13 u14 u16 u17 u18 u19 u20 u21 u22 u23 u24 u25 u26 u27 u28 u29 u30 u31 u32 u33 u34 u35 u36 u37 u38 u39 u40 u41 u42 u43 u44 u45 u46 u47 u48 u49 u50 u51 u52 u53 u54 u55 u56 u57 u58 u59 u60 u61 u62 u63 u64 u65 u66 u67 u68 u69 u70 u71 u72 u73 u74 u75 u76 u77 u78 u79 u80 u81 u82 u83 u84 u85 u86 u87 u88 u89 u90 u91 u92 u93 u94 u95 u96 u97 u98 u99
    dsimp only
    conv => arg 2; whnf
    go_wp2_with fail
    refine hkeys.mono ?_
    rintro e w2 ⟨hb2, hres⟩
    have hq2 := hq.below (below_step hb1 hb2)
    obtain ⟨L, U, ok, rfl, hS⟩ : ∃ L U ok, e = .returned (.tuple #[.agg #[.pointer L, .pointer U, .bool false, .int .i64 0], .bool ok]) ∧ Served pa.isNone pfx ⟨Option.none, 0, [], Option.none, 0, [], false, false, false⟩ m w2 L U ok := by
      rcases hres with ⟨h1, h2⟩ | ⟨low, L, U, h1, h2, h3, h4⟩
      · exact ⟨_, _, _, h2, .inl ⟨h1, rfl, rfl, rfl⟩⟩
      · exact ⟨_, _, _, h2, .inr ⟨low, h1, rfl, h3.mono hmw1, h4.mono hmw1⟩⟩
    have HS := hide hS
    have hb3 : Below w2.heap.size w2 (w2.alloc (.cells #[.pointer L, .pointer U, .bool false, .int .i64 0] 27)) := (Below.refl _ _).alloc (Nat.le_refl _) _
    obtain ⟨arr, harr, hsz, -⟩ := hq2.below hb3
    clear hres hS hq2
    go_wp2_with (refine wpList_store_row rfl 27 _ _ rfl qb _ rfl rfl 27 arr harr Try.info27 hsz (by simp [Value.oneCell']) ?_)
    refine unhide HQ _ _ L U ok ⟨rfl, rfl, rfl, rfl, rfl, rfl, rfl, rfl, rfl, rfl, rfl, rfl⟩ (below_setRow (below_step hb (below_step (below_step hb1 hb2) hb3)) hWq _) (RngAt.of_setRow harr) ?_
    have hk : Kept m w2 ((w2.alloc (.cells #[.pointer L, .pointer U, .bool false, .int .i64 0] 27)).setRow qb #[.pointer L, .pointer U, .bool false, .int .i64 0]) := Kept.setRow (Kept.of_below hb3) hqm _
    rcases unhide HS with h | ⟨low, h1, h2, h3, h4⟩
    · exact .inl h
    · exact .inr ⟨low, h1, h2, h3.kept hk, h4.kept hk⟩

end Go.Proofs.Qxb6002590a
