import Derived.Test.Qxb6601328aDoorPieceA
import Derived.Test.Qxb6601328aDoorPieceB
import Derived.Test.Qxb6601328aDoorPieceC
import Derived.Test.Qxb6601328aDoorPieceE
import Derived.Test.Qxb6601328aDoorPieceF0
import Derived.Test.Qxb6601328aDoorPieceF1
import Derived.Test.Qxb6601328aDoorPieceF2
import Derived.Test.Qxb6601328aDoorPieceT
namespace Go.Proofs.Qxb6601328aDoor
open Go.RowKit Go.Own

/-- What holds at a round's head. -/
def RI (proto alpha beta rounds : Int) (n sc pb sb : Nat) (sa : Option Addr) (w8 : World) (i : Nat) (a : Act) (w : World) : Prop :=
  ∃ (k : Nat) (c0 c1 s f col : Int) (d : Bool) (pr : Int) (s20 s21 s22 s23 s24 s25 : Value), Fr a (.int .u8 proto) (.int .i64 alpha) (.int .i64 beta) (.int .i64 rounds) (.slice sa n sc) (.pointer (some ⟨pb, 0, Option.none⟩)) (.pointer (some ⟨sb, 0, Option.none⟩)) (.int .u8 pr) (.int .i64 k) (.int .i64 i) (s20) (s21) (s22) (s23) (s24) (s25) ∧ Inv proto i k c0 c1 s f col pr ∧ Below w8.heap.size w8 w ∧ StAt w sb c0 c1 s i f col d

theorem StAt.drewN {w : World} {b : Nat} {c0 c1 s p f col : Int} {d : Bool} (h : StAt w b c0 c1 s p f col d) (j : Nat) : StAt (w.drewN j) b c0 c1 s p f col d := h

theorem outc3 (v0 v1 alpha : Int) : outc v0 v1 alpha = 0 ∨ outc v0 v1 alpha = 1 ∨ outc v0 v1 alpha = 2 := by unfold outc; split <;> split <;> simp

theorem round_seq : roundOf Tryd.f3.body = (.seq (stm Tryd.f3.body 0) (.seq (stm Tryd.f3.body 1) (.seq (stm Tryd.f3.body 2) (.seq (stm Tryd.f3.body 3) (.seq (stm Tryd.f3.body 4) (.seq (stm Tryd.f3.body 5) (.seq (stm Tryd.f3.body 6) (.seq (stm Tryd.f3.body 7) (.seq (stm Tryd.f3.body 8) (.seq (stm Tryd.f3.body 9) (.seq (stm Tryd.f3.body 10) (.seq (stm Tryd.f3.body 11) (.seq (stm Tryd.f3.body 12) (dropC 13 (roundOf Tryd.f3.body))))))))))))))) := by kernel_rfl

theorem loop_seq : loopOf Tryd.f3.body = .seq (headC (loopOf Tryd.f3.body)) (.seq (.block 3 (roundOf Tryd.f3.body)) (tailC (tailC (loopOf Tryd.f3.body)))) := by kernel_rfl

theorem round (proto alpha beta rounds : Int) (n sc pb sb : Nat) (sa : Option Addr) (w8 : World) (i : Nat) (a : Act) (w : World) (Q : Exit → Act → World → Prop)
    (hpc : proto = 0 ∨ proto = 1 ∨ proto = 2) (hn : n ≤ 65536) (hlt : i < n) (hP : PairsAt w8 sa n) (hsb : w8.heap.size ≤ sb)
    (hpar : ∀ j v, (#[.int .u8 proto, .int .i64 0, .int .i64 alpha, .int .i64 beta, .int .i64 rounds, .int .i64 0, .int .u8 0, .int .i64 0] : Array Value)[j]? = some v → w8.cell? ⟨pb, j, Option.none⟩ = some v)
    (h : RI proto alpha beta rounds n sc pb sb sa w8 i a w)
    (hQ : ∀ a' w' (k : Nat) (c0 c1 s f col : Int) (d : Bool) (pr : Int) (s20 s21 s22 s23 s24 s25 : Value), Fr a' (.int .u8 proto) (.int .i64 alpha) (.int .i64 beta) (.int .i64 rounds) (.slice sa n sc) (.pointer (some ⟨pb, 0, Option.none⟩)) (.pointer (some ⟨sb, 0, Option.none⟩)) (.int .u8 pr) (.int .i64 k) (.int .i64 i) (s20) (s21) (s22) (s23) (s24) (s25) → Inv proto (i + 1) k c0 c1 s f col pr → Below w8.heap.size w8 w' → StAt w' sb c0 c1 s ((i : Int) + 1) f col d → Q .normal a' w') :
    Code.wp Tryd.prog (roundOf Tryd.f3.body) Q a w := by
  obtain ⟨k, c0, c1, s, f, col, d, pr, s20, s21, s22, s23, s24, s25, hF, hI, hb, hst⟩ := h
  obtain ⟨b, off, e0, hcs⟩ := hP (by omega)
  subst e0
  obtain ⟨v0, v1, h0, h1⟩ := hcs i hlt
  rw [round_seq]
  refine pieceA proto alpha beta rounds v0 v1 c0 c1 s f col pr d i k n sc b off pb sb w Q _ a s20 s21 s22 s23 s24 s25 hpc hn hlt hI (cell_below hb h0) (cell_below hb h1) hst (fun j v hv => cell_below hb (hpar j v hv)) hF ?_
  intro a1 w7 c0' c1' s' f' col' d' pr' s25' hF1 hA hI1 hT1
  refine pieceB proto alpha beta rounds v0 v1 c0' c1' s' f' col' pr pr' d' d i k n sc pb sb c0 c1 s f i col _ w8 w w7 Q _ a1 _ _ _ hst hb hsb hA hF1 ?_
  intro a2 wc hF2 hb2 hst2 hp2 hv0 hv1
  have hle := hI.hle
  refine pieceC proto alpha beta rounds v0 v1 pr' pr i k n sc pb sb _ _ _ wc Q _ a2 _ _ _ _ (by omega) hp2 hv0 hv1 hF2 ?_
  intro a3 hF3
  have ho := outc3 v0 v1 alpha
  refine pieceD proto alpha beta rounds c0' c1' s' f' col' pr' d' i _ n sc pb sb _ wc Q _ a3 _ _ _ _ _ (by omega) hst2 hI1 hF3 ?_
  intro a4 hF4
  refine pieceE proto alpha beta rounds pr' pr _ i _ n sc pb sb _ wc Q _ a4 _ _ _ _ ho hT1.stay hF4 ?_
  intro a5 hF5
  rcases hpc with rfl | rfl | rfl
  · refine pieceF0 alpha beta rounds c0' c1' s' f' col' pr' pr _ d' i _ n sc pb sb _ wc Q a5 _ _ _ _ _ (by omega) ho hst2 hI1 hT1 hF5 ?_
    rintro a6 w6 hF6 ⟨j, rfl⟩
    exact hQ _ _ _ _ _ _ _ _ _ _ _ _ _ _ _ _ hF6 hI1 (below_drewN' hb2 j) (hst2.drewN j)
  · refine pieceF1 alpha beta rounds c0' c1' s' f' col' pr' pr _ d' i _ n sc pb sb _ wc Q a5 _ _ _ _ _ (by omega) ho hst2 hI1 hT1 hF5 ?_
    rintro a6 w6 hF6 ⟨j, rfl⟩
    exact hQ _ _ _ _ _ _ _ _ _ _ _ _ _ _ _ _ hF6 hI1 (below_drewN' hb2 j) (hst2.drewN j)
  · refine pieceF2 alpha beta rounds c0' c1' s' f' col' pr' pr _ d' i _ n sc pb sb _ wc Q a5 _ _ _ _ _ (by omega) ho hst2 hI1 hT1 hF5 ?_
    rintro a6 w6 hF6 ⟨j, rfl⟩
    exact hQ _ _ _ _ _ _ _ _ _ _ _ _ _ _ _ _ hF6 hI1 (below_drewN' hb2 j) (hst2.drewN j)

def MU (n : Nat) (a : Act) (_ : World) : Nat := n - (intOf (a.tmps.getD 19 undef)).toNat

theorem mu_at {n i : Nat} {a : Act} {w : World} (h : a.tmps.getD 19 undef = .int .i64 (i : Int)) : MU n a w = n - i := by
  unfold MU
  rw [h]
  simp [intOf]

theorem theLoop (proto alpha beta rounds : Int) (n sc pb sb : Nat) (sa : Option Addr) (w8 : World) (a : Act) (w : World) (Q : Exit → Act → World → Prop)
    (hpc : proto = 0 ∨ proto = 1 ∨ proto = 2) (hn : n ≤ 65536) (hP : PairsAt w8 sa n) (hsb : w8.heap.size ≤ sb)
    (hpar : ∀ j v, (#[.int .u8 proto, .int .i64 0, .int .i64 alpha, .int .i64 beta, .int .i64 rounds, .int .i64 0, .int .u8 0, .int .i64 0] : Array Value)[j]? = some v → w8.cell? ⟨pb, j, Option.none⟩ = some v)
    (h : RI proto alpha beta rounds n sc pb sb sa w8 0 a w)
    (hQ : ∀ a' w' (k i : Nat) (pr : Int) (s20 s21 s22 s23 s24 s25 : Value), Fr a' (.int .u8 proto) (.int .i64 alpha) (.int .i64 beta) (.int .i64 rounds) (.slice sa n sc) (.pointer (some ⟨pb, 0, Option.none⟩)) (.pointer (some ⟨sb, 0, Option.none⟩)) (.int .u8 pr) (.int .i64 k) (.int .i64 i) (s20) (s21) (s22) (s23) (s24) (s25) → Below w8.heap.size w8 w' → Q (.exit 2) a' w') :
    Code.wp Tryd.prog (.loop (loopOf Tryd.f3.body)) Q a w := by
  refine wp_loop (fun a w => ∃ i, i ≤ n ∧ RI proto alpha beta rounds n sc pb sb sa w8 i a w) (MU n) ⟨0, Nat.zero_le _, h⟩ ?_
  rintro a w ⟨i, hi, h⟩
  rw [loop_seq]
  by_cases hlt : i < n
  · obtain ⟨k, c0, c1, s, f, col, d, pr, s20, s21, s22, s23, s24, s25, hF, hI, hb, hst⟩ := h
    refine pieceT proto alpha beta rounds pr i k n sc pb sb sa w _ _ a _ _ _ _ _ _ (by omega) hF ?_
    intro a1 hF1
    refine wp_seq (wp_block (round proto alpha beta rounds n sc pb sb sa w8 i a1 w _ hpc hn hlt hP hsb hpar ⟨k, c0, c1, s, f, col, d, pr, _, _, _, _, _, _, hF1, hI, hb, hst⟩ ?_))
    intro a2 w2 k' c0' c1' s' f' col' d' pr' t20 t21 t22 t23 t24 t25 hF2 hI2 hb2 hst2
    refine piece20 proto alpha beta rounds pr' i k' n sc pb sb sa w2 _ a2 _ _ _ _ _ _ (by omega) hF2 ?_
    intro a3 hF3
    refine ⟨⟨i + 1, hlt, k', c0', c1', s', f', col', d', pr', _, _, _, _, _, _, hF3, hI2, hb2, hst2⟩, ?_⟩
    rw [mu_at hF3.e19, mu_at hF.e19]
    omega
  · obtain ⟨k, c0, c1, s, f, col, d, pr, s20, s21, s22, s23, s24, s25, hF, hI, hb, hst⟩ := h
    refine pieceX proto alpha beta rounds pr i k n sc pb sb sa w _ _ a _ _ _ _ _ _ (by omega) hF ?_
    intro a1 hF1
    exact hQ _ _ _ _ _ _ _ _ _ _ _ hF1 hb

end Go.Proofs.Qxb6601328aDoor
