import Derived.Test.Qxb6602460aVisitC
import Derived.Test.Qxb6602460aVisitA
import Derived.Test.Qxb6602460aVisitB
namespace Go.Proofs.Qxb6602460a
open Go.RowKit Go.Maps Go.Own

theorem Gr.row {w : World} {oa : Option Addr} {n oc : Nat} {A : Nat → Option Addr} {C : Nat → Nat} {out : Nat → List Nat} (h : Gr w oa n oc A C out) {v : Nat} (hv : v < n) :
    ∃ b off, oa = some ⟨b, off, Option.none⟩ ∧ w.cell? ⟨b, off + v, Option.none⟩ = some (.slice (A v) (out v).length (C v)) := by
  obtain ⟨b, off, h1, h2⟩ := h.1.cells (by omega)
  exact ⟨b, off, h1, h2 v hv⟩

theorem Gr.at {w : World} {oa : Option Addr} {n oc : Nat} {A : Nat → Option Addr} {C : Nat → Nat} {out : Nat → List Nat} (h : Gr w oa n oc A C out) {v k : Nat} (hv : v < n) (hk : k < (out v).length) :
    ∃ b off, A v = some ⟨b, off, Option.none⟩ ∧ w.cell? ⟨b, off + k, Option.none⟩ = some (.int .i64 ((out v).getD k 0 : Nat)) := by
  obtain ⟨b, off, h1, h2⟩ := (h.2 v hv).cells (Nat.lt_of_le_of_lt (Nat.zero_le k) hk)
  exact ⟨b, off, h1, h2 k hk⟩

theorem inBlock_hit {id : Nat} {Q : Exit → Act → World → Prop} {a : Act} {w : World} (h : Q .normal a w) : Exit.inBlock id Q (.exit id) a w := by
  simp only [Exit.inBlock, if_true]; exact h

/-- The function's own value. -/
def vF (H : Nat) : Value := .func (.func 41) #[] #[.pointer (some ⟨H + 10, 0, Option.none⟩), .pointer (some ⟨H + 2, 0, Option.none⟩), .pointer (some ⟨H + 4, 0, Option.none⟩), .pointer (some ⟨H + 9, 0, Option.none⟩), .pointer (some ⟨H + 6, 0, Option.none⟩), .pointer (some ⟨H, 0, Option.none⟩), .pointer (some ⟨H + 11, 0, Option.none⟩), .pointer (some ⟨H + 8, 0, Option.none⟩)]
def vA (H v : Nat) : Array Value := #[.int .i64 (v : Nat), .pointer (some ⟨H + 10, 0, Option.none⟩), .pointer (some ⟨H + 2, 0, Option.none⟩), .pointer (some ⟨H + 4, 0, Option.none⟩), .pointer (some ⟨H + 9, 0, Option.none⟩), .pointer (some ⟨H + 6, 0, Option.none⟩), .pointer (some ⟨H, 0, Option.none⟩), .pointer (some ⟨H + 11, 0, Option.none⟩), .pointer (some ⟨H + 8, 0, Option.none⟩)]

theorem code4 : stm Try.f41.body 4 = .seq (headC (stm Try.f41.body 4)) (.block 0 (.loop (lpOf (stm Try.f41.body 4)))) := rfl
theorem code4L : lpOf (stm Try.f41.body 4) = .seq (headC (lpOf (stm Try.f41.body 4))) (.seq (headC (tailC (lpOf (stm Try.f41.body 4)))) (.seq (.block 1 (.seq (headC (innerC (headC (tailC (tailC (lpOf (stm Try.f41.body 4))))))) (.block 2 (.seq (headC (lpIn (stm Try.f41.body 4))) (.cond (.tmp 42) (.seq (headC (condT (tailC (lpIn (stm Try.f41.body 4))))) (lowA (stm Try.f41.body 4))) (.seq (headC (condF (tailC (lpIn (stm Try.f41.body 4))))) (.cond (.tmp 63) (lowB (stm Try.f41.body 4)) .skip))))))) (tailC (tailC (tailC (lpOf (stm Try.f41.body 4))))))) := rfl

/-- A visit's contract, for those with fewer nodes unseen. -/
def VIH (W : World) (H n : Nat) (na oa : Option Addr) (nc oc : Nat) (out : Nat → List Nat) (m : Nat) : Prop :=
  ∀ (x : Nat) (G : List Nat) (s : TS) (w : World), wc s n ≤ m → VS w H n (vF H) na oa nc oc s → Below H W w → TInv (Ed out) n G s → s.ord x = 0 → x < n → (∀ g, g ∈ G → Reach (Ed out) g x) → Fit s n →
    Calls Try.prog 41 (vA H x) w (VPost W H n x na oa nc oc out G s (vF H))

/-- Where the loop over the successors stands. -/
def V4I (W : World) (H n v : Nat) (na oa : Option Addr) (nc oc : Nat) (out : Nat → List Nat) (A : Nat → Option Addr) (C : Nat → Nat) (G : List Nat) (s : TS) (m : Nat) (a : Act) (w : World) : Prop :=
  ∃ k t11, k ≤ (out v).length ∧ Fr41b a (.int .i64 (v : Nat)) (.pointer (some ⟨H + 10, 0, Option.none⟩)) (.pointer (some ⟨H + 2, 0, Option.none⟩)) (.pointer (some ⟨H + 4, 0, Option.none⟩)) (.pointer (some ⟨H + 9, 0, Option.none⟩)) (.pointer (some ⟨H + 6, 0, Option.none⟩)) (.pointer (some ⟨H, 0, Option.none⟩)) (.pointer (some ⟨H + 11, 0, Option.none⟩)) (.pointer (some ⟨H + 8, 0, Option.none⟩)) t11 (.slice (A v) (out v).length (C v)) (.int .i64 ((out v).length : Nat)) (.int .i64 (k : Nat)) ∧ VLoop W H n v na oa nc oc out G s (vF H) m k w

theorem visit4 {W w : World} {H n v m : Nat} {na oa : Option Addr} {nc oc : Nat} {out : Nat → List Nat} {A : Nat → Option Addr} {C : Nat → Nat} {G : List Nat} {s : TS} {Q : Exit → Act → World → Prop} {a : Act} {s12 : Value}
    (IH : VIH W H n na oa nc oc out m) (hgr : Gr W oa n oc A C out) (hH : W.heap.size = H) (hv : v < n) (hin : ∀ i, i < n → ∀ y, y ∈ out i → y < n) (hlen : (out v).length ≤ 1048576)
    (hL : VLoop W H n v na oa nc oc out G s (vF H) m 0 w)
    (hF : Fr41 a (.int .i64 (v : Nat)) (.pointer (some ⟨H + 10, 0, Option.none⟩)) (.pointer (some ⟨H + 2, 0, Option.none⟩)) (.pointer (some ⟨H + 4, 0, Option.none⟩)) (.pointer (some ⟨H + 9, 0, Option.none⟩)) (.pointer (some ⟨H + 6, 0, Option.none⟩)) (.pointer (some ⟨H, 0, Option.none⟩)) (.pointer (some ⟨H + 11, 0, Option.none⟩)) (.pointer (some ⟨H + 8, 0, Option.none⟩)) s12)
    (hZ : ∀ a' w' t12, Fr41 a' (.int .i64 (v : Nat)) (.pointer (some ⟨H + 10, 0, Option.none⟩)) (.pointer (some ⟨H + 2, 0, Option.none⟩)) (.pointer (some ⟨H + 4, 0, Option.none⟩)) (.pointer (some ⟨H + 9, 0, Option.none⟩)) (.pointer (some ⟨H + 6, 0, Option.none⟩)) (.pointer (some ⟨H, 0, Option.none⟩)) (.pointer (some ⟨H + 11, 0, Option.none⟩)) (.pointer (some ⟨H + 8, 0, Option.none⟩)) t12 → VLoop W H n v na oa nc oc out G s (vF H) m (out v).length w' → Q .normal a' w') :
    Code.wp Try.prog (stm Try.f41.body 4) Q a w := by
  obtain ⟨c0, T0, V0, B0, F0, M0⟩ := hL
  rw [code4]
  have hb : ∀ {w' : World}, Below H W w' → Gr w' oa n oc A C out := fun h => RowsAt.below hgr (by rw [hH]; exact h)
  refine wp_seq (v4a (A := A v) (N := (out v).length) (C := C v) V0 hv (Gr.row (hb B0) hv) (s11 := a.tmps.getD 11 undef) (s36 := a.tmps.getD 36 undef) (s37 := a.tmps.getD 37 undef) (s38 := a.tmps.getD 38 undef) ⟨hF.size, hF.defers, hF.e0, hF.e1, hF.e2, hF.e3, hF.e4, hF.e5, hF.e6, hF.e7, hF.e8, rfl, rfl, rfl, rfl⟩ ?_)
  intro a1 h1
  refine wp_block (wp_loop (V4I W H n v na oa nc oc out A C G s m) (fun a _ => (out v).length - (intOf (a.tmps.getD 38 undef)).toNat) ⟨0, _, Nat.zero_le _, h1, c0, T0, V0, B0, F0, M0⟩ ?_)
  rintro a2 w2 ⟨k, t11, hk, hf, c, hT, hV, hB, hFit, hm⟩
  rw [code4L]
  refine v4b _ hf (fun hlt a3 h3 => ?_) (fun hnl a3 h3 => ?_)
  · have hg2 : Gr w2 oa n oc A C out := hb hB
    have hmem : (out v).getD k 0 ∈ out v := mem_getD hlt
    have hE : Ed out v ((out v).getD k 0) := hmem
    have hx : (out v).getD k 0 < n := hin v hv _ hmem
    have htk := take_getD hlt
    have hmu : (out v).length - (intOf (a2.tmps.getD 38 undef)).toNat = (out v).length - k := by rw [hf.e38]; simp [intOf]
    refine wp_seq (wp_block (wp_seq (v4c hlt (Gr.at hg2 hv hlt) h3 fun a4 h4 => wp_block ?_)))
    generalize (out v).getD k 0 = x at hE hx htk h4
    have fin : ∀ (Q' : Exit → Act → World → Prop) (a5 : Act) (w5 : World) (c' : TS), (∀ a' w', V4I W H n v na oa nc oc out A C G s m a' w' ∧ (out v).length - (intOf (a'.tmps.getD 38 undef)).toNat < (out v).length - (intOf (a2.tmps.getD 38 undef)).toNat → Q' .normal a' w') → Fr41b a5 (.int .i64 (v : Nat)) (.pointer (some ⟨H + 10, 0, Option.none⟩)) (.pointer (some ⟨H + 2, 0, Option.none⟩)) (.pointer (some ⟨H + 4, 0, Option.none⟩)) (.pointer (some ⟨H + 9, 0, Option.none⟩)) (.pointer (some ⟨H + 6, 0, Option.none⟩)) (.pointer (some ⟨H, 0, Option.none⟩)) (.pointer (some ⟨H + 11, 0, Option.none⟩)) (.pointer (some ⟨H + 8, 0, Option.none⟩)) (.int .i64 (x : Nat)) (.slice (A v) (out v).length (C v)) (.int .i64 ((out v).length : Nat)) (.int .i64 (k : Nat)) →
        TLoop (Ed out) n G v s ((out v).take k ++ [x]) c' → VS w5 H n (vF H) na oa nc oc c' → Below H W w5 → Fit c' n → wc c' n ≤ m → Code.wp Try.prog (tailC (tailC (tailC (lpOf (stm Try.f41.body 4))))) Q' a5 w5 := fun Q' a5 w5 c' hq g1 g2 g3 g4 g5 g6 => v4f hlt hlen g1 fun a6 g7 => hq _ _ ⟨⟨k + 1, _, hlt, g7, c', by rw [htk]; exact g2, g3, g4, g5, g6⟩, by
          rw [hmu, g7.e38]; simp [intOf]; omega⟩
    refine v4d _ _ hV hx h4 (fun hw a5 h5 => ?_) (fun hw a5 h5 => ?_)
    · have hcall := IH x (v :: G) c w2 hm hV hB hT.inv hw hx (fun g hg => by
        rcases List.mem_cons.1 hg with rfl | hg
        · exact .one hE
        · refine (hT.inv.fwd g (by simp [hg]) v (hT.inv.gry v (by simp)) ?_).trans (.one hE)
          have hg0 := hT.gray hg
          rw [(hT.ext.old g hg0).1, hT.vo]
          exact Nat.le_succ_of_le (hT.pre.bnd g)) hFit
      refine wp_seq (v4g _ (hV.bf.cell (i := 0) (by omega)) hcall h5 (fun e w' hr => by obtain ⟨_, he, _⟩ := hr; exact he) fun a6 w6 h6 hr => ?_)
      obtain ⟨d, -, hP, hV6, hB6, hFit6⟩ := hr
      refine lowA9 hV6 hv hx h6 fun a7 w7 h7 b7 v7 => ?_
      exact fin _ a7 w7 _ (fun _ _ h => h) h7 (hT.tree hE hw hP) v7 (hB6.trans b7) hFit6 (show wc d n ≤ m from Nat.le_trans (Fit.post hP) hm)
    · refine v4e _ _ hV hx h5 (fun hs a6 h6 => ?_) (fun hs a6 h6 => ?_)
      · refine lowB11 hV hv hx h6 fun a7 w7 h7 b7 v7 => ?_
        exact fin _ a7 w7 _ (fun _ _ h => h) h7 (hT.back hE hs) v7 (hB.trans b7) hFit hm
      · refine wp_skip ?_
        exact fin _ a6 w2 _ (fun _ _ h => h) h6 (hT.cross hw (by simpa using hs)) hV hB hFit hm
  · obtain rfl : k = (out v).length := by omega
    show Exit.inBlock 0 Q (.exit 0) a3 w2
    refine inBlock_hit ?_
    exact hZ a3 w2 _ ⟨h3.size, h3.defers, h3.e0, h3.e1, h3.e2, h3.e3, h3.e4, h3.e5, h3.e6, h3.e7, h3.e8, rfl⟩ ⟨c, hT, hV, hB, hFit, hm⟩
end Go.Proofs.Qxb6602460a
